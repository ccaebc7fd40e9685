import JvmDerived
import JvmDerived.Pilot.@@N@@Statement
import JvmDerived.Pilot.@@N@@Code
set_option linter.unusedVariables false
set_option linter.unusedSimpArgs false
namespace Jvm.RoadKit
open Sem ClassFile Op Lib Jvm.Stand Jvm.Free Jvm.LawKit
section New
variable {p : Program} {l : Launch} {e : Env} {R : Room} {s : State} {m : MethodId} {args : Array Value} {below : List Frame} {meth : Method} {c : Code} {T : State} {locs : List Loc} {cells slots : Nat}
theorem retI (X : Stand p l e R s m args below meth c T locs cells slots) (hx : p.tables.exec = Jvm.exec) {pc : Nat} {Ls : Array Slot} {z : Int32} {rest : List Value} (hret : meth.sig.returnType = some .int) (hd : decode c.code pc = .ok (.ireturn, 1)) {fs : List Frame}
    (hl : ∀ (f : JFrame) (acts : List Action), f.method = m → f.locked = none → f.entered = [] → (doReturn e (T.setTop f) acts (some (.int z))).1 = T.setFrames fs) : Steps p.tables e below (T.setTop (mkF m pc Ls (.int z :: rest))) (T.setFrames fs) := by
  have hm' : T.vm.method? m = some meth := X.method'
  have hn : narrow .int (.int z) = .int z := rfl
  show Steps p.tables e below (T.setTop { method := m, pc := pc, locals := Ls, stack := _ :: rest, locked := none }) _
  jvm_step X.here [X.here.top, hx, hd, hm', hret, hn]
  first | (intro acts; rw [hl _ acts rfl rfl rfl]) | rw [hl _ _ rfl rfl rfl]
  exact Steps.refl _
theorem retJ (X : Stand p l e R s m args below meth c T locs cells slots) (hx : p.tables.exec = Jvm.exec) {pc : Nat} {Ls : Array Slot} {z : Int64} {rest : List Value} (hret : meth.sig.returnType = some .long) (hd : decode c.code pc = .ok (.lreturn, 1)) {fs : List Frame}
    (hl : ∀ (f : JFrame) (acts : List Action), f.method = m → f.locked = none → f.entered = [] → (doReturn e (T.setTop f) acts (some (.long z))).1 = T.setFrames fs) : Steps p.tables e below (T.setTop (mkF m pc Ls (.long z :: rest))) (T.setFrames fs) := by
  have hm' : T.vm.method? m = some meth := X.method'
  have hn : narrow .long (.long z) = .long z := rfl
  show Steps p.tables e below (T.setTop { method := m, pc := pc, locals := Ls, stack := _ :: rest, locked := none }) _
  jvm_step X.here [X.here.top, hx, hd, hm', hret, hn]
  first | (intro acts; rw [hl _ acts rfl rfl rfl]) | rw [hl _ _ rfl rfl rfl]
  exact Steps.refl _
end New
end Jvm.RoadKit
namespace Jvm.Pilot.@@N@@
open Jvm Jvm.ClassFile Sem Op Lib Jvm.Free Jvm.Stand Jvm.LawKit Jvm.RoadKit Bundle Jvm.Pilot.@@N@@.Jvm.D
theorem own_j1 {G : Prop} {A : Prop → Prop} (h1 : A G) (h2 : A G → G) : G := h2 h1
def own_Af (Z : State) (h : Heap) (a : Addr) (ty : FieldType) (n : Nat) (g : Nat → Int32) : Prop := ∃ c : Cell, Arr Z h a c ty ∧ c.slots.size = n ∧ ∀ j, j < n → c.slots[j]? = some (.int (g j))
theorem own_Afkeep {Z : State} {h h' : Heap} {a : Addr} {ty : FieldType} {n : Nat} {g : Nat → Int32} {ws : List Addr} (F : own_Af Z h a ty n g) (K : Keep h h' ws) (q : a ∉ ws) : own_Af Z h' a ty n g := by
  obtain ⟨c, A, r⟩ := F
  exact ⟨c, ⟨K.2.1 a c A.1 q, A.2⟩, r⟩
theorem own_Afwr {Z : State} {h h' : Heap} {a : Addr} {ty : FieldType} {n : Nat} {g : Nat → Int32} {c : Cell} {i : Nat} {b : Int32} (A : Arr Z h a c ty) (S : c.slots.size = n) (H : ∀ j, j < n → c.slots[j]? = some (.int (g j))) (W : Wr h h' a i (.int b)) (hi : i < n) :
    own_Af Z h' a ty n (fun j => if j = i then b else g j) := by
  refine ⟨c.setSlot i (.int b), A.same W, by rw [sz_set]; exact S, fun j hj => ?_⟩
  show (c.slots.setIfInBounds i (.int b))[j]? = some (.int (if j = i then b else g j))
  by_cases q : j = i
  · subst q; rw [if_pos rfl, Array.getElem?_setIfInBounds_self_of_lt (by omega)]
  · rw [if_neg q, Array.getElem?_setIfInBounds_ne (Ne.symm q)]; exact H j hj
theorem own_Afcongr {Z : State} {h : Heap} {a : Addr} {ty : FieldType} {n : Nat} {g g' : Nat → Int32} (F : own_Af Z h a ty n g) (q : ∀ j, j < n → g j = g' j) : own_Af Z h a ty n g' := by
  obtain ⟨c, A, S, H⟩ := F
  exact ⟨c, A, S, fun j hj => by rw [H j hj, q j hj]⟩
theorem own_Aflt {Z : State} {h : Heap} {a : Addr} {ty : FieldType} {n : Nat} {g : Nat → Int32} (F : own_Af Z h a ty n g) : a < h.size := by
  obtain ⟨c, A, -⟩ := F
  exact (Array.getElem?_eq_some_iff.mp A.1).1
/-- one unit that is a code point by itself -/
def own_one (c : Int32) : Prop := 0 < c.toInt ∧ c.toInt < 65536 ∧ (c.toInt < 55296 ∨ 57343 < c.toInt)
def own_hi (c : Int32) : Prop := 55296 ≤ c.toInt ∧ c.toInt < 56320
def own_lo (c : Int32) : Prop := 56320 ≤ c.toInt ∧ c.toInt < 57344
def own_W (g : Nat → Int32) (b : Nat) : List Bool → Nat → Prop
  | [], a => a = b
  | false :: r, a => own_one (g a) ∧ own_W g b r (a + 1)
  | true :: r, a => own_hi (g a) ∧ own_lo (g (a + 1)) ∧ own_W g b r (a + 2)
theorem own_Wle {g : Nat → Int32} {b : Nat} : ∀ (ks : List Bool) (a : Nat), own_W g b ks a → a ≤ b := by
  intro ks
  induction ks with
  | nil => intro a w; exact Nat.le_of_eq w
  | cons k r ih =>
    intro a w
    cases k with
    | false => have := ih _ w.2; omega
    | true => have := ih _ w.2.2; omega
theorem own_Wcongr {g g' : Nat → Int32} {b : Nat} (q : ∀ j, j < b → g j = g' j) : ∀ (ks : List Bool) (a : Nat), own_W g b ks a → own_W g' b ks a := by
  intro ks
  induction ks with
  | nil => intro a w; exact w
  | cons k r ih =>
    intro a w
    cases k with
    | false =>
      have := own_Wle _ _ w.2
      exact ⟨by rw [← q _ (by omega)]; exact w.1, ih _ w.2⟩
    | true =>
      have := own_Wle _ _ w.2.2
      exact ⟨by rw [← q _ (by omega)]; exact w.1, by rw [← q _ (by omega)]; exact w.2.1, ih _ w.2.2⟩
theorem own_Wapp {g : Nat → Int32} {b c : Nat} {rs : List Bool} (r0 : own_W g c rs b) : ∀ (ks : List Bool) (a : Nat), own_W g b ks a → own_W g c (ks ++ rs) a := by
  intro ks
  induction ks with
  | nil => intro a w; have e : a = b := w; rw [e]; exact r0
  | cons k r ih =>
    intro a w
    cases k with
    | false => exact ⟨w.1, ih _ w.2⟩
    | true => exact ⟨w.1, w.2.1, ih _ w.2.2⟩
theorem own_Wrng {g : Nat → Int32} {b : Nat} : ∀ (ks : List Bool) (a : Nat), own_W g b ks a → ∀ j, a ≤ j → j < b → 0 ≤ (g j).toInt ∧ (g j).toInt < 65536 := by
  intro ks
  induction ks with
  | nil => intro a w j h1 h2; have e : a = b := w; omega
  | cons k r ih =>
    intro a w j h1 h2
    cases k with
    | false =>
      by_cases e : j = a
      · subst e; exact ⟨by have := w.1.1; omega, w.1.2.1⟩
      · exact ih _ w.2 j (by omega) h2
    | true =>
      by_cases e : j = a
      · subst e; exact ⟨by have := w.1.1; omega, by have := w.1.2; omega⟩
      · by_cases e2 : j = a + 1
        · subst e2; exact ⟨by have := w.2.1.1; omega, by have := w.2.1.2; omega⟩
        · exact ih _ w.2.2 j (by omega) h2
/-- the bytes of a text of n units: Latin, or UTF-16 (low byte first) -/
def own_rng (n : Nat) (g : Nat → Int32) : Prop := ∀ j, j < n → 0 ≤ (g j).toInt ∧ (g j).toInt < 65536
def own_b8 (c : Int32) : Int32 := c.toInt8.toInt32
def own_bh (c : Int32) : Int32 := (c >>> ((8 : Int32) &&& 31)).toInt8.toInt32
def own_b16 (g : Nat → Int32) (j : Nat) : Int32 := if j % 2 = 0 then own_b8 (g (j / 2)) else own_bh (g (j / 2))
def own_enc (n : Nat) (g : Nat → Int32) (cd : Int32) (N : Nat) (v : Nat → Int32) : Prop :=
  (cd = 0 ∧ N = n ∧ (∀ j, j < n → (g j).toInt < 256) ∧ ∀ j, j < n → v j = own_b8 (g j)) ∨ (cd = 1 ∧ N = 2 * n ∧ ∀ j, j < 2 * n → v j = own_b16 g j)
def own_S (Z : State) (h : Heap) (x : Addr) (n : Nat) (g : Nat → Int32) : Prop := ∃ (t : Addr) (cd : Int32) (N : Nat) (v : Nat → Int32), Exa Z h x "java/lang/String" ∧ Fld Z h x "java/lang/String" "value" "[B" (.ref t) ∧ Fld Z h x "java/lang/String" "coder" "B" (.int cd) ∧ own_Af Z h t .byte N v ∧ own_enc n g cd N v
theorem own_ofadd (a b : Nat) : Int32.ofNat a + Int32.ofNat b = Int32.ofNat (a + b) := (Int32.ofNat_add a b).symm
theorem own_of1 (a : Nat) : Int32.ofNat a + (1 : Int32) = Int32.ofNat (a + 1) := own_ofadd a 1
theorem own_ofv {a : Nat} (h : a < 2147483648) : (Int32.ofNat a).toInt = a := Int32.toInt_ofNat_of_lt h
theorem own_ofc {a : Nat} (h : a < 2147483648) : (Int32.ofNat a).toNatClampNeg = a := by
  rw [Int32.toNatClampNeg, own_ofv h]; rfl
theorem own_oflt {a b : Nat} (ha : a < 2147483648) (hb : b < 2147483648) : Int32.ofNat a < Int32.ofNat b ↔ a < b := by
  rw [Int32.lt_iff_toInt_lt, own_ofv ha, own_ofv hb]; omega
theorem own_ofn0 {a : Nat} (ha : a < 2147483648) : ¬ Int32.ofNat a < 0 := by
  rw [Int32.lt_iff_toInt_lt, own_ofv ha]
  have : (0 : Int32).toInt = 0 := rfl
  omega
theorem own_ofin {a n : Nat} {sz : Nat} (hs : sz = n) (h : a < n) (hn : n < 1000) : ¬ (Int32.ofNat a < 0 ∨ sz ≤ (Int32.ofNat a).toNatClampNeg) := by
  rw [own_ofc (by omega), Int32.lt_iff_toInt_lt, own_ofv (by omega)]
  have : (0 : Int32).toInt = 0 := rfl
  omega
theorem own_nb (c : Int32) : nar .byte (c.toInt8.toInt32) = own_b8 c := by
  show c.toInt8.toInt32.toInt8.toInt32 = c.toInt8.toInt32
  have a4 := c_i2b c
  have a5 := c_i2b (c.toInt8.toInt32)
  apply Int32.toInt_inj.mp
  omega
theorem own_255 {c : Int32} : (255 : Int32) < c ↔ ¬ c.toInt < 256 := by
  rw [Int32.lt_iff_toInt_lt]
  have : (255 : Int32).toInt = 255 := rfl
  omega
theorem own_cstep (g d : Nat → Int32) (k j : Nat) : (if j = k then own_b8 (g k) else (if j < k then own_b8 (g j) else d j)) = if j < k + 1 then own_b8 (g j) else d j := by
  by_cases h : j = k
  · subst h; rw [if_pos rfl, if_pos (by omega)]
  · rw [if_neg h]
    by_cases h2 : j < k
    · rw [if_pos h2, if_pos (by omega)]
    · rw [if_neg h2, if_neg (by omega)]
def own_fr (lx : Slot) : Prop := lx = .unset ∨ ∃ z, lx = .val (.int z)
theorem own_nb0 (c : Int32) : nar .byte ((c >>> ((0 : Int32) &&& 31)).toInt8.toInt32) = own_b8 c := by
  show (c >>> ((0 : Int32) &&& 31)).toInt8.toInt32.toInt8.toInt32 = c.toInt8.toInt32
  have a1 := c_ishr c 0 0 (by decide)
  have a3 := c_i2b (c >>> ((0 : Int32) &&& 31))
  have a4 := c_i2b c
  have a5 := c_i2b ((c >>> ((0 : Int32) &&& 31)).toInt8.toInt32)
  apply Int32.toInt_inj.mp
  omega
theorem own_nb8 (c : Int32) : nar .byte ((c >>> ((8 : Int32) &&& 31)).toInt8.toInt32) = own_bh c := own_nb _
theorem own_shl1 {k : Nat} (h : k < 1000) : (Int32.ofNat k) <<< ((1 : Int32) &&& 31) = Int32.ofNat (2 * k) := by
  have a1 := c_ishl (Int32.ofNat k) 1 1 (by decide)
  have r := rng32 ((Int32.ofNat k) <<< ((1 : Int32) &&& 31))
  apply Int32.toInt_inj.mp
  rw [own_ofv (by omega)] at *
  omega
theorem own_get {c b0 b1 : Int32} (h : 0 ≤ c.toInt ∧ c.toInt < 65536) (e0 : b0 = own_b8 c) (e1 : b1 = own_bh c) :
    (((b0 &&& (255 : Int32)) <<< ((0 : Int32) &&& 31)) ||| ((b1 &&& (255 : Int32)) <<< ((8 : Int32) &&& 31))).toUInt32.toUInt16.toUInt32.toInt32 = c := by
  have a1 := c_mask b0 255 8 (by decide) (by decide)
  have a2 := c_mask b1 255 8 (by decide) (by decide)
  have a3 := c_ishl (b0 &&& (255 : Int32)) 0 0 (by decide)
  have a4 := c_ishl (b1 &&& (255 : Int32)) 8 8 (by decide)
  have r3 := rng32 ((b0 &&& (255 : Int32)) <<< ((0 : Int32) &&& 31))
  have r4 := rng32 ((b1 &&& (255 : Int32)) <<< ((8 : Int32) &&& 31))
  have a5 := c_or' ((b0 &&& (255 : Int32)) <<< ((0 : Int32) &&& 31)) ((b1 &&& (255 : Int32)) <<< ((8 : Int32) &&& 31)) 8 (by decide) 256 (by decide) (by omega) (by omega) (by omega)
  have a6 := c_i2c (((b0 &&& (255 : Int32)) <<< ((0 : Int32) &&& 31)) ||| ((b1 &&& (255 : Int32)) <<< ((8 : Int32) &&& 31)))
  have a7 := c_i2b c
  have a8 := c_ishr c 8 8 (by decide)
  have a9 := c_i2b (c >>> ((8 : Int32) &&& 31))
  have f0 : b0.toInt = (c.toInt8.toInt32).toInt := by rw [e0]; rfl
  have f1 : b1.toInt = ((c >>> ((8 : Int32) &&& 31)).toInt8.toInt32).toInt := by rw [e1]; rfl
  apply Int32.toInt_inj.mp
  omega
theorem own_b16e (g : Nat → Int32) (k : Nat) : own_b16 g (2 * k) = own_b8 (g k) := by
  rw [own_b16, if_pos (by omega), show 2 * k / 2 = k by omega]
theorem own_b16o (g : Nat → Int32) (k : Nat) : own_b16 g (2 * k + 1) = own_bh (g k) := by
  rw [own_b16, if_neg (by omega), show (2 * k + 1) / 2 = k by omega]
theorem own_nc {c : Int32} (h : 0 ≤ c.toInt ∧ c.toInt < 65536) : nar .char c = c := by
  show c.toUInt32.toUInt16.toUInt32.toInt32 = c
  have a := c_i2c c
  apply Int32.toInt_inj.mp
  omega
theorem own_AfA {Z : State} {h : Heap} {a : Addr} {k : ClassId} {ty : FieldType} {n : Nat} {vs : List Value} {d : Value} {g : Nat → Int32} (V : Arv Z h a k ty (Int32.ofNat n) vs d) (hn : n < 1000) (hv : ∀ j, j < n → vs.getD j d = .int (g j)) : own_Af Z h a ty n g := by
  obtain ⟨c, A, -, S, -, H, -⟩ := V
  have S' : c.slots.size = n := by rw [S, own_ofc (by omega)]
  exact ⟨c, A, S', fun j hj => by rw [H j (by omega), hv j hj]⟩
theorem own_tstep (g : Nat → Int32) (k j : Nat) : (if j = 2 * k + 1 then own_bh (g k) else if j = 2 * k then own_b8 (g k) else if j < 2 * k then own_b16 g j else 0) = if j < 2 * (k + 1) then own_b16 g j else 0 := by
  by_cases h1 : j = 2 * k + 1
  · rw [if_pos h1, if_pos (by omega), h1, own_b16o]
  · rw [if_neg h1]
    by_cases h2 : j = 2 * k
    · rw [if_pos h2, if_pos (by omega), h2, own_b16e]
    · rw [if_neg h2]
      by_cases h3 : j < 2 * k
      · rw [if_pos h3, if_pos (by omega)]
      · rw [if_neg h3, if_neg (by omega)]
theorem own_ofne {a b : Nat} (ha : a < 2147483648) (hb : b < 2147483648) (h : a ≠ b) : ¬ Int32.ofNat a = Int32.ofNat b := by
  intro q
  have := congrArg Int32.toInt q
  rw [own_ofv ha, own_ofv hb] at this
  omega
def own_cd (n N : Nat) : Int32 := if N = n then 0 else 1
theorem own_cf {n N : Nat} (b0 : 1 ≤ n) (b1 : n ≤ 6) (h : N = n ∨ N = 2 * n) : nar .byte ((((Int32.ofNat n) - (Int32.ofNat N)).toUInt32 >>> ((31 : Int32) &&& 31).toUInt32).toInt32).toInt8.toInt32 = own_cd n N := by
  rw [own_nb]
  show ((((Int32.ofNat n) - (Int32.ofNat N)).toUInt32 >>> ((31 : Int32) &&& 31).toUInt32).toInt32).toInt8.toInt32 = own_cd n N
  have a1 := c_isub (Int32.ofNat n) (Int32.ofNat N)
  have r := rng32 ((Int32.ofNat n) - (Int32.ofNat N))
  have a2 := c_iushr ((Int32.ofNat n) - (Int32.ofNat N)) 31 31 (by decide) (by decide)
  have a3 := c_i2b ((((Int32.ofNat n) - (Int32.ofNat N)).toUInt32 >>> ((31 : Int32) &&& 31).toUInt32).toInt32)
  rw [own_ofv (by omega), own_ofv (by omega)] at a1
  apply Int32.toInt_inj.mp
  rcases h with h | h
  · rw [own_cd, if_pos h]; show _ = (0 : Int); omega
  · rw [own_cd, if_neg (by omega)]; show _ = (1 : Int); omega
theorem own_hat {c : Cell} {n : Nat} {g : Nat → Int32} (H : ∀ j, j < n → c.slots[j]? = some (.int (g j))) {j : Nat} (hj : j < n) (hn : n < 1000) : c.slots[(Int32.ofNat j).toNatClampNeg]? = some (.int (g j)) := by
  rw [own_ofc (by omega)]; exact H j hj
theorem own_of2 (a : Nat) : Int32.ofNat a + (2 : Int32) = Int32.ofNat (a + 2) := own_ofadd a 2
theorem own_cdn (n N : Nat) : nar .byte (own_cd n N) = own_cd n N := by
  unfold own_cd
  split
  · decide
  · decide
theorem own_cdn2 {cd : Int32} (h : cd = 0 ∨ cd = 1) : nar .byte cd = cd := by
  rcases h with rfl | rfl
  · decide
  · decide
theorem own_toenc {Z : State} {h : Heap} {x : Addr} {nN : Nat} {g : Nat → Int32} (b0 : 1 ≤ nN) (B : (own_Af Z h x .byte nN (fun j => own_b8 (g j)) ∧ ∀ j, j < nN → (g j).toInt < 256) ∨ own_Af Z h x .byte (2 * nN) (own_b16 g)) :
    ∃ (N : Nat) (d : Nat → Int32), (N = nN ∨ N = 2 * nN) ∧ own_Af Z h x .byte N d ∧ own_enc nN g (own_cd nN N) N d := by
  rcases B with ⟨A, l8⟩ | A
  · exact ⟨nN, _, Or.inl rfl, A, Or.inl ⟨by rw [own_cd, if_pos rfl], rfl, l8, fun j _ => rfl⟩⟩
  · exact ⟨2 * nN, _, Or.inr rfl, A, Or.inr ⟨by rw [own_cd, if_neg (by omega)], rfl, fun j _ => rfl⟩⟩
theorem own_enc01 {n : Nat} {g : Nat → Int32} {cd : Int32} {N : Nat} {v : Nat → Int32} (E : own_enc n g cd N v) : cd = 0 ∨ cd = 1 := by
  rcases E with ⟨h, -⟩ | ⟨h, -⟩
  · exact Or.inl h
  · exact Or.inr h
theorem own_encN {n : Nat} {g : Nat → Int32} {cd : Int32} {N : Nat} {v : Nat → Int32} (b1 : n ≤ 6) (E : own_enc n g cd N v) : N ≤ 12 := by
  rcases E with ⟨-, h, -⟩ | ⟨-, h, -⟩ <;> omega
theorem own_shr1 {k : Nat} (h : k < 1000) : (Int32.ofNat (2 * k)) >>> ((1 : Int32) &&& 31) = Int32.ofNat k := by
  have a1 := c_ishr (Int32.ofNat (2 * k)) 1 1 (by decide)
  rw [own_ofv (a := 2 * k) (by omega)] at a1
  apply Int32.toInt_inj.mp
  rw [own_ofv (a := k) (by omega)]
  omega
theorem own_len {n : Nat} {g : Nat → Int32} {cd : Int32} {N : Nat} {v : Nat → Int32} (b1 : n ≤ 6) (E : own_enc n g cd N v) : (Int32.ofNat N) >>> (cd &&& 31) = Int32.ofNat n := by
  rcases E with ⟨h1, h2, -⟩ | ⟨h1, h2, -⟩
  · rw [h1, h2]
    have a1 := c_ishr (Int32.ofNat n) 0 0 (by decide)
    apply Int32.toInt_inj.mp
    omega
  · rw [h1, h2]; exact own_shr1 (by omega)
theorem own_and8 {c b : Int32} (h0 : 0 ≤ c.toInt) (h1 : c.toInt < 256) (e : b = own_b8 c) : b &&& (255 : Int32) = c := by
  have a1 := c_mask b 255 8 (by decide) (by decide)
  have a2 := c_i2b c
  have f : b.toInt = (c.toInt8.toInt32).toInt := by rw [e]; rfl
  apply Int32.toInt_inj.mp
  omega
theorem own_one0 {c : Int32} (H : own_one c) : ¬ c = 0 := fun q => by
  have := H.1
  rw [q] at this
  exact absurd this (by decide)
theorem own_one56 {c : Int32} (H : own_one c) (q : ¬ c < (55296 : Int32)) : ¬ c < (56320 : Int32) := by
  rw [Int32.lt_iff_toInt_lt] at *
  have l1 : (55296 : Int32).toInt = 55296 := rfl
  have l2 : (56320 : Int32).toInt = 56320 := rfl
  have := H.2.2
  omega
theorem own_one57 {c : Int32} (H : own_one c) (q : ¬ c < (55296 : Int32)) : (57343 : Int32) < c := by
  rw [Int32.lt_iff_toInt_lt] at *
  have l1 : (55296 : Int32).toInt = 55296 := rfl
  have l2 : (57343 : Int32).toInt = 57343 := rfl
  have := H.2.2
  omega
theorem own_onec {c : Int32} (H : own_one c) : c < (65536 : Int32) := by
  rw [Int32.lt_iff_toInt_lt]
  have l2 : (65536 : Int32).toInt = 65536 := rfl
  have := H.2.1
  omega
theorem own_hi55 {c : Int32} (H : own_hi c) : ¬ c < (55296 : Int32) := by
  rw [Int32.lt_iff_toInt_lt]
  have l2 : (55296 : Int32).toInt = 55296 := rfl
  have := H.1
  omega
theorem own_hi56 {c : Int32} (H : own_hi c) : c < (56320 : Int32) := by
  rw [Int32.lt_iff_toInt_lt]
  have l2 : (56320 : Int32).toInt = 56320 := rfl
  have := H.2
  omega
theorem own_lo56 {c : Int32} (H : own_lo c) : ¬ c < (56320 : Int32) := by
  rw [Int32.lt_iff_toInt_lt]
  have l2 : (56320 : Int32).toInt = 56320 := rfl
  have := H.1
  omega
theorem own_lo57 {c : Int32} (H : own_lo c) : c < (57344 : Int32) := by
  rw [Int32.lt_iff_toInt_lt]
  have l2 : (57344 : Int32).toInt = 57344 := rfl
  have := H.2
  omega
def own_cp (a b : Int32) : Int32 := ((a <<< ((10 : Int32) &&& 31)) + b) + (-56613888 : Int32)
theorem own_cpge {a b : Int32} (H : own_hi a) (K : own_lo b) : 65536 ≤ (own_cp a b).toInt := by
  have a1 := c_ishl a 10 10 (by decide)
  have a2 := c_iadd (a <<< ((10 : Int32) &&& 31)) b
  have a3 := c_iadd ((a <<< ((10 : Int32) &&& 31)) + b) (-56613888 : Int32)
  have k : (-56613888 : Int32).toInt = -56613888 := by decide
  have r1 := rng32 (a <<< ((10 : Int32) &&& 31))
  have r2 := rng32 ((a <<< ((10 : Int32) &&& 31)) + b)
  have r3 := rng32 (((a <<< ((10 : Int32) &&& 31)) + b) + (-56613888 : Int32))
  obtain ⟨h1, h2⟩ := H
  obtain ⟨k1, k2⟩ := K
  show 65536 ≤ (((a <<< ((10 : Int32) &&& 31)) + b) + (-56613888 : Int32)).toInt
  omega
theorem own_cp0 {c : Int32} (H : 65536 ≤ c.toInt) : ¬ c = 0 := fun q => by
  rw [q] at H
  exact absurd H (by decide)
theorem own_cp55 {c : Int32} (H : 65536 ≤ c.toInt) : ¬ c < (55296 : Int32) := by
  rw [Int32.lt_iff_toInt_lt]
  have l2 : (55296 : Int32).toInt = 55296 := rfl
  omega
theorem own_cp57 {c : Int32} (H : 65536 ≤ c.toInt) : (57343 : Int32) < c := by
  rw [Int32.lt_iff_toInt_lt]
  have l2 : (57343 : Int32).toInt = 57343 := rfl
  omega
theorem own_cp65 {c : Int32} (H : 65536 ≤ c.toInt) : ¬ c < (65536 : Int32) := by
  rw [Int32.lt_iff_toInt_lt]
  have l2 : (65536 : Int32).toInt = 65536 := rfl
  omega
theorem own_single {g : Nat → Int32} {u : Int32} {q : Nat} {ks : List Bool} (W : own_W g q ks 0) (hu : own_one u) : own_W (fun j => if j = q then u else g j) (q + 1) (ks ++ [false]) 0 := by
  refine own_Wapp (b := q) ?_ ks 0 (own_Wcongr (fun j hj => ?_) ks 0 W)
  · refine ⟨?_, rfl⟩
    show own_one (if q = q then u else g q)
    rw [if_pos rfl]; exact hu
  · show g j = if j = q then u else g j
    rw [if_neg (by omega)]
theorem own_pair {g : Nat → Int32} {u v : Int32} {q : Nat} {ks : List Bool} (W : own_W g q ks 0) (hu : own_hi u) (hv : own_lo v) : own_W (fun j => if j = q + 1 then v else if j = q then u else g j) (q + 2) (ks ++ [true]) 0 := by
  refine own_Wapp (b := q) ?_ ks 0 (own_Wcongr (fun j hj => ?_) ks 0 W)
  · refine ⟨?_, ?_, rfl⟩
    · show own_hi (if q = q + 1 then v else if q = q then u else g q)
      rw [if_neg (by omega), if_pos rfl]; exact hu
    · show own_lo (if q + 1 = q + 1 then v else if q + 1 = q then u else g (q + 1))
      rw [if_pos rfl]; exact hv
  · show g j = if j = q + 1 then v else if j = q then u else g j
    rw [if_neg (by omega), if_neg (by omega)]
theorem own_m16 (z : Int32) : 0 ≤ (z &&& (65535 : Int32)).toInt ∧ (z &&& (65535 : Int32)).toInt < 65536 := by
  have a := c_mask z 65535 16 (by decide) (by decide)
  omega
theorem own_m10 (z : Int32) : 0 ≤ (z &&& (1023 : Int32)).toInt ∧ (z &&& (1023 : Int32)).toInt < 1024 := by
  have a := c_mask z 1023 10 (by decide) (by decide)
  omega
theorem own_ncc {c : Int32} (h : 0 ≤ c.toInt ∧ c.toInt < 65536) : nar .char (c.toUInt32.toUInt16.toUInt32.toInt32) = c := by
  have e : c.toUInt32.toUInt16.toUInt32.toInt32 = c := by
    have a := c_i2c c
    apply Int32.toInt_inj.mp
    omega
  rw [e]; exact own_nc h
theorem own_phi {z : Int32} (h : 0 ≤ z.toInt ∧ z.toInt < 1024) : own_hi ((55296 : Int32) + z) := by
  have a := c_iadd (55296 : Int32) z
  have r := rng32 ((55296 : Int32) + z)
  have l2 : (55296 : Int32).toInt = 55296 := rfl
  exact ⟨by omega, by omega⟩
theorem own_plo {z : Int32} (h : 0 ≤ z.toInt ∧ z.toInt < 1024) : own_lo ((56320 : Int32) + z) := by
  have a := c_iadd (56320 : Int32) z
  have r := rng32 ((56320 : Int32) + z)
  have l2 : (56320 : Int32).toInt = 56320 := rfl
  exact ⟨by omega, by omega⟩
theorem own_hir {c : Int32} (H : own_hi c) : 0 ≤ c.toInt ∧ c.toInt < 65536 := ⟨by have := H.1; omega, by have := H.2; omega⟩
theorem own_lor {c : Int32} (H : own_lo c) : 0 ≤ c.toInt ∧ c.toInt < 65536 := ⟨by have := H.1; omega, by have := H.2; omega⟩
theorem own_oner {c : Int32} (H : own_one c) : 0 ≤ c.toInt ∧ c.toInt < 65536 := ⟨by have := H.1; omega, H.2.1⟩
theorem own_z0 : own_one (1 : Int32) := ⟨by decide, by decide, Or.inl (by decide)⟩
theorem own_z1 {z : Int32} (b : 0 ≤ z.toInt ∧ z.toInt < 65536) (h0 : ¬ z = 0) (h1 : z < (55296 : Int32)) : own_one z := by
  rw [Int32.lt_iff_toInt_lt] at h1
  have l1 : (55296 : Int32).toInt = 55296 := rfl
  have : z.toInt ≠ 0 := fun q => h0 (Int32.toInt_inj.mp q)
  exact ⟨by omega, by omega, Or.inl (by omega)⟩
theorem own_z2 {z : Int32} (b : 0 ≤ z.toInt ∧ z.toInt < 65536) (h1 : (57343 : Int32) < z) : own_one z := by
  rw [Int32.lt_iff_toInt_lt] at h1
  have l1 : (57343 : Int32).toInt = 57343 := rfl
  exact ⟨by omega, by omega, Or.inr (by omega)⟩
theorem own_z3 {z : Int32} (h1 : ¬ z < (55296 : Int32)) (h2 : ¬ (57343 : Int32) < z) : own_one (z - (2048 : Int32)) := by
  rw [Int32.lt_iff_toInt_lt] at h1 h2
  have l1 : (55296 : Int32).toInt = 55296 := rfl
  have l2 : (57343 : Int32).toInt = 57343 := rfl
  have l3 : (2048 : Int32).toInt = 2048 := rfl
  have a := c_isub z (2048 : Int32)
  have r := rng32 (z - (2048 : Int32))
  exact ⟨by omega, by omega, Or.inl (by omega)⟩
theorem own_u4 (z : Int32) : (z &&& (3 : Int32)) = 0 ∨ (z &&& (3 : Int32)) = 1 ∨ (z &&& (3 : Int32)) = 2 ∨ (z &&& (3 : Int32)) = 3 := by
  have a := c_mask z 3 2 (by decide) (by decide)
  have l0 : (0 : Int32).toInt = 0 := rfl
  have l1 : (1 : Int32).toInt = 1 := rfl
  have l2 : (2 : Int32).toInt = 2 := rfl
  have l3 : (3 : Int32).toInt = 3 := rfl
  simp only [← Int32.toInt_inj]
  omega
theorem own_Afext {Z : State} {h h' : Heap} {a : Addr} {ty : FieldType} {n : Nat} {g : Nat → Int32} (F : own_Af Z h a ty n g) (E : Ext h h') : own_Af Z h' a ty n g := by
  obtain ⟨c, A, r⟩ := F
  exact ⟨c, A.ext E, r⟩
theorem own_Sx {Z : State} {h h' : Heap} {x : Addr} {n : Nat} {g : Nat → Int32} (F : own_S Z h x n g) (E : Ext h h') : own_S Z h' x n g := by
  obtain ⟨t, cd, N, v, h1, h2, h3, h4, r⟩ := F
  exact ⟨t, cd, N, v, h1.ext E, h2.ext E, h3.ext E, own_Afext h4 E, r⟩
theorem own_Se {Z : State} {h : Heap} {x : Addr} {n : Nat} {g : Nat → Int32} (F : own_S Z h x n g) : Exa Z h x "java/lang/String" := by
  obtain ⟨t, cd, N, v, h1, -⟩ := F
  exact h1
theorem own_S0 {Z : State} {h : Heap} {x t : Addr} {kb : ClassId} {g : Nat → Int32} (E : Exa Z h x "java/lang/String") (V : Fld Z h x "java/lang/String" "value" "[B" (.ref t)) (C : Fld Z h x "java/lang/String" "coder" "B" (.int (0 : Int32))) (A : Arv Z h t kb .byte (0 : Int32) [] (.int (0 : Int32))) : own_S Z h x 0 g :=
  ⟨t, 0, 0, fun _ => 0, E, V, C, own_AfA (n := 0) A (by omega) (fun j h => absurd h (Nat.not_lt_zero _)), Or.inl ⟨rfl, rfl, fun j h => absurd h (Nat.not_lt_zero _), fun j h => absurd h (Nat.not_lt_zero _)⟩⟩
theorem own_nfo {s : State} {args : Array Value} {C : String} {x y z : MethodName} (h : (Cond.selects C x z).before args s = true) (e : y.cls = z.cls) : NotFace s y := fun r0 h0 => by
  obtain ⟨c2, r2, m2, q1, q2, q3, q4, kP, hkP, hkPi⟩ := Cond.selects_spec h
  have a := findClass_of_methodNamed h0
  have b := findClass_of_methodNamed q3
  rw [e] at a
  have e2 : r0.cls = m2.cls := Option.some.inj (a.symm.trans b)
  rw [← e2] at hkP
  exact ⟨kP, hkP, hkPi⟩
theorem own_litE {Z : State} {EL : List (String × Nat)} {vm : Vm} {h : Heap} {b : Addr} {kb : ClassId} {z : Int32} {vs : List Value} {d : Value} (hal : Z.vm.Alike vm) (nS : ¬ Safe Z EL vm h b) (A : Arv Z h b kb .byte z vs d) : Exa Z h b "[B" := by
  have B : Bk Z EL vm h b := Classical.not_not.mp nS
  obtain ⟨c, Ac, -⟩ := A
  obtain ⟨p, -, u, a, -, q, -, G, rfl | rfl⟩ := B
  · exfalso
    cases (show h[q.sa]? = some q.sC from G.ha).symm.trans Ac.1
    obtain ⟨cS, hSl, ⟨kS, k1, k2, -⟩, -⟩ := G
    obtain ⟨-, k, hk, comp, hkind⟩ := (State.isArrayOf_alike hal Ac.2.1 : (Wst Z vm h).isArrayOf q.sC .byte)
    rw [hSl.2.2] at hk
    cases hk.symm.trans k1
    rw [k2] at hkind
    cases hkind
  · cases (show h[q.sd]? = some q.SA from G.hd).symm.trans Ac.1
    obtain ⟨cS, -, -, f1, -⟩ := G
    have f2 : Z.vm.findClass "[B" = some q.SA.cls := by rw [← hal.findClass]; exact f1
    obtain ⟨-, k, hk, comp, hkind⟩ := Ac.2.1
    exact ⟨q.SA, k, Ac.1, f2, hk, Ac.plain, fun o => by rw [hkind] at o; cases o⟩
def own_L (Z : State) (h : Heap) (x t : Addr) (n : Nat) (g : Nat → Int32) : Prop := Exa Z h x "java/lang/String" ∧ Fld Z h x "java/lang/String" "value" "[B" (.ref t) ∧ Fld Z h x "java/lang/String" "coder" "B" (.int (0 : Int32)) ∧ own_Af Z h t .byte n (fun j => own_b8 (g j)) ∧ Exa Z h t "[B"
def own_lat (n : Nat) (g : Nat → Int32) : Prop := ∀ j, j < n → 0 ≤ (g j).toInt ∧ (g j).toInt < 256
theorem own_Lo {Z : State} {h h' : Heap} {x t : Addr} {n : Nat} {g : Nat → Int32} {ws : List Addr} (F : own_L Z h x t n g) (K : Keep h h' ws) (n1 : x ∉ ws) (n2 : t ∉ ws) : own_L Z h' x t n g :=
  ⟨F.1.keep K, F.2.1.keep K n1, F.2.2.1.keep K n1, own_Afkeep F.2.2.2.1 K n2, F.2.2.2.2.keep K⟩
theorem own_Lk {Z : State} {h h' : Heap} {x t : Addr} {n : Nat} {g : Nat → Int32} (F : own_L Z h x t n g) (K : Keep h h' []) : own_L Z h' x t n g := own_Lo F K nin0 nin0
theorem own_Lx {Z : State} {h h' : Heap} {x t : Addr} {n : Nat} {g : Nat → Int32} (F : own_L Z h x t n g) (E : Ext h h') : own_L Z h' x t n g :=
  ⟨F.1.ext E, F.2.1.ext E, F.2.2.1.ext E, own_Afext F.2.2.2.1 E, F.2.2.2.2.ext E⟩
theorem own_LS {Z : State} {h : Heap} {x t : Addr} {n : Nat} {g : Nat → Int32} (F : own_L Z h x t n g) (l : own_lat n g) : own_S Z h x n g :=
  ⟨t, 0, n, _, F.1, F.2.1, F.2.2.1, F.2.2.2.1, Or.inl ⟨rfl, rfl, fun j hj => (l j hj).2, fun _ _ => rfl⟩⟩
theorem own_L0 {Z : State} {h : Heap} {x t : Addr} {kb : ClassId} {g : Nat → Int32} (E : Exa Z h x "java/lang/String") (V : Fld Z h x "java/lang/String" "value" "[B" (.ref t)) (C : Fld Z h x "java/lang/String" "coder" "B" (.int (0 : Int32))) (A : Arv Z h t kb .byte (0 : Int32) [] (.int (0 : Int32))) (B : Exa Z h t "[B") : own_L Z h x t 0 g :=
  ⟨E, V, C, own_AfA (n := 0) A (by omega) (fun j h => absurd h (Nat.not_lt_zero _)), B⟩
theorem own_toArv {Z : State} {h : Heap} {a : Addr} {n : Nat} {f : Nat → Int32} (F : own_Af Z h a .byte n f) (hn : n < 1000) (hb : ∀ j, ∃ y, f j = own_b8 y) : ∃ k, Arv Z h a k .byte (Int32.ofNat n) ((List.range n).map fun j => .int (f j)) (.int (0 : Int32)) := by
  obtain ⟨c, A, S, H⟩ := F
  have S' : c.slots.size = (Int32.ofNat n).toNatClampNeg := by rw [own_ofc (by omega)]; exact S
  have e : ∀ j, j < n → ((List.range n).map fun j => Value.int (f j)).getD j (.int (0 : Int32)) = .int (f j) := fun j hj => by
    simp [List.getD_eq_getElem?_getD, hj]
  refine ⟨c.cls, c, A, rfl, S', own_ofn0 (by omega), fun j hj => ?_, fun j hj => ?_⟩
  · rw [e j (by omega)]; exact H j (by omega)
  · rw [e j (by omega)]
    obtain ⟨y, hy⟩ := hb j
    rw [hy]; exact fits_nar_byte y
theorem own_rget {n : Nat} {f : Nat → Int32} {j : Nat} (hj : j < n) : ((List.range n).map fun j => Value.int (f j)).getD j (.int (0 : Int32)) = .int (f j) := by
  simp [List.getD_eq_getElem?_getD, hj]
theorem own_c0 : (0 : Int32).toNatClampNeg = 0 := by decide
theorem own_cpget {f : Nat → Int32} {M N j : Nat} (hM : M < N) (hN : N < 1000) (hj : j < M) :
    ((([] ++ List.replicate M (Value.int 0)).take (0 : Int32).toNatClampNeg) ++ ((List.range (Int32.ofNat M).toNatClampNeg).map fun i => ((List.range N).map fun j => Value.int (f j)).getD ((0 : Int32).toNatClampNeg + i) (.int 0)) ++ ([] ++ List.replicate M (Value.int 0)).drop ((0 : Int32).toNatClampNeg + (Int32.ofNat M).toNatClampNeg)).getD j (.int 0) = .int (f j) := by
  rw [own_c0, own_ofc (by omega)]
  have q : j < N := by omega
  simp [List.getD_eq_getElem?_getD, hj, q]
def own_u1 (c : Int32) : Int32 := if c < (128 : Int32) then 1 else 2
def own_ul (g : Nat → Int32) : Nat → Nat
  | 0 => 0
  | k + 1 => own_ul g k + (if g k < (128 : Int32) then 1 else 2)
theorem own_ulb (g : Nat → Int32) : ∀ k, k ≤ own_ul g k ∧ own_ul g k ≤ 2 * k := by
  intro k
  induction k with
  | zero => exact ⟨Nat.le_refl _, Nat.le_refl _⟩
  | succ k ih =>
    rw [own_ul]
    split
    · omega
    · omega
theorem own_ulp (g : Nat → Int32) : ∀ k, (∀ j, j < k → g j < (128 : Int32)) → own_ul g k = k := by
  intro k
  induction k with
  | zero => intro _; rfl
  | succ k ih =>
    intro h
    rw [own_ul, if_pos (h k (by omega)), ih (fun j hj => h j (by omega))]
def own_fb (c : Int32) : Int32 := if c < (128 : Int32) then own_b8 c else own_b8 ((192 : Int32) ||| (c >>> ((6 : Int32) &&& 31)))
def own_f1 (c : Int32) : Int32 := if c < (128 : Int32) then c else ((192 : Int32) ||| (c >>> ((6 : Int32) &&& 31)))
theorem own_fbf {c : Int32} (h0 : 0 ≤ c.toInt) (h1 : c.toInt < 256) : own_fb c &&& (255 : Int32) = own_f1 c := by
  unfold own_fb own_f1
  by_cases q : c < (128 : Int32)
  · rw [if_pos q, if_pos q]; exact own_and8 h0 h1 rfl
  · rw [if_neg q, if_neg q]
    have a := c_ishr c 6 6 (by decide)
    have l : (192 : Int32).toInt = 192 := rfl
    have b := c_or (192 : Int32) (c >>> ((6 : Int32) &&& 31)) 6 (by decide) 64 (by decide) (by decide) (by omega) (by omega)
    have r := rng32 ((192 : Int32) ||| (c >>> ((6 : Int32) &&& 31)))
    exact own_and8 (by omega) (by omega) rfl
theorem own_sg {c : Int32} (h0 : 0 ≤ c.toInt) (h1 : c.toInt < 256) : own_b8 c < 0 ↔ ¬ c < (128 : Int32) := by
  have a := c_i2b c
  have f : (own_b8 c).toInt = c.toInt8.toInt32.toInt := rfl
  have l0 : (0 : Int32).toInt = 0 := rfl
  have l1 : (128 : Int32).toInt = 128 := rfl
  rw [Int32.lt_iff_toInt_lt, Int32.lt_iff_toInt_lt]
  omega
theorem own_nb' (c : Int32) : nar .byte (own_b8 c) = own_b8 c := own_nb c
def own_I (Z : State) (h : Heap) (x : Addr) (n : Nat) (g : Nat → Int32) (k : Nat) : Prop := ∃ d : Nat → Int32, own_Af Z h x .byte (2 * n) d ∧ (∀ j, ∃ y, d j = own_b8 y) ∧ (0 < k → d 0 = own_fb (g 0))
theorem own_I1 {Z : State} {h : Heap} {x : Addr} {n : Nat} {g : Nat → Int32} {k : Nat} {d : Nat → Int32} {b : Int32} (V : own_Af Z h x .byte (2 * n) (fun j => if j = own_ul g k then own_b8 b else d j)) (hd : ∀ j, ∃ y, d j = own_b8 y) (h0 : 0 < k → d 0 = own_fb (g 0)) (hb : own_b8 b = own_fb (g k)) : own_I Z h x n g (k + 1) := by
  refine ⟨_, V, fun j => ?_, fun _ => ?_⟩
  · show ∃ y, (if j = own_ul g k then own_b8 b else d j) = own_b8 y
    by_cases q : j = own_ul g k
    · rw [if_pos q]; exact ⟨_, rfl⟩
    · rw [if_neg q]; exact hd j
  · show (if 0 = own_ul g k then own_b8 b else d 0) = own_fb (g 0)
    have := own_ulb g k
    by_cases q : k = 0
    · subst q; rw [if_pos (show 0 = own_ul g 0 from rfl)]; exact hb
    · rw [if_neg (by omega)]; exact h0 (by omega)
theorem own_I2 {Z : State} {h : Heap} {x : Addr} {n : Nat} {g : Nat → Int32} {k : Nat} {d : Nat → Int32} {b b' : Int32} (V : own_Af Z h x .byte (2 * n) (fun j => if j = own_ul g k + 1 then own_b8 b' else if j = own_ul g k then own_b8 b else d j)) (hd : ∀ j, ∃ y, d j = own_b8 y) (h0 : 0 < k → d 0 = own_fb (g 0)) (hb : own_b8 b = own_fb (g k)) : own_I Z h x n g (k + 1) := by
  refine ⟨_, V, fun j => ?_, fun _ => ?_⟩
  · show ∃ y, (if j = own_ul g k + 1 then own_b8 b' else if j = own_ul g k then own_b8 b else d j) = own_b8 y
    by_cases q' : j = own_ul g k + 1
    · rw [if_pos q']; exact ⟨_, rfl⟩
    · rw [if_neg q']
      by_cases q : j = own_ul g k
      · rw [if_pos q]; exact ⟨_, rfl⟩
      · rw [if_neg q]; exact hd j
  · show (if 0 = own_ul g k + 1 then own_b8 b' else if 0 = own_ul g k then own_b8 b else d 0) = own_fb (g 0)
    rw [if_neg (by omega)]
    have := own_ulb g k
    by_cases q : k = 0
    · subst q; rw [if_pos (show 0 = own_ul g 0 from rfl)]; exact hb
    · rw [if_neg (by omega)]; exact h0 (by omega)
theorem own_fbp {c : Int32} (h : c < (128 : Int32)) : own_b8 c = own_fb c := by rw [own_fb, if_pos h]
theorem own_fbn {c : Int32} (h : ¬ c < (128 : Int32)) : own_b8 ((192 : Int32) ||| (c >>> ((6 : Int32) &&& 31))) = own_fb c := by rw [own_fb, if_neg h]
theorem own_sub0 (a : Int32) : a - (0 : Int32) = a := Int32.sub_zero a
theorem own_c255 (z : Int32) : 0 ≤ ((z &&& (255 : Int32)).toUInt32.toUInt16.toUInt32.toInt32).toInt ∧ ((z &&& (255 : Int32)).toUInt32.toUInt16.toUInt32.toInt32).toInt < 256 := by
  have a := c_mask z 255 8 (by decide) (by decide)
  have b := c_i2c (z &&& (255 : Int32))
  omega
def own_g (a b c : Int32) : Nat → Int32 := fun j => if j = 0 then a else if j = 1 then b else c
theorem own_glat {a b c : Int32} (ha : 0 ≤ a.toInt ∧ a.toInt < 256) (hb : 0 ≤ b.toInt ∧ b.toInt < 256) (hc : 0 ≤ c.toInt ∧ c.toInt < 256) (n : Nat) : own_lat n (own_g a b c) := by
  intro j _
  unfold own_g
  by_cases h1 : j = 0
  · rw [if_pos h1]; exact ha
  · rw [if_neg h1]
    by_cases h2 : j = 1
    · rw [if_pos h2]; exact hb
    · rw [if_neg h2]; exact hc
theorem own_r16 {a : Int32} (h : 0 ≤ a.toInt ∧ a.toInt < 256) : 0 ≤ a.toInt ∧ a.toInt < 65536 := ⟨h.1, by omega⟩
theorem own_un (g : Nat → Int32) (k : Nat) : Int32.ofNat (own_ul g (k + 1)) = Int32.ofNat (own_ul g k) + own_u1 (g k) := by
  rw [own_ul, ← own_ofadd, own_u1]
  split
  · rfl
  · rfl
theorem own_sum0 (g : Nat → Int32) : Int32.ofNat (own_ul g 0) = (0 : Int32) := rfl
theorem own_sum1 (g : Nat → Int32) : Int32.ofNat (own_ul g 1) = (0 : Int32) + own_u1 (g 0) := own_un g 0
theorem own_sum2 (g : Nat → Int32) : Int32.ofNat (own_ul g 2) = (0 : Int32) + own_u1 (g 0) + own_u1 (g 1) := by rw [own_un g 1, own_sum1]
theorem own_sum3 (g : Nat → Int32) : Int32.ofNat (own_ul g 3) = (0 : Int32) + own_u1 (g 0) + own_u1 (g 1) + own_u1 (g 2) := by rw [own_un g 2, own_sum2]
theorem own_pos {n : Nat} {g : Nat → Int32} (l : own_lat n g) (h : ∀ j, j < n → 0 ≤ (own_b8 (g j)).toInt) : ∀ j, j < n → g j < (128 : Int32) := fun j hj => by
  have a := own_sg (l j hj).1 (l j hj).2
  have b := h j hj
  rw [Int32.lt_iff_toInt_lt] at a
  have l0 : (0 : Int32).toInt = 0 := rfl
  by_cases q : g j < (128 : Int32)
  · exact q
  · have := a.mpr q
    omega
theorem own_wS {a0 : Array Value} {Z : State} (hw : ∀ d ∈ tables_1, d.before a0 Z = true) : ∀ a ∈ Bundle.stringAtoms, a.before a0 Z = true := by
  intro a ha
  simp only [Bundle.stringAtoms, List.mem_cons, List.not_mem_nil, or_false] at ha
  rcases ha with rfl | rfl | rfl | rfl | rfl | rfl | rfl
  · exact (hw _ (List.mem_of_getElem? (i := 3) rfl))
  · exact (hw _ (List.mem_of_getElem? (i := 2) rfl))
  · exact (hw _ (List.mem_of_getElem? (i := 15) rfl))
  · exact (hw _ (List.mem_of_getElem? (i := 16) rfl))
  · exact (hw _ (List.mem_of_getElem? (i := 17) rfl))
  · exact (hw _ (List.mem_of_getElem? (i := 18) rfl))
  · exact (hw _ (List.mem_of_getElem? (i := 19) rfl))
def own_EL : List (String × Nat) := [("com/example/ledgerpost/ledgerpost/Payload", 17), ("java/lang/String", 7)]
theorem own_EW {a0 : Array Value} {Z : State} (hw : ∀ d ∈ tables_1, d.before a0 Z = true) : EW Z a0 own_EL := (EW.cons (hw _ (List.mem_of_getElem? (i := 28) rfl)) (by first | decide | decide +kernel | simp) (EW.cons (hw _ (List.mem_of_getElem? (i := 14) rfl)) (by first | decide | decide +kernel | simp) EW.nil))
theorem own_safe {Z : State} {EL : List (String × Nat)} {vm : Vm} {h : Heap} {x : Addr} (hal : Z.vm.Alike vm) (E : Exa Z h x "java/lang/String") (F : Fld Z h x "java/lang/String" "value" "[B" .null) : Safe Z EL vm h x := fun B => by
  obtain ⟨cell, cf, k, i, f, g1, g2, -, -, -, -, g7⟩ := F
  obtain ⟨cell', k', e1, e2, e3, -, -⟩ := E
  cases g1.symm.trans e1
  obtain ⟨p, -, u, a, -, q, -, G, rfl | rfl⟩ := B
  · cases (show h[q.sa]? = some q.sC from G.ha).symm.trans g1
    obtain ⟨cS, ⟨⟨-, -, -, ⟨c1, k1, i1, f1, -⟩, -, -, -, v1, -⟩, -⟩, -⟩ := G
    obtain ⟨k3, e4, -⟩ := State.fieldFound?_setVm (s := Z) hal g2
    have e5 := (show (Wst Z vm h).fieldFound? _ _ _ = _ from e4).symm.trans f1
    simp only [Option.some.injEq, Prod.mk.injEq] at e5
    rw [e5.2.2.2, v1] at g7
    simp at g7
  · cases (show h[q.sd]? = some q.SA from G.hd).symm.trans g1
    obtain ⟨cS, -, -, f1, -⟩ := G
    have f2 : Z.vm.findClass "[B" = some q.SA.cls := by rw [← hal.findClass]; exact f1
    exact ids_ne f2 e2 (by decide) rfl
theorem d25_0 : decode jdk_52_method_21_code 0 = .ok (.iconst 0, 1) := by decide +kernel
theorem d25_1 : decode jdk_52_method_21_code 1 = .ok (.istore 5, 2) := by decide +kernel
theorem d25_3 : decode jdk_52_method_21_code 3 = .ok (.iload 5, 2) := by decide +kernel
theorem d25_5 : decode jdk_52_method_21_code 5 = .ok (.iload 4, 2) := by decide +kernel
theorem d25_7 : decode jdk_52_method_21_code 7 = .ok (.if_icmp .ge 37, 3) := by decide +kernel
theorem d25_10 : decode jdk_52_method_21_code 10 = .ok (.aload_n 0, 1) := by decide +kernel
theorem d25_11 : decode jdk_52_method_21_code 11 = .ok (.iload_n 1, 1) := by decide +kernel
theorem d25_12 : decode jdk_52_method_21_code 12 = .ok (.caload, 1) := by decide +kernel
theorem d25_13 : decode jdk_52_method_21_code 13 = .ok (.istore 6, 2) := by decide +kernel
theorem d25_15 : decode jdk_52_method_21_code 15 = .ok (.iload 6, 2) := by decide +kernel
theorem d25_17 : decode jdk_52_method_21_code 17 = .ok (.sipush 255, 3) := by decide +kernel
theorem d25_20 : decode jdk_52_method_21_code 20 = .ok (.if_icmp .le 6, 3) := by decide +kernel
theorem d25_23 : decode jdk_52_method_21_code 23 = .ok (.iload 5, 2) := by decide +kernel
theorem d25_25 : decode jdk_52_method_21_code 25 = .ok (.ireturn, 1) := by decide +kernel
theorem d25_26 : decode jdk_52_method_21_code 26 = .ok (.aload_n 2, 1) := by decide +kernel
theorem d25_27 : decode jdk_52_method_21_code 27 = .ok (.iload_n 3, 1) := by decide +kernel
theorem d25_28 : decode jdk_52_method_21_code 28 = .ok (.iload 6, 2) := by decide +kernel
theorem d25_30 : decode jdk_52_method_21_code 30 = .ok (.i2b, 1) := by decide +kernel
theorem d25_31 : decode jdk_52_method_21_code 31 = .ok (.bastore, 1) := by decide +kernel
theorem d25_32 : decode jdk_52_method_21_code 32 = .ok (.iinc 1 1, 3) := by decide +kernel
theorem d25_35 : decode jdk_52_method_21_code 35 = .ok (.iinc 3 1, 3) := by decide +kernel
theorem d25_38 : decode jdk_52_method_21_code 38 = .ok (.iinc 5 1, 3) := by decide +kernel
theorem d25_41 : decode jdk_52_method_21_code 41 = .ok (.goto (-38), 3) := by decide +kernel
theorem d25_44 : decode jdk_52_method_21_code 44 = .ok (.iload 4, 2) := by decide +kernel
theorem d25_46 : decode jdk_52_method_21_code 46 = .ok (.ireturn, 1) := by decide +kernel
theorem pn_0 : plainName "java/lang/StringUTF16" = true := by first | (simp [plainName, overriddenIn]; done) | decide +kernel
theorem ef_rmK (m : MethodId) (x0 : Addr) (x1 : Int32) (x2 : Addr) (x3 : Int32) (x4 : Int32) : entryFrame m #[(.ref x0), (.int x3), (.ref x2), (.int x3), (.int x4)] 7 = mkF m 0 #[.val (.ref x0), .val (.int x3), .val (.ref x2), .val (.int x3), .val (.int x4), .unset, .unset] [] := by first | (simp [entryFrame, mkF, argsToLocals, Value.category]; done) | rfl
def QrmK (Z : State) (a1 : Addr) (a3 : Addr) (nN : Nat) (g : Nat → Int32) (d : Nat → Int32) (h0 : Heap) (n0 : Nat) (v : Option Value) (h : Heap) (L : List Loc) : Prop := ∃ mm : Nat, v = some (.int (Int32.ofNat mm)) ∧ Fr n0 L ∧ Keep h0 h [a3] ∧ mm ≤ nN ∧ (∀ j, j < mm → (g j).toInt < 256) ∧ (mm = nN ∨ ¬ (g mm).toInt < 256) ∧ own_Af Z h a3 .byte nN (fun j => if j < mm then own_b8 (g j) else d j)
set_option maxRecDepth 65536 in
set_option maxHeartbeats 40000000 in
theorem rmK (l : Launch) (Z : State) (a0 : Array Value) (hw : ∀ d ∈ tables_1, d.before a0 Z = true) (ws : List Jvm.Cond) (a1 : Addr) (a3 : Addr) (nN : Nat) (g : Nat → Int32) (d : Nat → Int32) (h0 : Heap) (n0 : Nat) (Z0 : n0 ≤ h0.size) (b1 : nN ≤ 6) (V : own_Af Z h0 a1 .char nN g) (D : own_Af Z h0 a3 .byte nN d) (ne : a1 ≠ a3) (g_a3 : n0 ≤ a3) :
    MetFree l (⟨"java/lang/StringUTF16", "compress", "([CI[BII)I"⟩ : MethodName) (head1 (Jvm.Cond.code (⟨"java/lang/StringUTF16", "compress", "([CI[BII)I"⟩ : MethodName) jdk_52_method_21_code 7 (some .int) :: ws) ({ frames := 0, cells := 0, slots := 0, locals := 0 } : Room)) (fun a U => a = #[(.ref a1), (.int (0 : Int32)), (.ref a3), (.int (0 : Int32)), (.int (Int32.ofNat nN))] ∧ Z.Warmed39 U.vm ∧ U.heap = h0) (fun _ _ _ _ _ => True) (fun _ U o U' => ∃ v L, o = .returned v ∧ QrmK Z a1 a3 nN g d h0 n0 v U'.heap L ∧ FrameEnd U o U' L ({ frames := 0, cells := 0, slots := 0, locals := 0 } : Room).cells ({ frames := 0, cells := 0, slots := 0, locals := 0 } : Room).slots) := by
  refine MetFree.of_bodySF (plainFor_of_name pn_0) hisR ?_
  intro p e s m args below meth c s₁ Bd hml0 hP hK
  obtain ⟨rfl, hZ, hh⟩ := hP
  have hx := Bd.exec
  have hby := Bd.bytes
  have hml : c.maxLocals = 7 := hml0
  have hown : s.vm.findClass "java/lang/StringUTF16" = some m.cls := findClass_of_methodNamed Bd.named
  have hnm := (name_of_methodNamed Bd.named Bd.method).1
  have X0 : Stand p l e ({ frames := 0, cells := 0, slots := 0, locals := 0 } : Room) s m #[(.ref a1), (.int (0 : Int32)), (.ref a3), (.int (0 : Int32)), (.int (Int32.ofNat nN))] below meth c s₁ [] 0 0 := Stand.of_body Bd
  have e0 : s₁.heap = h0 := by rw [← hh, Bd.state]; rfl
  have N0 := Fr.nil n0
  have pre0 : ∀ t_, Steps p.tables e below (s₁.setTop (mkF m 0 #[.val (.ref a1), .val (.int (0 : Int32)), .val (.ref a3), .val (.int (0 : Int32)), .val (.int (Int32.ofNat nN)), .unset, .unset] [])) t_ → Steps p.tables e below (s₁.setTop (entryFrame m #[(.ref a1), (.int (0 : Int32)), (.ref a3), (.int (0 : Int32)), (.int (Int32.ofNat nN))] 7)) t_ := fun t_ k_ => castTop (ef_rmK m a1 ((0 : Int32)) a3 ((0 : Int32)) ((Int32.ofNat nN))) k_
  have loop : ∀ (N : Nat) (k : Nat) (lx : Slot) (T1 : State) (h1 : Heap) (lc : List Loc), own_fr lx → k + N = nN → (∀ j, j < k → (g j).toInt < 256) → Stand p l e ({ frames := 0, cells := 0, slots := 0, locals := 0 } : Room) s m #[(.ref a1), (.int (0 : Int32)), (.ref a3), (.int (0 : Int32)), (.int (Int32.ofNat nN))] below meth c T1 lc 0 0 → T1.heap = h1 → Fr n0 lc → Keep h0 h1 [a3] → own_Af Z h1 a3 .byte nN (fun j => if j < k then own_b8 (g j) else d j) →
      ∃ (mm : Nat) (pcx : Nat) (kx : Int32) (lx' : Slot) (T' : State) (h' : Heap) (lc' : List Loc), (pcx = 25 ∨ pcx = 46) ∧ mm ≤ nN ∧ (∀ j, j < mm → (g j).toInt < 256) ∧ (mm = nN ∨ ¬ (g mm).toInt < 256) ∧ Stand p l e ({ frames := 0, cells := 0, slots := 0, locals := 0 } : Room) s m #[(.ref a1), (.int (0 : Int32)), (.ref a3), (.int (0 : Int32)), (.int (Int32.ofNat nN))] below meth c T' lc' 0 0 ∧ T'.heap = h' ∧ Fr n0 lc' ∧ Keep h0 h' [a3] ∧ own_Af Z h' a3 .byte nN (fun j => if j < mm then own_b8 (g j) else d j) ∧
        ∀ t_, Steps p.tables e below (T'.setTop (mkF m pcx #[.val (.ref a1), .val (.int kx), .val (.ref a3), .val (.int kx), .val (.int (Int32.ofNat nN)), .val (.int kx), lx'] [(.int (Int32.ofNat mm))])) t_ → Steps p.tables e below (T1.setTop (mkF m 3 #[.val (.ref a1), .val (.int (Int32.ofNat k)), .val (.ref a3), .val (.int (Int32.ofNat k)), .val (.int (Int32.ofNat nN)), .val (.int (Int32.ofNat k)), lx] [])) t_ := by
    intro N
    induction N with
    | zero =>
      intro k lx T1 h1 lc h_lx z1 z2 X1 e1 N1 K1 V1
      have ek : k = nN := by omega
      have pre101 : ∀ t_, Steps p.tables e below (T1.setTop (mkF m 3 #[.val (.ref a1), .val (.int (Int32.ofNat k)), .val (.ref a3), .val (.int (Int32.ofNat k)), .val (.int (Int32.ofNat nN)), .val (.int (Int32.ofNat k)), lx] [])) t_ → Steps p.tables e below (T1.setTop (mkF m 3 #[.val (.ref a1), .val (.int (Int32.ofNat k)), .val (.ref a3), .val (.int (Int32.ofNat k)), .val (.int (Int32.ofNat nN)), .val (.int (Int32.ofNat k)), lx] [])) t_ := fun _ k_ => k_
      have pre102 : ∀ t_, Steps p.tables e below (T1.setTop (mkF m 46 #[.val (.ref a1), .val (.int (Int32.ofNat k)), .val (.ref a3), .val (.int (Int32.ofNat k)), .val (.int (Int32.ofNat nN)), .val (.int (Int32.ofNat k)), lx] [(.int (Int32.ofNat nN))])) t_ → Steps p.tables e below (T1.setTop (mkF m 3 #[.val (.ref a1), .val (.int (Int32.ofNat k)), .val (.ref a3), .val (.int (Int32.ofNat k)), .val (.int (Int32.ofNat nN)), .val (.int (Int32.ofNat k)), lx] [])) t_ := fun t_ k_ => pre101 _ (by
        show Steps p.tables e below (T1.setTop (mkF m 3 #[.val (.ref a1), .val (.int (Int32.ofNat k)), .val (.ref a3), .val (.int (Int32.ofNat k)), .val (.int (Int32.ofNat nN)), .val (.int (Int32.ofNat k)), lx] [])) _
        refine XS.iload X1.here hx rfl (hb hby d25_3) rfl ?_
        show Steps p.tables e below (T1.setTop (mkF m 5 #[.val (.ref a1), .val (.int (Int32.ofNat k)), .val (.ref a3), .val (.int (Int32.ofNat k)), .val (.int (Int32.ofNat nN)), .val (.int (Int32.ofNat k)), lx] [(.int (Int32.ofNat k))])) _
        refine XS.iload X1.here hx rfl (hb hby d25_5) rfl ?_
        show Steps p.tables e below (T1.setTop (mkF m 7 #[.val (.ref a1), .val (.int (Int32.ofNat k)), .val (.ref a3), .val (.int (Int32.ofNat k)), .val (.int (Int32.ofNat nN)), .val (.int (Int32.ofNat k)), lx] [(.int (Int32.ofNat nN)), (.int (Int32.ofNat k))])) _
        refine XS.icmpYes X1.here hx rfl (pc0 := 7) (pc' := 44) rfl (hb hby d25_7) rfl (flt (by rw [own_oflt (by omega) (by omega)]; omega)).2.1 (by decide) (by decide) ?_
        show Steps p.tables e below (T1.setTop (mkF m 44 #[.val (.ref a1), .val (.int (Int32.ofNat k)), .val (.ref a3), .val (.int (Int32.ofNat k)), .val (.int (Int32.ofNat nN)), .val (.int (Int32.ofNat k)), lx] [])) _
        refine XS.iload X1.here hx rfl (hb hby d25_44) rfl ?_
        exact k_)
      exact ⟨nN, 46, Int32.ofNat k, lx, T1, h1, lc, Or.inr rfl, Nat.le_refl _, fun j q => z2 j (by omega), Or.inl rfl, X1, e1, N1, K1, by rw [← ek] at V1 ⊢; exact V1, pre102⟩
    | succ N ih =>
      intro k lx T1 h1 lc h_lx z1 z2 X1 e1 N1 K1 V1
      have pre103 : ∀ t_, Steps p.tables e below (T1.setTop (mkF m 3 #[.val (.ref a1), .val (.int (Int32.ofNat k)), .val (.ref a3), .val (.int (Int32.ofNat k)), .val (.int (Int32.ofNat nN)), .val (.int (Int32.ofNat k)), lx] [])) t_ → Steps p.tables e below (T1.setTop (mkF m 3 #[.val (.ref a1), .val (.int (Int32.ofNat k)), .val (.ref a3), .val (.int (Int32.ofNat k)), .val (.int (Int32.ofNat nN)), .val (.int (Int32.ofNat k)), lx] [])) t_ := fun _ k_ => k_
      obtain ⟨cl, Ar, Sz, Hs⟩ := own_Afkeep V K1 (ninS ne nin0)
      have hin := own_ofin (a := k) Sz (by omega) (by omega)
      have hat : cl.slots[(Int32.ofNat k).toNatClampNeg]? = some (.int (g k)) := by rw [own_ofc (by omega)]; exact Hs k (by omega)
      have pre104 : ∀ t_, Steps p.tables e below (T1.setTop (mkF m 20 #[.val (.ref a1), .val (.int (Int32.ofNat k)), .val (.ref a3), .val (.int (Int32.ofNat k)), .val (.int (Int32.ofNat nN)), .val (.int (Int32.ofNat k)), .val (.int (g k))] [(.int (255 : Int32)), (.int (g k))])) t_ → Steps p.tables e below (T1.setTop (mkF m 3 #[.val (.ref a1), .val (.int (Int32.ofNat k)), .val (.ref a3), .val (.int (Int32.ofNat k)), .val (.int (Int32.ofNat nN)), .val (.int (Int32.ofNat k)), lx] [])) t_ := fun t_ k_ => pre103 _ (by
        show Steps p.tables e below (T1.setTop (mkF m 3 #[.val (.ref a1), .val (.int (Int32.ofNat k)), .val (.ref a3), .val (.int (Int32.ofNat k)), .val (.int (Int32.ofNat nN)), .val (.int (Int32.ofNat k)), lx] [])) _
        refine XS.iload X1.here hx rfl (hb hby d25_3) rfl ?_
        show Steps p.tables e below (T1.setTop (mkF m 5 #[.val (.ref a1), .val (.int (Int32.ofNat k)), .val (.ref a3), .val (.int (Int32.ofNat k)), .val (.int (Int32.ofNat nN)), .val (.int (Int32.ofNat k)), lx] [(.int (Int32.ofNat k))])) _
        refine XS.iload X1.here hx rfl (hb hby d25_5) rfl ?_
        show Steps p.tables e below (T1.setTop (mkF m 7 #[.val (.ref a1), .val (.int (Int32.ofNat k)), .val (.ref a3), .val (.int (Int32.ofNat k)), .val (.int (Int32.ofNat nN)), .val (.int (Int32.ofNat k)), lx] [(.int (Int32.ofNat nN)), (.int (Int32.ofNat k))])) _
        refine XS.icmpNo X1.here hx rfl (hb hby d25_7) rfl (tlt (by rw [own_oflt (by omega) (by omega)]; omega)).2.1 ?_
        show Steps p.tables e below (T1.setTop (mkF m 10 #[.val (.ref a1), .val (.int (Int32.ofNat k)), .val (.ref a3), .val (.int (Int32.ofNat k)), .val (.int (Int32.ofNat nN)), .val (.int (Int32.ofNat k)), lx] [])) _
        refine XS.aloadN X1.here hx rfl (hb hby d25_10) rfl rfl ?_
        show Steps p.tables e below (T1.setTop (mkF m 11 #[.val (.ref a1), .val (.int (Int32.ofNat k)), .val (.ref a3), .val (.int (Int32.ofNat k)), .val (.int (Int32.ofNat nN)), .val (.int (Int32.ofNat k)), lx] [(.ref a1)])) _
        refine XS.iloadN X1.here hx rfl (hb hby d25_11) rfl ?_
        show Steps p.tables e below (T1.setTop (mkF m 12 #[.val (.ref a1), .val (.int (Int32.ofNat k)), .val (.ref a3), .val (.int (Int32.ofNat k)), .val (.int (Int32.ofNat nN)), .val (.int (Int32.ofNat k)), lx] [(.int (Int32.ofNat k)), (.ref a1)])) _
        refine X1.caload hx (j := (Int32.ofNat k)) (v := (.int (g k))) (by rw [e1]; exact Ar.1) (State.isArrayOf_alike hZ.alike Ar.2.1) Ar.2.2 hin hat (g := (mkF m 12 #[.val (.ref a1), .val (.int (Int32.ofNat k)), .val (.ref a3), .val (.int (Int32.ofNat k)), .val (.int (Int32.ofNat nN)), .val (.int (Int32.ofNat k)), lx] [(.int (Int32.ofNat k)), (.ref a1)])) rfl rfl (hb hby d25_12) _ ?_
        show Steps p.tables e below (T1.setTop (mkF m 13 #[.val (.ref a1), .val (.int (Int32.ofNat k)), .val (.ref a3), .val (.int (Int32.ofNat k)), .val (.int (Int32.ofNat nN)), .val (.int (Int32.ofNat k)), lx] [(.int (g k))])) _
        refine XS.istore X1.here hx rfl (hb hby d25_13) rfl (l' := #[.val (.ref a1), .val (.int (Int32.ofNat k)), .val (.ref a3), .val (.int (Int32.ofNat k)), .val (.int (Int32.ofNat nN)), .val (.int (Int32.ofNat k)), .val (.int (g k))]) (by rcases h_lx with q | ⟨z, q⟩ <;> rw [q] <;> rfl) ?_
        show Steps p.tables e below (T1.setTop (mkF m 15 #[.val (.ref a1), .val (.int (Int32.ofNat k)), .val (.ref a3), .val (.int (Int32.ofNat k)), .val (.int (Int32.ofNat nN)), .val (.int (Int32.ofNat k)), .val (.int (g k))] [])) _
        refine XS.iload X1.here hx rfl (hb hby d25_15) rfl ?_
        show Steps p.tables e below (T1.setTop (mkF m 17 #[.val (.ref a1), .val (.int (Int32.ofNat k)), .val (.ref a3), .val (.int (Int32.ofNat k)), .val (.int (Int32.ofNat nN)), .val (.int (Int32.ofNat k)), .val (.int (g k))] [(.int (g k))])) _
        refine XS.sipush X1.here hx rfl (hb hby d25_17) ?_
        exact k_)
      by_cases hlt : (g k).toInt < 256
      · skip
        obtain ⟨cd, Br, Tz, Ht⟩ := V1
        have hin2 := own_ofin (a := k) Tz (by omega) (by omega)
        obtain ⟨T105, h105, X105, e105, W105, st105⟩ := stB X1 hx hZ e1 Br (j := (Int32.ofNat k)) hin2 (g := (mkF m 31 #[.val (.ref a1), .val (.int (Int32.ofNat k)), .val (.ref a3), .val (.int (Int32.ofNat k)), .val (.int (Int32.ofNat nN)), .val (.int (Int32.ofNat k)), .val (.int (g k))] [(.int ((g k).toInt8.toInt32)), (.int (Int32.ofNat k)), (.ref a3)])) rfl rfl (hb hby d25_31)
        rw [own_ofc (by omega), own_nb] at W105
        have V2 := own_Afcongr (own_Afwr Br Tz Ht W105 (by omega)) (fun j _ => own_cstep g d k j)
        have N2 := Fr.snoc X105 N1 g_a3
        have pre106 : ∀ t_, Steps p.tables e below (T105.setTop (mkF m 3 #[.val (.ref a1), .val (.int ((Int32.ofNat k) + (1 : Int32))), .val (.ref a3), .val (.int ((Int32.ofNat k) + (1 : Int32))), .val (.int (Int32.ofNat nN)), .val (.int ((Int32.ofNat k) + (1 : Int32))), .val (.int (g k))] [])) t_ → Steps p.tables e below (T1.setTop (mkF m 3 #[.val (.ref a1), .val (.int (Int32.ofNat k)), .val (.ref a3), .val (.int (Int32.ofNat k)), .val (.int (Int32.ofNat nN)), .val (.int (Int32.ofNat k)), lx] [])) t_ := fun t_ k_ => pre104 _ (by
          show Steps p.tables e below (T1.setTop (mkF m 20 #[.val (.ref a1), .val (.int (Int32.ofNat k)), .val (.ref a3), .val (.int (Int32.ofNat k)), .val (.int (Int32.ofNat nN)), .val (.int (Int32.ofNat k)), .val (.int (g k))] [(.int (255 : Int32)), (.int (g k))])) _
          refine XS.icmpYes X1.here hx rfl (pc0 := 20) (pc' := 26) rfl (hb hby d25_20) rfl (flt (fun q => own_255.mp q hlt)).2.2.2 (by decide) (by decide) ?_
          show Steps p.tables e below (T1.setTop (mkF m 26 #[.val (.ref a1), .val (.int (Int32.ofNat k)), .val (.ref a3), .val (.int (Int32.ofNat k)), .val (.int (Int32.ofNat nN)), .val (.int (Int32.ofNat k)), .val (.int (g k))] [])) _
          refine XS.aloadN X1.here hx rfl (hb hby d25_26) rfl rfl ?_
          show Steps p.tables e below (T1.setTop (mkF m 27 #[.val (.ref a1), .val (.int (Int32.ofNat k)), .val (.ref a3), .val (.int (Int32.ofNat k)), .val (.int (Int32.ofNat nN)), .val (.int (Int32.ofNat k)), .val (.int (g k))] [(.ref a3)])) _
          refine XS.iloadN X1.here hx rfl (hb hby d25_27) rfl ?_
          show Steps p.tables e below (T1.setTop (mkF m 28 #[.val (.ref a1), .val (.int (Int32.ofNat k)), .val (.ref a3), .val (.int (Int32.ofNat k)), .val (.int (Int32.ofNat nN)), .val (.int (Int32.ofNat k)), .val (.int (g k))] [(.int (Int32.ofNat k)), (.ref a3)])) _
          refine XS.iload X1.here hx rfl (hb hby d25_28) rfl ?_
          show Steps p.tables e below (T1.setTop (mkF m 30 #[.val (.ref a1), .val (.int (Int32.ofNat k)), .val (.ref a3), .val (.int (Int32.ofNat k)), .val (.int (Int32.ofNat nN)), .val (.int (Int32.ofNat k)), .val (.int (g k))] [(.int (g k)), (.int (Int32.ofNat k)), (.ref a3)])) _
          refine XS.i2b X1.here hx rfl (hb hby d25_30) rfl ?_
          show Steps p.tables e below (T1.setTop (mkF m 31 #[.val (.ref a1), .val (.int (Int32.ofNat k)), .val (.ref a3), .val (.int (Int32.ofNat k)), .val (.int (Int32.ofNat nN)), .val (.int (Int32.ofNat k)), .val (.int (g k))] [(.int ((g k).toInt8.toInt32)), (.int (Int32.ofNat k)), (.ref a3)])) _
          refine st105 _ ?_
          show Steps p.tables e below (T105.setTop (mkF m 32 #[.val (.ref a1), .val (.int (Int32.ofNat k)), .val (.ref a3), .val (.int (Int32.ofNat k)), .val (.int (Int32.ofNat nN)), .val (.int (Int32.ofNat k)), .val (.int (g k))] [])) _
          refine XS.iinc X105.here hx rfl (hb hby d25_32) rfl (l' := #[.val (.ref a1), .val (.int ((Int32.ofNat k) + (1 : Int32))), .val (.ref a3), .val (.int (Int32.ofNat k)), .val (.int (Int32.ofNat nN)), .val (.int (Int32.ofNat k)), .val (.int (g k))]) rfl ?_
          show Steps p.tables e below (T105.setTop (mkF m 35 #[.val (.ref a1), .val (.int ((Int32.ofNat k) + (1 : Int32))), .val (.ref a3), .val (.int (Int32.ofNat k)), .val (.int (Int32.ofNat nN)), .val (.int (Int32.ofNat k)), .val (.int (g k))] [])) _
          refine XS.iinc X105.here hx rfl (hb hby d25_35) rfl (l' := #[.val (.ref a1), .val (.int ((Int32.ofNat k) + (1 : Int32))), .val (.ref a3), .val (.int ((Int32.ofNat k) + (1 : Int32))), .val (.int (Int32.ofNat nN)), .val (.int (Int32.ofNat k)), .val (.int (g k))]) rfl ?_
          show Steps p.tables e below (T105.setTop (mkF m 38 #[.val (.ref a1), .val (.int ((Int32.ofNat k) + (1 : Int32))), .val (.ref a3), .val (.int ((Int32.ofNat k) + (1 : Int32))), .val (.int (Int32.ofNat nN)), .val (.int (Int32.ofNat k)), .val (.int (g k))] [])) _
          refine XS.iinc X105.here hx rfl (hb hby d25_38) rfl (l' := #[.val (.ref a1), .val (.int ((Int32.ofNat k) + (1 : Int32))), .val (.ref a3), .val (.int ((Int32.ofNat k) + (1 : Int32))), .val (.int (Int32.ofNat nN)), .val (.int ((Int32.ofNat k) + (1 : Int32))), .val (.int (g k))]) rfl ?_
          show Steps p.tables e below (T105.setTop (mkF m 41 #[.val (.ref a1), .val (.int ((Int32.ofNat k) + (1 : Int32))), .val (.ref a3), .val (.int ((Int32.ofNat k) + (1 : Int32))), .val (.int (Int32.ofNat nN)), .val (.int ((Int32.ofNat k) + (1 : Int32))), .val (.int (g k))] [])) _
          refine XS.goto X105.here hx rfl (pc0 := 41) (pc' := 3) rfl (hb hby d25_41) (by decide) (by decide) ?_
          exact k_)
        have z3 : ∀ j, j < k + 1 → (g j).toInt < 256 := fun j q => if e : j = k then e ▸ hlt else z2 j (by omega)
        obtain ⟨mm, pcx, kx, lx', T', h', lc', y1, y2, y3, y4, X', e', N', K', V', st'⟩ := ih (k + 1) (.val (.int (g k))) _ _ _ (Or.inr ⟨_, rfl⟩) (by omega) z3 X105 e105 N2 (K1.trans (Keep.of_wr W105) (fun _ q => Or.inl q)) V2
        refine ⟨mm, pcx, kx, lx', T', h', lc', y1, y2, y3, y4, X', e', N', K', V', fun t_ k_ => pre106 _ ?_⟩
        rw [own_of1]
        exact st' t_ k_
      · skip
        have pre107 : ∀ t_, Steps p.tables e below (T1.setTop (mkF m 25 #[.val (.ref a1), .val (.int (Int32.ofNat k)), .val (.ref a3), .val (.int (Int32.ofNat k)), .val (.int (Int32.ofNat nN)), .val (.int (Int32.ofNat k)), .val (.int (g k))] [(.int (Int32.ofNat k))])) t_ → Steps p.tables e below (T1.setTop (mkF m 3 #[.val (.ref a1), .val (.int (Int32.ofNat k)), .val (.ref a3), .val (.int (Int32.ofNat k)), .val (.int (Int32.ofNat nN)), .val (.int (Int32.ofNat k)), lx] [])) t_ := fun t_ k_ => pre104 _ (by
          show Steps p.tables e below (T1.setTop (mkF m 20 #[.val (.ref a1), .val (.int (Int32.ofNat k)), .val (.ref a3), .val (.int (Int32.ofNat k)), .val (.int (Int32.ofNat nN)), .val (.int (Int32.ofNat k)), .val (.int (g k))] [(.int (255 : Int32)), (.int (g k))])) _
          refine XS.icmpNo X1.here hx rfl (hb hby d25_20) rfl (tlt (own_255.mpr hlt)).2.2.2 ?_
          show Steps p.tables e below (T1.setTop (mkF m 23 #[.val (.ref a1), .val (.int (Int32.ofNat k)), .val (.ref a3), .val (.int (Int32.ofNat k)), .val (.int (Int32.ofNat nN)), .val (.int (Int32.ofNat k)), .val (.int (g k))] [])) _
          refine XS.iload X1.here hx rfl (hb hby d25_23) rfl ?_
          exact k_)
        exact ⟨k, 25, Int32.ofNat k, _, T1, h1, lc, Or.inl rfl, by omega, z2, Or.inr hlt, X1, e1, N1, K1, V1, pre107⟩
  have pre108 : ∀ t_, Steps p.tables e below (s₁.setTop (mkF m 3 #[.val (.ref a1), .val (.int (0 : Int32)), .val (.ref a3), .val (.int (0 : Int32)), .val (.int (Int32.ofNat nN)), .val (.int (0 : Int32)), .unset] [])) t_ → Steps p.tables e below (s₁.setTop (entryFrame m #[(.ref a1), (.int (0 : Int32)), (.ref a3), (.int (0 : Int32)), (.int (Int32.ofNat nN))] 7)) t_ := fun t_ k_ => pre0 _ (by
    show Steps p.tables e below (s₁.setTop (mkF m 0 #[.val (.ref a1), .val (.int (0 : Int32)), .val (.ref a3), .val (.int (0 : Int32)), .val (.int (Int32.ofNat nN)), .unset, .unset] [])) _
    refine XS.iconst X0.here hx rfl (hb hby d25_0) ?_
    show Steps p.tables e below (s₁.setTop (mkF m 1 #[.val (.ref a1), .val (.int (0 : Int32)), .val (.ref a3), .val (.int (0 : Int32)), .val (.int (Int32.ofNat nN)), .unset, .unset] [(.int (0 : Int32))])) _
    refine XS.istore X0.here hx rfl (hb hby d25_1) rfl (l' := #[.val (.ref a1), .val (.int (0 : Int32)), .val (.ref a3), .val (.int (0 : Int32)), .val (.int (Int32.ofNat nN)), .val (.int (0 : Int32)), .unset]) rfl ?_
    exact k_)
  obtain ⟨mm, pcx, kx, lx', T', h', lc', y1, y2, y3, y4, X', e', N', K', V', st'⟩ := loop nN 0 .unset s₁ h0 [] (Or.inl rfl) (by omega) (fun _ q => absurd q (Nat.not_lt_zero _)) X0 e0 N0 (Keep.refl _ _) (own_Afcongr D (fun j _ => by rw [if_neg (Nat.not_lt_zero _)]))
  rcases y1 with rfl | rfl
  · skip
    have pre109 : ∀ t_, Steps p.tables e below (T'.setTop (mkF m 25 #[.val (.ref a1), .val (.int kx), .val (.ref a3), .val (.int kx), .val (.int (Int32.ofNat nN)), .val (.int kx), lx'] [(.int (Int32.ofNat mm))])) t_ → Steps p.tables e below (s₁.setTop (entryFrame m #[(.ref a1), (.int (0 : Int32)), (.ref a3), (.int (0 : Int32)), (.int (Int32.ofNat nN))] 7)) t_ := fun t_ k_ => pre108 _ (by
      show Steps p.tables e below (s₁.setTop (mkF m 3 #[.val (.ref a1), .val (.int (0 : Int32)), .val (.ref a3), .val (.int (0 : Int32)), .val (.int (Int32.ofNat nN)), .val (.int (0 : Int32)), .unset] [])) _
      refine st' _ ?_
      exact k_)
    obtain ⟨fs, hr, hrun, hended, hW, hsame⟩ := X'.leave (v := some (.int (Int32.ofNat mm))) (fun h => by rw [Bd.returns] at h; cases h)
    refine ⟨_, _, pre109 _ ?_, hrun, hended, _, _, rfl, ?_, ⟨_, rfl⟩, hW, hsame.mono (by decide) (by decide)⟩
    · show Steps p.tables e below (T'.setTop (mkF m 25 #[.val (.ref a1), .val (.int kx), .val (.ref a3), .val (.int kx), .val (.int (Int32.ofNat nN)), .val (.int kx), lx'] [(.int (Int32.ofNat mm))])) _
      exact retI X' hx Bd.returns (hb hby d25_25) hr
    · show QrmK Z a1 a3 nN g d h0 n0 _ T'.heap _
      rw [e']
      exact ⟨mm, rfl, N', K', y2, y3, y4, V'⟩
  · skip
    have pre110 : ∀ t_, Steps p.tables e below (T'.setTop (mkF m 46 #[.val (.ref a1), .val (.int kx), .val (.ref a3), .val (.int kx), .val (.int (Int32.ofNat nN)), .val (.int kx), lx'] [(.int (Int32.ofNat mm))])) t_ → Steps p.tables e below (s₁.setTop (entryFrame m #[(.ref a1), (.int (0 : Int32)), (.ref a3), (.int (0 : Int32)), (.int (Int32.ofNat nN))] 7)) t_ := fun t_ k_ => pre108 _ (by
      show Steps p.tables e below (s₁.setTop (mkF m 3 #[.val (.ref a1), .val (.int (0 : Int32)), .val (.ref a3), .val (.int (0 : Int32)), .val (.int (Int32.ofNat nN)), .val (.int (0 : Int32)), .unset] [])) _
      refine st' _ ?_
      exact k_)
    obtain ⟨fs, hr, hrun, hended, hW, hsame⟩ := X'.leave (v := some (.int (Int32.ofNat mm))) (fun h => by rw [Bd.returns] at h; cases h)
    refine ⟨_, _, pre110 _ ?_, hrun, hended, _, _, rfl, ?_, ⟨_, rfl⟩, hW, hsame.mono (by decide) (by decide)⟩
    · show Steps p.tables e below (T'.setTop (mkF m 46 #[.val (.ref a1), .val (.int kx), .val (.ref a3), .val (.int kx), .val (.int (Int32.ofNat nN)), .val (.int kx), lx'] [(.int (Int32.ofNat mm))])) _
      exact retI X' hx Bd.returns (hb hby d25_46) hr
    · show QrmK Z a1 a3 nN g d h0 n0 _ T'.heap _
      rw [e']
      exact ⟨mm, rfl, N', K', y2, y3, y4, V'⟩
theorem d28_0 : decode jdk_52_method_3_code 0 = .ok (.iload_n 0, 1) := by decide +kernel
theorem d28_1 : decode jdk_52_method_3_code 1 = .ok (.ifCond .ge 11, 3) := by decide +kernel
theorem d28_12 : decode jdk_52_method_3_code 12 = .ok (.iload_n 0, 1) := by decide +kernel
theorem d28_13 : decode jdk_52_method_3_code 13 = .ok (.ldc 20, 2) := by decide +kernel
theorem d28_15 : decode jdk_52_method_3_code 15 = .ok (.if_icmp .lt 40, 3) := by decide +kernel
theorem d28_55 : decode jdk_52_method_3_code 55 = .ok (.iload_n 0, 1) := by decide +kernel
theorem d28_56 : decode jdk_52_method_3_code 56 = .ok (.iconst 1, 1) := by decide +kernel
theorem d28_57 : decode jdk_52_method_3_code 57 = .ok (.ishl, 1) := by decide +kernel
theorem d28_58 : decode jdk_52_method_3_code 58 = .ok (.ireturn, 1) := by decide +kernel
theorem ef_rmNL (m : MethodId) (x0 : Int32) : entryFrame m #[(.int x0)] 1 = mkF m 0 #[.val (.int x0)] [] := by first | (simp [entryFrame, mkF, argsToLocals, Value.category]; done) | rfl
def QrmNL (Z : State)  (nN : Nat) (h0 : Heap) (n0 : Nat) (v : Option Value) (h : Heap) (L : List Loc) : Prop := v = some (.int (Int32.ofNat (2 * nN))) ∧ Fr n0 L ∧ h = h0
set_option maxRecDepth 65536 in
set_option maxHeartbeats 40000000 in
theorem rmNL (l : Launch) (Z : State) (a0 : Array Value) (hw : ∀ d ∈ tables_1, d.before a0 Z = true) (ws : List Jvm.Cond)  (nN : Nat) (h0 : Heap) (n0 : Nat) (Z0 : n0 ≤ h0.size) (b1 : nN ≤ 6) :
    MetFree l (⟨"java/lang/StringUTF16", "newBytesLength", "(I)I"⟩ : MethodName) (head1 (Jvm.Cond.code (⟨"java/lang/StringUTF16", "newBytesLength", "(I)I"⟩ : MethodName) jdk_52_method_3_code 1 (some .int) :: ws) ({ frames := 0, cells := 0, slots := 0, locals := 0 } : Room)) (fun a U => a = #[(.int (Int32.ofNat nN))] ∧ Z.Warmed39 U.vm ∧ U.heap = h0) (fun _ _ _ _ _ => True) (fun _ U o U' => ∃ v L, o = .returned v ∧ QrmNL Z nN h0 n0 v U'.heap L ∧ FrameEnd U o U' L ({ frames := 0, cells := 0, slots := 0, locals := 0 } : Room).cells ({ frames := 0, cells := 0, slots := 0, locals := 0 } : Room).slots) := by
  refine MetFree.of_bodySF (plainFor_of_name pn_0) hisR ?_
  intro p e s m args below meth c s₁ Bd hml0 hP hK
  obtain ⟨rfl, hZ, hh⟩ := hP
  have hx := Bd.exec
  have hby := Bd.bytes
  have hml : c.maxLocals = 1 := hml0
  have hown : s.vm.findClass "java/lang/StringUTF16" = some m.cls := findClass_of_methodNamed Bd.named
  have hnm := (name_of_methodNamed Bd.named Bd.method).1
  have X0 : Stand p l e ({ frames := 0, cells := 0, slots := 0, locals := 0 } : Room) s m #[(.int (Int32.ofNat nN))] below meth c s₁ [] 0 0 := Stand.of_body Bd
  have e0 : s₁.heap = h0 := by rw [← hh, Bd.state]; rfl
  have N0 := Fr.nil n0
  have pre0 : ∀ t_, Steps p.tables e below (s₁.setTop (mkF m 0 #[.val (.int (Int32.ofNat nN))] [])) t_ → Steps p.tables e below (s₁.setTop (entryFrame m #[(.int (Int32.ofNat nN))] 1)) t_ := fun t_ k_ => castTop (ef_rmNL m ((Int32.ofNat nN))) k_
  have pre101 : ∀ t_, Steps p.tables e below (s₁.setTop (mkF m 58 #[.val (.int (Int32.ofNat nN))] [(.int ((Int32.ofNat nN) <<< ((1 : Int32) &&& 31)))])) t_ → Steps p.tables e below (s₁.setTop (entryFrame m #[(.int (Int32.ofNat nN))] 1)) t_ := fun t_ k_ => pre0 _ (by
    show Steps p.tables e below (s₁.setTop (mkF m 0 #[.val (.int (Int32.ofNat nN))] [])) _
    refine XS.iloadN X0.here hx rfl (hb hby d28_0) rfl ?_
    show Steps p.tables e below (s₁.setTop (mkF m 1 #[.val (.int (Int32.ofNat nN))] [(.int (Int32.ofNat nN))])) _
    refine XS.ifYes X0.here hx rfl (pc0 := 1) (pc' := 12) rfl (hb hby d28_1) rfl ((if0 _ _).trans (flt (own_ofn0 (by omega))).2.1) (by decide) (by decide) ?_
    show Steps p.tables e below (s₁.setTop (mkF m 12 #[.val (.int (Int32.ofNat nN))] [])) _
    refine XS.iloadN X0.here hx rfl (hb hby d28_12) rfl ?_
    show Steps p.tables e below (s₁.setTop (mkF m 13 #[.val (.int (Int32.ofNat nN))] [(.int (Int32.ofNat nN))])) _
    refine X0.ldcInt hx hown (mvT hZ (hw _ (List.mem_of_getElem? (i := 152) rfl))) (g := (mkF m 13 #[.val (.int (Int32.ofNat nN))] [(.int (Int32.ofNat nN))])) rfl (hb hby d28_13) _ ?_
    show Steps p.tables e below (s₁.setTop (mkF m 15 #[.val (.int (Int32.ofNat nN))] [(.int (1073741823 : Int32)), (.int (Int32.ofNat nN))])) _
    refine XS.icmpYes X0.here hx rfl (pc0 := 15) (pc' := 55) rfl (hb hby d28_15) rfl (tlt ((own_oflt (a := nN) (b := 1073741823) (by omega) (by omega)).mpr (by omega))).1 (by decide) (by decide) ?_
    show Steps p.tables e below (s₁.setTop (mkF m 55 #[.val (.int (Int32.ofNat nN))] [])) _
    refine XS.iloadN X0.here hx rfl (hb hby d28_55) rfl ?_
    show Steps p.tables e below (s₁.setTop (mkF m 56 #[.val (.int (Int32.ofNat nN))] [(.int (Int32.ofNat nN))])) _
    refine XS.iconst X0.here hx rfl (hb hby d28_56) ?_
    show Steps p.tables e below (s₁.setTop (mkF m 57 #[.val (.int (Int32.ofNat nN))] [(.int (1 : Int32)), (.int (Int32.ofNat nN))])) _
    refine XS.ishl X0.here hx rfl (hb hby d28_57) rfl ?_
    exact k_)
  obtain ⟨fs, hr, hrun, hended, hW, hsame⟩ := X0.leave (v := some (.int ((Int32.ofNat nN) <<< ((1 : Int32) &&& 31)))) (fun h => by rw [Bd.returns] at h; cases h)
  refine ⟨_, _, pre101 _ ?_, hrun, hended, _, _, rfl, ?_, ⟨_, rfl⟩, hW, hsame.mono (by decide) (by decide)⟩
  · show Steps p.tables e below (s₁.setTop (mkF m 58 #[.val (.int (Int32.ofNat nN))] [(.int ((Int32.ofNat nN) <<< ((1 : Int32) &&& 31)))])) _
    exact retI X0 hx Bd.returns (hb hby d28_58) hr
  · show QrmNL Z nN h0 n0 _ s₁.heap _
    rw [e0]
    exact ⟨by rw [own_shl1 (by omega)], N0, rfl⟩
theorem pd_0 : parseMethodDescriptor "(I)I" = some ⟨[.int], some .int⟩ := by decide +kernel
theorem d27_0 : decode jdk_52_method_2_code 0 = .ok (.iload_n 0, 1) := by decide +kernel
theorem d27_1 : decode jdk_52_method_2_code 1 = .ok (.invokestatic 11, 3) := by decide +kernel
theorem d27_4 : decode jdk_52_method_2_code 4 = .ok (.newarray .byte, 2) := by decide +kernel
theorem d27_6 : decode jdk_52_method_2_code 6 = .ok (.areturn, 1) := by decide +kernel
theorem ef_rmNB (m : MethodId) (x0 : Int32) : entryFrame m #[(.int x0)] 1 = mkF m 0 #[.val (.int x0)] [] := by first | (simp [entryFrame, mkF, argsToLocals, Value.category]; done) | rfl
def QrmNB (Z : State)  (nN : Nat) (h0 : Heap) (n0 : Nat) (v : Option Value) (h : Heap) (L : List Loc) : Prop := ∃ x : Addr, v = some (.ref x) ∧ Fr n0 L ∧ Keep h0 h [] ∧ own_Af Z h x .byte (2 * nN) (fun _ => 0) ∧ h0.size ≤ x
set_option maxRecDepth 65536 in
set_option maxHeartbeats 40000000 in
theorem rmNB (l : Launch) (Z : State) (a0 : Array Value) (hw : ∀ d ∈ tables_1, d.before a0 Z = true) (ws : List Jvm.Cond)  (nN : Nat) (h0 : Heap) (n0 : Nat) (Z0 : n0 ≤ h0.size) (b1 : nN ≤ 6) :
    MetFree l (⟨"java/lang/StringUTF16", "newBytesFor", "(I)[B"⟩ : MethodName) (head1 (Jvm.Cond.code (⟨"java/lang/StringUTF16", "newBytesFor", "(I)[B"⟩ : MethodName) jdk_52_method_2_code 1 (some (.array .byte)) :: ws) ({ frames := 1, cells := 1, slots := 12, locals := 12 } : Room)) (fun a U => a = #[(.int (Int32.ofNat nN))] ∧ Z.Warmed39 U.vm ∧ U.heap = h0) (fun _ _ _ _ _ => True) (fun _ U o U' => ∃ v L, o = .returned v ∧ QrmNB Z nN h0 n0 v U'.heap L ∧ FrameEnd U o U' L ({ frames := 1, cells := 1, slots := 12, locals := 12 } : Room).cells ({ frames := 1, cells := 1, slots := 12, locals := 12 } : Room).slots) := by
  refine MetFree.of_bodySF (plainFor_of_name pn_0) hisR ?_
  intro p e s m args below meth c s₁ Bd hml0 hP hK
  obtain ⟨rfl, hZ, hh⟩ := hP
  have hx := Bd.exec
  have hby := Bd.bytes
  have hml : c.maxLocals = 1 := hml0
  have hown : s.vm.findClass "java/lang/StringUTF16" = some m.cls := findClass_of_methodNamed Bd.named
  have hnm := (name_of_methodNamed Bd.named Bd.method).1
  have X0 : Stand p l e ({ frames := 1, cells := 1, slots := 12, locals := 12 } : Room) s m #[(.int (Int32.ofNat nN))] below meth c s₁ [] 0 0 := Stand.of_body Bd
  have e0 : s₁.heap = h0 := by rw [← hh, Bd.state]; rfl
  have N0 := Fr.nil n0
  have pre0 : ∀ t_, Steps p.tables e below (s₁.setTop (mkF m 0 #[.val (.int (Int32.ofNat nN))] [])) t_ → Steps p.tables e below (s₁.setTop (entryFrame m #[(.int (Int32.ofNat nN))] 1)) t_ := fun t_ k_ => castTop (ef_rmNB m ((Int32.ofNat nN))) k_
  obtain ⟨_, _, ⟨T101, L101, k101, n101⟩, -, X101, ⟨Lc101, hQ101, l101, y101, z101⟩, st101⟩ := Jvm.LawKit.callS X0 hx (y := (⟨"java/lang/StringUTF16", "newBytesLength", "(I)I"⟩ : MethodName)) hown (mvT hZ (hw _ (List.mem_of_getElem? (i := 149) rfl))) (mvT hZ (hw _ (List.mem_of_getElem? (i := 150) rfl))) (mvT hZ (hw _ (List.mem_of_getElem? (i := 138) rfl))) (mvT hZ (hw _ (List.mem_of_getElem? (i := 151) rfl))) (by decide) (backOf (W := 0) (rmNL l Z a0 hw [] nN h0 n0 Z0 b1) hZ (hw _ (List.mem_of_getElem? (i := 151) rfl)) (hw _ (List.mem_of_getElem? (i := 138) rfl)) (by decide) (by decide)) (g := (mkF m 1 #[.val (.int (Int32.ofNat nN))] [(.int (Int32.ofNat nN))])) rfl (by rw [hml]; rfl) (argsL := [(.int (Int32.ofNat nN))]) (rest := []) (lenOf pd_0 rfl) rfl (by show 2 * 0 + _ ≤ _; exact Nat.le_of_eq rfl) (hb hby d27_1) (fun _ _ => ⟨rfl, e0, (by decide : 0 + 0 ≤ _), (by decide : 0 + 0 ≤ _)⟩)
  dsimp only [Pt.U, Pt.locs, Pt.cells, Pt.slots] at X101 l101 y101 z101 st101 hQ101
  subst l101 y101 z101
  obtain ⟨rfl, N101q, e101⟩ := hQ101
  have N101 := Fr.app N0 N101q
  obtain ⟨T102, h102, k_x, X102, e102, Ext_x, A_x, st102⟩ := newP X101 hx hZ (hw _ (List.mem_of_getElem? (i := 15) rfl)) e101 (g := (mkF m 4 #[.val (.int (Int32.ofNat nN))] [(.int (Int32.ofNat (2 * nN)))])) rfl (hb hby d27_4) rfl (own_ofn0 (by omega)) (cap := 12) (by rw [own_ofc (by omega)]; omega) (by decide) (by decide) (by decide)
  obtain ⟨x, eq_x⟩ : ∃ z, z = h0.size := ⟨_, rfl⟩
  rw [← eq_x] at A_x st102
  have g_x : n0 ≤ x := Nat.le_trans Z0 (Nat.le_of_eq eq_x.symm)
  have K_103 := (Keep.refl h0 []).ext Ext_x
  have Z104 : n0 ≤ h102.size := Nat.le_trans Z0 (Ext_x.1)
  have V_x := Arv.new A_x (own_ofn0 (by omega))
  have AF := own_AfA V_x (by omega) (fun j _ => rfl)
  have pre105 : ∀ t_, Steps p.tables e below (T102.setTop (mkF m 6 #[.val (.int (Int32.ofNat nN))] [(.ref x)])) t_ → Steps p.tables e below (s₁.setTop (entryFrame m #[(.int (Int32.ofNat nN))] 1)) t_ := fun t_ k_ => pre0 _ (by
    show Steps p.tables e below (s₁.setTop (mkF m 0 #[.val (.int (Int32.ofNat nN))] [])) _
    refine XS.iloadN X0.here hx rfl (hb hby d27_0) rfl ?_
    show Steps p.tables e below (s₁.setTop (mkF m 1 #[.val (.int (Int32.ofNat nN))] [(.int (Int32.ofNat nN))])) _
    refine st101 _ ?_
    show Steps p.tables e below (T101.setTop (mkF m 4 #[.val (.int (Int32.ofNat nN))] [(.int (Int32.ofNat (2 * nN)))])) _
    refine st102 _ ?_
    exact k_)
  obtain ⟨fs, hr, hrun, hended, hW, hsame⟩ := X102.leave (v := some (.ref x)) (fun h => by rw [Bd.returns] at h; cases h)
  refine ⟨_, _, pre105 _ ?_, hrun, hended, _, _, rfl, ?_, ⟨_, rfl⟩, hW, hsame.mono (by decide) (by decide)⟩
  · show Steps p.tables e below (T102.setTop (mkF m 6 #[.val (.int (Int32.ofNat nN))] [(.ref x)])) _
    jvm_step X102.here [X102.here.top, hx, (hb hby d27_6), X102.method', Bd.returns, Value.isRef, FieldType.isReference]
    first | (intro acts; rw [hr _ acts rfl rfl rfl]) | rw [hr _ _ rfl rfl rfl]
    exact Steps.refl _
  · show QrmNB Z nN h0 n0 _ T102.heap _
    rw [e102]
    exact ⟨x, rfl, N101, K_103, AF, Nat.le_of_eq eq_x.symm⟩
theorem d26_0 : decode jdk_52_method_15_code 0 = .ok (.iload_n 1, 1) := by decide +kernel
theorem d26_1 : decode jdk_52_method_15_code 1 = .ok (.aload_n 0, 1) := by decide +kernel
theorem d26_2 : decode jdk_52_method_15_code 2 = .ok (.arraylength, 1) := by decide +kernel
theorem d26_3 : decode jdk_52_method_15_code 3 = .ok (.isub, 1) := by decide +kernel
theorem d26_4 : decode jdk_52_method_15_code 4 = .ok (.bipush 31, 2) := by decide +kernel
theorem d26_6 : decode jdk_52_method_15_code 6 = .ok (.iushr, 1) := by decide +kernel
theorem d26_7 : decode jdk_52_method_15_code 7 = .ok (.i2b, 1) := by decide +kernel
theorem d26_8 : decode jdk_52_method_15_code 8 = .ok (.ireturn, 1) := by decide +kernel
theorem ef_rmCF (m : MethodId) (x0 : Addr) (x1 : Int32) : entryFrame m #[(.ref x0), (.int x1)] 2 = mkF m 0 #[.val (.ref x0), .val (.int x1)] [] := by first | (simp [entryFrame, mkF, argsToLocals, Value.category]; done) | rfl
def QrmCF (Z : State) (a1 : Addr) (nN : Nat) (N : Nat) (d : Nat → Int32) (h0 : Heap) (n0 : Nat) (v : Option Value) (h : Heap) (L : List Loc) : Prop := v = some (.int (own_cd nN N)) ∧ Fr n0 L ∧ h = h0
set_option maxRecDepth 65536 in
set_option maxHeartbeats 40000000 in
theorem rmCF (l : Launch) (Z : State) (a0 : Array Value) (hw : ∀ d ∈ tables_1, d.before a0 Z = true) (ws : List Jvm.Cond) (a1 : Addr) (nN : Nat) (N : Nat) (d : Nat → Int32) (h0 : Heap) (n0 : Nat) (Z0 : n0 ≤ h0.size) (b0 : 1 ≤ nN) (b1 : nN ≤ 6) (hN : N = nN ∨ N = 2 * nN) (V : own_Af Z h0 a1 .byte N d) :
    MetFree l (⟨"java/lang/StringUTF16", "coderFromArrayLen", "([BI)B"⟩ : MethodName) (head1 (Jvm.Cond.code (⟨"java/lang/StringUTF16", "coderFromArrayLen", "([BI)B"⟩ : MethodName) jdk_52_method_15_code 2 (some .byte) :: ws) ({ frames := 0, cells := 0, slots := 0, locals := 0 } : Room)) (fun a U => a = #[(.ref a1), (.int (Int32.ofNat nN))] ∧ Z.Warmed39 U.vm ∧ U.heap = h0) (fun _ _ _ _ _ => True) (fun _ U o U' => ∃ v L, o = .returned v ∧ QrmCF Z a1 nN N d h0 n0 v U'.heap L ∧ FrameEnd U o U' L ({ frames := 0, cells := 0, slots := 0, locals := 0 } : Room).cells ({ frames := 0, cells := 0, slots := 0, locals := 0 } : Room).slots) := by
  refine MetFree.of_bodySF (plainFor_of_name pn_0) hisR ?_
  intro p e s m args below meth c s₁ Bd hml0 hP hK
  obtain ⟨rfl, hZ, hh⟩ := hP
  have hx := Bd.exec
  have hby := Bd.bytes
  have hml : c.maxLocals = 2 := hml0
  have hown : s.vm.findClass "java/lang/StringUTF16" = some m.cls := findClass_of_methodNamed Bd.named
  have hnm := (name_of_methodNamed Bd.named Bd.method).1
  have X0 : Stand p l e ({ frames := 0, cells := 0, slots := 0, locals := 0 } : Room) s m #[(.ref a1), (.int (Int32.ofNat nN))] below meth c s₁ [] 0 0 := Stand.of_body Bd
  have e0 : s₁.heap = h0 := by rw [← hh, Bd.state]; rfl
  have N0 := Fr.nil n0
  have pre0 : ∀ t_, Steps p.tables e below (s₁.setTop (mkF m 0 #[.val (.ref a1), .val (.int (Int32.ofNat nN))] [])) t_ → Steps p.tables e below (s₁.setTop (entryFrame m #[(.ref a1), (.int (Int32.ofNat nN))] 2)) t_ := fun t_ k_ => castTop (ef_rmCF m a1 ((Int32.ofNat nN))) k_
  obtain ⟨cl, Ar, Sz, Hs⟩ := V
  have Sz2 : cl.slots.size = (Int32.ofNat N).toNatClampNeg := by rw [Sz, own_ofc (by omega)]
  have pre101 : ∀ t_, Steps p.tables e below (s₁.setTop (mkF m 8 #[.val (.ref a1), .val (.int (Int32.ofNat nN))] [(.int (((((Int32.ofNat nN) - (Int32.ofNat N)).toUInt32 >>> ((31 : Int32) &&& 31).toUInt32).toInt32).toInt8.toInt32))])) t_ → Steps p.tables e below (s₁.setTop (entryFrame m #[(.ref a1), (.int (Int32.ofNat nN))] 2)) t_ := fun t_ k_ => pre0 _ (by
    show Steps p.tables e below (s₁.setTop (mkF m 0 #[.val (.ref a1), .val (.int (Int32.ofNat nN))] [])) _
    refine XS.iloadN X0.here hx rfl (hb hby d26_0) rfl ?_
    show Steps p.tables e below (s₁.setTop (mkF m 1 #[.val (.ref a1), .val (.int (Int32.ofNat nN))] [(.int (Int32.ofNat nN))])) _
    refine XS.aloadN X0.here hx rfl (hb hby d26_1) rfl rfl ?_
    show Steps p.tables e below (s₁.setTop (mkF m 2 #[.val (.ref a1), .val (.int (Int32.ofNat nN))] [(.ref a1), (.int (Int32.ofNat nN))])) _
    refine X0.arraylength hx (by rw [e0]; exact Ar.1) (State.isArrayOf_alike hZ.alike Ar.2.1) (g := (mkF m 2 #[.val (.ref a1), .val (.int (Int32.ofNat nN))] [(.ref a1), (.int (Int32.ofNat nN))])) rfl rfl (hb hby d26_2) _ ?_
    rw [len_of Sz2 (own_ofn0 (a := N) (by omega))]
    show Steps p.tables e below (s₁.setTop (mkF m 3 #[.val (.ref a1), .val (.int (Int32.ofNat nN))] [(.int (Int32.ofNat N)), (.int (Int32.ofNat nN))])) _
    refine XS.isub X0.here hx rfl (hb hby d26_3) rfl ?_
    show Steps p.tables e below (s₁.setTop (mkF m 4 #[.val (.ref a1), .val (.int (Int32.ofNat nN))] [(.int ((Int32.ofNat nN) - (Int32.ofNat N)))])) _
    refine XS.bipush X0.here hx rfl (hb hby d26_4) ?_
    show Steps p.tables e below (s₁.setTop (mkF m 6 #[.val (.ref a1), .val (.int (Int32.ofNat nN))] [(.int (31 : Int32)), (.int ((Int32.ofNat nN) - (Int32.ofNat N)))])) _
    refine XS.iushr X0.here hx rfl (hb hby d26_6) rfl ?_
    show Steps p.tables e below (s₁.setTop (mkF m 7 #[.val (.ref a1), .val (.int (Int32.ofNat nN))] [(.int ((((Int32.ofNat nN) - (Int32.ofNat N)).toUInt32 >>> ((31 : Int32) &&& 31).toUInt32).toInt32))])) _
    refine XS.i2b X0.here hx rfl (hb hby d26_7) rfl ?_
    exact k_)
  obtain ⟨fs, hr, hrun, hended, hW, hsame⟩ := X0.leave (v := some (.int (nar .byte (((((Int32.ofNat nN) - (Int32.ofNat N)).toUInt32 >>> ((31 : Int32) &&& 31).toUInt32).toInt32).toInt8.toInt32)))) (fun h => by rw [Bd.returns] at h; cases h)
  refine ⟨_, _, pre101 _ ?_, hrun, hended, _, _, rfl, ?_, ⟨_, rfl⟩, hW, hsame.mono (by decide) (by decide)⟩
  · show Steps p.tables e below (s₁.setTop (mkF m 8 #[.val (.ref a1), .val (.int (Int32.ofNat nN))] [(.int (((((Int32.ofNat nN) - (Int32.ofNat N)).toUInt32 >>> ((31 : Int32) &&& 31).toUInt32).toInt32).toInt8.toInt32))])) _
    exact retN X0 hx (t := .byte) Bd.returns (by simp) (hb hby d26_8) hr
  · show QrmCF Z a1 nN N d h0 n0 _ s₁.heap _
    rw [e0]
    exact ⟨by rw [own_cf b0 b1 hN], N0, rfl⟩
theorem pd_1 : parseMethodDescriptor "([CI[BII)I" = some ⟨[(.array .char), .int, (.array .byte), .int, .int], some .int⟩ := by decide +kernel
theorem d24_0 : decode jdk_52_method_16_code 0 = .ok (.iload_n 2, 1) := by decide +kernel
theorem d24_1 : decode jdk_52_method_16_code 1 = .ok (.newarray .byte, 2) := by decide +kernel
theorem d24_3 : decode jdk_52_method_16_code 3 = .ok (.astore_n 3, 1) := by decide +kernel
theorem d24_4 : decode jdk_52_method_16_code 4 = .ok (.aload_n 0, 1) := by decide +kernel
theorem d24_5 : decode jdk_52_method_16_code 5 = .ok (.iload_n 1, 1) := by decide +kernel
theorem d24_6 : decode jdk_52_method_16_code 6 = .ok (.aload_n 3, 1) := by decide +kernel
theorem d24_7 : decode jdk_52_method_16_code 7 = .ok (.iconst 0, 1) := by decide +kernel
theorem d24_8 : decode jdk_52_method_16_code 8 = .ok (.iload_n 2, 1) := by decide +kernel
theorem d24_9 : decode jdk_52_method_16_code 9 = .ok (.invokestatic 115, 3) := by decide +kernel
theorem d24_12 : decode jdk_52_method_16_code 12 = .ok (.istore 4, 2) := by decide +kernel
theorem d24_14 : decode jdk_52_method_16_code 14 = .ok (.iload 4, 2) := by decide +kernel
theorem d24_16 : decode jdk_52_method_16_code 16 = .ok (.iload_n 2, 1) := by decide +kernel
theorem d24_17 : decode jdk_52_method_16_code 17 = .ok (.if_icmp .eq 40, 3) := by decide +kernel
theorem d24_57 : decode jdk_52_method_16_code 57 = .ok (.aload_n 3, 1) := by decide +kernel
theorem d24_58 : decode jdk_52_method_16_code 58 = .ok (.areturn, 1) := by decide +kernel
theorem ef_rmCB (m : MethodId) (x0 : Addr) (x1 : Int32) (x2 : Int32) : entryFrame m #[(.ref x0), (.int x1), (.int x2)] 6 = mkF m 0 #[.val (.ref x0), .val (.int x1), .val (.int x2), .unset, .unset, .unset] [] := by first | (simp [entryFrame, mkF, argsToLocals, Value.category]; done) | rfl
def QrmCB (Z : State) (a1 : Addr) (nN : Nat) (g : Nat → Int32) (h0 : Heap) (n0 : Nat) (v : Option Value) (h : Heap) (L : List Loc) : Prop := ∃ x : Addr, v = some (.ref x) ∧ Fr n0 L ∧ Keep h0 h [] ∧ own_Af Z h x .byte nN (fun j => own_b8 (g j)) ∧ Exa Z h x "[B" ∧ h0.size ≤ x
set_option maxRecDepth 65536 in
set_option maxHeartbeats 40000000 in
theorem rmCB (l : Launch) (Z : State) (a0 : Array Value) (hw : ∀ d ∈ tables_1, d.before a0 Z = true) (ws : List Jvm.Cond) (a1 : Addr) (nN : Nat) (g : Nat → Int32) (h0 : Heap) (n0 : Nat) (Z0 : n0 ≤ h0.size) (b1 : nN ≤ 6) (lt : own_lat nN g) (V : own_Af Z h0 a1 .char nN g) :
    MetFree l (⟨"java/lang/StringUTF16", "compress", "([CII)[B"⟩ : MethodName) (head1 (Jvm.Cond.code (⟨"java/lang/StringUTF16", "compress", "([CII)[B"⟩ : MethodName) jdk_52_method_16_code 6 (some (.array .byte)) :: ws) ({ frames := 1, cells := 1, slots := 6, locals := 18 } : Room)) (fun a U => a = #[(.ref a1), (.int (0 : Int32)), (.int (Int32.ofNat nN))] ∧ Z.Warmed39 U.vm ∧ U.heap = h0) (fun _ _ _ _ _ => True) (fun _ U o U' => ∃ v L, o = .returned v ∧ QrmCB Z a1 nN g h0 n0 v U'.heap L ∧ FrameEnd U o U' L ({ frames := 1, cells := 1, slots := 6, locals := 18 } : Room).cells ({ frames := 1, cells := 1, slots := 6, locals := 18 } : Room).slots) := by
  refine MetFree.of_bodySF (plainFor_of_name pn_0) hisR ?_
  intro p e s m args below meth c s₁ Bd hml0 hP hK
  obtain ⟨rfl, hZ, hh⟩ := hP
  have hx := Bd.exec
  have hby := Bd.bytes
  have hml : c.maxLocals = 6 := hml0
  have hown : s.vm.findClass "java/lang/StringUTF16" = some m.cls := findClass_of_methodNamed Bd.named
  have hnm := (name_of_methodNamed Bd.named Bd.method).1
  have X0 : Stand p l e ({ frames := 1, cells := 1, slots := 6, locals := 18 } : Room) s m #[(.ref a1), (.int (0 : Int32)), (.int (Int32.ofNat nN))] below meth c s₁ [] 0 0 := Stand.of_body Bd
  have e0 : s₁.heap = h0 := by rw [← hh, Bd.state]; rfl
  have N0 := Fr.nil n0
  have pre0 : ∀ t_, Steps p.tables e below (s₁.setTop (mkF m 0 #[.val (.ref a1), .val (.int (0 : Int32)), .val (.int (Int32.ofNat nN)), .unset, .unset, .unset] [])) t_ → Steps p.tables e below (s₁.setTop (entryFrame m #[(.ref a1), (.int (0 : Int32)), (.int (Int32.ofNat nN))] 6)) t_ := fun t_ k_ => castTop (ef_rmCB m a1 ((0 : Int32)) ((Int32.ofNat nN))) k_
  obtain ⟨T101, h101, k_x, X101, e101, Ext_x, A_x, E_x, st101⟩ := newPE X0 hx hZ (hw _ (List.mem_of_getElem? (i := 15) rfl)) e0 (g := (mkF m 1 #[.val (.ref a1), .val (.int (0 : Int32)), .val (.int (Int32.ofNat nN)), .unset, .unset, .unset] [(.int (Int32.ofNat nN))])) rfl (hb hby d24_1) rfl (own_ofn0 (by omega)) (cap := 6) (by rw [own_ofc (by omega)]; omega) (by decide) (by decide) (by decide) (ad := "[B") (by decide)
  obtain ⟨x, eq_x⟩ : ∃ z, z = h0.size := ⟨_, rfl⟩
  rw [← eq_x] at A_x E_x st101
  have g_x : n0 ≤ x := Nat.le_trans Z0 (Nat.le_of_eq eq_x.symm)
  have K_102 := (Keep.refl h0 []).ext Ext_x
  have Z103 : n0 ≤ h101.size := Nat.le_trans Z0 (Ext_x.1)
  have V_x := Arv.new A_x (own_ofn0 (by omega))
  have AF := own_AfA V_x (g := fun _ => 0) (by omega) (fun j _ => rfl)
  have lt1 := own_Aflt V
  have nex : a1 ≠ x := by rw [eq_x]; exact Nat.ne_of_lt lt1
  obtain ⟨_, _, ⟨T104, L104, k104, n104⟩, -, X104, ⟨Lc104, hQ104, l104, y104, z104⟩, st104⟩ := Jvm.LawKit.callS X101 hx (y := (⟨"java/lang/StringUTF16", "compress", "([CI[BII)I"⟩ : MethodName)) hown (mvT hZ (hw _ (List.mem_of_getElem? (i := 140) rfl))) (mvT hZ (hw _ (List.mem_of_getElem? (i := 141) rfl))) (mvT hZ (hw _ (List.mem_of_getElem? (i := 138) rfl))) (mvT hZ (hw _ (List.mem_of_getElem? (i := 142) rfl))) (by decide) (backOf (W := 0) (rmK l Z a0 hw [] a1 x nN g _ h101 n0 Z103 b1 (own_Afkeep V K_102 nin0) AF nex g_x) hZ (hw _ (List.mem_of_getElem? (i := 142) rfl)) (hw _ (List.mem_of_getElem? (i := 138) rfl)) (by decide) (by decide)) (g := (mkF m 9 #[.val (.ref a1), .val (.int (0 : Int32)), .val (.int (Int32.ofNat nN)), .val (.ref x), .unset, .unset] [(.int (Int32.ofNat nN)), (.int (0 : Int32)), (.ref x), (.int (0 : Int32)), (.ref a1)])) rfl (by rw [hml]; rfl) (argsL := [(.ref a1), (.int (0 : Int32)), (.ref x), (.int (0 : Int32)), (.int (Int32.ofNat nN))]) (rest := []) (lenOf pd_1 rfl) rfl (by show 2 * 0 + _ ≤ _; exact Nat.le_of_eq rfl) (hb hby d24_9) (fun _ _ => ⟨rfl, e101, (by decide : 1 + 0 ≤ _), (by decide : 6 + 0 ≤ _)⟩)
  dsimp only [Pt.U, Pt.locs, Pt.cells, Pt.slots] at X104 l104 y104 z104 st104 hQ104
  subst l104 y104 z104
  obtain ⟨mm, rfl, N104q, K104, m1, m2, m3, VB⟩ := hQ104
  have N104 := Fr.app N0 N104q
  have hm : mm = nN := m3.elim id (fun q => Classical.byContradiction fun r => q (lt mm (by omega)).2)
  have K2 := K_102.trans K104 (allS (Or.inr (Nat.le_of_eq eq_x.symm)) all0)
  have EX := E_x.keep K104
  have pre105 : ∀ t_, Steps p.tables e below (T104.setTop (mkF m 58 #[.val (.ref a1), .val (.int (0 : Int32)), .val (.int (Int32.ofNat nN)), .val (.ref x), .val (.int (Int32.ofNat mm)), .unset] [(.ref x)])) t_ → Steps p.tables e below (s₁.setTop (entryFrame m #[(.ref a1), (.int (0 : Int32)), (.int (Int32.ofNat nN))] 6)) t_ := fun t_ k_ => pre0 _ (by
    show Steps p.tables e below (s₁.setTop (mkF m 0 #[.val (.ref a1), .val (.int (0 : Int32)), .val (.int (Int32.ofNat nN)), .unset, .unset, .unset] [])) _
    refine XS.iloadN X0.here hx rfl (hb hby d24_0) rfl ?_
    show Steps p.tables e below (s₁.setTop (mkF m 1 #[.val (.ref a1), .val (.int (0 : Int32)), .val (.int (Int32.ofNat nN)), .unset, .unset, .unset] [(.int (Int32.ofNat nN))])) _
    refine st101 _ ?_
    show Steps p.tables e below (T101.setTop (mkF m 3 #[.val (.ref a1), .val (.int (0 : Int32)), .val (.int (Int32.ofNat nN)), .unset, .unset, .unset] [(.ref x)])) _
    refine XS.astoreN X101.here hx rfl (hb hby d24_3) rfl rfl (l' := #[.val (.ref a1), .val (.int (0 : Int32)), .val (.int (Int32.ofNat nN)), .val (.ref x), .unset, .unset]) rfl ?_
    show Steps p.tables e below (T101.setTop (mkF m 4 #[.val (.ref a1), .val (.int (0 : Int32)), .val (.int (Int32.ofNat nN)), .val (.ref x), .unset, .unset] [])) _
    refine XS.aloadN X101.here hx rfl (hb hby d24_4) rfl rfl ?_
    show Steps p.tables e below (T101.setTop (mkF m 5 #[.val (.ref a1), .val (.int (0 : Int32)), .val (.int (Int32.ofNat nN)), .val (.ref x), .unset, .unset] [(.ref a1)])) _
    refine XS.iloadN X101.here hx rfl (hb hby d24_5) rfl ?_
    show Steps p.tables e below (T101.setTop (mkF m 6 #[.val (.ref a1), .val (.int (0 : Int32)), .val (.int (Int32.ofNat nN)), .val (.ref x), .unset, .unset] [(.int (0 : Int32)), (.ref a1)])) _
    refine XS.aloadN X101.here hx rfl (hb hby d24_6) rfl rfl ?_
    show Steps p.tables e below (T101.setTop (mkF m 7 #[.val (.ref a1), .val (.int (0 : Int32)), .val (.int (Int32.ofNat nN)), .val (.ref x), .unset, .unset] [(.ref x), (.int (0 : Int32)), (.ref a1)])) _
    refine XS.iconst X101.here hx rfl (hb hby d24_7) ?_
    show Steps p.tables e below (T101.setTop (mkF m 8 #[.val (.ref a1), .val (.int (0 : Int32)), .val (.int (Int32.ofNat nN)), .val (.ref x), .unset, .unset] [(.int (0 : Int32)), (.ref x), (.int (0 : Int32)), (.ref a1)])) _
    refine XS.iloadN X101.here hx rfl (hb hby d24_8) rfl ?_
    show Steps p.tables e below (T101.setTop (mkF m 9 #[.val (.ref a1), .val (.int (0 : Int32)), .val (.int (Int32.ofNat nN)), .val (.ref x), .unset, .unset] [(.int (Int32.ofNat nN)), (.int (0 : Int32)), (.ref x), (.int (0 : Int32)), (.ref a1)])) _
    refine st104 _ ?_
    show Steps p.tables e below (T104.setTop (mkF m 12 #[.val (.ref a1), .val (.int (0 : Int32)), .val (.int (Int32.ofNat nN)), .val (.ref x), .unset, .unset] [(.int (Int32.ofNat mm))])) _
    refine XS.istore X104.here hx rfl (hb hby d24_12) rfl (l' := #[.val (.ref a1), .val (.int (0 : Int32)), .val (.int (Int32.ofNat nN)), .val (.ref x), .val (.int (Int32.ofNat mm)), .unset]) rfl ?_
    show Steps p.tables e below (T104.setTop (mkF m 14 #[.val (.ref a1), .val (.int (0 : Int32)), .val (.int (Int32.ofNat nN)), .val (.ref x), .val (.int (Int32.ofNat mm)), .unset] [])) _
    refine XS.iload X104.here hx rfl (hb hby d24_14) rfl ?_
    show Steps p.tables e below (T104.setTop (mkF m 16 #[.val (.ref a1), .val (.int (0 : Int32)), .val (.int (Int32.ofNat nN)), .val (.ref x), .val (.int (Int32.ofNat mm)), .unset] [(.int (Int32.ofNat mm))])) _
    refine XS.iloadN X104.here hx rfl (hb hby d24_16) rfl ?_
    show Steps p.tables e below (T104.setTop (mkF m 17 #[.val (.ref a1), .val (.int (0 : Int32)), .val (.int (Int32.ofNat nN)), .val (.ref x), .val (.int (Int32.ofNat mm)), .unset] [(.int (Int32.ofNat nN)), (.int (Int32.ofNat mm))])) _
    refine XS.icmpYes X104.here hx rfl (pc0 := 17) (pc' := 57) rfl (hb hby d24_17) rfl (teq (by rw [hm])).1 (by decide) (by decide) ?_
    show Steps p.tables e below (T104.setTop (mkF m 57 #[.val (.ref a1), .val (.int (0 : Int32)), .val (.int (Int32.ofNat nN)), .val (.ref x), .val (.int (Int32.ofNat mm)), .unset] [])) _
    refine XS.aloadN X104.here hx rfl (hb hby d24_57) rfl rfl ?_
    exact k_)
  obtain ⟨fs, hr, hrun, hended, hW, hsame⟩ := X104.leave (v := some (.ref x)) (fun h => by rw [Bd.returns] at h; cases h)
  refine ⟨_, _, pre105 _ ?_, hrun, hended, _, _, rfl, ?_, ⟨_, rfl⟩, hW, hsame.mono (by decide) (by decide)⟩
  · show Steps p.tables e below (T104.setTop (mkF m 58 #[.val (.ref a1), .val (.int (0 : Int32)), .val (.int (Int32.ofNat nN)), .val (.ref x), .val (.int (Int32.ofNat mm)), .unset] [(.ref x)])) _
    jvm_step X104.here [X104.here.top, hx, (hb hby d24_58), X104.method', Bd.returns, Value.isRef, FieldType.isReference]
    first | (intro acts; rw [hr _ acts rfl rfl rfl]) | rw [hr _ _ rfl rfl rfl]
    exact Steps.refl _
  · show QrmCB Z a1 nN g h0 n0 _ T104.heap _
    exact ⟨x, rfl, N104, K2, own_Afcongr VB (fun j q => by rw [if_pos (by omega)]), EX, Nat.le_of_eq eq_x.symm⟩
theorem pd_2 : parseMethodDescriptor "([CII)[B" = some ⟨[(.array .char), .int, .int], some (.array .byte)⟩ := by decide +kernel
theorem pd_3 : parseMethodDescriptor "([BI)B" = some ⟨[(.array .byte), .int], some .byte⟩ := by decide +kernel
theorem d2_0 : decode jdk_42_method_149_code 0 = .ok (.aload_n 0, 1) := by decide +kernel
theorem d2_1 : decode jdk_42_method_149_code 1 = .ok (.invokespecial 1, 3) := by decide +kernel
theorem d2_4 : decode jdk_42_method_149_code 4 = .ok (.iload_n 3, 1) := by decide +kernel
theorem d2_5 : decode jdk_42_method_149_code 5 = .ok (.ifCond .ne 22, 3) := by decide +kernel
theorem d2_27 : decode jdk_42_method_149_code 27 = .ok (.getstatic 38, 3) := by decide +kernel
theorem d2_30 : decode jdk_42_method_149_code 30 = .ok (.ifCond .eq 28, 3) := by decide +kernel
theorem d2_33 : decode jdk_42_method_149_code 33 = .ok (.aload_n 1, 1) := by decide +kernel
theorem d2_34 : decode jdk_42_method_149_code 34 = .ok (.iload_n 2, 1) := by decide +kernel
theorem d2_35 : decode jdk_42_method_149_code 35 = .ok (.iload_n 3, 1) := by decide +kernel
theorem d2_36 : decode jdk_42_method_149_code 36 = .ok (.invokestatic 177, 3) := by decide +kernel
theorem d2_39 : decode jdk_42_method_149_code 39 = .ok (.astore 5, 2) := by decide +kernel
theorem d2_41 : decode jdk_42_method_149_code 41 = .ok (.aload_n 0, 1) := by decide +kernel
theorem d2_42 : decode jdk_42_method_149_code 42 = .ok (.aload 5, 2) := by decide +kernel
theorem d2_44 : decode jdk_42_method_149_code 44 = .ok (.iload_n 3, 1) := by decide +kernel
theorem d2_45 : decode jdk_42_method_149_code 45 = .ok (.invokestatic 47, 3) := by decide +kernel
theorem d2_48 : decode jdk_42_method_149_code 48 = .ok (.putfield 15, 3) := by decide +kernel
theorem d2_51 : decode jdk_42_method_149_code 51 = .ok (.aload_n 0, 1) := by decide +kernel
theorem d2_52 : decode jdk_42_method_149_code 52 = .ok (.aload 5, 2) := by decide +kernel
theorem d2_54 : decode jdk_42_method_149_code 54 = .ok (.putfield 9, 3) := by decide +kernel
theorem d2_57 : decode jdk_42_method_149_code 57 = .ok (.return_, 1) := by decide +kernel
theorem pn_1 : plainName "java/lang/String" = true := by first | (simp [plainName, overriddenIn]; done) | decide +kernel
theorem ef_rmI4 (m : MethodId) (x0 : Addr) (x1 : Addr) (x2 : Int32) (x3 : Int32) : entryFrame m #[(.ref x0), (.ref x1), (.int x2), (.int x3), .null] 6 = mkF m 0 #[.val (.ref x0), .val (.ref x1), .val (.int x2), .val (.int x3), .val .null, .unset] [] := by first | (simp [entryFrame, mkF, argsToLocals, Value.category]; done) | rfl
def QrmI4 (Z : State) (a1 : Addr) (a2 : Addr) (nN : Nat) (g : Nat → Int32) (zc : Int32) (h0 : Heap) (n0 : Nat) (v : Option Value) (h : Heap) (L : List Loc) : Prop := v = none ∧ Fr n0 L ∧ Keep h0 h [a1] ∧ ∃ t : Addr, own_L Z h a1 t nN g
set_option maxRecDepth 65536 in
set_option maxHeartbeats 40000000 in
theorem rmI4 (l : Launch) (Z : State) (a0 : Array Value) (hw : ∀ d ∈ tables_1, d.before a0 Z = true) (ws : List Jvm.Cond) (a1 : Addr) (a2 : Addr) (nN : Nat) (g : Nat → Int32) (zc : Int32) (h0 : Heap) (n0 : Nat) (Z0 : n0 ≤ h0.size) (E_o : Exa Z h0 a1 "java/lang/String") (F_v : Fld Z h0 a1 "java/lang/String" "value" "[B" .null) (F_c : Fld Z h0 a1 "java/lang/String" "coder" "B" (.int (0 : Int32))) (g_a1 : n0 ≤ a1) (O : Old Z n0 h0) (S_c : Sta Z Z.heap "java/lang/String" "COMPACT_STRINGS" "Z" (.int zc)) (hzc : ¬ zc = 0) (b0 : 1 ≤ nN) (b1 : nN ≤ 6) (lt : own_lat nN g) (V : own_Af Z h0 a2 .char nN g) :
    MetFree l (⟨"java/lang/String", "<init>", "([CIILjava/lang/Void;)V"⟩ : MethodName) (head1 (Jvm.Cond.code (⟨"java/lang/String", "<init>", "([CIILjava/lang/Void;)V"⟩ : MethodName) jdk_42_method_149_code 6 none :: ws) ({ frames := 2, cells := 1, slots := 6, locals := 35 } : Room)) (fun a U => a = #[(.ref a1), (.ref a2), (.int (0 : Int32)), (.int (Int32.ofNat nN)), .null] ∧ Z.Warmed39 U.vm ∧ U.heap = h0) (fun _ _ _ _ _ => True) (fun _ U o U' => ∃ v L, o = .returned v ∧ QrmI4 Z a1 a2 nN g zc h0 n0 v U'.heap L ∧ FrameEnd U o U' L ({ frames := 2, cells := 1, slots := 6, locals := 35 } : Room).cells ({ frames := 2, cells := 1, slots := 6, locals := 35 } : Room).slots) := by
  refine MetFree.of_bodySF (plainFor_of_name pn_1) hisR ?_
  intro p e s m args below meth c s₁ Bd hml0 hP hK
  obtain ⟨rfl, hZ, hh⟩ := hP
  have hx := Bd.exec
  have hby := Bd.bytes
  have hml : c.maxLocals = 6 := hml0
  have hown : s.vm.findClass "java/lang/String" = some m.cls := findClass_of_methodNamed Bd.named
  have hnm := (name_of_methodNamed Bd.named Bd.method).1
  have X0 : Stand p l e ({ frames := 2, cells := 1, slots := 6, locals := 35 } : Room) s m #[(.ref a1), (.ref a2), (.int (0 : Int32)), (.int (Int32.ofNat nN)), .null] below meth c s₁ [] 0 0 := Stand.of_body Bd
  have e0 : s₁.heap = h0 := by rw [← hh, Bd.state]; rfl
  have N0 := Fr.nil n0
  have pre0 : ∀ t_, Steps p.tables e below (s₁.setTop (mkF m 0 #[.val (.ref a1), .val (.ref a2), .val (.int (0 : Int32)), .val (.int (Int32.ofNat nN)), .val .null, .unset] [])) t_ → Steps p.tables e below (s₁.setTop (entryFrame m #[(.ref a1), (.ref a2), (.int (0 : Int32)), (.int (Int32.ofNat nN)), .null] 6)) t_ := fun t_ k_ => castTop (ef_rmI4 m a1 a2 ((0 : Int32)) ((Int32.ofNat nN))) k_
  obtain ⟨T101, X101, e101, st101⟩ := initO X0 hx hZ hown (hw _ (List.mem_of_getElem? (i := 11) rfl)) (hw _ (List.mem_of_getElem? (i := 12) rfl)) (hw _ (List.mem_of_getElem? (i := 13) rfl)) e0 (g := (mkF m 1 #[.val (.ref a1), .val (.ref a2), .val (.int (0 : Int32)), .val (.int (Int32.ofNat nN)), .val .null, .unset] [(.ref a1)])) rfl (by rw [hml]; rfl) rfl (hb hby d2_1) (by decide) (W := 0) (by show 2 * 0 + _ ≤ _; exact Nat.le_of_eq rfl) (by decide)
  obtain ⟨T102, X102, e102, st102⟩ := getS2 X101 hx hZ hown (host := "") (Or.inl (hw _ (List.mem_of_getElem? (i := 72) rfl))) Via.refl e101 (S_c.ext O.2) (g := (mkF m 27 #[.val (.ref a1), .val (.ref a2), .val (.int (0 : Int32)), .val (.int (Int32.ofNat nN)), .val .null, .unset] [])) rfl (hb hby d2_27)
  obtain ⟨_, _, ⟨T103, L103, k103, n103⟩, -, X103, ⟨Lc103, hQ103, l103, y103, z103⟩, st103⟩ := Jvm.LawKit.callS X102 hx (y := (⟨"java/lang/StringUTF16", "compress", "([CII)[B"⟩ : MethodName)) hown (mvT hZ (hw _ (List.mem_of_getElem? (i := 136) rfl))) (mvT hZ (hw _ (List.mem_of_getElem? (i := 137) rfl))) (mvT hZ (hw _ (List.mem_of_getElem? (i := 138) rfl))) (mvT hZ (hw _ (List.mem_of_getElem? (i := 139) rfl))) (by decide) (backOf (W := 0) (rmCB l Z a0 hw [] a2 nN g h0 n0 Z0 b1 lt V) hZ (hw _ (List.mem_of_getElem? (i := 139) rfl)) (hw _ (List.mem_of_getElem? (i := 138) rfl)) (by decide) (by decide)) (g := (mkF m 36 #[.val (.ref a1), .val (.ref a2), .val (.int (0 : Int32)), .val (.int (Int32.ofNat nN)), .val .null, .unset] [(.int (Int32.ofNat nN)), (.int (0 : Int32)), (.ref a2)])) rfl (by rw [hml]; rfl) (argsL := [(.ref a2), (.int (0 : Int32)), (.int (Int32.ofNat nN))]) (rest := []) (lenOf pd_2 rfl) rfl (by show 2 * 0 + _ ≤ _; exact Nat.le_of_eq rfl) (hb hby d2_36) (fun _ _ => ⟨rfl, e102, (by decide : 0 + 1 ≤ _), (by decide : 0 + 6 ≤ _)⟩)
  dsimp only [Pt.U, Pt.locs, Pt.cells, Pt.slots] at X103 l103 y103 z103 st103 hQ103
  subst l103 y103 z103
  obtain ⟨x, rfl, N103q, K103, AF, EX, gx⟩ := hQ103
  have N103 := Fr.app N0 N103q
  have E_104 := E_o.keep K103
  have Fv_105 := F_v.keep K103 nin0
  have Fc_106 := F_c.keep K103 nin0
  have Z107 : n0 ≤ T103.heap.size := Nat.le_trans Z0 (K103.1)
  have KK := (Keep.refl h0 [a1]).trans K103 (fun _ q => nomatch q)
  have nex : x ≠ a1 := Ne.symm (Nat.ne_of_lt (Nat.lt_of_lt_of_le E_o.lt gx))
  obtain ⟨_, _, ⟨T108, L108, k108, n108⟩, -, X108, ⟨Lc108, hQ108, l108, y108, z108⟩, st108⟩ := Jvm.LawKit.callS X103 hx (y := (⟨"java/lang/StringUTF16", "coderFromArrayLen", "([BI)B"⟩ : MethodName)) hown (mvT hZ (hw _ (List.mem_of_getElem? (i := 143) rfl))) (mvT hZ (hw _ (List.mem_of_getElem? (i := 144) rfl))) (mvT hZ (hw _ (List.mem_of_getElem? (i := 138) rfl))) (mvT hZ (hw _ (List.mem_of_getElem? (i := 145) rfl))) (by decide) (backOf (W := 1) (rmCF l Z a0 hw [] x nN nN (fun j => own_b8 (g j)) T103.heap n0 Z107 b0 b1 (Or.inl rfl) AF) hZ (hw _ (List.mem_of_getElem? (i := 145) rfl)) (hw _ (List.mem_of_getElem? (i := 138) rfl)) (by decide) (by decide)) (g := (mkF m 45 #[.val (.ref a1), .val (.ref a2), .val (.int (0 : Int32)), .val (.int (Int32.ofNat nN)), .val .null, .val (.ref x)] [(.int (Int32.ofNat nN)), (.ref x), (.ref a1)])) rfl (by rw [hml]; rfl) (argsL := [(.ref x), (.int (Int32.ofNat nN))]) (rest := [(.ref a1)]) (lenOf pd_3 rfl) rfl (by show 2 * 0 + _ ≤ _; exact Nat.le_of_eq rfl) (hb hby d2_45) (fun _ _ => ⟨rfl, rfl, (by decide : 1 + 0 ≤ _), (by decide : 6 + 0 ≤ _)⟩)
  dsimp only [Pt.U, Pt.locs, Pt.cells, Pt.slots] at X108 l108 y108 z108 st108 hQ108
  subst l108 y108 z108
  obtain ⟨rfl, N108q, e108⟩ := hQ108
  have N108 := Fr.app N103 N108q
  obtain ⟨T109, h109, X109, e109, W109, st109⟩ := putFN X108 hx hZ hown (hw _ (List.mem_of_getElem? (i := 21) rfl)) Via.refl e108 Fc_106 E_104 (Or.inr ⟨(hw _ (List.mem_of_getElem? (i := 17) rfl)), rfl, hnm⟩) (hw _ (List.mem_of_getElem? (i := 2) rfl)) (ty := .byte) (v' := (.int (nar .byte (own_cd nN nN)))) (by decide) rfl (fits_nar_byte _) (g := (mkF m 48 #[.val (.ref a1), .val (.ref a2), .val (.int (0 : Int32)), .val (.int (Int32.ofNat nN)), .val .null, .val (.ref x)] [(.int (own_cd nN nN)), (.ref a1)])) rfl rfl (hb hby d2_48)
  have Fv_110 := Fv_105.other W109 (Or.inr (slot_ne (Or.inr (hw _ (List.mem_of_getElem? (i := 16) rfl))) (Or.inr (hw _ (List.mem_of_getElem? (i := 17) rfl))) (by decide) (t := (.array .byte)) (t' := .byte) (by decide) (by decide)))
  have E_111 := E_104.wr W109
  have K_112 := KK.wr W109 (Or.inl (List.mem_of_getElem? (i := 0) rfl))
  have EX_113 := EX.wr W109
  have Fc_114 := Fc_106.same W109
  have N109 := Fr.snoc X109 N108 g_a1
  have Z115 : n0 ≤ h109.size := Nat.le_trans Z107 ((Keep.of_wr W109).1)
  have AF2 := own_Afkeep AF (Keep.of_wr W109) (ninS nex nin0)
  obtain ⟨T116, h116, X116, e116, W116, st116⟩ := putF X109 hx hZ hown (host := "") (Or.inl (hw _ (List.mem_of_getElem? (i := 20) rfl))) Via.refl e109 Fv_110 E_111 (Or.inr ⟨(hw _ (List.mem_of_getElem? (i := 16) rfl)), rfl, hnm⟩) (hw _ (List.mem_of_getElem? (i := 2) rfl)) (ty := (.array .byte)) (by decide) rfl rfl (g := (mkF m 54 #[.val (.ref a1), .val (.ref a2), .val (.int (0 : Int32)), .val (.int (Int32.ofNat nN)), .val .null, .val (.ref x)] [(.ref x), (.ref a1)])) rfl rfl (hb hby d2_54)
  have Fc_117 := Fc_114.other W116 (Or.inr (slot_ne (Or.inr (hw _ (List.mem_of_getElem? (i := 17) rfl))) (Or.inr (hw _ (List.mem_of_getElem? (i := 16) rfl))) (by decide) (t := .byte) (t' := (.array .byte)) (by decide) (by decide)))
  have E_118 := E_111.wr W116
  have K_119 := K_112.wr W116 (Or.inl (List.mem_of_getElem? (i := 0) rfl))
  have EX_120 := EX_113.wr W116
  have Fv_121 := Fv_110.same W116
  have N116 := Fr.snoc X116 N109 g_a1
  have Z122 : n0 ≤ h116.size := Nat.le_trans Z115 ((Keep.of_wr W116).1)
  have AF3 := own_Afkeep AF2 (Keep.of_wr W116) (ninS nex nin0)
  have Fc3 := Fc_117
  rw [own_cdn, own_cd, if_pos rfl] at Fc3
  have pre123 : ∀ t_, Steps p.tables e below (T116.setTop (mkF m 57 #[.val (.ref a1), .val (.ref a2), .val (.int (0 : Int32)), .val (.int (Int32.ofNat nN)), .val .null, .val (.ref x)] [])) t_ → Steps p.tables e below (s₁.setTop (entryFrame m #[(.ref a1), (.ref a2), (.int (0 : Int32)), (.int (Int32.ofNat nN)), .null] 6)) t_ := fun t_ k_ => pre0 _ (by
    show Steps p.tables e below (s₁.setTop (mkF m 0 #[.val (.ref a1), .val (.ref a2), .val (.int (0 : Int32)), .val (.int (Int32.ofNat nN)), .val .null, .unset] [])) _
    refine XS.aloadN X0.here hx rfl (hb hby d2_0) rfl rfl ?_
    show Steps p.tables e below (s₁.setTop (mkF m 1 #[.val (.ref a1), .val (.ref a2), .val (.int (0 : Int32)), .val (.int (Int32.ofNat nN)), .val .null, .unset] [(.ref a1)])) _
    refine st101 _ ?_
    show Steps p.tables e below (T101.setTop (mkF m 4 #[.val (.ref a1), .val (.ref a2), .val (.int (0 : Int32)), .val (.int (Int32.ofNat nN)), .val .null, .unset] [])) _
    refine XS.iloadN X101.here hx rfl (hb hby d2_4) rfl ?_
    show Steps p.tables e below (T101.setTop (mkF m 5 #[.val (.ref a1), .val (.ref a2), .val (.int (0 : Int32)), .val (.int (Int32.ofNat nN)), .val .null, .unset] [(.int (Int32.ofNat nN))])) _
    refine XS.ifYes X101.here hx rfl (pc0 := 5) (pc' := 27) rfl (hb hby d2_5) rfl ((if0 _ _).trans (feq (own_ofne (b := 0) (by omega) (by omega) (by omega))).2) (by decide) (by decide) ?_
    show Steps p.tables e below (T101.setTop (mkF m 27 #[.val (.ref a1), .val (.ref a2), .val (.int (0 : Int32)), .val (.int (Int32.ofNat nN)), .val .null, .unset] [])) _
    refine st102 _ ?_
    show Steps p.tables e below (T102.setTop (mkF m 30 #[.val (.ref a1), .val (.ref a2), .val (.int (0 : Int32)), .val (.int (Int32.ofNat nN)), .val .null, .unset] [(.int zc)])) _
    refine XS.ifNo X102.here hx rfl (hb hby d2_30) rfl ((if0 _ _).trans (feq hzc).1) ?_
    show Steps p.tables e below (T102.setTop (mkF m 33 #[.val (.ref a1), .val (.ref a2), .val (.int (0 : Int32)), .val (.int (Int32.ofNat nN)), .val .null, .unset] [])) _
    refine XS.aloadN X102.here hx rfl (hb hby d2_33) rfl rfl ?_
    show Steps p.tables e below (T102.setTop (mkF m 34 #[.val (.ref a1), .val (.ref a2), .val (.int (0 : Int32)), .val (.int (Int32.ofNat nN)), .val .null, .unset] [(.ref a2)])) _
    refine XS.iloadN X102.here hx rfl (hb hby d2_34) rfl ?_
    show Steps p.tables e below (T102.setTop (mkF m 35 #[.val (.ref a1), .val (.ref a2), .val (.int (0 : Int32)), .val (.int (Int32.ofNat nN)), .val .null, .unset] [(.int (0 : Int32)), (.ref a2)])) _
    refine XS.iloadN X102.here hx rfl (hb hby d2_35) rfl ?_
    show Steps p.tables e below (T102.setTop (mkF m 36 #[.val (.ref a1), .val (.ref a2), .val (.int (0 : Int32)), .val (.int (Int32.ofNat nN)), .val .null, .unset] [(.int (Int32.ofNat nN)), (.int (0 : Int32)), (.ref a2)])) _
    refine st103 _ ?_
    show Steps p.tables e below (T103.setTop (mkF m 39 #[.val (.ref a1), .val (.ref a2), .val (.int (0 : Int32)), .val (.int (Int32.ofNat nN)), .val .null, .unset] [(.ref x)])) _
    refine XS.astore X103.here hx rfl (hb hby d2_39) rfl rfl (l' := #[.val (.ref a1), .val (.ref a2), .val (.int (0 : Int32)), .val (.int (Int32.ofNat nN)), .val .null, .val (.ref x)]) rfl ?_
    show Steps p.tables e below (T103.setTop (mkF m 41 #[.val (.ref a1), .val (.ref a2), .val (.int (0 : Int32)), .val (.int (Int32.ofNat nN)), .val .null, .val (.ref x)] [])) _
    refine XS.aloadN X103.here hx rfl (hb hby d2_41) rfl rfl ?_
    show Steps p.tables e below (T103.setTop (mkF m 42 #[.val (.ref a1), .val (.ref a2), .val (.int (0 : Int32)), .val (.int (Int32.ofNat nN)), .val .null, .val (.ref x)] [(.ref a1)])) _
    refine XS.aload X103.here hx rfl (hb hby d2_42) rfl rfl ?_
    show Steps p.tables e below (T103.setTop (mkF m 44 #[.val (.ref a1), .val (.ref a2), .val (.int (0 : Int32)), .val (.int (Int32.ofNat nN)), .val .null, .val (.ref x)] [(.ref x), (.ref a1)])) _
    refine XS.iloadN X103.here hx rfl (hb hby d2_44) rfl ?_
    show Steps p.tables e below (T103.setTop (mkF m 45 #[.val (.ref a1), .val (.ref a2), .val (.int (0 : Int32)), .val (.int (Int32.ofNat nN)), .val .null, .val (.ref x)] [(.int (Int32.ofNat nN)), (.ref x), (.ref a1)])) _
    refine st108 _ ?_
    show Steps p.tables e below (T108.setTop (mkF m 48 #[.val (.ref a1), .val (.ref a2), .val (.int (0 : Int32)), .val (.int (Int32.ofNat nN)), .val .null, .val (.ref x)] [(.int (own_cd nN nN)), (.ref a1)])) _
    refine st109 _ ?_
    show Steps p.tables e below (T109.setTop (mkF m 51 #[.val (.ref a1), .val (.ref a2), .val (.int (0 : Int32)), .val (.int (Int32.ofNat nN)), .val .null, .val (.ref x)] [])) _
    refine XS.aloadN X109.here hx rfl (hb hby d2_51) rfl rfl ?_
    show Steps p.tables e below (T109.setTop (mkF m 52 #[.val (.ref a1), .val (.ref a2), .val (.int (0 : Int32)), .val (.int (Int32.ofNat nN)), .val .null, .val (.ref x)] [(.ref a1)])) _
    refine XS.aload X109.here hx rfl (hb hby d2_52) rfl rfl ?_
    show Steps p.tables e below (T109.setTop (mkF m 54 #[.val (.ref a1), .val (.ref a2), .val (.int (0 : Int32)), .val (.int (Int32.ofNat nN)), .val .null, .val (.ref x)] [(.ref x), (.ref a1)])) _
    refine st116 _ ?_
    exact k_)
  obtain ⟨fs, hr, hrun, hended, hW, hsame⟩ := X116.leave (v := none) (fun _ => rfl)
  refine ⟨_, _, pre123 _ ?_, hrun, hended, _, _, rfl, ?_, ⟨_, rfl⟩, hW, hsame.mono (by decide) (by decide)⟩
  · show Steps p.tables e below (T116.setTop (mkF m 57 #[.val (.ref a1), .val (.ref a2), .val (.int (0 : Int32)), .val (.int (Int32.ofNat nN)), .val .null, .val (.ref x)] [])) _
    exact X116.returnOut hx Bd.returns (hb hby d2_57) hr
  · show QrmI4 Z a1 a2 nN g zc h0 n0 _ T116.heap _
    rw [e116]
    exact ⟨rfl, N116, K_119, x, E_118, Fv_121, Fc3, AF3, EX_120⟩
theorem pd_4 : parseMethodDescriptor "([CIILjava/lang/Void;)V" = some ⟨[(.array .char), .int, .int, (.object "java/lang/Void")], none⟩ := by decide +kernel
theorem d1_0 : decode jdk_42_method_3_code 0 = .ok (.aload_n 0, 1) := by decide +kernel
theorem d1_1 : decode jdk_42_method_3_code 1 = .ok (.aload_n 1, 1) := by decide +kernel
theorem d1_2 : decode jdk_42_method_3_code 2 = .ok (.iconst 0, 1) := by decide +kernel
theorem d1_3 : decode jdk_42_method_3_code 3 = .ok (.aload_n 1, 1) := by decide +kernel
theorem d1_4 : decode jdk_42_method_3_code 4 = .ok (.arraylength, 1) := by decide +kernel
theorem d1_5 : decode jdk_42_method_3_code 5 = .ok (.aconst_null, 1) := by decide +kernel
theorem d1_6 : decode jdk_42_method_3_code 6 = .ok (.invokespecial 27, 3) := by decide +kernel
theorem d1_9 : decode jdk_42_method_3_code 9 = .ok (.return_, 1) := by decide +kernel
theorem ef_rmI1 (m : MethodId) (x0 : Addr) (x1 : Addr) : entryFrame m #[(.ref x0), (.ref x1)] 2 = mkF m 0 #[.val (.ref x0), .val (.ref x1)] [] := by first | (simp [entryFrame, mkF, argsToLocals, Value.category]; done) | rfl
def QrmI1 (Z : State) (a1 : Addr) (a2 : Addr) (nN : Nat) (g : Nat → Int32) (zc : Int32) (h0 : Heap) (n0 : Nat) (v : Option Value) (h : Heap) (L : List Loc) : Prop := v = none ∧ Fr n0 L ∧ Keep h0 h [a1] ∧ ∃ t : Addr, own_L Z h a1 t nN g
set_option maxRecDepth 65536 in
set_option maxHeartbeats 40000000 in
theorem rmI1 (l : Launch) (Z : State) (a0 : Array Value) (hw : ∀ d ∈ tables_1, d.before a0 Z = true) (ws : List Jvm.Cond) (a1 : Addr) (a2 : Addr) (nN : Nat) (g : Nat → Int32) (zc : Int32) (h0 : Heap) (n0 : Nat) (Z0 : n0 ≤ h0.size) (E_o : Exa Z h0 a1 "java/lang/String") (F_v : Fld Z h0 a1 "java/lang/String" "value" "[B" .null) (F_c : Fld Z h0 a1 "java/lang/String" "coder" "B" (.int (0 : Int32))) (g_a1 : n0 ≤ a1) (O : Old Z n0 h0) (S_c : Sta Z Z.heap "java/lang/String" "COMPACT_STRINGS" "Z" (.int zc)) (hzc : ¬ zc = 0) (b0 : 1 ≤ nN) (b1 : nN ≤ 6) (lt : own_lat nN g) (V : own_Af Z h0 a2 .char nN g) :
    MetFree l (⟨"java/lang/String", "<init>", "([C)V"⟩ : MethodName) (head1 (Jvm.Cond.code (⟨"java/lang/String", "<init>", "([C)V"⟩ : MethodName) jdk_42_method_3_code 2 none :: ws) ({ frames := 3, cells := 1, slots := 6, locals := 52 } : Room)) (fun a U => a = #[(.ref a1), (.ref a2)] ∧ Z.Warmed39 U.vm ∧ U.heap = h0) (fun _ _ _ _ _ => True) (fun _ U o U' => ∃ v L, o = .returned v ∧ QrmI1 Z a1 a2 nN g zc h0 n0 v U'.heap L ∧ FrameEnd U o U' L ({ frames := 3, cells := 1, slots := 6, locals := 52 } : Room).cells ({ frames := 3, cells := 1, slots := 6, locals := 52 } : Room).slots) := by
  refine MetFree.of_bodySF (plainFor_of_name pn_1) hisR ?_
  intro p e s m args below meth c s₁ Bd hml0 hP hK
  obtain ⟨rfl, hZ, hh⟩ := hP
  have hx := Bd.exec
  have hby := Bd.bytes
  have hml : c.maxLocals = 2 := hml0
  have hown : s.vm.findClass "java/lang/String" = some m.cls := findClass_of_methodNamed Bd.named
  have hnm := (name_of_methodNamed Bd.named Bd.method).1
  have X0 : Stand p l e ({ frames := 3, cells := 1, slots := 6, locals := 52 } : Room) s m #[(.ref a1), (.ref a2)] below meth c s₁ [] 0 0 := Stand.of_body Bd
  have e0 : s₁.heap = h0 := by rw [← hh, Bd.state]; rfl
  have N0 := Fr.nil n0
  have pre0 : ∀ t_, Steps p.tables e below (s₁.setTop (mkF m 0 #[.val (.ref a1), .val (.ref a2)] [])) t_ → Steps p.tables e below (s₁.setTop (entryFrame m #[(.ref a1), (.ref a2)] 2)) t_ := fun t_ k_ => castTop (ef_rmI1 m a1 a2) k_
  obtain ⟨cl, Ar, Sz, Hs⟩ := id V
  have Sz2 : cl.slots.size = (Int32.ofNat nN).toNatClampNeg := by rw [Sz, own_ofc (by omega)]
  obtain ⟨_, _, ⟨T101, L101, k101, n101⟩, -, X101, ⟨Lc101, hQ101, l101, y101, z101⟩, st101⟩ := X0.specialBack hx (y := (⟨"java/lang/String", "<init>", "([CIILjava/lang/Void;)V"⟩ : MethodName)) rfl hown (mvT hZ (hw _ (List.mem_of_getElem? (i := 7) rfl))) (mvT hZ (hw _ (List.mem_of_getElem? (i := 8) rfl))) (mvT hZ (hw _ (List.mem_of_getElem? (i := 10) rfl))) (by decide) (backOf (W := 0) (rmI4 l Z a0 hw [] a1 a2 nN g zc h0 n0 Z0 E_o F_v F_c g_a1 O S_c hzc b0 b1 lt V) hZ (hw _ (List.mem_of_getElem? (i := 10) rfl)) (hw _ (List.mem_of_getElem? (i := 3) rfl)) (by decide) (by decide)) (g := (mkF m 6 #[.val (.ref a1), .val (.ref a2)] [.null, (.int (Int32.ofNat nN)), (.int (0 : Int32)), (.ref a2), (.ref a1)])) rfl (by rw [hml]; rfl) (Steps.refl _) (a := a1) (argsL := [(.ref a2), (.int (0 : Int32)), (.int (Int32.ofNat nN)), .null]) (rest := []) (lenOf pd_4 rfl) rfl (by show 2 * 0 + _ ≤ _; exact Nat.le_of_eq rfl) (hb hby d1_6) (fun _ _ => ⟨rfl, e0, (by decide : 0 + 1 ≤ _), (by decide : 0 + 6 ≤ _)⟩)
  dsimp only [Pt.U, Pt.locs, Pt.cells, Pt.slots] at X101 l101 y101 z101 st101 hQ101
  subst l101 y101 z101
  obtain ⟨rfl, N101q, K101, Z101⟩ := hQ101
  have N101 := Fr.app N0 N101q
  have pre102 : ∀ t_, Steps p.tables e below (T101.setTop (mkF m 9 #[.val (.ref a1), .val (.ref a2)] [])) t_ → Steps p.tables e below (s₁.setTop (entryFrame m #[(.ref a1), (.ref a2)] 2)) t_ := fun t_ k_ => pre0 _ (by
    show Steps p.tables e below (s₁.setTop (mkF m 0 #[.val (.ref a1), .val (.ref a2)] [])) _
    refine XS.aloadN X0.here hx rfl (hb hby d1_0) rfl rfl ?_
    show Steps p.tables e below (s₁.setTop (mkF m 1 #[.val (.ref a1), .val (.ref a2)] [(.ref a1)])) _
    refine XS.aloadN X0.here hx rfl (hb hby d1_1) rfl rfl ?_
    show Steps p.tables e below (s₁.setTop (mkF m 2 #[.val (.ref a1), .val (.ref a2)] [(.ref a2), (.ref a1)])) _
    refine XS.iconst X0.here hx rfl (hb hby d1_2) ?_
    show Steps p.tables e below (s₁.setTop (mkF m 3 #[.val (.ref a1), .val (.ref a2)] [(.int (0 : Int32)), (.ref a2), (.ref a1)])) _
    refine XS.aloadN X0.here hx rfl (hb hby d1_3) rfl rfl ?_
    show Steps p.tables e below (s₁.setTop (mkF m 4 #[.val (.ref a1), .val (.ref a2)] [(.ref a2), (.int (0 : Int32)), (.ref a2), (.ref a1)])) _
    refine X0.arraylength hx (by rw [e0]; exact Ar.1) (State.isArrayOf_alike hZ.alike Ar.2.1) (g := (mkF m 4 #[.val (.ref a1), .val (.ref a2)] [(.ref a2), (.int (0 : Int32)), (.ref a2), (.ref a1)])) rfl rfl (hb hby d1_4) _ ?_
    rw [len_of Sz2 (own_ofn0 (a := nN) (by omega))]
    show Steps p.tables e below (s₁.setTop (mkF m 5 #[.val (.ref a1), .val (.ref a2)] [(.int (Int32.ofNat nN)), (.int (0 : Int32)), (.ref a2), (.ref a1)])) _
    refine XS.aconstNull X0.here hx rfl (hb hby d1_5) ?_
    show Steps p.tables e below (s₁.setTop (mkF m 6 #[.val (.ref a1), .val (.ref a2)] [.null, (.int (Int32.ofNat nN)), (.int (0 : Int32)), (.ref a2), (.ref a1)])) _
    refine st101.trans ?_
    exact k_)
  obtain ⟨fs, hr, hrun, hended, hW, hsame⟩ := X101.leave (v := none) (fun _ => rfl)
  refine ⟨_, _, pre102 _ ?_, hrun, hended, _, _, rfl, ?_, ⟨_, rfl⟩, hW, hsame.mono (by decide) (by decide)⟩
  · show Steps p.tables e below (T101.setTop (mkF m 9 #[.val (.ref a1), .val (.ref a2)] [])) _
    exact X101.returnOut hx Bd.returns (hb hby d1_9) hr
  · show QrmI1 Z a1 a2 nN g zc h0 n0 _ T101.heap _
    exact ⟨rfl, N101, K101, Z101⟩
theorem d2_8 : decode jdk_42_method_149_code 8 = .ok (.aload_n 0, 1) := by decide +kernel
theorem d2_9 : decode jdk_42_method_149_code 9 = .ok (.ldc 7, 2) := by decide +kernel
theorem d2_11 : decode jdk_42_method_149_code 11 = .ok (.getfield 9, 3) := by decide +kernel
theorem d2_14 : decode jdk_42_method_149_code 14 = .ok (.putfield 9, 3) := by decide +kernel
theorem d2_17 : decode jdk_42_method_149_code 17 = .ok (.aload_n 0, 1) := by decide +kernel
theorem d2_18 : decode jdk_42_method_149_code 18 = .ok (.ldc 7, 2) := by decide +kernel
theorem d2_20 : decode jdk_42_method_149_code 20 = .ok (.getfield 15, 3) := by decide +kernel
theorem d2_23 : decode jdk_42_method_149_code 23 = .ok (.putfield 15, 3) := by decide +kernel
theorem d2_26 : decode jdk_42_method_149_code 26 = .ok (.return_, 1) := by decide +kernel
theorem ef_rmS4 (m : MethodId) (x0 : Addr) (x1 : Addr) (x2 : Int32) (x3 : Int32) : entryFrame m #[(.ref x0), (.ref x1), (.int x3), (.int x3), .null] 6 = mkF m 0 #[.val (.ref x0), .val (.ref x1), .val (.int x3), .val (.int x3), .val .null, .unset] [] := by first | (simp [entryFrame, mkF, argsToLocals, Value.category]; done) | rfl
def QrmS4 (Z : State) (a1 : Addr) (a2 : Addr) (h0 : Heap) (n0 : Nat) (v : Option Value) (h : Heap) (L : List Loc) : Prop := v = none ∧ Fr n0 L ∧ Keep h0 h [a1] ∧ ∃ (t : Addr) (kb : ClassId), Exa Z h a1 "java/lang/String" ∧ Fld Z h a1 "java/lang/String" "value" "[B" (.ref t) ∧ Fld Z h a1 "java/lang/String" "coder" "B" (.int (0 : Int32)) ∧ Arv Z h t kb .byte (0 : Int32) [] (.int (0 : Int32)) ∧ Exa Z h t "[B"
set_option maxRecDepth 65536 in
set_option maxHeartbeats 40000000 in
theorem rmS4 (l : Launch) (Z : State) (a0 : Array Value) (hw : ∀ d ∈ tables_1, d.before a0 Z = true) (ws : List Jvm.Cond) (a1 : Addr) (a2 : Addr) (h0 : Heap) (n0 : Nat) (Z0 : n0 ≤ h0.size) (E_o : Exa Z h0 a1 "java/lang/String") (F_v : Fld Z h0 a1 "java/lang/String" "value" "[B" .null) (F_c : Fld Z h0 a1 "java/lang/String" "coder" "B" (.int (0 : Int32))) (g_a1 : n0 ≤ a1) :
    MetFree l (⟨"java/lang/String", "<init>", "([CIILjava/lang/Void;)V"⟩ : MethodName) (head1 (Jvm.Cond.code (⟨"java/lang/String", "<init>", "([CIILjava/lang/Void;)V"⟩ : MethodName) jdk_42_method_149_code 6 none :: ws) ({ frames := 1, cells := 4, slots := 8, locals := 12 } : Room)) (fun a U => a = #[(.ref a1), (.ref a2), (.int (0 : Int32)), (.int (0 : Int32)), .null] ∧ Z.Warmed39 U.vm ∧ U.heap = h0 ∧ CHv Z own_EL U.vm h0) (fun _ _ _ _ _ => True) (fun _ U o U' => ∃ v L, o = .returned v ∧ QrmS4 Z a1 a2 h0 n0 v U'.heap L ∧ CHr Z own_EL U.vm U.heap U'.vm U'.heap ∧ ReturnedEndW U o U' L ({ frames := 1, cells := 4, slots := 8, locals := 12 } : Room).cells ({ frames := 1, cells := 4, slots := 8, locals := 12 } : Room).slots) := by
  refine MetFree.of_bodySF (plainFor_of_name pn_1) hisR ?_
  intro p e s m args below meth c s₁ Bd hml0 hP hK
  obtain ⟨rfl, hZ, hh, hH⟩ := hP
  have hx := Bd.exec
  have hby := Bd.bytes
  have hml : c.maxLocals = 6 := hml0
  have hown : s.vm.findClass "java/lang/String" = some m.cls := findClass_of_methodNamed Bd.named
  have hnm := (name_of_methodNamed Bd.named Bd.method).1
  have X0 : Stand p l e ({ frames := 1, cells := 4, slots := 8, locals := 12 } : Room) s m #[(.ref a1), (.ref a2), (.int (0 : Int32)), (.int (0 : Int32)), .null] below meth c s₁ [] 0 0 := Stand.of_body Bd
  have e0 : s₁.heap = h0 := by rw [← hh, Bd.state]; rfl
  have N0 := Fr.nil n0
  have pre0 : ∀ t_, Steps p.tables e below (s₁.setTop (mkF m 0 #[.val (.ref a1), .val (.ref a2), .val (.int (0 : Int32)), .val (.int (0 : Int32)), .val .null, .unset] [])) t_ → Steps p.tables e below (s₁.setTop (entryFrame m #[(.ref a1), (.ref a2), (.int (0 : Int32)), (.int (0 : Int32)), .null] 6)) t_ := fun t_ k_ => castTop (ef_rmS4 m a1 a2 ((0 : Int32)) ((0 : Int32))) k_
  have sf0 := own_safe (EL := own_EL) (vm := s.vm) hZ.alike E_o F_v
  have lt0 := E_o.lt
  obtain ⟨T101, X101, e101, st101⟩ := initO X0 hx hZ hown (hw _ (List.mem_of_getElem? (i := 11) rfl)) (hw _ (List.mem_of_getElem? (i := 12) rfl)) (hw _ (List.mem_of_getElem? (i := 13) rfl)) e0 (g := (mkF m 1 #[.val (.ref a1), .val (.ref a2), .val (.int (0 : Int32)), .val (.int (0 : Int32)), .val .null, .unset] [(.ref a1)])) rfl (by rw [hml]; rfl) rfl (hb hby d2_1) (by decide) (W := 0) (by show 2 * 0 + _ ≤ _; exact Nat.le_of_eq rfl) (by decide)
  obtain ⟨lit, T102, h102, k1_102, tb, kb, X102, e102, Ext102, hS102, hk102, hZ102, hown102, E_lit, C_lit, V_lit, A_lit, -, -, hC102, -, hSf_lit, st102⟩ := Jvm.RoadKit.ldcCH (s := s) (vm0 := s.vm) X101 hx hZ hown (hw _ (List.mem_of_getElem? (i := 14) rfl)) (own_wS hw) e101 ((State.WarmedH.refl s).since 0) (Nat.zero_le _) (own_EW hw) (List.mem_of_getElem? (i := 1) rfl) (CHr.refl hH).1 (vs := []) (z := (0 : Int32)) (by first | exact ⟨by simp, by simp⟩ | decide | decide +kernel) (by decide) (by decide) (g := (mkF m 9 #[.val (.ref a1), .val (.ref a2), .val (.int (0 : Int32)), .val (.int (0 : Int32)), .val .null, .unset] [(.ref a1)])) rfl (hb hby d2_9) (n := 0) (by first | decide | decide +kernel | simp) (by decide) (by decide) (by decide)
  have E_103 := E_o.ext Ext102
  have Fv_104 := F_v.ext Ext102
  have Fc_105 := F_c.ext Ext102
  have K_106 := (Keep.refl h0 [a1]).ext Ext102
  have Z107 : n0 ≤ h102.size := Nat.le_trans Z0 (Ext102.1)
  have ch108 := (CHr.refl hH).trans hC102
  have sf1 := hC102.safe lt0 sf0
  have nel := hSf_lit a1 sf1
  have E_tb := own_litE (EL := own_EL) hZ102.alike (fun S => (hSf_lit tb S).2 rfl) A_lit
  obtain ⟨T109, X109, e109, st109⟩ := getF X102 hx hZ102 hown102 (host := "") (Or.inl (hw _ (List.mem_of_getElem? (i := 20) rfl))) Via.refl e102 V_lit (g := (mkF m 11 #[.val (.ref a1), .val (.ref a2), .val (.int (0 : Int32)), .val (.int (0 : Int32)), .val .null, .unset] [(.ref lit), (.ref a1)])) rfl rfl (hb hby d2_11)
  obtain ⟨T110, h110, X110, e110, W110, st110⟩ := putF X109 hx hZ102 hown102 (host := "") (Or.inl (hw _ (List.mem_of_getElem? (i := 20) rfl))) Via.refl e109 Fv_104 E_103 (Or.inr ⟨(hw _ (List.mem_of_getElem? (i := 16) rfl)), rfl, hnm⟩) (hw _ (List.mem_of_getElem? (i := 2) rfl)) (ty := (.array .byte)) (by decide) rfl rfl (g := (mkF m 14 #[.val (.ref a1), .val (.ref a2), .val (.int (0 : Int32)), .val (.int (0 : Int32)), .val .null, .unset] [(.ref tb), (.ref a1)])) rfl rfl (hb hby d2_14)
  have Fc_111 := Fc_105.other W110 (Or.inr (slot_ne (Or.inr (hw _ (List.mem_of_getElem? (i := 17) rfl))) (Or.inr (hw _ (List.mem_of_getElem? (i := 16) rfl))) (by decide) (t := .byte) (t' := (.array .byte)) (by decide) (by decide)))
  have E_112 := E_103.wr W110
  have K_113 := K_106.wr W110 (Or.inl (List.mem_of_getElem? (i := 0) rfl))
  have At_116 := A_lit.other W110 nel.2.symm
  have Et_117 := E_tb.wr W110
  have Fv_118 := Fv_104.same W110
  have N110 := Fr.snoc X110 N0 g_a1
  have Z119 : n0 ≤ h110.size := Nat.le_trans Z107 ((Keep.of_wr W110).1)
  have hk120 := Nat.le_trans hk102 ((Keep.of_wr W110).1)
  have sf2 := Safe.wr W110 sf1 ch108.1 sf1
  have lt1 := E_112.lt
  have ch121 := ch108.trans (CHr.wr W110 sf1 ch108.1)
  obtain ⟨lit2, T122, h122, k1_122, tb2, kb2, X122, e122, Ext122, hS122, hk122, hZ122, hown122, E_lit2, C_lit2, V_lit2, A_lit2, -, -, hC122, -, hSf_lit2, st122⟩ := Jvm.RoadKit.ldcCH (s := s) (vm0 := T102.vm) X110 hx hZ102 hown102 (hw _ (List.mem_of_getElem? (i := 14) rfl)) (own_wS hw) e110 hS102 hk120 (own_EW hw) (List.mem_of_getElem? (i := 1) rfl) ch121.1 (vs := []) (z := (0 : Int32)) (by first | exact ⟨by simp, by simp⟩ | decide | decide +kernel) (by decide) (by decide) (g := (mkF m 18 #[.val (.ref a1), .val (.ref a2), .val (.int (0 : Int32)), .val (.int (0 : Int32)), .val .null, .unset] [(.ref a1)])) rfl (hb hby d2_18) (n := 0) (by first | decide | decide +kernel | simp) (by decide) (by decide) (by decide)
  have E_123 := E_112.ext Ext122
  have Fv_124 := Fv_118.ext Ext122
  have Fc_125 := Fc_111.ext Ext122
  have K_126 := K_113.ext Ext122
  have At_129 := At_116.ext Ext122
  have Et_130 := Et_117.ext Ext122
  have Z131 : n0 ≤ h122.size := Nat.le_trans Z119 (Ext122.1)
  have ch132 := ch121.trans hC122
  have sf3 := hC122.safe lt1 sf2
  obtain ⟨T133, X133, e133, st133⟩ := getF X122 hx hZ122 hown122 (host := "") (Or.inl (hw _ (List.mem_of_getElem? (i := 21) rfl))) Via.refl e122 C_lit2 (g := (mkF m 20 #[.val (.ref a1), .val (.ref a2), .val (.int (0 : Int32)), .val (.int (0 : Int32)), .val .null, .unset] [(.ref lit2), (.ref a1)])) rfl rfl (hb hby d2_20)
  obtain ⟨T134, h134, X134, e134, W134, st134⟩ := putFN X133 hx hZ122 hown122 (hw _ (List.mem_of_getElem? (i := 21) rfl)) Via.refl e133 Fc_125 E_123 (Or.inr ⟨(hw _ (List.mem_of_getElem? (i := 17) rfl)), rfl, hnm⟩) (hw _ (List.mem_of_getElem? (i := 2) rfl)) (ty := .byte) (v' := (.int (nar .byte (0 : Int32)))) (by decide) rfl (fits_nar_byte _) (g := (mkF m 23 #[.val (.ref a1), .val (.ref a2), .val (.int (0 : Int32)), .val (.int (0 : Int32)), .val .null, .unset] [(.int (0 : Int32)), (.ref a1)])) rfl rfl (hb hby d2_23)
  have Fv_135 := Fv_124.other W134 (Or.inr (slot_ne (Or.inr (hw _ (List.mem_of_getElem? (i := 16) rfl))) (Or.inr (hw _ (List.mem_of_getElem? (i := 17) rfl))) (by decide) (t := (.array .byte)) (t' := .byte) (by decide) (by decide)))
  have E_136 := E_123.wr W134
  have K_137 := K_126.wr W134 (Or.inl (List.mem_of_getElem? (i := 0) rfl))
  have At_140 := At_129.other W134 nel.2.symm
  have Et_141 := Et_130.wr W134
  have Fc_142 := Fc_125.same W134
  have N134 := Fr.snoc X134 N110 g_a1
  have Z143 : n0 ≤ h134.size := Nat.le_trans Z131 ((Keep.of_wr W134).1)
  have hk144 := Nat.le_trans hk122 ((Keep.of_wr W134).1)
  have ch145 := ch132.trans (CHr.wr W134 sf3 ch132.1)
  have pre146 : ∀ t_, Steps p.tables e below (T134.setTop (mkF m 26 #[.val (.ref a1), .val (.ref a2), .val (.int (0 : Int32)), .val (.int (0 : Int32)), .val .null, .unset] [])) t_ → Steps p.tables e below (s₁.setTop (entryFrame m #[(.ref a1), (.ref a2), (.int (0 : Int32)), (.int (0 : Int32)), .null] 6)) t_ := fun t_ k_ => pre0 _ (by
    show Steps p.tables e below (s₁.setTop (mkF m 0 #[.val (.ref a1), .val (.ref a2), .val (.int (0 : Int32)), .val (.int (0 : Int32)), .val .null, .unset] [])) _
    refine XS.aloadN X0.here hx rfl (hb hby d2_0) rfl rfl ?_
    show Steps p.tables e below (s₁.setTop (mkF m 1 #[.val (.ref a1), .val (.ref a2), .val (.int (0 : Int32)), .val (.int (0 : Int32)), .val .null, .unset] [(.ref a1)])) _
    refine st101 _ ?_
    show Steps p.tables e below (T101.setTop (mkF m 4 #[.val (.ref a1), .val (.ref a2), .val (.int (0 : Int32)), .val (.int (0 : Int32)), .val .null, .unset] [])) _
    refine XS.iloadN X101.here hx rfl (hb hby d2_4) rfl ?_
    show Steps p.tables e below (T101.setTop (mkF m 5 #[.val (.ref a1), .val (.ref a2), .val (.int (0 : Int32)), .val (.int (0 : Int32)), .val .null, .unset] [(.int (0 : Int32))])) _
    refine XS.ifNo X101.here hx rfl (hb hby d2_5) rfl ((if0 _ _).trans (teq (rfl : (0 : Int32) = 0)).2) ?_
    show Steps p.tables e below (T101.setTop (mkF m 8 #[.val (.ref a1), .val (.ref a2), .val (.int (0 : Int32)), .val (.int (0 : Int32)), .val .null, .unset] [])) _
    refine XS.aloadN X101.here hx rfl (hb hby d2_8) rfl rfl ?_
    show Steps p.tables e below (T101.setTop (mkF m 9 #[.val (.ref a1), .val (.ref a2), .val (.int (0 : Int32)), .val (.int (0 : Int32)), .val .null, .unset] [(.ref a1)])) _
    refine st102 _ ?_
    show Steps p.tables e below (T102.setTop (mkF m 11 #[.val (.ref a1), .val (.ref a2), .val (.int (0 : Int32)), .val (.int (0 : Int32)), .val .null, .unset] [(.ref lit), (.ref a1)])) _
    refine st109 _ ?_
    show Steps p.tables e below (T109.setTop (mkF m 14 #[.val (.ref a1), .val (.ref a2), .val (.int (0 : Int32)), .val (.int (0 : Int32)), .val .null, .unset] [(.ref tb), (.ref a1)])) _
    refine st110 _ ?_
    show Steps p.tables e below (T110.setTop (mkF m 17 #[.val (.ref a1), .val (.ref a2), .val (.int (0 : Int32)), .val (.int (0 : Int32)), .val .null, .unset] [])) _
    refine XS.aloadN X110.here hx rfl (hb hby d2_17) rfl rfl ?_
    show Steps p.tables e below (T110.setTop (mkF m 18 #[.val (.ref a1), .val (.ref a2), .val (.int (0 : Int32)), .val (.int (0 : Int32)), .val .null, .unset] [(.ref a1)])) _
    refine st122 _ ?_
    show Steps p.tables e below (T122.setTop (mkF m 20 #[.val (.ref a1), .val (.ref a2), .val (.int (0 : Int32)), .val (.int (0 : Int32)), .val .null, .unset] [(.ref lit2), (.ref a1)])) _
    refine st133 _ ?_
    show Steps p.tables e below (T133.setTop (mkF m 23 #[.val (.ref a1), .val (.ref a2), .val (.int (0 : Int32)), .val (.int (0 : Int32)), .val .null, .unset] [(.int (0 : Int32)), (.ref a1)])) _
    refine st134 _ ?_
    exact k_)
  obtain ⟨fs, hr, hrun, hended, hWr, hW1, hW2, hsame⟩ := Jvm.Stand.leaveW (s := s) X134 hS122 (by rw [e134]; exact hk144) (v := none) (fun _ => rfl)
  refine ⟨_, _, pre146 _ ?_, hrun, hended, _, _, rfl, ?_, (by show CHr Z own_EL s.vm s.heap T134.vm T134.heap; rw [hh, e134]; exact ch145.trans (CHv.at (s := s) (vm0 := T122.vm) X134 hZ122 (own_EW hw) ch145.1)), hWr, hW1, hW2, hsame.mono (by decide) (by decide)⟩
  · show Steps p.tables e below (T134.setTop (mkF m 26 #[.val (.ref a1), .val (.ref a2), .val (.int (0 : Int32)), .val (.int (0 : Int32)), .val .null, .unset] [])) _
    exact X134.returnOut hx Bd.returns (hb hby d2_26) hr
  · show QrmS4 Z a1 a2 h0 n0 _ T134.heap _
    rw [e134]
    exact ⟨rfl, N134, K_137, tb, kb, E_136, Fv_135, Fc_142, At_140, Et_141⟩
theorem ef_rmS1 (m : MethodId) (x0 : Addr) (x1 : Addr) : entryFrame m #[(.ref x0), (.ref x1)] 2 = mkF m 0 #[.val (.ref x0), .val (.ref x1)] [] := by first | (simp [entryFrame, mkF, argsToLocals, Value.category]; done) | rfl
def QrmS1 (Z : State) (a1 : Addr) (a2 : Addr) (kc : ClassId) (h0 : Heap) (n0 : Nat) (v : Option Value) (h : Heap) (L : List Loc) : Prop := v = none ∧ Fr n0 L ∧ Keep h0 h [a1] ∧ ∃ (t : Addr) (kb : ClassId), Exa Z h a1 "java/lang/String" ∧ Fld Z h a1 "java/lang/String" "value" "[B" (.ref t) ∧ Fld Z h a1 "java/lang/String" "coder" "B" (.int (0 : Int32)) ∧ Arv Z h t kb .byte (0 : Int32) [] (.int (0 : Int32)) ∧ Exa Z h t "[B"
set_option maxRecDepth 65536 in
set_option maxHeartbeats 40000000 in
theorem rmS1 (l : Launch) (Z : State) (a0 : Array Value) (hw : ∀ d ∈ tables_1, d.before a0 Z = true) (ws : List Jvm.Cond) (a1 : Addr) (a2 : Addr) (kc : ClassId) (h0 : Heap) (n0 : Nat) (Z0 : n0 ≤ h0.size) (E_o : Exa Z h0 a1 "java/lang/String") (F_v : Fld Z h0 a1 "java/lang/String" "value" "[B" .null) (F_c : Fld Z h0 a1 "java/lang/String" "coder" "B" (.int (0 : Int32))) (g_a1 : n0 ≤ a1) (V : Arv Z h0 a2 kc .char (0 : Int32) [] (.int (0 : Int32))) :
    MetFree l (⟨"java/lang/String", "<init>", "([C)V"⟩ : MethodName) (head1 (Jvm.Cond.code (⟨"java/lang/String", "<init>", "([C)V"⟩ : MethodName) jdk_42_method_3_code 2 none :: ws) ({ frames := 2, cells := 4, slots := 8, locals := 29 } : Room)) (fun a U => a = #[(.ref a1), (.ref a2)] ∧ Z.Warmed39 U.vm ∧ U.heap = h0 ∧ CHv Z own_EL U.vm h0) (fun _ _ _ _ _ => True) (fun _ U o U' => ∃ v L, o = .returned v ∧ QrmS1 Z a1 a2 kc h0 n0 v U'.heap L ∧ CHr Z own_EL U.vm U.heap U'.vm U'.heap ∧ ReturnedEndW U o U' L ({ frames := 2, cells := 4, slots := 8, locals := 29 } : Room).cells ({ frames := 2, cells := 4, slots := 8, locals := 29 } : Room).slots) := by
  refine MetFree.of_bodySF (plainFor_of_name pn_1) hisR ?_
  intro p e s m args below meth c s₁ Bd hml0 hP hK
  obtain ⟨rfl, hZ, hh, hH⟩ := hP
  have hx := Bd.exec
  have hby := Bd.bytes
  have hml : c.maxLocals = 2 := hml0
  have hown : s.vm.findClass "java/lang/String" = some m.cls := findClass_of_methodNamed Bd.named
  have hnm := (name_of_methodNamed Bd.named Bd.method).1
  have X0 : Stand p l e ({ frames := 2, cells := 4, slots := 8, locals := 29 } : Room) s m #[(.ref a1), (.ref a2)] below meth c s₁ [] 0 0 := Stand.of_body Bd
  have e0 : s₁.heap = h0 := by rw [← hh, Bd.state]; rfl
  have N0 := Fr.nil n0
  have pre0 : ∀ t_, Steps p.tables e below (s₁.setTop (mkF m 0 #[.val (.ref a1), .val (.ref a2)] [])) t_ → Steps p.tables e below (s₁.setTop (entryFrame m #[(.ref a1), (.ref a2)] 2)) t_ := fun t_ k_ => castTop (ef_rmS1 m a1 a2) k_
  obtain ⟨cl, Ar, -, Sz, Ng, -, -⟩ := V
  obtain ⟨_, _, ⟨T101, L101, k101, n101⟩, -, X101, hS101, hle101, ⟨Lc101, hQ101, l101, y101, z101, hC101⟩, st101⟩ := Jvm.Stand.specialBackS (s := (s.setVm s.vm)) X0 hx (y := (⟨"java/lang/String", "<init>", "([CIILjava/lang/Void;)V"⟩ : MethodName)) rfl hown (mvT hZ (hw _ (List.mem_of_getElem? (i := 7) rfl))) (mvT hZ (hw _ (List.mem_of_getElem? (i := 8) rfl))) (mvT hZ (hw _ (List.mem_of_getElem? (i := 10) rfl))) (by decide) (backOfSH (s := s) (vm0 := s.vm) (W := 0) (rmS4 l Z a0 hw [] a1 a2 h0 n0 Z0 E_o F_v F_c g_a1) hZ (hw _ (List.mem_of_getElem? (i := 10) rfl)) (hw _ (List.mem_of_getElem? (i := 3) rfl)) (by decide) (by decide) (own_EW hw) (CHr.refl hH).1) (g := (mkF m 6 #[.val (.ref a1), .val (.ref a2)] [.null, (.int (0 : Int32)), (.int (0 : Int32)), (.ref a2), (.ref a1)])) rfl (by rw [hml]; rfl) (Steps.refl _) (a := a1) (argsL := [(.ref a2), (.int (0 : Int32)), (.int (0 : Int32)), .null]) (rest := []) (lenOf pd_4 rfl) rfl (by show 2 * 0 + _ ≤ _; exact Nat.le_of_eq rfl) (hb hby d1_6) (fun _ _ => ⟨rfl, e0, (by decide : 0 + 4 ≤ _), (by decide : 0 + 8 ≤ _)⟩)
  dsimp only [Pt.U, Pt.locs, Pt.cells, Pt.slots] at X101 l101 y101 z101 st101 hQ101 hS101 hle101 hC101
  subst l101 y101 z101
  have hle101' : h0.size ≤ T101.heap.size := by have q := hle101; rw [e0] at q; exact q
  obtain ⟨X101', hS101', hZ101, hown101⟩ := rebS (s := s) (vm0 := s.vm) ((State.WarmedH.refl s).since 0) (Nat.zero_le _) X101 hS101 hle101' hZ hown
  obtain ⟨rfl, N101q, K101, Z101⟩ := hQ101
  have N101 := Fr.app N0 N101q
  have ch102 := (CHr.refl hH).trans hC101
  have pre103 : ∀ t_, Steps p.tables e below (T101.setTop (mkF m 9 #[.val (.ref a1), .val (.ref a2)] [])) t_ → Steps p.tables e below (s₁.setTop (entryFrame m #[(.ref a1), (.ref a2)] 2)) t_ := fun t_ k_ => pre0 _ (by
    show Steps p.tables e below (s₁.setTop (mkF m 0 #[.val (.ref a1), .val (.ref a2)] [])) _
    refine XS.aloadN X0.here hx rfl (hb hby d1_0) rfl rfl ?_
    show Steps p.tables e below (s₁.setTop (mkF m 1 #[.val (.ref a1), .val (.ref a2)] [(.ref a1)])) _
    refine XS.aloadN X0.here hx rfl (hb hby d1_1) rfl rfl ?_
    show Steps p.tables e below (s₁.setTop (mkF m 2 #[.val (.ref a1), .val (.ref a2)] [(.ref a2), (.ref a1)])) _
    refine XS.iconst X0.here hx rfl (hb hby d1_2) ?_
    show Steps p.tables e below (s₁.setTop (mkF m 3 #[.val (.ref a1), .val (.ref a2)] [(.int (0 : Int32)), (.ref a2), (.ref a1)])) _
    refine XS.aloadN X0.here hx rfl (hb hby d1_3) rfl rfl ?_
    show Steps p.tables e below (s₁.setTop (mkF m 4 #[.val (.ref a1), .val (.ref a2)] [(.ref a2), (.int (0 : Int32)), (.ref a2), (.ref a1)])) _
    refine X0.arraylength hx (by rw [e0]; exact Ar.1) (State.isArrayOf_alike hZ.alike Ar.2.1) (g := (mkF m 4 #[.val (.ref a1), .val (.ref a2)] [(.ref a2), (.int (0 : Int32)), (.ref a2), (.ref a1)])) rfl rfl (hb hby d1_4) _ ?_
    rw [len_of Sz Ng]
    show Steps p.tables e below (s₁.setTop (mkF m 5 #[.val (.ref a1), .val (.ref a2)] [(.int (0 : Int32)), (.int (0 : Int32)), (.ref a2), (.ref a1)])) _
    refine XS.aconstNull X0.here hx rfl (hb hby d1_5) ?_
    show Steps p.tables e below (s₁.setTop (mkF m 6 #[.val (.ref a1), .val (.ref a2)] [.null, (.int (0 : Int32)), (.int (0 : Int32)), (.ref a2), (.ref a1)])) _
    refine st101.trans ?_
    exact k_)
  obtain ⟨fs, hr, hrun, hended, hWr, hW1, hW2, hsame⟩ := Jvm.Stand.leaveW (s := s) X101' hS101' (by exact (Nat.le_refl _)) (v := none) (fun _ => rfl)
  refine ⟨_, _, pre103 _ ?_, hrun, hended, _, _, rfl, ?_, (by show CHr Z own_EL s.vm s.heap T101.vm T101.heap; rw [hh]; exact ch102.trans (CHv.at (s := s) (vm0 := T101.vm) X101' hZ101 (own_EW hw) ch102.1)), hWr, hW1, hW2, hsame.mono (by decide) (by decide)⟩
  · show Steps p.tables e below (T101.setTop (mkF m 9 #[.val (.ref a1), .val (.ref a2)] [])) _
    exact X101'.returnOut hx Bd.returns (hb hby d1_9) hr
  · show QrmS1 Z a1 a2 kc h0 n0 _ T101.heap _
    exact ⟨rfl, N101, K101, Z101⟩
theorem d12_0 : decode jdk_42_method_152_code 0 = .ok (.getstatic 38, 3) := by decide +kernel
theorem d12_3 : decode jdk_42_method_152_code 3 = .ok (.ifCond .eq 10, 3) := by decide +kernel
theorem d12_6 : decode jdk_42_method_152_code 6 = .ok (.aload_n 0, 1) := by decide +kernel
theorem d12_7 : decode jdk_42_method_152_code 7 = .ok (.getfield 15, 3) := by decide +kernel
theorem d12_10 : decode jdk_42_method_152_code 10 = .ok (.goto 4, 3) := by decide +kernel
theorem d12_14 : decode jdk_42_method_152_code 14 = .ok (.ireturn, 1) := by decide +kernel
theorem ef_rmCo (m : MethodId) (x0 : Addr) : entryFrame m #[(.ref x0)] 1 = mkF m 0 #[.val (.ref x0)] [] := by first | (simp [entryFrame, mkF, argsToLocals, Value.category]; done) | rfl
def QrmCo (Z : State) (a1 : Addr) (cd : Int32) (zc : Int32) (h0 : Heap) (n0 : Nat) (v : Option Value) (h : Heap) (L : List Loc) : Prop := v = some (.int cd) ∧ Fr n0 L ∧ h = h0
set_option maxRecDepth 65536 in
set_option maxHeartbeats 40000000 in
theorem rmCo (l : Launch) (Z : State) (a0 : Array Value) (hw : ∀ d ∈ tables_1, d.before a0 Z = true) (ws : List Jvm.Cond) (a1 : Addr) (cd : Int32) (zc : Int32) (h0 : Heap) (n0 : Nat) (Z0 : n0 ≤ h0.size) (Fc : Fld Z h0 a1 "java/lang/String" "coder" "B" (.int cd)) (hcd : cd = 0 ∨ cd = 1) (S_c : Sta Z h0 "java/lang/String" "COMPACT_STRINGS" "Z" (.int zc)) (hzc : ¬ zc = 0) :
    MetFree l (⟨"java/lang/String", "coder", "()B"⟩ : MethodName) (head1 (Jvm.Cond.code (⟨"java/lang/String", "coder", "()B"⟩ : MethodName) jdk_42_method_152_code 1 (some .byte) :: ws) ({ frames := 0, cells := 0, slots := 0, locals := 0 } : Room)) (fun a U => a = #[(.ref a1)] ∧ Z.Warmed39 U.vm ∧ U.heap = h0) (fun _ _ _ _ _ => True) (fun _ U o U' => ∃ v L, o = .returned v ∧ QrmCo Z a1 cd zc h0 n0 v U'.heap L ∧ FrameEnd U o U' L ({ frames := 0, cells := 0, slots := 0, locals := 0 } : Room).cells ({ frames := 0, cells := 0, slots := 0, locals := 0 } : Room).slots) := by
  refine MetFree.of_bodySF (plainFor_of_name pn_1) hisR ?_
  intro p e s m args below meth c s₁ Bd hml0 hP hK
  obtain ⟨rfl, hZ, hh⟩ := hP
  have hx := Bd.exec
  have hby := Bd.bytes
  have hml : c.maxLocals = 1 := hml0
  have hown : s.vm.findClass "java/lang/String" = some m.cls := findClass_of_methodNamed Bd.named
  have hnm := (name_of_methodNamed Bd.named Bd.method).1
  have X0 : Stand p l e ({ frames := 0, cells := 0, slots := 0, locals := 0 } : Room) s m #[(.ref a1)] below meth c s₁ [] 0 0 := Stand.of_body Bd
  have e0 : s₁.heap = h0 := by rw [← hh, Bd.state]; rfl
  have N0 := Fr.nil n0
  have pre0 : ∀ t_, Steps p.tables e below (s₁.setTop (mkF m 0 #[.val (.ref a1)] [])) t_ → Steps p.tables e below (s₁.setTop (entryFrame m #[(.ref a1)] 1)) t_ := fun t_ k_ => castTop (ef_rmCo m a1) k_
  obtain ⟨T101, X101, e101, st101⟩ := getS2 X0 hx hZ hown (host := "") (Or.inl (hw _ (List.mem_of_getElem? (i := 72) rfl))) Via.refl e0 S_c (g := (mkF m 0 #[.val (.ref a1)] [])) rfl (hb hby d12_0)
  obtain ⟨T102, X102, e102, st102⟩ := getF X101 hx hZ hown (host := "") (Or.inl (hw _ (List.mem_of_getElem? (i := 21) rfl))) Via.refl e101 Fc (g := (mkF m 7 #[.val (.ref a1)] [(.ref a1)])) rfl rfl (hb hby d12_7)
  have pre103 : ∀ t_, Steps p.tables e below (T102.setTop (mkF m 14 #[.val (.ref a1)] [(.int cd)])) t_ → Steps p.tables e below (s₁.setTop (entryFrame m #[(.ref a1)] 1)) t_ := fun t_ k_ => pre0 _ (by
    show Steps p.tables e below (s₁.setTop (mkF m 0 #[.val (.ref a1)] [])) _
    refine st101 _ ?_
    show Steps p.tables e below (T101.setTop (mkF m 3 #[.val (.ref a1)] [(.int zc)])) _
    refine XS.ifNo X101.here hx rfl (hb hby d12_3) rfl ((if0 _ _).trans (feq hzc).1) ?_
    show Steps p.tables e below (T101.setTop (mkF m 6 #[.val (.ref a1)] [])) _
    refine XS.aloadN X101.here hx rfl (hb hby d12_6) rfl rfl ?_
    show Steps p.tables e below (T101.setTop (mkF m 7 #[.val (.ref a1)] [(.ref a1)])) _
    refine st102 _ ?_
    show Steps p.tables e below (T102.setTop (mkF m 10 #[.val (.ref a1)] [(.int cd)])) _
    refine XS.goto X102.here hx rfl (pc0 := 10) (pc' := 14) rfl (hb hby d12_10) (by decide) (by decide) ?_
    exact k_)
  obtain ⟨fs, hr, hrun, hended, hW, hsame⟩ := X102.leave (v := some (.int (nar .byte cd))) (fun h => by rw [Bd.returns] at h; cases h)
  refine ⟨_, _, pre103 _ ?_, hrun, hended, _, _, rfl, ?_, ⟨_, rfl⟩, hW, hsame.mono (by decide) (by decide)⟩
  · show Steps p.tables e below (T102.setTop (mkF m 14 #[.val (.ref a1)] [(.int cd)])) _
    exact retN X102 hx (t := .byte) Bd.returns (by simp) (hb hby d12_14) hr
  · show QrmCo Z a1 cd zc h0 n0 _ T102.heap _
    rw [e102]
    exact ⟨by rw [own_cdn2 hcd], N0, rfl⟩
theorem pd_5 : parseMethodDescriptor "()B" = some ⟨[], some .byte⟩ := by decide +kernel
theorem d11_0 : decode jdk_42_method_54_code 0 = .ok (.aload_n 0, 1) := by decide +kernel
theorem d11_1 : decode jdk_42_method_54_code 1 = .ok (.getfield 9, 3) := by decide +kernel
theorem d11_4 : decode jdk_42_method_54_code 4 = .ok (.arraylength, 1) := by decide +kernel
theorem d11_5 : decode jdk_42_method_54_code 5 = .ok (.aload_n 0, 1) := by decide +kernel
theorem d11_6 : decode jdk_42_method_54_code 6 = .ok (.invokevirtual 335, 3) := by decide +kernel
theorem d11_9 : decode jdk_42_method_54_code 9 = .ok (.ishr, 1) := by decide +kernel
theorem d11_10 : decode jdk_42_method_54_code 10 = .ok (.ireturn, 1) := by decide +kernel
theorem ef_rmLn (m : MethodId) (x0 : Addr) : entryFrame m #[(.ref x0)] 1 = mkF m 0 #[.val (.ref x0)] [] := by first | (simp [entryFrame, mkF, argsToLocals, Value.category]; done) | rfl
def QrmLn (Z : State) (a1 : Addr) (nN : Nat) (g : Nat → Int32) (zc : Int32) (h0 : Heap) (n0 : Nat) (v : Option Value) (h : Heap) (L : List Loc) : Prop := v = some (.int (Int32.ofNat nN)) ∧ Fr n0 L ∧ h = h0
set_option maxRecDepth 65536 in
set_option maxHeartbeats 40000000 in
theorem rmLn (l : Launch) (Z : State) (a0 : Array Value) (hw : ∀ d ∈ tables_1, d.before a0 Z = true) (ws : List Jvm.Cond) (a1 : Addr) (nN : Nat) (g : Nat → Int32) (zc : Int32) (h0 : Heap) (n0 : Nat) (Z0 : n0 ≤ h0.size) (b1 : nN ≤ 6) (TS : own_S Z h0 a1 nN g) (S_c : Sta Z h0 "java/lang/String" "COMPACT_STRINGS" "Z" (.int zc)) (hzc : ¬ zc = 0) :
    MetFree l (⟨"java/lang/String", "length", "()I"⟩ : MethodName) (head1 (Jvm.Cond.code (⟨"java/lang/String", "length", "()I"⟩ : MethodName) jdk_42_method_54_code 1 (some .int) :: ws) ({ frames := 1, cells := 0, slots := 0, locals := 13 } : Room)) (fun a U => a = #[(.ref a1)] ∧ Z.Warmed39 U.vm ∧ U.heap = h0) (fun _ _ _ _ _ => True) (fun _ U o U' => ∃ v L, o = .returned v ∧ QrmLn Z a1 nN g zc h0 n0 v U'.heap L ∧ FrameEnd U o U' L ({ frames := 1, cells := 0, slots := 0, locals := 13 } : Room).cells ({ frames := 1, cells := 0, slots := 0, locals := 13 } : Room).slots) := by
  refine MetFree.of_bodySF (plainFor_of_name pn_1) hisR ?_
  intro p e s m args below meth c s₁ Bd hml0 hP hK
  obtain ⟨rfl, hZ, hh⟩ := hP
  have hx := Bd.exec
  have hby := Bd.bytes
  have hml : c.maxLocals = 1 := hml0
  have hown : s.vm.findClass "java/lang/String" = some m.cls := findClass_of_methodNamed Bd.named
  have hnm := (name_of_methodNamed Bd.named Bd.method).1
  have X0 : Stand p l e ({ frames := 1, cells := 0, slots := 0, locals := 13 } : Room) s m #[(.ref a1)] below meth c s₁ [] 0 0 := Stand.of_body Bd
  have e0 : s₁.heap = h0 := by rw [← hh, Bd.state]; rfl
  have N0 := Fr.nil n0
  have pre0 : ∀ t_, Steps p.tables e below (s₁.setTop (mkF m 0 #[.val (.ref a1)] [])) t_ → Steps p.tables e below (s₁.setTop (entryFrame m #[(.ref a1)] 1)) t_ := fun t_ k_ => castTop (ef_rmLn m a1) k_
  obtain ⟨t, cd, N, d, Es, Fv, Fc, AF, EN⟩ := TS
  have hcd := own_enc01 EN
  have hN : N ≤ 12 := own_encN b1 EN
  obtain ⟨cl, Ar, Sz, Hs⟩ := AF
  have Sz2 : cl.slots.size = (Int32.ofNat N).toNatClampNeg := by rw [Sz, own_ofc (by omega)]
  obtain ⟨T101, X101, e101, st101⟩ := getF X0 hx hZ hown (host := "") (Or.inl (hw _ (List.mem_of_getElem? (i := 20) rfl))) Via.refl e0 Fv (g := (mkF m 1 #[.val (.ref a1)] [(.ref a1)])) rfl rfl (hb hby d11_1)
  obtain ⟨cq102, kq102, q102a, q102b, q102c⟩ := isOf hZ e101 Es
  obtain ⟨_, _, ⟨T102, L102, k102, n102⟩, -, X102, ⟨Lc102, hQ102, l102, y102, z102⟩, st102⟩ := X101.virtualBack hx (y := (⟨"java/lang/String", "coder", "()B"⟩ : MethodName)) (z := (⟨"java/lang/String", "coder", "()B"⟩ : MethodName)) hown (mvT hZ (hw _ (List.mem_of_getElem? (i := 67) rfl))) (mvT hZ (hw _ (List.mem_of_getElem? (i := 68) rfl))) (notFace_of_selects (args := #[]) (mvT hZ (hw _ (List.mem_of_getElem? (i := 70) rfl)))) (mvT hZ (hw _ (List.mem_of_getElem? (i := 70) rfl))) (mvT hZ (hw _ (List.mem_of_getElem? (i := 69) rfl))) (by decide) (backOf (W := 1) (rmCo l Z a0 hw [] a1 cd zc h0 n0 Z0 Fc hcd S_c hzc) hZ (hw _ (List.mem_of_getElem? (i := 71) rfl)) (hw _ (List.mem_of_getElem? (i := 3) rfl)) (by decide) (by decide)) q102a q102c (g := (mkF m 6 #[.val (.ref a1)] [(.ref a1), (.int (Int32.ofNat N))])) rfl (by rw [hml]; rfl) (Steps.refl _) (argsL := []) (rest := [(.int (Int32.ofNat N))]) (lenOf pd_5 rfl) rfl (by show 2 * 0 + _ ≤ _; exact Nat.le_of_eq rfl) (hb hby d11_6) (fun _ _ => ⟨rfl, e101, (by decide : 0 + 0 ≤ _), (by decide : 0 + 0 ≤ _)⟩)
  dsimp only [Pt.U, Pt.locs, Pt.cells, Pt.slots] at X102 l102 y102 z102 st102 hQ102
  subst l102 y102 z102
  obtain ⟨rfl, N102q, e102⟩ := hQ102
  have N102 := Fr.app N0 N102q
  have pre103 : ∀ t_, Steps p.tables e below (T102.setTop (mkF m 10 #[.val (.ref a1)] [(.int ((Int32.ofNat N) >>> (cd &&& 31)))])) t_ → Steps p.tables e below (s₁.setTop (entryFrame m #[(.ref a1)] 1)) t_ := fun t_ k_ => pre0 _ (by
    show Steps p.tables e below (s₁.setTop (mkF m 0 #[.val (.ref a1)] [])) _
    refine XS.aloadN X0.here hx rfl (hb hby d11_0) rfl rfl ?_
    show Steps p.tables e below (s₁.setTop (mkF m 1 #[.val (.ref a1)] [(.ref a1)])) _
    refine st101 _ ?_
    show Steps p.tables e below (T101.setTop (mkF m 4 #[.val (.ref a1)] [(.ref t)])) _
    refine X101.arraylength hx (by rw [e101]; exact Ar.1) (State.isArrayOf_alike hZ.alike Ar.2.1) (g := (mkF m 4 #[.val (.ref a1)] [(.ref t)])) rfl rfl (hb hby d11_4) _ ?_
    rw [len_of Sz2 (own_ofn0 (a := N) (by omega))]
    show Steps p.tables e below (T101.setTop (mkF m 5 #[.val (.ref a1)] [(.int (Int32.ofNat N))])) _
    refine XS.aloadN X101.here hx rfl (hb hby d11_5) rfl rfl ?_
    show Steps p.tables e below (T101.setTop (mkF m 6 #[.val (.ref a1)] [(.ref a1), (.int (Int32.ofNat N))])) _
    refine st102.trans ?_
    show Steps p.tables e below (T102.setTop (mkF m 9 #[.val (.ref a1)] [(.int cd), (.int (Int32.ofNat N))])) _
    refine XS.ishr X102.here hx rfl (hb hby d11_9) rfl ?_
    exact k_)
  obtain ⟨fs, hr, hrun, hended, hW, hsame⟩ := X102.leave (v := some (.int ((Int32.ofNat N) >>> (cd &&& 31)))) (fun h => by rw [Bd.returns] at h; cases h)
  refine ⟨_, _, pre103 _ ?_, hrun, hended, _, _, rfl, ?_, ⟨_, rfl⟩, hW, hsame.mono (by decide) (by decide)⟩
  · show Steps p.tables e below (T102.setTop (mkF m 10 #[.val (.ref a1)] [(.int ((Int32.ofNat N) >>> (cd &&& 31)))])) _
    exact retI X102 hx Bd.returns (hb hby d11_10) hr
  · show QrmLn Z a1 nN g zc h0 n0 _ T102.heap _
    rw [e102]
    exact ⟨by rw [own_len b1 EN], N102, rfl⟩
theorem d21_0 : decode jdk_43_method_13_code 0 = .ok (.aload_n 0, 1) := by decide +kernel
theorem d21_1 : decode jdk_43_method_13_code 1 = .ok (.arraylength, 1) := by decide +kernel
theorem d21_2 : decode jdk_43_method_13_code 2 = .ok (.aload_n 1, 1) := by decide +kernel
theorem d21_3 : decode jdk_43_method_13_code 3 = .ok (.arraylength, 1) := by decide +kernel
theorem d21_4 : decode jdk_43_method_13_code 4 = .ok (.if_icmp .ne 30, 3) := by decide +kernel
theorem d21_7 : decode jdk_43_method_13_code 7 = .ok (.iconst 0, 1) := by decide +kernel
theorem d21_8 : decode jdk_43_method_13_code 8 = .ok (.istore_n 2, 1) := by decide +kernel
theorem d21_9 : decode jdk_43_method_13_code 9 = .ok (.iload_n 2, 1) := by decide +kernel
theorem d21_10 : decode jdk_43_method_13_code 10 = .ok (.aload_n 0, 1) := by decide +kernel
theorem d21_11 : decode jdk_43_method_13_code 11 = .ok (.arraylength, 1) := by decide +kernel
theorem d21_12 : decode jdk_43_method_13_code 12 = .ok (.if_icmp .ge 20, 3) := by decide +kernel
theorem d21_15 : decode jdk_43_method_13_code 15 = .ok (.aload_n 0, 1) := by decide +kernel
theorem d21_16 : decode jdk_43_method_13_code 16 = .ok (.iload_n 2, 1) := by decide +kernel
theorem d21_17 : decode jdk_43_method_13_code 17 = .ok (.baload, 1) := by decide +kernel
theorem d21_18 : decode jdk_43_method_13_code 18 = .ok (.aload_n 1, 1) := by decide +kernel
theorem d21_19 : decode jdk_43_method_13_code 19 = .ok (.iload_n 2, 1) := by decide +kernel
theorem d21_20 : decode jdk_43_method_13_code 20 = .ok (.baload, 1) := by decide +kernel
theorem d21_21 : decode jdk_43_method_13_code 21 = .ok (.if_icmp .eq 5, 3) := by decide +kernel
theorem d21_26 : decode jdk_43_method_13_code 26 = .ok (.iinc 2 1, 3) := by decide +kernel
theorem d21_29 : decode jdk_43_method_13_code 29 = .ok (.goto (-20), 3) := by decide +kernel
theorem d21_32 : decode jdk_43_method_13_code 32 = .ok (.iconst 1, 1) := by decide +kernel
theorem d21_33 : decode jdk_43_method_13_code 33 = .ok (.ireturn, 1) := by decide +kernel
theorem pn_2 : plainName "java/lang/StringLatin1" = true := by first | (simp [plainName, overriddenIn]; done) | decide +kernel
theorem ef_rmSL (m : MethodId) (x0 : Addr) (x1 : Addr) : entryFrame m #[(.ref x0), (.ref x1)] 3 = mkF m 0 #[.val (.ref x0), .val (.ref x1), .unset] [] := by first | (simp [entryFrame, mkF, argsToLocals, Value.category]; done) | rfl
def QrmSL (Z : State) (a1 : Addr) (a2 : Addr) (nN : Nat) (d : Nat → Int32) (h0 : Heap) (n0 : Nat) (v : Option Value) (h : Heap) (L : List Loc) : Prop := v = some (.int (1 : Int32)) ∧ Fr n0 L ∧ h = h0
set_option maxRecDepth 65536 in
set_option maxHeartbeats 40000000 in
theorem rmSL (l : Launch) (Z : State) (a0 : Array Value) (hw : ∀ d ∈ tables_1, d.before a0 Z = true) (ws : List Jvm.Cond) (a1 : Addr) (a2 : Addr) (nN : Nat) (d : Nat → Int32) (h0 : Heap) (n0 : Nat) (Z0 : n0 ≤ h0.size) (b1 : nN ≤ 6) (V : own_Af Z h0 a1 .byte nN d) (V2 : own_Af Z h0 a2 .byte nN d) :
    MetFree l (⟨"java/lang/StringLatin1", "equals", "([B[B)Z"⟩ : MethodName) (head1 (Jvm.Cond.code (⟨"java/lang/StringLatin1", "equals", "([B[B)Z"⟩ : MethodName) jdk_43_method_13_code 3 (some .boolean) :: ws) ({ frames := 0, cells := 0, slots := 0, locals := 0 } : Room)) (fun a U => a = #[(.ref a1), (.ref a2)] ∧ Z.Warmed39 U.vm ∧ U.heap = h0) (fun _ _ _ _ _ => True) (fun _ U o U' => ∃ v L, o = .returned v ∧ QrmSL Z a1 a2 nN d h0 n0 v U'.heap L ∧ FrameEnd U o U' L ({ frames := 0, cells := 0, slots := 0, locals := 0 } : Room).cells ({ frames := 0, cells := 0, slots := 0, locals := 0 } : Room).slots) := by
  refine MetFree.of_bodySF (plainFor_of_name pn_2) hisR ?_
  intro p e s m args below meth c s₁ Bd hml0 hP hK
  obtain ⟨rfl, hZ, hh⟩ := hP
  have hx := Bd.exec
  have hby := Bd.bytes
  have hml : c.maxLocals = 3 := hml0
  have hown : s.vm.findClass "java/lang/StringLatin1" = some m.cls := findClass_of_methodNamed Bd.named
  have hnm := (name_of_methodNamed Bd.named Bd.method).1
  have X0 : Stand p l e ({ frames := 0, cells := 0, slots := 0, locals := 0 } : Room) s m #[(.ref a1), (.ref a2)] below meth c s₁ [] 0 0 := Stand.of_body Bd
  have e0 : s₁.heap = h0 := by rw [← hh, Bd.state]; rfl
  have N0 := Fr.nil n0
  have pre0 : ∀ t_, Steps p.tables e below (s₁.setTop (mkF m 0 #[.val (.ref a1), .val (.ref a2), .unset] [])) t_ → Steps p.tables e below (s₁.setTop (entryFrame m #[(.ref a1), (.ref a2)] 3)) t_ := fun t_ k_ => castTop (ef_rmSL m a1 a2) k_
  obtain ⟨c1, A1, S1, H1⟩ := V
  obtain ⟨c2, A2, S2, H2⟩ := V2
  have S1' : c1.slots.size = (Int32.ofNat nN).toNatClampNeg := by rw [S1, own_ofc (by omega)]
  have S2' : c2.slots.size = (Int32.ofNat nN).toNatClampNeg := by rw [S2, own_ofc (by omega)]
  have Ng : ¬ (Int32.ofNat nN) < 0 := own_ofn0 (by omega)
  have loop : ∀ (N k : Nat), k + N = nN → ∀ t_, Steps p.tables e below (s₁.setTop (mkF m 32 #[.val (.ref a1), .val (.ref a2), .val (.int (Int32.ofNat nN))] [])) t_ → Steps p.tables e below (s₁.setTop (mkF m 9 #[.val (.ref a1), .val (.ref a2), .val (.int (Int32.ofNat k))] [])) t_ := by
    intro N
    induction N with
    | zero =>
      intro k z1
      have pre101 : ∀ t_, Steps p.tables e below (s₁.setTop (mkF m 9 #[.val (.ref a1), .val (.ref a2), .val (.int (Int32.ofNat k))] [])) t_ → Steps p.tables e below (s₁.setTop (mkF m 9 #[.val (.ref a1), .val (.ref a2), .val (.int (Int32.ofNat k))] [])) t_ := fun _ k_ => k_
      have ek : k = nN := by omega
      have pre102 : ∀ t_, Steps p.tables e below (s₁.setTop (mkF m 32 #[.val (.ref a1), .val (.ref a2), .val (.int (Int32.ofNat k))] [])) t_ → Steps p.tables e below (s₁.setTop (mkF m 9 #[.val (.ref a1), .val (.ref a2), .val (.int (Int32.ofNat k))] [])) t_ := fun t_ k_ => pre101 _ (by
        show Steps p.tables e below (s₁.setTop (mkF m 9 #[.val (.ref a1), .val (.ref a2), .val (.int (Int32.ofNat k))] [])) _
        refine XS.iloadN X0.here hx rfl (hb hby d21_9) rfl ?_
        show Steps p.tables e below (s₁.setTop (mkF m 10 #[.val (.ref a1), .val (.ref a2), .val (.int (Int32.ofNat k))] [(.int (Int32.ofNat k))])) _
        refine XS.aloadN X0.here hx rfl (hb hby d21_10) rfl rfl ?_
        show Steps p.tables e below (s₁.setTop (mkF m 11 #[.val (.ref a1), .val (.ref a2), .val (.int (Int32.ofNat k))] [(.ref a1), (.int (Int32.ofNat k))])) _
        refine X0.arraylength hx (by rw [e0]; exact A1.1) (State.isArrayOf_alike hZ.alike A1.2.1) (g := (mkF m 11 #[.val (.ref a1), .val (.ref a2), .val (.int (Int32.ofNat k))] [(.ref a1), (.int (Int32.ofNat k))])) rfl rfl (hb hby d21_11) _ ?_
        rw [len_of S1' Ng]
        show Steps p.tables e below (s₁.setTop (mkF m 12 #[.val (.ref a1), .val (.ref a2), .val (.int (Int32.ofNat k))] [(.int (Int32.ofNat nN)), (.int (Int32.ofNat k))])) _
        refine XS.icmpYes X0.here hx rfl (pc0 := 12) (pc' := 32) rfl (hb hby d21_12) rfl (flt (by rw [own_oflt (by omega) (by omega)]; omega)).2.1 (by decide) (by decide) ?_
        exact k_)
      intro t_ k_
      refine pre102 t_ ?_
      rw [ek]
      exact k_
    | succ N ih =>
      intro k z1
      have pre103 : ∀ t_, Steps p.tables e below (s₁.setTop (mkF m 9 #[.val (.ref a1), .val (.ref a2), .val (.int (Int32.ofNat k))] [])) t_ → Steps p.tables e below (s₁.setTop (mkF m 9 #[.val (.ref a1), .val (.ref a2), .val (.int (Int32.ofNat k))] [])) t_ := fun _ k_ => k_
      have hin1 := own_ofin (a := k) S1 (by omega) (by omega)
      have hat1 := own_hat H1 (j := k) (by omega) (by omega)
      have hin2 := own_ofin (a := k) S2 (by omega) (by omega)
      have hat2 := own_hat H2 (j := k) (by omega) (by omega)
      have pre104 : ∀ t_, Steps p.tables e below (s₁.setTop (mkF m 9 #[.val (.ref a1), .val (.ref a2), .val (.int ((Int32.ofNat k) + (1 : Int32)))] [])) t_ → Steps p.tables e below (s₁.setTop (mkF m 9 #[.val (.ref a1), .val (.ref a2), .val (.int (Int32.ofNat k))] [])) t_ := fun t_ k_ => pre103 _ (by
        show Steps p.tables e below (s₁.setTop (mkF m 9 #[.val (.ref a1), .val (.ref a2), .val (.int (Int32.ofNat k))] [])) _
        refine XS.iloadN X0.here hx rfl (hb hby d21_9) rfl ?_
        show Steps p.tables e below (s₁.setTop (mkF m 10 #[.val (.ref a1), .val (.ref a2), .val (.int (Int32.ofNat k))] [(.int (Int32.ofNat k))])) _
        refine XS.aloadN X0.here hx rfl (hb hby d21_10) rfl rfl ?_
        show Steps p.tables e below (s₁.setTop (mkF m 11 #[.val (.ref a1), .val (.ref a2), .val (.int (Int32.ofNat k))] [(.ref a1), (.int (Int32.ofNat k))])) _
        refine X0.arraylength hx (by rw [e0]; exact A1.1) (State.isArrayOf_alike hZ.alike A1.2.1) (g := (mkF m 11 #[.val (.ref a1), .val (.ref a2), .val (.int (Int32.ofNat k))] [(.ref a1), (.int (Int32.ofNat k))])) rfl rfl (hb hby d21_11) _ ?_
        rw [len_of S1' Ng]
        show Steps p.tables e below (s₁.setTop (mkF m 12 #[.val (.ref a1), .val (.ref a2), .val (.int (Int32.ofNat k))] [(.int (Int32.ofNat nN)), (.int (Int32.ofNat k))])) _
        refine XS.icmpNo X0.here hx rfl (hb hby d21_12) rfl (tlt ((own_oflt (by omega) (by omega)).mpr (by omega))).2.1 ?_
        show Steps p.tables e below (s₁.setTop (mkF m 15 #[.val (.ref a1), .val (.ref a2), .val (.int (Int32.ofNat k))] [])) _
        refine XS.aloadN X0.here hx rfl (hb hby d21_15) rfl rfl ?_
        show Steps p.tables e below (s₁.setTop (mkF m 16 #[.val (.ref a1), .val (.ref a2), .val (.int (Int32.ofNat k))] [(.ref a1)])) _
        refine XS.iloadN X0.here hx rfl (hb hby d21_16) rfl ?_
        show Steps p.tables e below (s₁.setTop (mkF m 17 #[.val (.ref a1), .val (.ref a2), .val (.int (Int32.ofNat k))] [(.int (Int32.ofNat k)), (.ref a1)])) _
        refine X0.baloadBytes hx (j := (Int32.ofNat k)) (v := (.int (d k))) (by rw [e0]; exact A1.1) (State.isArrayOf_alike hZ.alike A1.2.1) A1.2.2 hin1 hat1 (g := (mkF m 17 #[.val (.ref a1), .val (.ref a2), .val (.int (Int32.ofNat k))] [(.int (Int32.ofNat k)), (.ref a1)])) rfl rfl (hb hby d21_17) _ ?_
        show Steps p.tables e below (s₁.setTop (mkF m 18 #[.val (.ref a1), .val (.ref a2), .val (.int (Int32.ofNat k))] [(.int (d k))])) _
        refine XS.aloadN X0.here hx rfl (hb hby d21_18) rfl rfl ?_
        show Steps p.tables e below (s₁.setTop (mkF m 19 #[.val (.ref a1), .val (.ref a2), .val (.int (Int32.ofNat k))] [(.ref a2), (.int (d k))])) _
        refine XS.iloadN X0.here hx rfl (hb hby d21_19) rfl ?_
        show Steps p.tables e below (s₁.setTop (mkF m 20 #[.val (.ref a1), .val (.ref a2), .val (.int (Int32.ofNat k))] [(.int (Int32.ofNat k)), (.ref a2), (.int (d k))])) _
        refine X0.baloadBytes hx (j := (Int32.ofNat k)) (v := (.int (d k))) (by rw [e0]; exact A2.1) (State.isArrayOf_alike hZ.alike A2.2.1) A2.2.2 hin2 hat2 (g := (mkF m 20 #[.val (.ref a1), .val (.ref a2), .val (.int (Int32.ofNat k))] [(.int (Int32.ofNat k)), (.ref a2), (.int (d k))])) rfl rfl (hb hby d21_20) _ ?_
        show Steps p.tables e below (s₁.setTop (mkF m 21 #[.val (.ref a1), .val (.ref a2), .val (.int (Int32.ofNat k))] [(.int (d k)), (.int (d k))])) _
        refine XS.icmpYes X0.here hx rfl (pc0 := 21) (pc' := 26) rfl (hb hby d21_21) rfl (teq rfl).1 (by decide) (by decide) ?_
        show Steps p.tables e below (s₁.setTop (mkF m 26 #[.val (.ref a1), .val (.ref a2), .val (.int (Int32.ofNat k))] [])) _
        refine XS.iinc X0.here hx rfl (hb hby d21_26) rfl (l' := #[.val (.ref a1), .val (.ref a2), .val (.int ((Int32.ofNat k) + (1 : Int32)))]) rfl ?_
        show Steps p.tables e below (s₁.setTop (mkF m 29 #[.val (.ref a1), .val (.ref a2), .val (.int ((Int32.ofNat k) + (1 : Int32)))] [])) _
        refine XS.goto X0.here hx rfl (pc0 := 29) (pc' := 9) rfl (hb hby d21_29) (by decide) (by decide) ?_
        exact k_)
      intro t_ k_
      refine pre104 t_ ?_
      rw [own_of1]
      exact ih (k + 1) (by omega) t_ k_
  have pre105 : ∀ t_, Steps p.tables e below (s₁.setTop (mkF m 9 #[.val (.ref a1), .val (.ref a2), .val (.int (0 : Int32))] [])) t_ → Steps p.tables e below (s₁.setTop (entryFrame m #[(.ref a1), (.ref a2)] 3)) t_ := fun t_ k_ => pre0 _ (by
    show Steps p.tables e below (s₁.setTop (mkF m 0 #[.val (.ref a1), .val (.ref a2), .unset] [])) _
    refine XS.aloadN X0.here hx rfl (hb hby d21_0) rfl rfl ?_
    show Steps p.tables e below (s₁.setTop (mkF m 1 #[.val (.ref a1), .val (.ref a2), .unset] [(.ref a1)])) _
    refine X0.arraylength hx (by rw [e0]; exact A1.1) (State.isArrayOf_alike hZ.alike A1.2.1) (g := (mkF m 1 #[.val (.ref a1), .val (.ref a2), .unset] [(.ref a1)])) rfl rfl (hb hby d21_1) _ ?_
    rw [len_of S1' Ng]
    show Steps p.tables e below (s₁.setTop (mkF m 2 #[.val (.ref a1), .val (.ref a2), .unset] [(.int (Int32.ofNat nN))])) _
    refine XS.aloadN X0.here hx rfl (hb hby d21_2) rfl rfl ?_
    show Steps p.tables e below (s₁.setTop (mkF m 3 #[.val (.ref a1), .val (.ref a2), .unset] [(.ref a2), (.int (Int32.ofNat nN))])) _
    refine X0.arraylength hx (by rw [e0]; exact A2.1) (State.isArrayOf_alike hZ.alike A2.2.1) (g := (mkF m 3 #[.val (.ref a1), .val (.ref a2), .unset] [(.ref a2), (.int (Int32.ofNat nN))])) rfl rfl (hb hby d21_3) _ ?_
    rw [len_of S2' Ng]
    show Steps p.tables e below (s₁.setTop (mkF m 4 #[.val (.ref a1), .val (.ref a2), .unset] [(.int (Int32.ofNat nN)), (.int (Int32.ofNat nN))])) _
    refine XS.icmpNo X0.here hx rfl (hb hby d21_4) rfl (teq rfl).2 ?_
    show Steps p.tables e below (s₁.setTop (mkF m 7 #[.val (.ref a1), .val (.ref a2), .unset] [])) _
    refine XS.iconst X0.here hx rfl (hb hby d21_7) ?_
    show Steps p.tables e below (s₁.setTop (mkF m 8 #[.val (.ref a1), .val (.ref a2), .unset] [(.int (0 : Int32))])) _
    refine XS.istoreN X0.here hx rfl (hb hby d21_8) rfl (l' := #[.val (.ref a1), .val (.ref a2), .val (.int (0 : Int32))]) rfl ?_
    exact k_)
  have pre106 : ∀ t_, Steps p.tables e below (s₁.setTop (mkF m 33 #[.val (.ref a1), .val (.ref a2), .val (.int (Int32.ofNat nN))] [(.int (1 : Int32))])) t_ → Steps p.tables e below (s₁.setTop (entryFrame m #[(.ref a1), (.ref a2)] 3)) t_ := fun t_ k_ => pre105 _ (by
    show Steps p.tables e below (s₁.setTop (mkF m 9 #[.val (.ref a1), .val (.ref a2), .val (.int (0 : Int32))] [])) _
    refine loop nN 0 (by omega) _ ?_
    show Steps p.tables e below (s₁.setTop (mkF m 32 #[.val (.ref a1), .val (.ref a2), .val (.int (Int32.ofNat nN))] [])) _
    refine XS.iconst X0.here hx rfl (hb hby d21_32) ?_
    exact k_)
  obtain ⟨fs, hr, hrun, hended, hW, hsame⟩ := X0.leave (v := some (.int (1 : Int32))) (fun h => by rw [Bd.returns] at h; cases h)
  refine ⟨_, _, pre106 _ ?_, hrun, hended, _, _, rfl, ?_, ⟨_, rfl⟩, hW, hsame.mono (by decide) (by decide)⟩
  · show Steps p.tables e below (s₁.setTop (mkF m 33 #[.val (.ref a1), .val (.ref a2), .val (.int (Int32.ofNat nN))] [(.int (1 : Int32))])) _
    exact retN X0 hx (t := .boolean) Bd.returns (by simp) (hb hby d21_33) hr
  · show QrmSL Z a1 a2 nN d h0 n0 _ s₁.heap _
    rw [e0]
    exact ⟨rfl, N0, rfl⟩
theorem d9_0 : decode jdk_42_method_66_code 0 = .ok (.aload_n 0, 1) := by decide +kernel
theorem d9_1 : decode jdk_42_method_66_code 1 = .ok (.aload_n 1, 1) := by decide +kernel
theorem d9_2 : decode jdk_42_method_66_code 2 = .ok (.if_acmp .ne 5, 3) := by decide +kernel
theorem d9_5 : decode jdk_42_method_66_code 5 = .ok (.iconst 1, 1) := by decide +kernel
theorem d9_6 : decode jdk_42_method_66_code 6 = .ok (.ireturn, 1) := by decide +kernel
theorem ef_rmEs (m : MethodId) (x0 : Addr) (x1 : Addr) : entryFrame m #[(.ref x0), (.ref x1)] 3 = mkF m 0 #[.val (.ref x0), .val (.ref x1), .unset] [] := by first | (simp [entryFrame, mkF, argsToLocals, Value.category]; done) | rfl
def QrmEs (Z : State) (a1 : Addr) (a2 : Addr) (h0 : Heap) (n0 : Nat) (v : Option Value) (h : Heap) (L : List Loc) : Prop := v = some (.int (1 : Int32)) ∧ Fr n0 L ∧ h = h0
set_option maxRecDepth 65536 in
set_option maxHeartbeats 40000000 in
theorem rmEs (l : Launch) (Z : State) (a0 : Array Value) (hw : ∀ d ∈ tables_1, d.before a0 Z = true) (ws : List Jvm.Cond) (a1 : Addr) (a2 : Addr) (h0 : Heap) (n0 : Nat) (Z0 : n0 ≤ h0.size) (ee : a1 = a2) :
    MetFree l (⟨"java/lang/String", "equals", "(Ljava/lang/Object;)Z"⟩ : MethodName) (head1 (Jvm.Cond.code (⟨"java/lang/String", "equals", "(Ljava/lang/Object;)Z"⟩ : MethodName) jdk_42_method_66_code 3 (some .boolean) :: ws) ({ frames := 0, cells := 0, slots := 0, locals := 0 } : Room)) (fun a U => a = #[(.ref a1), (.ref a2)] ∧ Z.Warmed39 U.vm ∧ U.heap = h0) (fun _ _ _ _ _ => True) (fun _ U o U' => ∃ v L, o = .returned v ∧ QrmEs Z a1 a2 h0 n0 v U'.heap L ∧ FrameEnd U o U' L ({ frames := 0, cells := 0, slots := 0, locals := 0 } : Room).cells ({ frames := 0, cells := 0, slots := 0, locals := 0 } : Room).slots) := by
  refine MetFree.of_bodySF (plainFor_of_name pn_1) hisR ?_
  intro p e s m args below meth c s₁ Bd hml0 hP hK
  obtain ⟨rfl, hZ, hh⟩ := hP
  have hx := Bd.exec
  have hby := Bd.bytes
  have hml : c.maxLocals = 3 := hml0
  have hown : s.vm.findClass "java/lang/String" = some m.cls := findClass_of_methodNamed Bd.named
  have hnm := (name_of_methodNamed Bd.named Bd.method).1
  have X0 : Stand p l e ({ frames := 0, cells := 0, slots := 0, locals := 0 } : Room) s m #[(.ref a1), (.ref a2)] below meth c s₁ [] 0 0 := Stand.of_body Bd
  have e0 : s₁.heap = h0 := by rw [← hh, Bd.state]; rfl
  have N0 := Fr.nil n0
  have pre0 : ∀ t_, Steps p.tables e below (s₁.setTop (mkF m 0 #[.val (.ref a1), .val (.ref a2), .unset] [])) t_ → Steps p.tables e below (s₁.setTop (entryFrame m #[(.ref a1), (.ref a2)] 3)) t_ := fun t_ k_ => castTop (ef_rmEs m a1 a2) k_
  have pre101 : ∀ t_, Steps p.tables e below (s₁.setTop (mkF m 6 #[.val (.ref a1), .val (.ref a2), .unset] [(.int (1 : Int32))])) t_ → Steps p.tables e below (s₁.setTop (entryFrame m #[(.ref a1), (.ref a2)] 3)) t_ := fun t_ k_ => pre0 _ (by
    show Steps p.tables e below (s₁.setTop (mkF m 0 #[.val (.ref a1), .val (.ref a2), .unset] [])) _
    refine XS.aloadN X0.here hx rfl (hb hby d9_0) rfl rfl ?_
    show Steps p.tables e below (s₁.setTop (mkF m 1 #[.val (.ref a1), .val (.ref a2), .unset] [(.ref a1)])) _
    refine XS.aloadN X0.here hx rfl (hb hby d9_1) rfl rfl ?_
    show Steps p.tables e below (s₁.setTop (mkF m 2 #[.val (.ref a1), .val (.ref a2), .unset] [(.ref a2), (.ref a1)])) _
    refine Jvm.RoadKit.acmp (g := (mkF m 2 #[.val (.ref a1), .val (.ref a2), .unset] [(.ref a2), (.ref a1)])) X0 hx rfl rfl rfl (pc0 := 2) (pc' := 5) (same := true) rfl (hb hby d9_2) rfl (decide_eq_true (congrArg Value.ref ee)) (by decide) (by decide) ?_
    show Steps p.tables e below (s₁.setTop (mkF m 5 #[.val (.ref a1), .val (.ref a2), .unset] [])) _
    refine XS.iconst X0.here hx rfl (hb hby d9_5) ?_
    exact k_)
  obtain ⟨fs, hr, hrun, hended, hW, hsame⟩ := X0.leave (v := some (.int (1 : Int32))) (fun h => by rw [Bd.returns] at h; cases h)
  refine ⟨_, _, pre101 _ ?_, hrun, hended, _, _, rfl, ?_, ⟨_, rfl⟩, hW, hsame.mono (by decide) (by decide)⟩
  · show Steps p.tables e below (s₁.setTop (mkF m 6 #[.val (.ref a1), .val (.ref a2), .unset] [(.int (1 : Int32))])) _
    exact retN X0 hx (t := .boolean) Bd.returns (by simp) (hb hby d9_6) hr
  · show QrmEs Z a1 a2 h0 n0 _ s₁.heap _
    rw [e0]
    exact ⟨rfl, N0, rfl⟩
theorem pd_6 : parseMethodDescriptor "([B[B)Z" = some ⟨[(.array .byte), (.array .byte)], some .boolean⟩ := by decide +kernel
theorem d9_7 : decode jdk_42_method_66_code 7 = .ok (.aload_n 1, 1) := by decide +kernel
theorem d9_8 : decode jdk_42_method_66_code 8 = .ok (.instanceof 10, 3) := by decide +kernel
theorem d9_11 : decode jdk_42_method_66_code 11 = .ok (.ifCond .eq 43, 3) := by decide +kernel
theorem d9_14 : decode jdk_42_method_66_code 14 = .ok (.aload_n 1, 1) := by decide +kernel
theorem d9_15 : decode jdk_42_method_66_code 15 = .ok (.checkcast 10, 3) := by decide +kernel
theorem d9_18 : decode jdk_42_method_66_code 18 = .ok (.astore_n 2, 1) := by decide +kernel
theorem d9_19 : decode jdk_42_method_66_code 19 = .ok (.getstatic 38, 3) := by decide +kernel
theorem d9_22 : decode jdk_42_method_66_code 22 = .ok (.ifCond .eq 14, 3) := by decide +kernel
theorem d9_25 : decode jdk_42_method_66_code 25 = .ok (.aload_n 0, 1) := by decide +kernel
theorem d9_26 : decode jdk_42_method_66_code 26 = .ok (.getfield 15, 3) := by decide +kernel
theorem d9_29 : decode jdk_42_method_66_code 29 = .ok (.aload_n 2, 1) := by decide +kernel
theorem d9_30 : decode jdk_42_method_66_code 30 = .ok (.getfield 15, 3) := by decide +kernel
theorem d9_33 : decode jdk_42_method_66_code 33 = .ok (.if_icmp .ne 21, 3) := by decide +kernel
theorem d9_36 : decode jdk_42_method_66_code 36 = .ok (.aload_n 0, 1) := by decide +kernel
theorem d9_37 : decode jdk_42_method_66_code 37 = .ok (.getfield 9, 3) := by decide +kernel
theorem d9_40 : decode jdk_42_method_66_code 40 = .ok (.aload_n 2, 1) := by decide +kernel
theorem d9_41 : decode jdk_42_method_66_code 41 = .ok (.getfield 9, 3) := by decide +kernel
theorem d9_44 : decode jdk_42_method_66_code 44 = .ok (.invokestatic 541, 3) := by decide +kernel
theorem d9_47 : decode jdk_42_method_66_code 47 = .ok (.ifCond .eq 7, 3) := by decide +kernel
theorem d9_50 : decode jdk_42_method_66_code 50 = .ok (.iconst 1, 1) := by decide +kernel
theorem d9_51 : decode jdk_42_method_66_code 51 = .ok (.goto 4, 3) := by decide +kernel
theorem d9_55 : decode jdk_42_method_66_code 55 = .ok (.ireturn, 1) := by decide +kernel
theorem ef_rmEc (m : MethodId) (x0 : Addr) (x1 : Addr) : entryFrame m #[(.ref x0), (.ref x1)] 3 = mkF m 0 #[.val (.ref x0), .val (.ref x1), .unset] [] := by first | (simp [entryFrame, mkF, argsToLocals, Value.category]; done) | rfl
def QrmEc (Z : State) (a1 : Addr) (a2 : Addr) (t1 : Addr) (t2 : Addr) (nN : Nat) (g : Nat → Int32) (zc : Int32) (h0 : Heap) (n0 : Nat) (v : Option Value) (h : Heap) (L : List Loc) : Prop := v = some (.int (1 : Int32)) ∧ Fr n0 L ∧ h = h0
set_option maxRecDepth 65536 in
set_option maxHeartbeats 40000000 in
theorem rmEc (l : Launch) (Z : State) (a0 : Array Value) (hw : ∀ d ∈ tables_1, d.before a0 Z = true) (ws : List Jvm.Cond) (a1 : Addr) (a2 : Addr) (t1 : Addr) (t2 : Addr) (nN : Nat) (g : Nat → Int32) (zc : Int32) (h0 : Heap) (n0 : Nat) (Z0 : n0 ≤ h0.size) (b1 : nN ≤ 6) (L1 : own_L Z h0 a1 t1 nN g) (L2 : own_L Z h0 a2 t2 nN g) (ne : a1 ≠ a2) (S_c : Sta Z h0 "java/lang/String" "COMPACT_STRINGS" "Z" (.int zc)) (hzc : ¬ zc = 0) :
    MetFree l (⟨"java/lang/String", "equals", "(Ljava/lang/Object;)Z"⟩ : MethodName) (head1 (Jvm.Cond.code (⟨"java/lang/String", "equals", "(Ljava/lang/Object;)Z"⟩ : MethodName) jdk_42_method_66_code 3 (some .boolean) :: ws) ({ frames := 1, cells := 0, slots := 0, locals := 14 } : Room)) (fun a U => a = #[(.ref a1), (.ref a2)] ∧ Z.Warmed39 U.vm ∧ U.heap = h0) (fun _ _ _ _ _ => True) (fun _ U o U' => ∃ v L, o = .returned v ∧ QrmEc Z a1 a2 t1 t2 nN g zc h0 n0 v U'.heap L ∧ FrameEnd U o U' L ({ frames := 1, cells := 0, slots := 0, locals := 14 } : Room).cells ({ frames := 1, cells := 0, slots := 0, locals := 14 } : Room).slots) := by
  refine MetFree.of_bodySF (plainFor_of_name pn_1) hisR ?_
  intro p e s m args below meth c s₁ Bd hml0 hP hK
  obtain ⟨rfl, hZ, hh⟩ := hP
  have hx := Bd.exec
  have hby := Bd.bytes
  have hml : c.maxLocals = 3 := hml0
  have hown : s.vm.findClass "java/lang/String" = some m.cls := findClass_of_methodNamed Bd.named
  have hnm := (name_of_methodNamed Bd.named Bd.method).1
  have X0 : Stand p l e ({ frames := 1, cells := 0, slots := 0, locals := 14 } : Room) s m #[(.ref a1), (.ref a2)] below meth c s₁ [] 0 0 := Stand.of_body Bd
  have e0 : s₁.heap = h0 := by rw [← hh, Bd.state]; rfl
  have N0 := Fr.nil n0
  have pre0 : ∀ t_, Steps p.tables e below (s₁.setTop (mkF m 0 #[.val (.ref a1), .val (.ref a2), .unset] [])) t_ → Steps p.tables e below (s₁.setTop (entryFrame m #[(.ref a1), (.ref a2)] 3)) t_ := fun t_ k_ => castTop (ef_rmEc m a1 a2) k_
  obtain ⟨Ea, Va, Ca, Aa, Ba⟩ := L1
  obtain ⟨Eb, Vb, Cb, Ab, Bb⟩ := L2
  obtain ⟨T101, X101, e101, st101⟩ := instY X0 hx hZ hown (hw _ (List.mem_of_getElem? (i := 122) rfl)) e0 (Ins.self Eb) (g := (mkF m 8 #[.val (.ref a1), .val (.ref a2), .unset] [(.ref a2)])) rfl rfl (hb hby d9_8)
  obtain ⟨T102, X102, e102, st102⟩ := castY X101 hx hZ hown (hw _ (List.mem_of_getElem? (i := 122) rfl)) e101 (Ins.self Eb) (g := (mkF m 15 #[.val (.ref a1), .val (.ref a2), .unset] [(.ref a2)])) rfl rfl (hb hby d9_15)
  obtain ⟨T103, X103, e103, st103⟩ := getS2 X102 hx hZ hown (host := "") (Or.inl (hw _ (List.mem_of_getElem? (i := 72) rfl))) Via.refl e102 S_c (g := (mkF m 19 #[.val (.ref a1), .val (.ref a2), .val (.ref a2)] [])) rfl (hb hby d9_19)
  obtain ⟨T104, X104, e104, st104⟩ := getF X103 hx hZ hown (host := "") (Or.inl (hw _ (List.mem_of_getElem? (i := 21) rfl))) Via.refl e103 Ca (g := (mkF m 26 #[.val (.ref a1), .val (.ref a2), .val (.ref a2)] [(.ref a1)])) rfl rfl (hb hby d9_26)
  obtain ⟨T105, X105, e105, st105⟩ := getF X104 hx hZ hown (host := "") (Or.inl (hw _ (List.mem_of_getElem? (i := 21) rfl))) Via.refl e104 Cb (g := (mkF m 30 #[.val (.ref a1), .val (.ref a2), .val (.ref a2)] [(.ref a2), (.int (0 : Int32))])) rfl rfl (hb hby d9_30)
  obtain ⟨T106, X106, e106, st106⟩ := getF X105 hx hZ hown (host := "") (Or.inl (hw _ (List.mem_of_getElem? (i := 20) rfl))) Via.refl e105 Va (g := (mkF m 37 #[.val (.ref a1), .val (.ref a2), .val (.ref a2)] [(.ref a1)])) rfl rfl (hb hby d9_37)
  obtain ⟨T107, X107, e107, st107⟩ := getF X106 hx hZ hown (host := "") (Or.inl (hw _ (List.mem_of_getElem? (i := 20) rfl))) Via.refl e106 Vb (g := (mkF m 41 #[.val (.ref a1), .val (.ref a2), .val (.ref a2)] [(.ref a2), (.ref t1)])) rfl rfl (hb hby d9_41)
  obtain ⟨_, _, ⟨T108, L108, k108, n108⟩, -, X108, ⟨Lc108, hQ108, l108, y108, z108⟩, st108⟩ := Jvm.LawKit.callS X107 hx (y := (⟨"java/lang/StringLatin1", "equals", "([B[B)Z"⟩ : MethodName)) hown (mvT hZ (hw _ (List.mem_of_getElem? (i := 123) rfl))) (mvT hZ (hw _ (List.mem_of_getElem? (i := 124) rfl))) (mvT hZ (hw _ (List.mem_of_getElem? (i := 125) rfl))) (mvT hZ (hw _ (List.mem_of_getElem? (i := 126) rfl))) (by decide) (backOf (W := 0) (rmSL l Z a0 hw [] t1 t2 nN (fun j => own_b8 (g j)) h0 n0 Z0 b1 Aa Ab) hZ (hw _ (List.mem_of_getElem? (i := 126) rfl)) (hw _ (List.mem_of_getElem? (i := 125) rfl)) (by decide) (by decide)) (g := (mkF m 44 #[.val (.ref a1), .val (.ref a2), .val (.ref a2)] [(.ref t2), (.ref t1)])) rfl (by rw [hml]; rfl) (argsL := [(.ref t1), (.ref t2)]) (rest := []) (lenOf pd_6 rfl) rfl (by show 2 * 0 + _ ≤ _; exact Nat.le_of_eq rfl) (hb hby d9_44) (fun _ _ => ⟨rfl, e107, (by decide : 0 + 0 ≤ _), (by decide : 0 + 0 ≤ _)⟩)
  dsimp only [Pt.U, Pt.locs, Pt.cells, Pt.slots] at X108 l108 y108 z108 st108 hQ108
  subst l108 y108 z108
  obtain ⟨rfl, N108q, e108⟩ := hQ108
  have N108 := Fr.app N0 N108q
  have pre109 : ∀ t_, Steps p.tables e below (T108.setTop (mkF m 55 #[.val (.ref a1), .val (.ref a2), .val (.ref a2)] [(.int (1 : Int32))])) t_ → Steps p.tables e below (s₁.setTop (entryFrame m #[(.ref a1), (.ref a2)] 3)) t_ := fun t_ k_ => pre0 _ (by
    show Steps p.tables e below (s₁.setTop (mkF m 0 #[.val (.ref a1), .val (.ref a2), .unset] [])) _
    refine XS.aloadN X0.here hx rfl (hb hby d9_0) rfl rfl ?_
    show Steps p.tables e below (s₁.setTop (mkF m 1 #[.val (.ref a1), .val (.ref a2), .unset] [(.ref a1)])) _
    refine XS.aloadN X0.here hx rfl (hb hby d9_1) rfl rfl ?_
    show Steps p.tables e below (s₁.setTop (mkF m 2 #[.val (.ref a1), .val (.ref a2), .unset] [(.ref a2), (.ref a1)])) _
    refine Jvm.RoadKit.acmp (g := (mkF m 2 #[.val (.ref a1), .val (.ref a2), .unset] [(.ref a2), (.ref a1)])) X0 hx rfl rfl rfl (pc0 := 2) (pc' := 7) (same := false) rfl (hb hby d9_2) rfl (decide_eq_false fun q => ne (Value.ref.inj q)) (by decide) (by decide) ?_
    show Steps p.tables e below (s₁.setTop (mkF m 7 #[.val (.ref a1), .val (.ref a2), .unset] [])) _
    refine XS.aloadN X0.here hx rfl (hb hby d9_7) rfl rfl ?_
    show Steps p.tables e below (s₁.setTop (mkF m 8 #[.val (.ref a1), .val (.ref a2), .unset] [(.ref a2)])) _
    refine st101 _ ?_
    show Steps p.tables e below (T101.setTop (mkF m 11 #[.val (.ref a1), .val (.ref a2), .unset] [(.int (1 : Int32))])) _
    refine XS.ifNo X101.here hx rfl (hb hby d9_11) rfl ((if0 _ _).trans (feq (by decide : ¬ (1 : Int32) = 0)).1) ?_
    show Steps p.tables e below (T101.setTop (mkF m 14 #[.val (.ref a1), .val (.ref a2), .unset] [])) _
    refine XS.aloadN X101.here hx rfl (hb hby d9_14) rfl rfl ?_
    show Steps p.tables e below (T101.setTop (mkF m 15 #[.val (.ref a1), .val (.ref a2), .unset] [(.ref a2)])) _
    refine st102 _ ?_
    show Steps p.tables e below (T102.setTop (mkF m 18 #[.val (.ref a1), .val (.ref a2), .unset] [(.ref a2)])) _
    refine XS.astoreN X102.here hx rfl (hb hby d9_18) rfl rfl (l' := #[.val (.ref a1), .val (.ref a2), .val (.ref a2)]) rfl ?_
    show Steps p.tables e below (T102.setTop (mkF m 19 #[.val (.ref a1), .val (.ref a2), .val (.ref a2)] [])) _
    refine st103 _ ?_
    show Steps p.tables e below (T103.setTop (mkF m 22 #[.val (.ref a1), .val (.ref a2), .val (.ref a2)] [(.int zc)])) _
    refine XS.ifNo X103.here hx rfl (hb hby d9_22) rfl ((if0 _ _).trans (feq hzc).1) ?_
    show Steps p.tables e below (T103.setTop (mkF m 25 #[.val (.ref a1), .val (.ref a2), .val (.ref a2)] [])) _
    refine XS.aloadN X103.here hx rfl (hb hby d9_25) rfl rfl ?_
    show Steps p.tables e below (T103.setTop (mkF m 26 #[.val (.ref a1), .val (.ref a2), .val (.ref a2)] [(.ref a1)])) _
    refine st104 _ ?_
    show Steps p.tables e below (T104.setTop (mkF m 29 #[.val (.ref a1), .val (.ref a2), .val (.ref a2)] [(.int (0 : Int32))])) _
    refine XS.aloadN X104.here hx rfl (hb hby d9_29) rfl rfl ?_
    show Steps p.tables e below (T104.setTop (mkF m 30 #[.val (.ref a1), .val (.ref a2), .val (.ref a2)] [(.ref a2), (.int (0 : Int32))])) _
    refine st105 _ ?_
    show Steps p.tables e below (T105.setTop (mkF m 33 #[.val (.ref a1), .val (.ref a2), .val (.ref a2)] [(.int (0 : Int32)), (.int (0 : Int32))])) _
    refine XS.icmpNo X105.here hx rfl (hb hby d9_33) rfl (teq rfl).2 ?_
    show Steps p.tables e below (T105.setTop (mkF m 36 #[.val (.ref a1), .val (.ref a2), .val (.ref a2)] [])) _
    refine XS.aloadN X105.here hx rfl (hb hby d9_36) rfl rfl ?_
    show Steps p.tables e below (T105.setTop (mkF m 37 #[.val (.ref a1), .val (.ref a2), .val (.ref a2)] [(.ref a1)])) _
    refine st106 _ ?_
    show Steps p.tables e below (T106.setTop (mkF m 40 #[.val (.ref a1), .val (.ref a2), .val (.ref a2)] [(.ref t1)])) _
    refine XS.aloadN X106.here hx rfl (hb hby d9_40) rfl rfl ?_
    show Steps p.tables e below (T106.setTop (mkF m 41 #[.val (.ref a1), .val (.ref a2), .val (.ref a2)] [(.ref a2), (.ref t1)])) _
    refine st107 _ ?_
    show Steps p.tables e below (T107.setTop (mkF m 44 #[.val (.ref a1), .val (.ref a2), .val (.ref a2)] [(.ref t2), (.ref t1)])) _
    refine st108 _ ?_
    show Steps p.tables e below (T108.setTop (mkF m 47 #[.val (.ref a1), .val (.ref a2), .val (.ref a2)] [(.int (1 : Int32))])) _
    refine XS.ifNo X108.here hx rfl (hb hby d9_47) rfl ((if0 _ _).trans (feq (by decide : ¬ (1 : Int32) = 0)).1) ?_
    show Steps p.tables e below (T108.setTop (mkF m 50 #[.val (.ref a1), .val (.ref a2), .val (.ref a2)] [])) _
    refine XS.iconst X108.here hx rfl (hb hby d9_50) ?_
    show Steps p.tables e below (T108.setTop (mkF m 51 #[.val (.ref a1), .val (.ref a2), .val (.ref a2)] [(.int (1 : Int32))])) _
    refine XS.goto X108.here hx rfl (pc0 := 51) (pc' := 55) rfl (hb hby d9_51) (by decide) (by decide) ?_
    exact k_)
  obtain ⟨fs, hr, hrun, hended, hW, hsame⟩ := X108.leave (v := some (.int (1 : Int32))) (fun h => by rw [Bd.returns] at h; cases h)
  refine ⟨_, _, pre109 _ ?_, hrun, hended, _, _, rfl, ?_, ⟨_, rfl⟩, hW, hsame.mono (by decide) (by decide)⟩
  · show Steps p.tables e below (T108.setTop (mkF m 55 #[.val (.ref a1), .val (.ref a2), .val (.ref a2)] [(.int (1 : Int32))])) _
    exact retN X108 hx (t := .boolean) Bd.returns (by simp) (hb hby d9_55) hr
  · show QrmEc Z a1 a2 t1 t2 nN g zc h0 n0 _ T108.heap _
    rw [e108]
    exact ⟨rfl, N108, rfl⟩
theorem pd_7 : parseMethodDescriptor "(Ljava/lang/Object;)Z" = some ⟨[(.object "java/lang/Object")], some .boolean⟩ := by decide +kernel
theorem d20_0 : decode jdk_31_method_2_code 0 = .ok (.aload_n 0, 1) := by decide +kernel
theorem d20_1 : decode jdk_31_method_2_code 1 = .ok (.aload_n 1, 1) := by decide +kernel
theorem d20_2 : decode jdk_31_method_2_code 2 = .ok (.if_acmp .eq 15, 3) := by decide +kernel
theorem d20_5 : decode jdk_31_method_2_code 5 = .ok (.aload_n 0, 1) := by decide +kernel
theorem d20_6 : decode jdk_31_method_2_code 6 = .ok (.ifnull 15, 3) := by decide +kernel
theorem d20_9 : decode jdk_31_method_2_code 9 = .ok (.aload_n 0, 1) := by decide +kernel
theorem d20_10 : decode jdk_31_method_2_code 10 = .ok (.aload_n 1, 1) := by decide +kernel
theorem d20_11 : decode jdk_31_method_2_code 11 = .ok (.invokevirtual 14, 3) := by decide +kernel
theorem d20_14 : decode jdk_31_method_2_code 14 = .ok (.ifCond .eq 7, 3) := by decide +kernel
theorem d20_17 : decode jdk_31_method_2_code 17 = .ok (.iconst 1, 1) := by decide +kernel
theorem d20_18 : decode jdk_31_method_2_code 18 = .ok (.goto 4, 3) := by decide +kernel
theorem d20_22 : decode jdk_31_method_2_code 22 = .ok (.ireturn, 1) := by decide +kernel
theorem pn_3 : plainName "java/util/Objects" = true := by first | (simp [plainName, overriddenIn]; done) | decide +kernel
theorem ef_rmOE (m : MethodId) (x0 : Addr) (x1 : Addr) : entryFrame m #[(.ref x0), (.ref x1)] 2 = mkF m 0 #[.val (.ref x0), .val (.ref x1)] [] := by first | (simp [entryFrame, mkF, argsToLocals, Value.category]; done) | rfl
def QrmOE (Z : State) (a1 : Addr) (a2 : Addr) (t1 : Addr) (t2 : Addr) (nN : Nat) (g : Nat → Int32) (zc : Int32) (h0 : Heap) (n0 : Nat) (v : Option Value) (h : Heap) (L : List Loc) : Prop := v = some (.int (1 : Int32)) ∧ Fr n0 L ∧ h = h0
set_option maxRecDepth 65536 in
set_option maxHeartbeats 40000000 in
theorem rmOE (l : Launch) (Z : State) (a0 : Array Value) (hw : ∀ d ∈ tables_1, d.before a0 Z = true) (ws : List Jvm.Cond) (a1 : Addr) (a2 : Addr) (t1 : Addr) (t2 : Addr) (nN : Nat) (g : Nat → Int32) (zc : Int32) (h0 : Heap) (n0 : Nat) (Z0 : n0 ≤ h0.size) (b1 : nN ≤ 6) (L1 : own_L Z h0 a1 t1 nN g) (L2 : own_L Z h0 a2 t2 nN g) (ne : a1 ≠ a2) (S_c : Sta Z h0 "java/lang/String" "COMPACT_STRINGS" "Z" (.int zc)) (hzc : ¬ zc = 0) :
    MetFree l (⟨"java/util/Objects", "equals", "(Ljava/lang/Object;Ljava/lang/Object;)Z"⟩ : MethodName) (head1 (Jvm.Cond.code (⟨"java/util/Objects", "equals", "(Ljava/lang/Object;Ljava/lang/Object;)Z"⟩ : MethodName) jdk_31_method_2_code 2 (some .boolean) :: ws) ({ frames := 2, cells := 0, slots := 0, locals := 28 } : Room)) (fun a U => a = #[(.ref a1), (.ref a2)] ∧ Z.Warmed39 U.vm ∧ U.heap = h0) (fun _ _ _ _ _ => True) (fun _ U o U' => ∃ v L, o = .returned v ∧ QrmOE Z a1 a2 t1 t2 nN g zc h0 n0 v U'.heap L ∧ FrameEnd U o U' L ({ frames := 2, cells := 0, slots := 0, locals := 28 } : Room).cells ({ frames := 2, cells := 0, slots := 0, locals := 28 } : Room).slots) := by
  refine MetFree.of_bodySF (plainFor_of_name pn_3) hisR ?_
  intro p e s m args below meth c s₁ Bd hml0 hP hK
  obtain ⟨rfl, hZ, hh⟩ := hP
  have hx := Bd.exec
  have hby := Bd.bytes
  have hml : c.maxLocals = 2 := hml0
  have hown : s.vm.findClass "java/util/Objects" = some m.cls := findClass_of_methodNamed Bd.named
  have hnm := (name_of_methodNamed Bd.named Bd.method).1
  have X0 : Stand p l e ({ frames := 2, cells := 0, slots := 0, locals := 28 } : Room) s m #[(.ref a1), (.ref a2)] below meth c s₁ [] 0 0 := Stand.of_body Bd
  have e0 : s₁.heap = h0 := by rw [← hh, Bd.state]; rfl
  have N0 := Fr.nil n0
  have pre0 : ∀ t_, Steps p.tables e below (s₁.setTop (mkF m 0 #[.val (.ref a1), .val (.ref a2)] [])) t_ → Steps p.tables e below (s₁.setTop (entryFrame m #[(.ref a1), (.ref a2)] 2)) t_ := fun t_ k_ => castTop (ef_rmOE m a1 a2) k_
  obtain ⟨cq101, kq101, q101a, q101b, q101c⟩ := isOf hZ e0 L1.1
  obtain ⟨_, _, ⟨T101, L101, k101, n101⟩, -, X101, ⟨Lc101, hQ101, l101, y101, z101⟩, st101⟩ := X0.virtualBack hx (y := (⟨"java/lang/Object", "equals", "(Ljava/lang/Object;)Z"⟩ : MethodName)) (z := (⟨"java/lang/String", "equals", "(Ljava/lang/Object;)Z"⟩ : MethodName)) hown (mvT hZ (hw _ (List.mem_of_getElem? (i := 118) rfl))) (mvT hZ (hw _ (List.mem_of_getElem? (i := 119) rfl))) (own_nfo (args := #[]) (mvT hZ (hw _ (List.mem_of_getElem? (i := 104) rfl))) rfl) (mvT hZ (hw _ (List.mem_of_getElem? (i := 121) rfl))) (mvT hZ (hw _ (List.mem_of_getElem? (i := 54) rfl))) (by decide) (backOf (W := 0) (rmEc l Z a0 hw [] a1 a2 t1 t2 nN g zc h0 n0 Z0 b1 L1 L2 ne S_c hzc) hZ (hw _ (List.mem_of_getElem? (i := 56) rfl)) (hw _ (List.mem_of_getElem? (i := 3) rfl)) (by decide) (by decide)) q101a q101c (g := (mkF m 11 #[.val (.ref a1), .val (.ref a2)] [(.ref a2), (.ref a1)])) rfl (by rw [hml]; rfl) (Steps.refl _) (argsL := [(.ref a2)]) (rest := []) (lenOf pd_7 rfl) rfl (by show 2 * 0 + _ ≤ _; exact Nat.le_of_eq rfl) (hb hby d20_11) (fun _ _ => ⟨rfl, e0, (by decide : 0 + 0 ≤ _), (by decide : 0 + 0 ≤ _)⟩)
  dsimp only [Pt.U, Pt.locs, Pt.cells, Pt.slots] at X101 l101 y101 z101 st101 hQ101
  subst l101 y101 z101
  obtain ⟨rfl, N101q, e101⟩ := hQ101
  have N101 := Fr.app N0 N101q
  have pre102 : ∀ t_, Steps p.tables e below (T101.setTop (mkF m 22 #[.val (.ref a1), .val (.ref a2)] [(.int (1 : Int32))])) t_ → Steps p.tables e below (s₁.setTop (entryFrame m #[(.ref a1), (.ref a2)] 2)) t_ := fun t_ k_ => pre0 _ (by
    show Steps p.tables e below (s₁.setTop (mkF m 0 #[.val (.ref a1), .val (.ref a2)] [])) _
    refine XS.aloadN X0.here hx rfl (hb hby d20_0) rfl rfl ?_
    show Steps p.tables e below (s₁.setTop (mkF m 1 #[.val (.ref a1), .val (.ref a2)] [(.ref a1)])) _
    refine XS.aloadN X0.here hx rfl (hb hby d20_1) rfl rfl ?_
    show Steps p.tables e below (s₁.setTop (mkF m 2 #[.val (.ref a1), .val (.ref a2)] [(.ref a2), (.ref a1)])) _
    refine Jvm.RoadKit.acmp (g := (mkF m 2 #[.val (.ref a1), .val (.ref a2)] [(.ref a2), (.ref a1)])) X0 hx rfl rfl rfl (pc0 := 2) (pc' := 5) (same := false) rfl (hb hby d20_2) rfl (decide_eq_false fun q => ne (Value.ref.inj q)) (by decide) (by decide) ?_
    show Steps p.tables e below (s₁.setTop (mkF m 5 #[.val (.ref a1), .val (.ref a2)] [])) _
    refine XS.aloadN X0.here hx rfl (hb hby d20_5) rfl rfl ?_
    show Steps p.tables e below (s₁.setTop (mkF m 6 #[.val (.ref a1), .val (.ref a2)] [(.ref a1)])) _
    refine XS.ifnullNo X0.here hx rfl (hb hby d20_6) rfl ?_
    show Steps p.tables e below (s₁.setTop (mkF m 9 #[.val (.ref a1), .val (.ref a2)] [])) _
    refine XS.aloadN X0.here hx rfl (hb hby d20_9) rfl rfl ?_
    show Steps p.tables e below (s₁.setTop (mkF m 10 #[.val (.ref a1), .val (.ref a2)] [(.ref a1)])) _
    refine XS.aloadN X0.here hx rfl (hb hby d20_10) rfl rfl ?_
    show Steps p.tables e below (s₁.setTop (mkF m 11 #[.val (.ref a1), .val (.ref a2)] [(.ref a2), (.ref a1)])) _
    refine st101.trans ?_
    show Steps p.tables e below (T101.setTop (mkF m 14 #[.val (.ref a1), .val (.ref a2)] [(.int (1 : Int32))])) _
    refine XS.ifNo X101.here hx rfl (hb hby d20_14) rfl ((if0 _ _).trans (feq (by decide : ¬ (1 : Int32) = 0)).1) ?_
    show Steps p.tables e below (T101.setTop (mkF m 17 #[.val (.ref a1), .val (.ref a2)] [])) _
    refine XS.iconst X101.here hx rfl (hb hby d20_17) ?_
    show Steps p.tables e below (T101.setTop (mkF m 18 #[.val (.ref a1), .val (.ref a2)] [(.int (1 : Int32))])) _
    refine XS.goto X101.here hx rfl (pc0 := 18) (pc' := 22) rfl (hb hby d20_18) (by decide) (by decide) ?_
    exact k_)
  obtain ⟨fs, hr, hrun, hended, hW, hsame⟩ := X101.leave (v := some (.int (1 : Int32))) (fun h => by rw [Bd.returns] at h; cases h)
  refine ⟨_, _, pre102 _ ?_, hrun, hended, _, _, rfl, ?_, ⟨_, rfl⟩, hW, hsame.mono (by decide) (by decide)⟩
  · show Steps p.tables e below (T101.setTop (mkF m 22 #[.val (.ref a1), .val (.ref a2)] [(.int (1 : Int32))])) _
    exact retN X101 hx (t := .boolean) Bd.returns (by simp) (hb hby d20_22) hr
  · show QrmOE Z a1 a2 t1 t2 nN g zc h0 n0 _ T101.heap _
    rw [e101]
    exact ⟨rfl, N101, rfl⟩
theorem d22_0 : decode jdk_65_method_89_code 0 = .ok (.aload_n 0, 1) := by decide +kernel
theorem d22_1 : decode jdk_65_method_89_code 1 = .ok (.aload_n 1, 1) := by decide +kernel
theorem d22_2 : decode jdk_65_method_89_code 2 = .ok (.if_acmp .ne 5, 3) := by decide +kernel
theorem d22_5 : decode jdk_65_method_89_code 5 = .ok (.iconst 1, 1) := by decide +kernel
theorem d22_6 : decode jdk_65_method_89_code 6 = .ok (.ireturn, 1) := by decide +kernel
theorem pn_4 : plainName "java/util/Arrays" = true := by first | (simp [plainName, overriddenIn]; done) | decide +kernel
theorem ef_rmAE (m : MethodId)  : entryFrame m #[.null, .null] 3 = mkF m 0 #[.val .null, .val .null, .unset] [] := by first | (simp [entryFrame, mkF, argsToLocals, Value.category]; done) | rfl
def QrmAE (Z : State)  (h0 : Heap) (n0 : Nat) (v : Option Value) (h : Heap) (L : List Loc) : Prop := v = some (.int (1 : Int32)) ∧ Fr n0 L ∧ h = h0
set_option maxRecDepth 65536 in
set_option maxHeartbeats 40000000 in
theorem rmAE (l : Launch) (Z : State) (a0 : Array Value) (hw : ∀ d ∈ tables_1, d.before a0 Z = true) (ws : List Jvm.Cond)  (h0 : Heap) (n0 : Nat) (Z0 : n0 ≤ h0.size) :
    MetFree l (⟨"java/util/Arrays", "equals", "([B[B)Z"⟩ : MethodName) (head1 (Jvm.Cond.code (⟨"java/util/Arrays", "equals", "([B[B)Z"⟩ : MethodName) jdk_65_method_89_code 3 (some .boolean) :: ws) ({ frames := 0, cells := 0, slots := 0, locals := 0 } : Room)) (fun a U => a = #[.null, .null] ∧ Z.Warmed39 U.vm ∧ U.heap = h0) (fun _ _ _ _ _ => True) (fun _ U o U' => ∃ v L, o = .returned v ∧ QrmAE Z  h0 n0 v U'.heap L ∧ FrameEnd U o U' L ({ frames := 0, cells := 0, slots := 0, locals := 0 } : Room).cells ({ frames := 0, cells := 0, slots := 0, locals := 0 } : Room).slots) := by
  refine MetFree.of_bodySF (plainFor_of_name pn_4) hisR ?_
  intro p e s m args below meth c s₁ Bd hml0 hP hK
  obtain ⟨rfl, hZ, hh⟩ := hP
  have hx := Bd.exec
  have hby := Bd.bytes
  have hml : c.maxLocals = 3 := hml0
  have hown : s.vm.findClass "java/util/Arrays" = some m.cls := findClass_of_methodNamed Bd.named
  have hnm := (name_of_methodNamed Bd.named Bd.method).1
  have X0 : Stand p l e ({ frames := 0, cells := 0, slots := 0, locals := 0 } : Room) s m #[.null, .null] below meth c s₁ [] 0 0 := Stand.of_body Bd
  have e0 : s₁.heap = h0 := by rw [← hh, Bd.state]; rfl
  have N0 := Fr.nil n0
  have pre0 : ∀ t_, Steps p.tables e below (s₁.setTop (mkF m 0 #[.val .null, .val .null, .unset] [])) t_ → Steps p.tables e below (s₁.setTop (entryFrame m #[.null, .null] 3)) t_ := fun t_ k_ => castTop (ef_rmAE m ) k_
  have pre101 : ∀ t_, Steps p.tables e below (s₁.setTop (mkF m 6 #[.val .null, .val .null, .unset] [(.int (1 : Int32))])) t_ → Steps p.tables e below (s₁.setTop (entryFrame m #[.null, .null] 3)) t_ := fun t_ k_ => pre0 _ (by
    show Steps p.tables e below (s₁.setTop (mkF m 0 #[.val .null, .val .null, .unset] [])) _
    refine XS.aloadN X0.here hx rfl (hb hby d22_0) rfl rfl ?_
    show Steps p.tables e below (s₁.setTop (mkF m 1 #[.val .null, .val .null, .unset] [.null])) _
    refine XS.aloadN X0.here hx rfl (hb hby d22_1) rfl rfl ?_
    show Steps p.tables e below (s₁.setTop (mkF m 2 #[.val .null, .val .null, .unset] [.null, .null])) _
    refine Jvm.RoadKit.acmp (g := (mkF m 2 #[.val .null, .val .null, .unset] [.null, .null])) X0 hx rfl rfl rfl (pc0 := 2) (pc' := 5) (same := true) rfl (hb hby d22_2) rfl (decide_eq_true rfl) (by decide) (by decide) ?_
    show Steps p.tables e below (s₁.setTop (mkF m 5 #[.val .null, .val .null, .unset] [])) _
    refine XS.iconst X0.here hx rfl (hb hby d22_5) ?_
    exact k_)
  obtain ⟨fs, hr, hrun, hended, hW, hsame⟩ := X0.leave (v := some (.int (1 : Int32))) (fun h => by rw [Bd.returns] at h; cases h)
  refine ⟨_, _, pre101 _ ?_, hrun, hended, _, _, rfl, ?_, ⟨_, rfl⟩, hW, hsame.mono (by decide) (by decide)⟩
  · show Steps p.tables e below (s₁.setTop (mkF m 6 #[.val .null, .val .null, .unset] [(.int (1 : Int32))])) _
    exact retN X0 hx (t := .boolean) Bd.returns (by simp) (hb hby d22_6) hr
  · show QrmAE Z  h0 n0 _ s₁.heap _
    rw [e0]
    exact ⟨rfl, N0, rfl⟩
theorem d5_0 : decode jdk_31_method_11_code 0 = .ok (.aload_n 0, 1) := by decide +kernel
theorem d5_1 : decode jdk_31_method_11_code 1 = .ok (.ifnonnull 12, 3) := by decide +kernel
theorem d5_13 : decode jdk_31_method_11_code 13 = .ok (.aload_n 0, 1) := by decide +kernel
theorem d5_14 : decode jdk_31_method_11_code 14 = .ok (.areturn, 1) := by decide +kernel
theorem ef_rmQ (m : MethodId) (x0 : Addr) (x1 : Addr) : entryFrame m #[(.ref x0), (.ref x1)] 2 = mkF m 0 #[.val (.ref x0), .val (.ref x1)] [] := by first | (simp [entryFrame, mkF, argsToLocals, Value.category]; done) | rfl
def QrmQ (Z : State) (a1 : Addr) (a2 : Addr) (h0 : Heap) (n0 : Nat) (v : Option Value) (h : Heap) (L : List Loc) : Prop := v = some (.ref a1) ∧ Fr n0 L ∧ h = h0
set_option maxRecDepth 65536 in
set_option maxHeartbeats 40000000 in
theorem rmQ (l : Launch) (Z : State) (a0 : Array Value) (hw : ∀ d ∈ tables_1, d.before a0 Z = true) (ws : List Jvm.Cond) (a1 : Addr) (a2 : Addr) (h0 : Heap) (n0 : Nat) (Z0 : n0 ≤ h0.size) :
    MetFree l (⟨"java/util/Objects", "requireNonNull", "(Ljava/lang/Object;Ljava/lang/String;)Ljava/lang/Object;"⟩ : MethodName) (head1 (Jvm.Cond.code (⟨"java/util/Objects", "requireNonNull", "(Ljava/lang/Object;Ljava/lang/String;)Ljava/lang/Object;"⟩ : MethodName) jdk_31_method_11_code 2 (some (.object "java/lang/Object")) :: ws) ({ frames := 0, cells := 0, slots := 0, locals := 0 } : Room)) (fun a U => a = #[(.ref a1), (.ref a2)] ∧ Z.Warmed39 U.vm ∧ U.heap = h0) (fun _ _ _ _ _ => True) (fun _ U o U' => ∃ v L, o = .returned v ∧ QrmQ Z a1 a2 h0 n0 v U'.heap L ∧ FrameEnd U o U' L ({ frames := 0, cells := 0, slots := 0, locals := 0 } : Room).cells ({ frames := 0, cells := 0, slots := 0, locals := 0 } : Room).slots) := by
  refine MetFree.of_bodySF (plainFor_of_name pn_3) hisR ?_
  intro p e s m args below meth c s₁ Bd hml0 hP hK
  obtain ⟨rfl, hZ, hh⟩ := hP
  have hx := Bd.exec
  have hby := Bd.bytes
  have hml : c.maxLocals = 2 := hml0
  have hown : s.vm.findClass "java/util/Objects" = some m.cls := findClass_of_methodNamed Bd.named
  have hnm := (name_of_methodNamed Bd.named Bd.method).1
  have X0 : Stand p l e ({ frames := 0, cells := 0, slots := 0, locals := 0 } : Room) s m #[(.ref a1), (.ref a2)] below meth c s₁ [] 0 0 := Stand.of_body Bd
  have e0 : s₁.heap = h0 := by rw [← hh, Bd.state]; rfl
  have N0 := Fr.nil n0
  have pre0 : ∀ t_, Steps p.tables e below (s₁.setTop (mkF m 0 #[.val (.ref a1), .val (.ref a2)] [])) t_ → Steps p.tables e below (s₁.setTop (entryFrame m #[(.ref a1), (.ref a2)] 2)) t_ := fun t_ k_ => castTop (ef_rmQ m a1 a2) k_
  have pre101 : ∀ t_, Steps p.tables e below (s₁.setTop (mkF m 14 #[.val (.ref a1), .val (.ref a2)] [(.ref a1)])) t_ → Steps p.tables e below (s₁.setTop (entryFrame m #[(.ref a1), (.ref a2)] 2)) t_ := fun t_ k_ => pre0 _ (by
    show Steps p.tables e below (s₁.setTop (mkF m 0 #[.val (.ref a1), .val (.ref a2)] [])) _
    refine XS.aloadN X0.here hx rfl (hb hby d5_0) rfl rfl ?_
    show Steps p.tables e below (s₁.setTop (mkF m 1 #[.val (.ref a1), .val (.ref a2)] [(.ref a1)])) _
    refine XS.ifnonnullYes X0.here hx rfl (pc0 := 1) (pc' := 13) rfl (hb hby d5_1) rfl (by decide) (by decide) ?_
    show Steps p.tables e below (s₁.setTop (mkF m 13 #[.val (.ref a1), .val (.ref a2)] [])) _
    refine XS.aloadN X0.here hx rfl (hb hby d5_13) rfl rfl ?_
    exact k_)
  obtain ⟨fs, hr, hrun, hended, hW, hsame⟩ := X0.leave (v := some (.ref a1)) (fun h => by rw [Bd.returns] at h; cases h)
  refine ⟨_, _, pre101 _ ?_, hrun, hended, _, _, rfl, ?_, ⟨_, rfl⟩, hW, hsame.mono (by decide) (by decide)⟩
  · show Steps p.tables e below (s₁.setTop (mkF m 14 #[.val (.ref a1), .val (.ref a2)] [(.ref a1)])) _
    jvm_step X0.here [X0.here.top, hx, (hb hby d5_14), X0.method', Bd.returns, Value.isRef, FieldType.isReference]
    first | (intro acts; rw [hr _ acts rfl rfl rfl]) | rw [hr _ _ rfl rfl rfl]
    exact Steps.refl _
  · show QrmQ Z a1 a2 h0 n0 _ s₁.heap _
    rw [e0]
    exact ⟨rfl, N0, rfl⟩
theorem d6_0 : decode prog_22_method_1_code 0 = .ok (.aload_n 0, 1) := by decide +kernel
theorem d6_1 : decode prog_22_method_1_code 1 = .ok (.invokespecial 1, 3) := by decide +kernel
theorem d6_4 : decode prog_22_method_1_code 4 = .ok (.aload_n 0, 1) := by decide +kernel
theorem d6_5 : decode prog_22_method_1_code 5 = .ok (.aload_n 1, 1) := by decide +kernel
theorem d6_6 : decode prog_22_method_1_code 6 = .ok (.putfield 7, 3) := by decide +kernel
theorem d6_9 : decode prog_22_method_1_code 9 = .ok (.aload_n 0, 1) := by decide +kernel
theorem d6_10 : decode prog_22_method_1_code 10 = .ok (.aload_n 2, 1) := by decide +kernel
theorem d6_11 : decode prog_22_method_1_code 11 = .ok (.putfield 13, 3) := by decide +kernel
theorem d6_14 : decode prog_22_method_1_code 14 = .ok (.return_, 1) := by decide +kernel
theorem pn_5 : plainName "com/example/ledgerpost/ledgerpost/Payload" = true := by first | (simp [plainName, overriddenIn]; done) | decide +kernel
theorem ef_rmC (m : MethodId) (x0 : Addr) (x1 : Addr) : entryFrame m #[(.ref x0), (.ref x1), .null] 3 = mkF m 0 #[.val (.ref x0), .val (.ref x1), .val .null] [] := by first | (simp [entryFrame, mkF, argsToLocals, Value.category]; done) | rfl
def QrmC (Z : State) (a1 : Addr) (a2 : Addr) (h0 : Heap) (n0 : Nat) (v : Option Value) (h : Heap) (L : List Loc) : Prop := v = none ∧ Fr n0 L ∧ Keep h0 h [a1] ∧ Exa Z h a1 "com/example/ledgerpost/ledgerpost/Payload" ∧ Fld Z h a1 "com/example/ledgerpost/ledgerpost/Payload" "text" "Ljava/lang/String;" (.ref a2) ∧ Fld Z h a1 "com/example/ledgerpost/ledgerpost/Payload" "bytes" "[B" .null
set_option maxRecDepth 65536 in
set_option maxHeartbeats 40000000 in
theorem rmC (l : Launch) (Z : State) (a0 : Array Value) (hw : ∀ d ∈ tables_1, d.before a0 Z = true) (ws : List Jvm.Cond) (a1 : Addr) (a2 : Addr) (h0 : Heap) (n0 : Nat) (Z0 : n0 ≤ h0.size) (E_o : Exa Z h0 a1 "com/example/ledgerpost/ledgerpost/Payload") (F_0 : Fld Z h0 a1 "com/example/ledgerpost/ledgerpost/Payload" "text" "Ljava/lang/String;" .null) (F_1 : Fld Z h0 a1 "com/example/ledgerpost/ledgerpost/Payload" "bytes" "[B" .null) (g_a1 : n0 ≤ a1) :
    MetFree l (⟨"com/example/ledgerpost/ledgerpost/Payload", "<init>", "(Ljava/lang/String;[B)V"⟩ : MethodName) (head1 (Jvm.Cond.code (⟨"com/example/ledgerpost/ledgerpost/Payload", "<init>", "(Ljava/lang/String;[B)V"⟩ : MethodName) prog_22_method_1_code 3 none :: ws) ({ frames := 1, cells := 0, slots := 0, locals := 12 } : Room)) (fun a U => a = #[(.ref a1), (.ref a2), .null] ∧ Z.Warmed39 U.vm ∧ U.heap = h0) (fun _ _ _ _ _ => True) (fun _ U o U' => ∃ v L, o = .returned v ∧ QrmC Z a1 a2 h0 n0 v U'.heap L ∧ FrameEnd U o U' L ({ frames := 1, cells := 0, slots := 0, locals := 12 } : Room).cells ({ frames := 1, cells := 0, slots := 0, locals := 12 } : Room).slots) := by
  refine MetFree.of_bodySF (plainFor_of_name pn_5) hisR ?_
  intro p e s m args below meth c s₁ Bd hml0 hP hK
  obtain ⟨rfl, hZ, hh⟩ := hP
  have hx := Bd.exec
  have hby := Bd.bytes
  have hml : c.maxLocals = 3 := hml0
  have hown : s.vm.findClass "com/example/ledgerpost/ledgerpost/Payload" = some m.cls := findClass_of_methodNamed Bd.named
  have hnm := (name_of_methodNamed Bd.named Bd.method).1
  have X0 : Stand p l e ({ frames := 1, cells := 0, slots := 0, locals := 12 } : Room) s m #[(.ref a1), (.ref a2), .null] below meth c s₁ [] 0 0 := Stand.of_body Bd
  have e0 : s₁.heap = h0 := by rw [← hh, Bd.state]; rfl
  have N0 := Fr.nil n0
  have pre0 : ∀ t_, Steps p.tables e below (s₁.setTop (mkF m 0 #[.val (.ref a1), .val (.ref a2), .val .null] [])) t_ → Steps p.tables e below (s₁.setTop (entryFrame m #[(.ref a1), (.ref a2), .null] 3)) t_ := fun t_ k_ => castTop (ef_rmC m a1 a2) k_
  obtain ⟨T101, X101, e101, st101⟩ := initO X0 hx hZ hown (hw _ (List.mem_of_getElem? (i := 37) rfl)) (hw _ (List.mem_of_getElem? (i := 12) rfl)) (hw _ (List.mem_of_getElem? (i := 13) rfl)) e0 (g := (mkF m 1 #[.val (.ref a1), .val (.ref a2), .val .null] [(.ref a1)])) rfl (by rw [hml]; rfl) rfl (hb hby d6_1) (by decide) (W := 0) (by show 2 * 0 + _ ≤ _; exact Nat.le_of_eq rfl) (by decide)
  obtain ⟨T102, h102, X102, e102, W102, st102⟩ := putF X101 hx hZ hown (host := "") (Or.inl (hw _ (List.mem_of_getElem? (i := 38) rfl))) Via.refl e101 F_0 E_o (Or.inr ⟨(hw _ (List.mem_of_getElem? (i := 39) rfl)), rfl, hnm⟩) (hw _ (List.mem_of_getElem? (i := 27) rfl)) (ty := (.object "java/lang/String")) (by decide) rfl rfl (g := (mkF m 6 #[.val (.ref a1), .val (.ref a2), .val .null] [(.ref a2), (.ref a1)])) rfl rfl (hb hby d6_6)
  have F1_103 := F_1.other W102 (Or.inr (slot_ne (Or.inr (hw _ (List.mem_of_getElem? (i := 41) rfl))) (Or.inr (hw _ (List.mem_of_getElem? (i := 39) rfl))) (by decide) (t := (.array .byte)) (t' := (.object "java/lang/String")) (by decide) (by decide)))
  have E_104 := E_o.wr W102
  have K_105 := (Keep.refl h0 [a1]).wr W102 (Or.inl (List.mem_of_getElem? (i := 0) rfl))
  have F0_106 := F_0.same W102
  have N102 := Fr.snoc X102 N0 g_a1
  have Z107 : n0 ≤ h102.size := Nat.le_trans Z0 ((Keep.of_wr W102).1)
  obtain ⟨T108, h108, X108, e108, W108, st108⟩ := putF X102 hx hZ hown (host := "") (Or.inl (hw _ (List.mem_of_getElem? (i := 40) rfl))) Via.refl e102 F1_103 E_104 (Or.inr ⟨(hw _ (List.mem_of_getElem? (i := 41) rfl)), rfl, hnm⟩) (hw _ (List.mem_of_getElem? (i := 27) rfl)) (ty := (.array .byte)) (by decide) rfl rfl (g := (mkF m 11 #[.val (.ref a1), .val (.ref a2), .val .null] [.null, (.ref a1)])) rfl rfl (hb hby d6_11)
  have F0_109 := F0_106.other W108 (Or.inr (slot_ne (Or.inr (hw _ (List.mem_of_getElem? (i := 39) rfl))) (Or.inr (hw _ (List.mem_of_getElem? (i := 41) rfl))) (by decide) (t := (.object "java/lang/String")) (t' := (.array .byte)) (by decide) (by decide)))
  have E_110 := E_104.wr W108
  have K_111 := K_105.wr W108 (Or.inl (List.mem_of_getElem? (i := 0) rfl))
  have F1_112 := F1_103.same W108
  have N108 := Fr.snoc X108 N102 g_a1
  have Z113 : n0 ≤ h108.size := Nat.le_trans Z107 ((Keep.of_wr W108).1)
  have pre114 : ∀ t_, Steps p.tables e below (T108.setTop (mkF m 14 #[.val (.ref a1), .val (.ref a2), .val .null] [])) t_ → Steps p.tables e below (s₁.setTop (entryFrame m #[(.ref a1), (.ref a2), .null] 3)) t_ := fun t_ k_ => pre0 _ (by
    show Steps p.tables e below (s₁.setTop (mkF m 0 #[.val (.ref a1), .val (.ref a2), .val .null] [])) _
    refine XS.aloadN X0.here hx rfl (hb hby d6_0) rfl rfl ?_
    show Steps p.tables e below (s₁.setTop (mkF m 1 #[.val (.ref a1), .val (.ref a2), .val .null] [(.ref a1)])) _
    refine st101 _ ?_
    show Steps p.tables e below (T101.setTop (mkF m 4 #[.val (.ref a1), .val (.ref a2), .val .null] [])) _
    refine XS.aloadN X101.here hx rfl (hb hby d6_4) rfl rfl ?_
    show Steps p.tables e below (T101.setTop (mkF m 5 #[.val (.ref a1), .val (.ref a2), .val .null] [(.ref a1)])) _
    refine XS.aloadN X101.here hx rfl (hb hby d6_5) rfl rfl ?_
    show Steps p.tables e below (T101.setTop (mkF m 6 #[.val (.ref a1), .val (.ref a2), .val .null] [(.ref a2), (.ref a1)])) _
    refine st102 _ ?_
    show Steps p.tables e below (T102.setTop (mkF m 9 #[.val (.ref a1), .val (.ref a2), .val .null] [])) _
    refine XS.aloadN X102.here hx rfl (hb hby d6_9) rfl rfl ?_
    show Steps p.tables e below (T102.setTop (mkF m 10 #[.val (.ref a1), .val (.ref a2), .val .null] [(.ref a1)])) _
    refine XS.aloadN X102.here hx rfl (hb hby d6_10) rfl rfl ?_
    show Steps p.tables e below (T102.setTop (mkF m 11 #[.val (.ref a1), .val (.ref a2), .val .null] [.null, (.ref a1)])) _
    refine st108 _ ?_
    exact k_)
  obtain ⟨fs, hr, hrun, hended, hW, hsame⟩ := X108.leave (v := none) (fun _ => rfl)
  refine ⟨_, _, pre114 _ ?_, hrun, hended, _, _, rfl, ?_, ⟨_, rfl⟩, hW, hsame.mono (by decide) (by decide)⟩
  · show Steps p.tables e below (T108.setTop (mkF m 14 #[.val (.ref a1), .val (.ref a2), .val .null] [])) _
    exact X108.returnOut hx Bd.returns (hb hby d6_14) hr
  · show QrmC Z a1 a2 h0 n0 _ T108.heap _
    rw [e108]
    exact ⟨rfl, N108, K_111, E_110, F0_109, F1_112⟩
theorem pd_8 : parseMethodDescriptor "(Ljava/lang/Object;Ljava/lang/String;)Ljava/lang/Object;" = some ⟨[(.object "java/lang/Object"), (.object "java/lang/String")], some (.object "java/lang/Object")⟩ := by decide +kernel
theorem pd_9 : parseMethodDescriptor "(Ljava/lang/String;[B)V" = some ⟨[(.object "java/lang/String"), (.array .byte)], none⟩ := by decide +kernel
theorem d4_0 : decode prog_22_method_2_code 0 = .ok (.new 8, 3) := by decide +kernel
theorem d4_3 : decode prog_22_method_2_code 3 = .ok (.dup, 1) := by decide +kernel
theorem d4_4 : decode prog_22_method_2_code 4 = .ok (.aload_n 0, 1) := by decide +kernel
theorem d4_5 : decode prog_22_method_2_code 5 = .ok (.ldc 17, 2) := by decide +kernel
theorem d4_7 : decode prog_22_method_2_code 7 = .ok (.invokestatic 18, 3) := by decide +kernel
theorem d4_10 : decode prog_22_method_2_code 10 = .ok (.checkcast 24, 3) := by decide +kernel
theorem d4_13 : decode prog_22_method_2_code 13 = .ok (.aconst_null, 1) := by decide +kernel
theorem d4_14 : decode prog_22_method_2_code 14 = .ok (.invokespecial 26, 3) := by decide +kernel
theorem d4_17 : decode prog_22_method_2_code 17 = .ok (.areturn, 1) := by decide +kernel
theorem ef_rmO (m : MethodId) (x0 : Addr) : entryFrame m #[(.ref x0)] 1 = mkF m 0 #[.val (.ref x0)] [] := by first | (simp [entryFrame, mkF, argsToLocals, Value.category]; done) | rfl
def QrmO (Z : State) (a1 : Addr) (h0 : Heap) (n0 : Nat) (v : Option Value) (h : Heap) (L : List Loc) : Prop := ∃ b : Addr, v = some (.ref b) ∧ Fr n0 L ∧ Keep h0 h [] ∧ Exa Z h b "com/example/ledgerpost/ledgerpost/Payload" ∧ Fld Z h b "com/example/ledgerpost/ledgerpost/Payload" "text" "Ljava/lang/String;" (.ref a1) ∧ Fld Z h b "com/example/ledgerpost/ledgerpost/Payload" "bytes" "[B" .null ∧ h0.size ≤ b
set_option maxRecDepth 65536 in
set_option maxHeartbeats 40000000 in
theorem rmO (l : Launch) (Z : State) (a0 : Array Value) (hw : ∀ d ∈ tables_1, d.before a0 Z = true) (ws : List Jvm.Cond) (a1 : Addr) (h0 : Heap) (n0 : Nat) (Z0 : n0 ≤ h0.size) (E_s : Exa Z h0 a1 "java/lang/String") :
    MetFree l (⟨"com/example/ledgerpost/ledgerpost/Payload", "ofText", "(Ljava/lang/String;)Lcom/example/ledgerpost/ledgerpost/Payload;"⟩ : MethodName) (head1 (Jvm.Cond.code (⟨"com/example/ledgerpost/ledgerpost/Payload", "ofText", "(Ljava/lang/String;)Lcom/example/ledgerpost/ledgerpost/Payload;"⟩ : MethodName) prog_22_method_2_code 1 (some (.object "com/example/ledgerpost/ledgerpost/Payload")) :: ws) ({ frames := 2, cells := 3, slots := 22, locals := 27 } : Room)) (fun a U => a = #[(.ref a1)] ∧ Z.Warmed39 U.vm ∧ U.heap = h0) (fun _ _ _ _ _ => True) (fun _ U o U' => ∃ v L, o = .returned v ∧ QrmO Z a1 h0 n0 v U'.heap L ∧ ReturnedEndW U o U' L ({ frames := 2, cells := 3, slots := 22, locals := 27 } : Room).cells ({ frames := 2, cells := 3, slots := 22, locals := 27 } : Room).slots) := by
  refine MetFree.of_bodySF (plainFor_of_name pn_5) hisR ?_
  intro p e s m args below meth c s₁ Bd hml0 hP hK
  obtain ⟨rfl, hZ, hh⟩ := hP
  have hx := Bd.exec
  have hby := Bd.bytes
  have hml : c.maxLocals = 1 := hml0
  have hown : s.vm.findClass "com/example/ledgerpost/ledgerpost/Payload" = some m.cls := findClass_of_methodNamed Bd.named
  have hnm := (name_of_methodNamed Bd.named Bd.method).1
  have X0 : Stand p l e ({ frames := 2, cells := 3, slots := 22, locals := 27 } : Room) s m #[(.ref a1)] below meth c s₁ [] 0 0 := Stand.of_body Bd
  have e0 : s₁.heap = h0 := by rw [← hh, Bd.state]; rfl
  have N0 := Fr.nil n0
  have pre0 : ∀ t_, Steps p.tables e below (s₁.setTop (mkF m 0 #[.val (.ref a1)] [])) t_ → Steps p.tables e below (s₁.setTop (entryFrame m #[(.ref a1)] 1)) t_ := fun t_ k_ => castTop (ef_rmO m a1) k_
  obtain ⟨T101, h101, X101, e101, Ext_b, E_b, D_b, -, st101⟩ := newO X0 hx hZ hown (hw _ (List.mem_of_getElem? (i := 26) rfl)) (hw _ (List.mem_of_getElem? (i := 27) rfl)) (hw _ (List.mem_of_getElem? (i := 24) rfl)) e0 (g := (mkF m 0 #[.val (.ref a1)] [])) rfl (hb hby d4_0) (by decide) (by decide)
  obtain ⟨b, eq_b⟩ : ∃ z, z = h0.size := ⟨_, rfl⟩
  rw [← eq_b] at E_b D_b st101
  have g_b : n0 ≤ b := Nat.le_trans Z0 (Nat.le_of_eq eq_b.symm)
  have ne_a1_b : a1 ≠ b := Nat.ne_of_lt (Nat.lt_of_lt_of_le E_s.lt (Nat.le_of_eq eq_b.symm))
  have Es_102 := E_s.ext Ext_b
  have Z103 : n0 ≤ h101.size := Nat.le_trans Z0 (Ext_b.1)
  have F0_b : Fld Z h101 b "com/example/ledgerpost/ledgerpost/Payload" "text" "Ljava/lang/String;" .null := D_b (Or.inr (hw _ (List.mem_of_getElem? (i := 39) rfl))) (ty := (.object "java/lang/String")) (by decide)
  have F1_b : Fld Z h101 b "com/example/ledgerpost/ledgerpost/Payload" "bytes" "[B" .null := D_b (Or.inr (hw _ (List.mem_of_getElem? (i := 41) rfl))) (ty := (.array .byte)) (by decide)
  have K0 := (Keep.refl h0 []).ext Ext_b
  obtain ⟨st_, T104, h104, k1_104, X104, e104, Ext104, hS104, hk104, hZ104, hown104, st104⟩ := Jvm.RoadKit.ldcS (s := s) (vm0 := s.vm) X101 hx hZ hown (hw _ (List.mem_of_getElem? (i := 28) rfl)) (own_wS hw) e101 ((State.WarmedH.refl s).since 0) (Nat.zero_le _) (g := (mkF m 5 #[.val (.ref a1)] [(.ref a1), (.ref b), (.ref b)])) rfl (hb hby d4_5) (n := 16) (by first | decide | decide +kernel | simp) (by decide) (by decide) (by decide)
  have Es_105 := Es_102.ext Ext104
  have E_b_107 := E_b.ext Ext104
  have F0_b_108 := F0_b.ext Ext104
  have F1_b_109 := F1_b.ext Ext104
  have K_110 := K0.ext Ext104
  have Z111 : n0 ≤ h104.size := Nat.le_trans Z103 (Ext104.1)
  obtain ⟨_, _, ⟨T112, L112, k112, n112⟩, -, X112, ⟨Lc112, hQ112, l112, y112, z112⟩, st112⟩ := Jvm.LawKit.callS X104 hx (y := (⟨"java/util/Objects", "requireNonNull", "(Ljava/lang/Object;Ljava/lang/String;)Ljava/lang/Object;"⟩ : MethodName)) hown104 (mvT hZ104 (hw _ (List.mem_of_getElem? (i := 29) rfl))) (mvT hZ104 (hw _ (List.mem_of_getElem? (i := 30) rfl))) (mvT hZ104 (hw _ (List.mem_of_getElem? (i := 31) rfl))) (mvT hZ104 (hw _ (List.mem_of_getElem? (i := 32) rfl))) (by decide) (backOf (W := 2) (rmQ l Z a0 hw [] a1 st_ h104 n0 Z111 ) hZ104 (hw _ (List.mem_of_getElem? (i := 32) rfl)) (hw _ (List.mem_of_getElem? (i := 31) rfl)) (by decide) (by decide)) (g := (mkF m 7 #[.val (.ref a1)] [(.ref st_), (.ref a1), (.ref b), (.ref b)])) rfl (by rw [hml]; rfl) (argsL := [(.ref a1), (.ref st_)]) (rest := [(.ref b), (.ref b)]) (lenOf pd_8 rfl) rfl (by show 2 * 0 + _ ≤ _; exact Nat.le_of_eq rfl) (hb hby d4_7) (fun _ _ => ⟨rfl, e104, (by decide : 3 + 0 ≤ _), (by decide : 22 + 0 ≤ _)⟩)
  dsimp only [Pt.U, Pt.locs, Pt.cells, Pt.slots] at X112 l112 y112 z112 st112 hQ112
  subst l112 y112 z112
  obtain ⟨rfl, N112q, e112⟩ := hQ112
  have N112 := Fr.app N0 N112q
  obtain ⟨T113, X113, e113, st113⟩ := castY X112 hx hZ104 hown104 (hw _ (List.mem_of_getElem? (i := 33) rfl)) e112 (Ins.self Es_105) (g := (mkF m 10 #[.val (.ref a1)] [(.ref a1), (.ref b), (.ref b)])) rfl rfl (hb hby d4_10)
  obtain ⟨_, _, ⟨T114, L114, k114, n114⟩, -, X114, ⟨Lc114, hQ114, l114, y114, z114⟩, st114⟩ := X113.specialBack hx (y := (⟨"com/example/ledgerpost/ledgerpost/Payload", "<init>", "(Ljava/lang/String;[B)V"⟩ : MethodName)) rfl hown104 (mvT hZ104 (hw _ (List.mem_of_getElem? (i := 34) rfl))) (mvT hZ104 (hw _ (List.mem_of_getElem? (i := 35) rfl))) (mvT hZ104 (hw _ (List.mem_of_getElem? (i := 36) rfl))) (by decide) (backOf (W := 1) (rmC l Z a0 hw [] b a1 h104 n0 Z111 E_b_107 F0_b_108 F1_b_109 g_b) hZ104 (hw _ (List.mem_of_getElem? (i := 36) rfl)) (hw _ (List.mem_of_getElem? (i := 24) rfl)) (by decide) (by decide)) (g := (mkF m 14 #[.val (.ref a1)] [.null, (.ref a1), (.ref b), (.ref b)])) rfl (by rw [hml]; rfl) (Steps.refl _) (a := b) (argsL := [(.ref a1), .null]) (rest := [(.ref b)]) (lenOf pd_9 rfl) rfl (by show 2 * 0 + _ ≤ _; exact Nat.le_of_eq rfl) (hb hby d4_14) (fun _ _ => ⟨rfl, e113, (by decide : 3 + 0 ≤ _), (by decide : 22 + 0 ≤ _)⟩)
  dsimp only [Pt.U, Pt.locs, Pt.cells, Pt.slots] at X114 l114 y114 z114 st114 hQ114
  subst l114 y114 z114
  obtain ⟨rfl, N114q, K114, E114, F0114, F1114⟩ := hQ114
  have N114 := Fr.app N112 N114q
  have KF := K_110.trans K114 (allS (Or.inr (Nat.le_of_eq eq_b.symm)) all0)
  have Z115 : n0 ≤ T114.heap.size := Nat.le_trans Z111 (K114.1)
  have hk116 := Nat.le_trans hk104 (K114.1)
  have pre117 : ∀ t_, Steps p.tables e below (T114.setTop (mkF m 17 #[.val (.ref a1)] [(.ref b)])) t_ → Steps p.tables e below (s₁.setTop (entryFrame m #[(.ref a1)] 1)) t_ := fun t_ k_ => pre0 _ (by
    show Steps p.tables e below (s₁.setTop (mkF m 0 #[.val (.ref a1)] [])) _
    refine st101 _ ?_
    show Steps p.tables e below (T101.setTop (mkF m 3 #[.val (.ref a1)] [(.ref b)])) _
    refine XS.dup X101.here hx rfl (hb hby d4_3) rfl rfl ?_
    show Steps p.tables e below (T101.setTop (mkF m 4 #[.val (.ref a1)] [(.ref b), (.ref b)])) _
    refine XS.aloadN X101.here hx rfl (hb hby d4_4) rfl rfl ?_
    show Steps p.tables e below (T101.setTop (mkF m 5 #[.val (.ref a1)] [(.ref a1), (.ref b), (.ref b)])) _
    refine st104 _ ?_
    show Steps p.tables e below (T104.setTop (mkF m 7 #[.val (.ref a1)] [(.ref st_), (.ref a1), (.ref b), (.ref b)])) _
    refine st112 _ ?_
    show Steps p.tables e below (T112.setTop (mkF m 10 #[.val (.ref a1)] [(.ref a1), (.ref b), (.ref b)])) _
    refine st113 _ ?_
    show Steps p.tables e below (T113.setTop (mkF m 13 #[.val (.ref a1)] [(.ref a1), (.ref b), (.ref b)])) _
    refine XS.aconstNull X113.here hx rfl (hb hby d4_13) ?_
    show Steps p.tables e below (T113.setTop (mkF m 14 #[.val (.ref a1)] [.null, (.ref a1), (.ref b), (.ref b)])) _
    refine st114.trans ?_
    exact k_)
  obtain ⟨fs, hr, hrun, hended, hWr, hW1, hW2, hsame⟩ := Jvm.Stand.leaveW (s := s) X114 hS104 (by exact hk116) (v := some (.ref b)) (fun h => by rw [Bd.returns] at h; cases h)
  refine ⟨_, _, pre117 _ ?_, hrun, hended, _, _, rfl, ?_, hWr, hW1, hW2, hsame.mono (by decide) (by decide)⟩
  · show Steps p.tables e below (T114.setTop (mkF m 17 #[.val (.ref a1)] [(.ref b)])) _
    jvm_step X114.here [X114.here.top, hx, (hb hby d4_17), X114.method', Bd.returns, Value.isRef, FieldType.isReference]
    first | (intro acts; rw [hr _ acts rfl rfl rfl]) | rw [hr _ _ rfl rfl rfl]
    exact Steps.refl _
  · show QrmO Z a1 h0 n0 _ T114.heap _
    exact ⟨b, rfl, N114, KF, E114, F0114, F1114, Nat.le_of_eq eq_b.symm⟩
theorem d7_0 : decode prog_22_method_4_code 0 = .ok (.aload_n 0, 1) := by decide +kernel
theorem d7_1 : decode prog_22_method_4_code 1 = .ok (.getfield 7, 3) := by decide +kernel
theorem d7_4 : decode prog_22_method_4_code 4 = .ok (.ifnull 7, 3) := by decide +kernel
theorem d7_7 : decode prog_22_method_4_code 7 = .ok (.iconst 1, 1) := by decide +kernel
theorem d7_8 : decode prog_22_method_4_code 8 = .ok (.goto 4, 3) := by decide +kernel
theorem d7_12 : decode prog_22_method_4_code 12 = .ok (.ireturn, 1) := by decide +kernel
theorem ef_rmIt (m : MethodId) (x0 : Addr) : entryFrame m #[(.ref x0)] 1 = mkF m 0 #[.val (.ref x0)] [] := by first | (simp [entryFrame, mkF, argsToLocals, Value.category]; done) | rfl
def QrmIt (Z : State) (a1 : Addr) (x1 : Addr) (h0 : Heap) (n0 : Nat) (v : Option Value) (h : Heap) (L : List Loc) : Prop := v = some (.int (1 : Int32)) ∧ Fr n0 L ∧ h = h0
set_option maxRecDepth 65536 in
set_option maxHeartbeats 40000000 in
theorem rmIt (l : Launch) (Z : State) (a0 : Array Value) (hw : ∀ d ∈ tables_1, d.before a0 Z = true) (ws : List Jvm.Cond) (a1 : Addr) (x1 : Addr) (h0 : Heap) (n0 : Nat) (Z0 : n0 ≤ h0.size) (F0 : Fld Z h0 a1 "com/example/ledgerpost/ledgerpost/Payload" "text" "Ljava/lang/String;" (.ref x1)) :
    MetFree l (⟨"com/example/ledgerpost/ledgerpost/Payload", "isText", "()Z"⟩ : MethodName) (head1 (Jvm.Cond.code (⟨"com/example/ledgerpost/ledgerpost/Payload", "isText", "()Z"⟩ : MethodName) prog_22_method_4_code 1 (some .boolean) :: ws) ({ frames := 0, cells := 0, slots := 0, locals := 0 } : Room)) (fun a U => a = #[(.ref a1)] ∧ Z.Warmed39 U.vm ∧ U.heap = h0) (fun _ _ _ _ _ => True) (fun _ U o U' => ∃ v L, o = .returned v ∧ QrmIt Z a1 x1 h0 n0 v U'.heap L ∧ FrameEnd U o U' L ({ frames := 0, cells := 0, slots := 0, locals := 0 } : Room).cells ({ frames := 0, cells := 0, slots := 0, locals := 0 } : Room).slots) := by
  refine MetFree.of_bodySF (plainFor_of_name pn_5) hisR ?_
  intro p e s m args below meth c s₁ Bd hml0 hP hK
  obtain ⟨rfl, hZ, hh⟩ := hP
  have hx := Bd.exec
  have hby := Bd.bytes
  have hml : c.maxLocals = 1 := hml0
  have hown : s.vm.findClass "com/example/ledgerpost/ledgerpost/Payload" = some m.cls := findClass_of_methodNamed Bd.named
  have hnm := (name_of_methodNamed Bd.named Bd.method).1
  have X0 : Stand p l e ({ frames := 0, cells := 0, slots := 0, locals := 0 } : Room) s m #[(.ref a1)] below meth c s₁ [] 0 0 := Stand.of_body Bd
  have e0 : s₁.heap = h0 := by rw [← hh, Bd.state]; rfl
  have N0 := Fr.nil n0
  have pre0 : ∀ t_, Steps p.tables e below (s₁.setTop (mkF m 0 #[.val (.ref a1)] [])) t_ → Steps p.tables e below (s₁.setTop (entryFrame m #[(.ref a1)] 1)) t_ := fun t_ k_ => castTop (ef_rmIt m a1) k_
  obtain ⟨T101, X101, e101, st101⟩ := getF X0 hx hZ hown (host := "") (Or.inl (hw _ (List.mem_of_getElem? (i := 38) rfl))) Via.refl e0 F0 (g := (mkF m 1 #[.val (.ref a1)] [(.ref a1)])) rfl rfl (hb hby d7_1)
  have pre102 : ∀ t_, Steps p.tables e below (T101.setTop (mkF m 12 #[.val (.ref a1)] [(.int (1 : Int32))])) t_ → Steps p.tables e below (s₁.setTop (entryFrame m #[(.ref a1)] 1)) t_ := fun t_ k_ => pre0 _ (by
    show Steps p.tables e below (s₁.setTop (mkF m 0 #[.val (.ref a1)] [])) _
    refine XS.aloadN X0.here hx rfl (hb hby d7_0) rfl rfl ?_
    show Steps p.tables e below (s₁.setTop (mkF m 1 #[.val (.ref a1)] [(.ref a1)])) _
    refine st101 _ ?_
    show Steps p.tables e below (T101.setTop (mkF m 4 #[.val (.ref a1)] [(.ref x1)])) _
    refine XS.ifnullNo X101.here hx rfl (hb hby d7_4) rfl ?_
    show Steps p.tables e below (T101.setTop (mkF m 7 #[.val (.ref a1)] [])) _
    refine XS.iconst X101.here hx rfl (hb hby d7_7) ?_
    show Steps p.tables e below (T101.setTop (mkF m 8 #[.val (.ref a1)] [(.int (1 : Int32))])) _
    refine XS.goto X101.here hx rfl (pc0 := 8) (pc' := 12) rfl (hb hby d7_8) (by decide) (by decide) ?_
    exact k_)
  obtain ⟨fs, hr, hrun, hended, hW, hsame⟩ := X101.leave (v := some (.int (1 : Int32))) (fun h => by rw [Bd.returns] at h; cases h)
  refine ⟨_, _, pre102 _ ?_, hrun, hended, _, _, rfl, ?_, ⟨_, rfl⟩, hW, hsame.mono (by decide) (by decide)⟩
  · show Steps p.tables e below (T101.setTop (mkF m 12 #[.val (.ref a1)] [(.int (1 : Int32))])) _
    exact retN X101 hx (t := .boolean) Bd.returns (by simp) (hb hby d7_12) hr
  · show QrmIt Z a1 x1 h0 n0 _ T101.heap _
    rw [e101]
    exact ⟨rfl, N0, rfl⟩
theorem d8_0 : decode prog_22_method_5_code 0 = .ok (.aload_n 0, 1) := by decide +kernel
theorem d8_1 : decode prog_22_method_5_code 1 = .ok (.getfield 7, 3) := by decide +kernel
theorem d8_4 : decode prog_22_method_5_code 4 = .ok (.areturn, 1) := by decide +kernel
theorem ef_rmTx (m : MethodId) (x0 : Addr) : entryFrame m #[(.ref x0)] 1 = mkF m 0 #[.val (.ref x0)] [] := by first | (simp [entryFrame, mkF, argsToLocals, Value.category]; done) | rfl
def QrmTx (Z : State) (a1 : Addr) (x1 : Addr) (h0 : Heap) (n0 : Nat) (v : Option Value) (h : Heap) (L : List Loc) : Prop := v = some (.ref x1) ∧ Fr n0 L ∧ h = h0
set_option maxRecDepth 65536 in
set_option maxHeartbeats 40000000 in
theorem rmTx (l : Launch) (Z : State) (a0 : Array Value) (hw : ∀ d ∈ tables_1, d.before a0 Z = true) (ws : List Jvm.Cond) (a1 : Addr) (x1 : Addr) (h0 : Heap) (n0 : Nat) (Z0 : n0 ≤ h0.size) (F0 : Fld Z h0 a1 "com/example/ledgerpost/ledgerpost/Payload" "text" "Ljava/lang/String;" (.ref x1)) :
    MetFree l (⟨"com/example/ledgerpost/ledgerpost/Payload", "text", "()Ljava/lang/String;"⟩ : MethodName) (head1 (Jvm.Cond.code (⟨"com/example/ledgerpost/ledgerpost/Payload", "text", "()Ljava/lang/String;"⟩ : MethodName) prog_22_method_5_code 1 (some (.object "java/lang/String")) :: ws) ({ frames := 0, cells := 0, slots := 0, locals := 0 } : Room)) (fun a U => a = #[(.ref a1)] ∧ Z.Warmed39 U.vm ∧ U.heap = h0) (fun _ _ _ _ _ => True) (fun _ U o U' => ∃ v L, o = .returned v ∧ QrmTx Z a1 x1 h0 n0 v U'.heap L ∧ FrameEnd U o U' L ({ frames := 0, cells := 0, slots := 0, locals := 0 } : Room).cells ({ frames := 0, cells := 0, slots := 0, locals := 0 } : Room).slots) := by
  refine MetFree.of_bodySF (plainFor_of_name pn_5) hisR ?_
  intro p e s m args below meth c s₁ Bd hml0 hP hK
  obtain ⟨rfl, hZ, hh⟩ := hP
  have hx := Bd.exec
  have hby := Bd.bytes
  have hml : c.maxLocals = 1 := hml0
  have hown : s.vm.findClass "com/example/ledgerpost/ledgerpost/Payload" = some m.cls := findClass_of_methodNamed Bd.named
  have hnm := (name_of_methodNamed Bd.named Bd.method).1
  have X0 : Stand p l e ({ frames := 0, cells := 0, slots := 0, locals := 0 } : Room) s m #[(.ref a1)] below meth c s₁ [] 0 0 := Stand.of_body Bd
  have e0 : s₁.heap = h0 := by rw [← hh, Bd.state]; rfl
  have N0 := Fr.nil n0
  have pre0 : ∀ t_, Steps p.tables e below (s₁.setTop (mkF m 0 #[.val (.ref a1)] [])) t_ → Steps p.tables e below (s₁.setTop (entryFrame m #[(.ref a1)] 1)) t_ := fun t_ k_ => castTop (ef_rmTx m a1) k_
  obtain ⟨T101, X101, e101, st101⟩ := getF X0 hx hZ hown (host := "") (Or.inl (hw _ (List.mem_of_getElem? (i := 38) rfl))) Via.refl e0 F0 (g := (mkF m 1 #[.val (.ref a1)] [(.ref a1)])) rfl rfl (hb hby d8_1)
  have pre102 : ∀ t_, Steps p.tables e below (T101.setTop (mkF m 4 #[.val (.ref a1)] [(.ref x1)])) t_ → Steps p.tables e below (s₁.setTop (entryFrame m #[(.ref a1)] 1)) t_ := fun t_ k_ => pre0 _ (by
    show Steps p.tables e below (s₁.setTop (mkF m 0 #[.val (.ref a1)] [])) _
    refine XS.aloadN X0.here hx rfl (hb hby d8_0) rfl rfl ?_
    show Steps p.tables e below (s₁.setTop (mkF m 1 #[.val (.ref a1)] [(.ref a1)])) _
    refine st101 _ ?_
    exact k_)
  obtain ⟨fs, hr, hrun, hended, hW, hsame⟩ := X101.leave (v := some (.ref x1)) (fun h => by rw [Bd.returns] at h; cases h)
  refine ⟨_, _, pre102 _ ?_, hrun, hended, _, _, rfl, ?_, ⟨_, rfl⟩, hW, hsame.mono (by decide) (by decide)⟩
  · show Steps p.tables e below (T101.setTop (mkF m 4 #[.val (.ref a1)] [(.ref x1)])) _
    jvm_step X101.here [X101.here.top, hx, (hb hby d8_4), X101.method', Bd.returns, Value.isRef, FieldType.isReference]
    first | (intro acts; rw [hr _ acts rfl rfl rfl]) | rw [hr _ _ rfl rfl rfl]
    exact Steps.refl _
  · show QrmTx Z a1 x1 h0 n0 _ T101.heap _
    rw [e101]
    exact ⟨rfl, N0, rfl⟩
theorem d23_0 : decode prog_22_method_10_code 0 = .ok (.aload_n 0, 1) := by decide +kernel
theorem d23_1 : decode prog_22_method_10_code 1 = .ok (.getfield 7, 3) := by decide +kernel
theorem d23_4 : decode prog_22_method_10_code 4 = .ok (.ifnull 10, 3) := by decide +kernel
theorem d23_7 : decode prog_22_method_10_code 7 = .ok (.aload_n 0, 1) := by decide +kernel
theorem d23_8 : decode prog_22_method_10_code 8 = .ok (.getfield 7, 3) := by decide +kernel
theorem d23_11 : decode prog_22_method_10_code 11 = .ok (.goto 13, 3) := by decide +kernel
theorem d23_24 : decode prog_22_method_10_code 24 = .ok (.areturn, 1) := by decide +kernel
theorem ef_rmTs (m : MethodId) (x0 : Addr) : entryFrame m #[(.ref x0)] 1 = mkF m 0 #[.val (.ref x0)] [] := by first | (simp [entryFrame, mkF, argsToLocals, Value.category]; done) | rfl
def QrmTs (Z : State) (a1 : Addr) (x1 : Addr) (h0 : Heap) (n0 : Nat) (v : Option Value) (h : Heap) (L : List Loc) : Prop := v = some (.ref x1) ∧ Fr n0 L ∧ h = h0
set_option maxRecDepth 65536 in
set_option maxHeartbeats 40000000 in
theorem rmTs (l : Launch) (Z : State) (a0 : Array Value) (hw : ∀ d ∈ tables_1, d.before a0 Z = true) (ws : List Jvm.Cond) (a1 : Addr) (x1 : Addr) (h0 : Heap) (n0 : Nat) (Z0 : n0 ≤ h0.size) (F0 : Fld Z h0 a1 "com/example/ledgerpost/ledgerpost/Payload" "text" "Ljava/lang/String;" (.ref x1)) :
    MetFree l (⟨"com/example/ledgerpost/ledgerpost/Payload", "toString", "()Ljava/lang/String;"⟩ : MethodName) (head1 (Jvm.Cond.code (⟨"com/example/ledgerpost/ledgerpost/Payload", "toString", "()Ljava/lang/String;"⟩ : MethodName) prog_22_method_10_code 1 (some (.object "java/lang/String")) :: ws) ({ frames := 0, cells := 0, slots := 0, locals := 0 } : Room)) (fun a U => a = #[(.ref a1)] ∧ Z.Warmed39 U.vm ∧ U.heap = h0) (fun _ _ _ _ _ => True) (fun _ U o U' => ∃ v L, o = .returned v ∧ QrmTs Z a1 x1 h0 n0 v U'.heap L ∧ FrameEnd U o U' L ({ frames := 0, cells := 0, slots := 0, locals := 0 } : Room).cells ({ frames := 0, cells := 0, slots := 0, locals := 0 } : Room).slots) := by
  refine MetFree.of_bodySF (plainFor_of_name pn_5) hisR ?_
  intro p e s m args below meth c s₁ Bd hml0 hP hK
  obtain ⟨rfl, hZ, hh⟩ := hP
  have hx := Bd.exec
  have hby := Bd.bytes
  have hml : c.maxLocals = 1 := hml0
  have hown : s.vm.findClass "com/example/ledgerpost/ledgerpost/Payload" = some m.cls := findClass_of_methodNamed Bd.named
  have hnm := (name_of_methodNamed Bd.named Bd.method).1
  have X0 : Stand p l e ({ frames := 0, cells := 0, slots := 0, locals := 0 } : Room) s m #[(.ref a1)] below meth c s₁ [] 0 0 := Stand.of_body Bd
  have e0 : s₁.heap = h0 := by rw [← hh, Bd.state]; rfl
  have N0 := Fr.nil n0
  have pre0 : ∀ t_, Steps p.tables e below (s₁.setTop (mkF m 0 #[.val (.ref a1)] [])) t_ → Steps p.tables e below (s₁.setTop (entryFrame m #[(.ref a1)] 1)) t_ := fun t_ k_ => castTop (ef_rmTs m a1) k_
  obtain ⟨T101, X101, e101, st101⟩ := getF X0 hx hZ hown (host := "") (Or.inl (hw _ (List.mem_of_getElem? (i := 38) rfl))) Via.refl e0 F0 (g := (mkF m 1 #[.val (.ref a1)] [(.ref a1)])) rfl rfl (hb hby d23_1)
  obtain ⟨T102, X102, e102, st102⟩ := getF X101 hx hZ hown (host := "") (Or.inl (hw _ (List.mem_of_getElem? (i := 38) rfl))) Via.refl e101 F0 (g := (mkF m 8 #[.val (.ref a1)] [(.ref a1)])) rfl rfl (hb hby d23_8)
  have pre103 : ∀ t_, Steps p.tables e below (T102.setTop (mkF m 24 #[.val (.ref a1)] [(.ref x1)])) t_ → Steps p.tables e below (s₁.setTop (entryFrame m #[(.ref a1)] 1)) t_ := fun t_ k_ => pre0 _ (by
    show Steps p.tables e below (s₁.setTop (mkF m 0 #[.val (.ref a1)] [])) _
    refine XS.aloadN X0.here hx rfl (hb hby d23_0) rfl rfl ?_
    show Steps p.tables e below (s₁.setTop (mkF m 1 #[.val (.ref a1)] [(.ref a1)])) _
    refine st101 _ ?_
    show Steps p.tables e below (T101.setTop (mkF m 4 #[.val (.ref a1)] [(.ref x1)])) _
    refine XS.ifnullNo X101.here hx rfl (hb hby d23_4) rfl ?_
    show Steps p.tables e below (T101.setTop (mkF m 7 #[.val (.ref a1)] [])) _
    refine XS.aloadN X101.here hx rfl (hb hby d23_7) rfl rfl ?_
    show Steps p.tables e below (T101.setTop (mkF m 8 #[.val (.ref a1)] [(.ref a1)])) _
    refine st102 _ ?_
    show Steps p.tables e below (T102.setTop (mkF m 11 #[.val (.ref a1)] [(.ref x1)])) _
    refine XS.goto X102.here hx rfl (pc0 := 11) (pc' := 24) rfl (hb hby d23_11) (by decide) (by decide) ?_
    exact k_)
  obtain ⟨fs, hr, hrun, hended, hW, hsame⟩ := X102.leave (v := some (.ref x1)) (fun h => by rw [Bd.returns] at h; cases h)
  refine ⟨_, _, pre103 _ ?_, hrun, hended, _, _, rfl, ?_, ⟨_, rfl⟩, hW, hsame.mono (by decide) (by decide)⟩
  · show Steps p.tables e below (T102.setTop (mkF m 24 #[.val (.ref a1)] [(.ref x1)])) _
    jvm_step X102.here [X102.here.top, hx, (hb hby d23_24), X102.method', Bd.returns, Value.isRef, FieldType.isReference]
    first | (intro acts; rw [hr _ acts rfl rfl rfl]) | rw [hr _ _ rfl rfl rfl]
    exact Steps.refl _
  · show QrmTs Z a1 x1 h0 n0 _ T102.heap _
    rw [e102]
    exact ⟨rfl, N0, rfl⟩
theorem pd_10 : parseMethodDescriptor "()I" = some ⟨[], some .int⟩ := by decide +kernel
theorem d10_0 : decode prog_22_method_7_code 0 = .ok (.aload_n 0, 1) := by decide +kernel
theorem d10_1 : decode prog_22_method_7_code 1 = .ok (.getfield 7, 3) := by decide +kernel
theorem d10_4 : decode prog_22_method_7_code 4 = .ok (.ifnull 14, 3) := by decide +kernel
theorem d10_7 : decode prog_22_method_7_code 7 = .ok (.aload_n 0, 1) := by decide +kernel
theorem d10_8 : decode prog_22_method_7_code 8 = .ok (.getfield 7, 3) := by decide +kernel
theorem d10_11 : decode prog_22_method_7_code 11 = .ok (.invokevirtual 45, 3) := by decide +kernel
theorem d10_14 : decode prog_22_method_7_code 14 = .ok (.i2l, 1) := by decide +kernel
theorem d10_15 : decode prog_22_method_7_code 15 = .ok (.goto 9, 3) := by decide +kernel
theorem d10_24 : decode prog_22_method_7_code 24 = .ok (.lreturn, 1) := by decide +kernel
theorem ef_rmLg (m : MethodId) (x0 : Addr) : entryFrame m #[(.ref x0)] 1 = mkF m 0 #[.val (.ref x0)] [] := by first | (simp [entryFrame, mkF, argsToLocals, Value.category]; done) | rfl
def QrmLg (Z : State) (a1 : Addr) (x1 : Addr) (t1 : Addr) (nN : Nat) (g : Nat → Int32) (zc : Int32) (h0 : Heap) (n0 : Nat) (v : Option Value) (h : Heap) (L : List Loc) : Prop := v = some (.long ((Int32.ofNat nN).toInt64)) ∧ Fr n0 L ∧ h = h0
set_option maxRecDepth 65536 in
set_option maxHeartbeats 40000000 in
theorem rmLg (l : Launch) (Z : State) (a0 : Array Value) (hw : ∀ d ∈ tables_1, d.before a0 Z = true) (ws : List Jvm.Cond) (a1 : Addr) (x1 : Addr) (t1 : Addr) (nN : Nat) (g : Nat → Int32) (zc : Int32) (h0 : Heap) (n0 : Nat) (Z0 : n0 ≤ h0.size) (F0 : Fld Z h0 a1 "com/example/ledgerpost/ledgerpost/Payload" "text" "Ljava/lang/String;" (.ref x1)) (b1 : nN ≤ 6) (L1 : own_L Z h0 x1 t1 nN g) (lt : own_lat nN g) (S_c : Sta Z h0 "java/lang/String" "COMPACT_STRINGS" "Z" (.int zc)) (hzc : ¬ zc = 0) :
    MetFree l (⟨"com/example/ledgerpost/ledgerpost/Payload", "length", "()J"⟩ : MethodName) (head1 (Jvm.Cond.code (⟨"com/example/ledgerpost/ledgerpost/Payload", "length", "()J"⟩ : MethodName) prog_22_method_7_code 1 (some .long) :: ws) ({ frames := 2, cells := 0, slots := 0, locals := 25 } : Room)) (fun a U => a = #[(.ref a1)] ∧ Z.Warmed39 U.vm ∧ U.heap = h0) (fun _ _ _ _ _ => True) (fun _ U o U' => ∃ v L, o = .returned v ∧ QrmLg Z a1 x1 t1 nN g zc h0 n0 v U'.heap L ∧ FrameEnd U o U' L ({ frames := 2, cells := 0, slots := 0, locals := 25 } : Room).cells ({ frames := 2, cells := 0, slots := 0, locals := 25 } : Room).slots) := by
  refine MetFree.of_bodySF (plainFor_of_name pn_5) hisR ?_
  intro p e s m args below meth c s₁ Bd hml0 hP hK
  obtain ⟨rfl, hZ, hh⟩ := hP
  have hx := Bd.exec
  have hby := Bd.bytes
  have hml : c.maxLocals = 1 := hml0
  have hown : s.vm.findClass "com/example/ledgerpost/ledgerpost/Payload" = some m.cls := findClass_of_methodNamed Bd.named
  have hnm := (name_of_methodNamed Bd.named Bd.method).1
  have X0 : Stand p l e ({ frames := 2, cells := 0, slots := 0, locals := 25 } : Room) s m #[(.ref a1)] below meth c s₁ [] 0 0 := Stand.of_body Bd
  have e0 : s₁.heap = h0 := by rw [← hh, Bd.state]; rfl
  have N0 := Fr.nil n0
  have pre0 : ∀ t_, Steps p.tables e below (s₁.setTop (mkF m 0 #[.val (.ref a1)] [])) t_ → Steps p.tables e below (s₁.setTop (entryFrame m #[(.ref a1)] 1)) t_ := fun t_ k_ => castTop (ef_rmLg m a1) k_
  obtain ⟨T101, X101, e101, st101⟩ := getF X0 hx hZ hown (host := "") (Or.inl (hw _ (List.mem_of_getElem? (i := 38) rfl))) Via.refl e0 F0 (g := (mkF m 1 #[.val (.ref a1)] [(.ref a1)])) rfl rfl (hb hby d10_1)
  obtain ⟨T102, X102, e102, st102⟩ := getF X101 hx hZ hown (host := "") (Or.inl (hw _ (List.mem_of_getElem? (i := 38) rfl))) Via.refl e101 F0 (g := (mkF m 8 #[.val (.ref a1)] [(.ref a1)])) rfl rfl (hb hby d10_8)
  obtain ⟨cq103, kq103, q103a, q103b, q103c⟩ := isOf hZ e102 L1.1
  obtain ⟨_, _, ⟨T103, L103, k103, n103⟩, -, X103, ⟨Lc103, hQ103, l103, y103, z103⟩, st103⟩ := X102.virtualBack hx (y := (⟨"java/lang/String", "length", "()I"⟩ : MethodName)) (z := (⟨"java/lang/String", "length", "()I"⟩ : MethodName)) hown (mvT hZ (hw _ (List.mem_of_getElem? (i := 62) rfl))) (mvT hZ (hw _ (List.mem_of_getElem? (i := 63) rfl))) (notFace_of_selects (args := #[]) (mvT hZ (hw _ (List.mem_of_getElem? (i := 65) rfl)))) (mvT hZ (hw _ (List.mem_of_getElem? (i := 65) rfl))) (mvT hZ (hw _ (List.mem_of_getElem? (i := 64) rfl))) (by decide) (backOf (W := 0) (rmLn l Z a0 hw [] x1 nN g zc h0 n0 Z0 b1 (own_LS L1 lt) S_c hzc) hZ (hw _ (List.mem_of_getElem? (i := 66) rfl)) (hw _ (List.mem_of_getElem? (i := 3) rfl)) (by decide) (by decide)) q103a q103c (g := (mkF m 11 #[.val (.ref a1)] [(.ref x1)])) rfl (by rw [hml]; rfl) (Steps.refl _) (argsL := []) (rest := []) (lenOf pd_10 rfl) rfl (by show 2 * 0 + _ ≤ _; exact Nat.le_of_eq rfl) (hb hby d10_11) (fun _ _ => ⟨rfl, e102, (by decide : 0 + 0 ≤ _), (by decide : 0 + 0 ≤ _)⟩)
  dsimp only [Pt.U, Pt.locs, Pt.cells, Pt.slots] at X103 l103 y103 z103 st103 hQ103
  subst l103 y103 z103
  obtain ⟨rfl, N103q, e103⟩ := hQ103
  have N103 := Fr.app N0 N103q
  have pre104 : ∀ t_, Steps p.tables e below (T103.setTop (mkF m 24 #[.val (.ref a1)] [(.long ((Int32.ofNat nN).toInt64))])) t_ → Steps p.tables e below (s₁.setTop (entryFrame m #[(.ref a1)] 1)) t_ := fun t_ k_ => pre0 _ (by
    show Steps p.tables e below (s₁.setTop (mkF m 0 #[.val (.ref a1)] [])) _
    refine XS.aloadN X0.here hx rfl (hb hby d10_0) rfl rfl ?_
    show Steps p.tables e below (s₁.setTop (mkF m 1 #[.val (.ref a1)] [(.ref a1)])) _
    refine st101 _ ?_
    show Steps p.tables e below (T101.setTop (mkF m 4 #[.val (.ref a1)] [(.ref x1)])) _
    refine XS.ifnullNo X101.here hx rfl (hb hby d10_4) rfl ?_
    show Steps p.tables e below (T101.setTop (mkF m 7 #[.val (.ref a1)] [])) _
    refine XS.aloadN X101.here hx rfl (hb hby d10_7) rfl rfl ?_
    show Steps p.tables e below (T101.setTop (mkF m 8 #[.val (.ref a1)] [(.ref a1)])) _
    refine st102 _ ?_
    show Steps p.tables e below (T102.setTop (mkF m 11 #[.val (.ref a1)] [(.ref x1)])) _
    refine st103.trans ?_
    show Steps p.tables e below (T103.setTop (mkF m 14 #[.val (.ref a1)] [(.int (Int32.ofNat nN))])) _
    refine XS.i2l X103.here hx rfl (hb hby d10_14) rfl ?_
    show Steps p.tables e below (T103.setTop (mkF m 15 #[.val (.ref a1)] [(.long ((Int32.ofNat nN).toInt64))])) _
    refine XS.goto X103.here hx rfl (pc0 := 15) (pc' := 24) rfl (hb hby d10_15) (by decide) (by decide) ?_
    exact k_)
  obtain ⟨fs, hr, hrun, hended, hW, hsame⟩ := X103.leave (v := some (.long ((Int32.ofNat nN).toInt64))) (fun h => by rw [Bd.returns] at h; cases h)
  refine ⟨_, _, pre104 _ ?_, hrun, hended, _, _, rfl, ?_, ⟨_, rfl⟩, hW, hsame.mono (by decide) (by decide)⟩
  · show Steps p.tables e below (T103.setTop (mkF m 24 #[.val (.ref a1)] [(.long ((Int32.ofNat nN).toInt64))])) _
    exact retJ X103 hx Bd.returns (hb hby d10_24) hr
  · show QrmLg Z a1 x1 t1 nN g zc h0 n0 _ T103.heap _
    rw [e103]
    exact ⟨rfl, N103, rfl⟩
theorem pd_11 : parseMethodDescriptor "(Ljava/lang/Object;Ljava/lang/Object;)Z" = some ⟨[(.object "java/lang/Object"), (.object "java/lang/Object")], some .boolean⟩ := by decide +kernel
theorem d19_0 : decode prog_22_method_8_code 0 = .ok (.aload_n 1, 1) := by decide +kernel
theorem d19_1 : decode prog_22_method_8_code 1 = .ok (.instanceof 8, 3) := by decide +kernel
theorem d19_4 : decode prog_22_method_8_code 4 = .ok (.ifCond .eq 40, 3) := by decide +kernel
theorem d19_7 : decode prog_22_method_8_code 7 = .ok (.aload_n 1, 1) := by decide +kernel
theorem d19_8 : decode prog_22_method_8_code 8 = .ok (.checkcast 8, 3) := by decide +kernel
theorem d19_11 : decode prog_22_method_8_code 11 = .ok (.astore_n 2, 1) := by decide +kernel
theorem d19_12 : decode prog_22_method_8_code 12 = .ok (.aload_n 0, 1) := by decide +kernel
theorem d19_13 : decode prog_22_method_8_code 13 = .ok (.getfield 7, 3) := by decide +kernel
theorem d19_16 : decode prog_22_method_8_code 16 = .ok (.aload_n 2, 1) := by decide +kernel
theorem d19_17 : decode prog_22_method_8_code 17 = .ok (.getfield 7, 3) := by decide +kernel
theorem d19_20 : decode prog_22_method_8_code 20 = .ok (.invokestatic 49, 3) := by decide +kernel
theorem d19_23 : decode prog_22_method_8_code 23 = .ok (.ifCond .eq 21, 3) := by decide +kernel
theorem d19_26 : decode prog_22_method_8_code 26 = .ok (.aload_n 0, 1) := by decide +kernel
theorem d19_27 : decode prog_22_method_8_code 27 = .ok (.getfield 13, 3) := by decide +kernel
theorem d19_30 : decode prog_22_method_8_code 30 = .ok (.aload_n 2, 1) := by decide +kernel
theorem d19_31 : decode prog_22_method_8_code 31 = .ok (.getfield 13, 3) := by decide +kernel
theorem d19_34 : decode prog_22_method_8_code 34 = .ok (.invokestatic 53, 3) := by decide +kernel
theorem d19_37 : decode prog_22_method_8_code 37 = .ok (.ifCond .eq 7, 3) := by decide +kernel
theorem d19_40 : decode prog_22_method_8_code 40 = .ok (.iconst 1, 1) := by decide +kernel
theorem d19_41 : decode prog_22_method_8_code 41 = .ok (.goto 4, 3) := by decide +kernel
theorem d19_45 : decode prog_22_method_8_code 45 = .ok (.ireturn, 1) := by decide +kernel
theorem ef_rmPE (m : MethodId) (x0 : Addr) (x1 : Addr) : entryFrame m #[(.ref x0), (.ref x1)] 3 = mkF m 0 #[.val (.ref x0), .val (.ref x1), .unset] [] := by first | (simp [entryFrame, mkF, argsToLocals, Value.category]; done) | rfl
def QrmPE (Z : State) (a1 : Addr) (a2 : Addr) (x1 : Addr) (x2 : Addr) (t1 : Addr) (t2 : Addr) (nN : Nat) (g : Nat → Int32) (zc : Int32) (h0 : Heap) (n0 : Nat) (v : Option Value) (h : Heap) (L : List Loc) : Prop := v = some (.int (1 : Int32)) ∧ Fr n0 L ∧ h = h0
set_option maxRecDepth 65536 in
set_option maxHeartbeats 40000000 in
theorem rmPE (l : Launch) (Z : State) (a0 : Array Value) (hw : ∀ d ∈ tables_1, d.before a0 Z = true) (ws : List Jvm.Cond) (a1 : Addr) (a2 : Addr) (x1 : Addr) (x2 : Addr) (t1 : Addr) (t2 : Addr) (nN : Nat) (g : Nat → Int32) (zc : Int32) (h0 : Heap) (n0 : Nat) (Z0 : n0 ≤ h0.size) (F0 : Fld Z h0 a1 "com/example/ledgerpost/ledgerpost/Payload" "text" "Ljava/lang/String;" (.ref x1)) (G0 : Fld Z h0 a2 "com/example/ledgerpost/ledgerpost/Payload" "text" "Ljava/lang/String;" (.ref x2)) (F1 : Fld Z h0 a1 "com/example/ledgerpost/ledgerpost/Payload" "bytes" "[B" .null) (G1 : Fld Z h0 a2 "com/example/ledgerpost/ledgerpost/Payload" "bytes" "[B" .null) (E2 : Exa Z h0 a2 "com/example/ledgerpost/ledgerpost/Payload") (b1 : nN ≤ 6) (L1 : own_L Z h0 x1 t1 nN g) (L2 : own_L Z h0 x2 t2 nN g) (ne : x1 ≠ x2) (S_c : Sta Z h0 "java/lang/String" "COMPACT_STRINGS" "Z" (.int zc)) (hzc : ¬ zc = 0) :
    MetFree l (⟨"com/example/ledgerpost/ledgerpost/Payload", "equals", "(Ljava/lang/Object;)Z"⟩ : MethodName) (head1 (Jvm.Cond.code (⟨"com/example/ledgerpost/ledgerpost/Payload", "equals", "(Ljava/lang/Object;)Z"⟩ : MethodName) prog_22_method_8_code 3 (some .boolean) :: ws) ({ frames := 3, cells := 0, slots := 0, locals := 41 } : Room)) (fun a U => a = #[(.ref a1), (.ref a2)] ∧ Z.Warmed39 U.vm ∧ U.heap = h0) (fun _ _ _ _ _ => True) (fun _ U o U' => ∃ v L, o = .returned v ∧ QrmPE Z a1 a2 x1 x2 t1 t2 nN g zc h0 n0 v U'.heap L ∧ FrameEnd U o U' L ({ frames := 3, cells := 0, slots := 0, locals := 41 } : Room).cells ({ frames := 3, cells := 0, slots := 0, locals := 41 } : Room).slots) := by
  refine MetFree.of_bodySF (plainFor_of_name pn_5) hisR ?_
  intro p e s m args below meth c s₁ Bd hml0 hP hK
  obtain ⟨rfl, hZ, hh⟩ := hP
  have hx := Bd.exec
  have hby := Bd.bytes
  have hml : c.maxLocals = 3 := hml0
  have hown : s.vm.findClass "com/example/ledgerpost/ledgerpost/Payload" = some m.cls := findClass_of_methodNamed Bd.named
  have hnm := (name_of_methodNamed Bd.named Bd.method).1
  have X0 : Stand p l e ({ frames := 3, cells := 0, slots := 0, locals := 41 } : Room) s m #[(.ref a1), (.ref a2)] below meth c s₁ [] 0 0 := Stand.of_body Bd
  have e0 : s₁.heap = h0 := by rw [← hh, Bd.state]; rfl
  have N0 := Fr.nil n0
  have pre0 : ∀ t_, Steps p.tables e below (s₁.setTop (mkF m 0 #[.val (.ref a1), .val (.ref a2), .unset] [])) t_ → Steps p.tables e below (s₁.setTop (entryFrame m #[(.ref a1), (.ref a2)] 3)) t_ := fun t_ k_ => castTop (ef_rmPE m a1 a2) k_
  obtain ⟨T101, X101, e101, st101⟩ := instY X0 hx hZ hown (hw _ (List.mem_of_getElem? (i := 26) rfl)) e0 (Ins.self E2) (g := (mkF m 1 #[.val (.ref a1), .val (.ref a2), .unset] [(.ref a2)])) rfl rfl (hb hby d19_1)
  obtain ⟨T102, X102, e102, st102⟩ := castY X101 hx hZ hown (hw _ (List.mem_of_getElem? (i := 26) rfl)) e101 (Ins.self E2) (g := (mkF m 8 #[.val (.ref a1), .val (.ref a2), .unset] [(.ref a2)])) rfl rfl (hb hby d19_8)
  obtain ⟨T103, X103, e103, st103⟩ := getF X102 hx hZ hown (host := "") (Or.inl (hw _ (List.mem_of_getElem? (i := 38) rfl))) Via.refl e102 F0 (g := (mkF m 13 #[.val (.ref a1), .val (.ref a2), .val (.ref a2)] [(.ref a1)])) rfl rfl (hb hby d19_13)
  obtain ⟨T104, X104, e104, st104⟩ := getF X103 hx hZ hown (host := "") (Or.inl (hw _ (List.mem_of_getElem? (i := 38) rfl))) Via.refl e103 G0 (g := (mkF m 17 #[.val (.ref a1), .val (.ref a2), .val (.ref a2)] [(.ref a2), (.ref x1)])) rfl rfl (hb hby d19_17)
  obtain ⟨_, _, ⟨T105, L105, k105, n105⟩, -, X105, ⟨Lc105, hQ105, l105, y105, z105⟩, st105⟩ := Jvm.LawKit.callS X104 hx (y := (⟨"java/util/Objects", "equals", "(Ljava/lang/Object;Ljava/lang/Object;)Z"⟩ : MethodName)) hown (mvT hZ (hw _ (List.mem_of_getElem? (i := 115) rfl))) (mvT hZ (hw _ (List.mem_of_getElem? (i := 116) rfl))) (mvT hZ (hw _ (List.mem_of_getElem? (i := 31) rfl))) (mvT hZ (hw _ (List.mem_of_getElem? (i := 117) rfl))) (by decide) (backOf (W := 0) (rmOE l Z a0 hw [] x1 x2 t1 t2 nN g zc h0 n0 Z0 b1 L1 L2 ne S_c hzc) hZ (hw _ (List.mem_of_getElem? (i := 117) rfl)) (hw _ (List.mem_of_getElem? (i := 31) rfl)) (by decide) (by decide)) (g := (mkF m 20 #[.val (.ref a1), .val (.ref a2), .val (.ref a2)] [(.ref x2), (.ref x1)])) rfl (by rw [hml]; rfl) (argsL := [(.ref x1), (.ref x2)]) (rest := []) (lenOf pd_11 rfl) rfl (by show 2 * 0 + _ ≤ _; exact Nat.le_of_eq rfl) (hb hby d19_20) (fun _ _ => ⟨rfl, e104, (by decide : 0 + 0 ≤ _), (by decide : 0 + 0 ≤ _)⟩)
  dsimp only [Pt.U, Pt.locs, Pt.cells, Pt.slots] at X105 l105 y105 z105 st105 hQ105
  subst l105 y105 z105
  obtain ⟨rfl, N105q, e105⟩ := hQ105
  have N105 := Fr.app N0 N105q
  obtain ⟨T106, X106, e106, st106⟩ := getF X105 hx hZ hown (host := "") (Or.inl (hw _ (List.mem_of_getElem? (i := 40) rfl))) Via.refl e105 F1 (g := (mkF m 27 #[.val (.ref a1), .val (.ref a2), .val (.ref a2)] [(.ref a1)])) rfl rfl (hb hby d19_27)
  obtain ⟨T107, X107, e107, st107⟩ := getF X106 hx hZ hown (host := "") (Or.inl (hw _ (List.mem_of_getElem? (i := 40) rfl))) Via.refl e106 G1 (g := (mkF m 31 #[.val (.ref a1), .val (.ref a2), .val (.ref a2)] [(.ref a2), .null])) rfl rfl (hb hby d19_31)
  obtain ⟨_, _, ⟨T108, L108, k108, n108⟩, -, X108, ⟨Lc108, hQ108, l108, y108, z108⟩, st108⟩ := Jvm.LawKit.callS X107 hx (y := (⟨"java/util/Arrays", "equals", "([B[B)Z"⟩ : MethodName)) hown (mvT hZ (hw _ (List.mem_of_getElem? (i := 127) rfl))) (mvT hZ (hw _ (List.mem_of_getElem? (i := 128) rfl))) (mvT hZ (hw _ (List.mem_of_getElem? (i := 129) rfl))) (mvT hZ (hw _ (List.mem_of_getElem? (i := 130) rfl))) (by decide) (backOf (W := 0) (rmAE l Z a0 hw []  h0 n0 Z0 ) hZ (hw _ (List.mem_of_getElem? (i := 130) rfl)) (hw _ (List.mem_of_getElem? (i := 129) rfl)) (by decide) (by decide)) (g := (mkF m 34 #[.val (.ref a1), .val (.ref a2), .val (.ref a2)] [.null, .null])) rfl (by rw [hml]; rfl) (argsL := [.null, .null]) (rest := []) (lenOf pd_6 rfl) rfl (by show 2 * 0 + _ ≤ _; exact Nat.le_of_eq rfl) (hb hby d19_34) (fun _ _ => ⟨rfl, e107, (by decide : 0 + 0 ≤ _), (by decide : 0 + 0 ≤ _)⟩)
  dsimp only [Pt.U, Pt.locs, Pt.cells, Pt.slots] at X108 l108 y108 z108 st108 hQ108
  subst l108 y108 z108
  obtain ⟨rfl, N108q, e108⟩ := hQ108
  have N108 := Fr.app N105 N108q
  have pre109 : ∀ t_, Steps p.tables e below (T108.setTop (mkF m 45 #[.val (.ref a1), .val (.ref a2), .val (.ref a2)] [(.int (1 : Int32))])) t_ → Steps p.tables e below (s₁.setTop (entryFrame m #[(.ref a1), (.ref a2)] 3)) t_ := fun t_ k_ => pre0 _ (by
    show Steps p.tables e below (s₁.setTop (mkF m 0 #[.val (.ref a1), .val (.ref a2), .unset] [])) _
    refine XS.aloadN X0.here hx rfl (hb hby d19_0) rfl rfl ?_
    show Steps p.tables e below (s₁.setTop (mkF m 1 #[.val (.ref a1), .val (.ref a2), .unset] [(.ref a2)])) _
    refine st101 _ ?_
    show Steps p.tables e below (T101.setTop (mkF m 4 #[.val (.ref a1), .val (.ref a2), .unset] [(.int (1 : Int32))])) _
    refine XS.ifNo X101.here hx rfl (hb hby d19_4) rfl ((if0 _ _).trans (feq (by decide : ¬ (1 : Int32) = 0)).1) ?_
    show Steps p.tables e below (T101.setTop (mkF m 7 #[.val (.ref a1), .val (.ref a2), .unset] [])) _
    refine XS.aloadN X101.here hx rfl (hb hby d19_7) rfl rfl ?_
    show Steps p.tables e below (T101.setTop (mkF m 8 #[.val (.ref a1), .val (.ref a2), .unset] [(.ref a2)])) _
    refine st102 _ ?_
    show Steps p.tables e below (T102.setTop (mkF m 11 #[.val (.ref a1), .val (.ref a2), .unset] [(.ref a2)])) _
    refine XS.astoreN X102.here hx rfl (hb hby d19_11) rfl rfl (l' := #[.val (.ref a1), .val (.ref a2), .val (.ref a2)]) rfl ?_
    show Steps p.tables e below (T102.setTop (mkF m 12 #[.val (.ref a1), .val (.ref a2), .val (.ref a2)] [])) _
    refine XS.aloadN X102.here hx rfl (hb hby d19_12) rfl rfl ?_
    show Steps p.tables e below (T102.setTop (mkF m 13 #[.val (.ref a1), .val (.ref a2), .val (.ref a2)] [(.ref a1)])) _
    refine st103 _ ?_
    show Steps p.tables e below (T103.setTop (mkF m 16 #[.val (.ref a1), .val (.ref a2), .val (.ref a2)] [(.ref x1)])) _
    refine XS.aloadN X103.here hx rfl (hb hby d19_16) rfl rfl ?_
    show Steps p.tables e below (T103.setTop (mkF m 17 #[.val (.ref a1), .val (.ref a2), .val (.ref a2)] [(.ref a2), (.ref x1)])) _
    refine st104 _ ?_
    show Steps p.tables e below (T104.setTop (mkF m 20 #[.val (.ref a1), .val (.ref a2), .val (.ref a2)] [(.ref x2), (.ref x1)])) _
    refine st105 _ ?_
    show Steps p.tables e below (T105.setTop (mkF m 23 #[.val (.ref a1), .val (.ref a2), .val (.ref a2)] [(.int (1 : Int32))])) _
    refine XS.ifNo X105.here hx rfl (hb hby d19_23) rfl ((if0 _ _).trans (feq (by decide : ¬ (1 : Int32) = 0)).1) ?_
    show Steps p.tables e below (T105.setTop (mkF m 26 #[.val (.ref a1), .val (.ref a2), .val (.ref a2)] [])) _
    refine XS.aloadN X105.here hx rfl (hb hby d19_26) rfl rfl ?_
    show Steps p.tables e below (T105.setTop (mkF m 27 #[.val (.ref a1), .val (.ref a2), .val (.ref a2)] [(.ref a1)])) _
    refine st106 _ ?_
    show Steps p.tables e below (T106.setTop (mkF m 30 #[.val (.ref a1), .val (.ref a2), .val (.ref a2)] [.null])) _
    refine XS.aloadN X106.here hx rfl (hb hby d19_30) rfl rfl ?_
    show Steps p.tables e below (T106.setTop (mkF m 31 #[.val (.ref a1), .val (.ref a2), .val (.ref a2)] [(.ref a2), .null])) _
    refine st107 _ ?_
    show Steps p.tables e below (T107.setTop (mkF m 34 #[.val (.ref a1), .val (.ref a2), .val (.ref a2)] [.null, .null])) _
    refine st108 _ ?_
    show Steps p.tables e below (T108.setTop (mkF m 37 #[.val (.ref a1), .val (.ref a2), .val (.ref a2)] [(.int (1 : Int32))])) _
    refine XS.ifNo X108.here hx rfl (hb hby d19_37) rfl ((if0 _ _).trans (feq (by decide : ¬ (1 : Int32) = 0)).1) ?_
    show Steps p.tables e below (T108.setTop (mkF m 40 #[.val (.ref a1), .val (.ref a2), .val (.ref a2)] [])) _
    refine XS.iconst X108.here hx rfl (hb hby d19_40) ?_
    show Steps p.tables e below (T108.setTop (mkF m 41 #[.val (.ref a1), .val (.ref a2), .val (.ref a2)] [(.int (1 : Int32))])) _
    refine XS.goto X108.here hx rfl (pc0 := 41) (pc' := 45) rfl (hb hby d19_41) (by decide) (by decide) ?_
    exact k_)
  obtain ⟨fs, hr, hrun, hended, hW, hsame⟩ := X108.leave (v := some (.int (1 : Int32))) (fun h => by rw [Bd.returns] at h; cases h)
  refine ⟨_, _, pre109 _ ?_, hrun, hended, _, _, rfl, ?_, ⟨_, rfl⟩, hW, hsame.mono (by decide) (by decide)⟩
  · show Steps p.tables e below (T108.setTop (mkF m 45 #[.val (.ref a1), .val (.ref a2), .val (.ref a2)] [(.int (1 : Int32))])) _
    exact retN X108 hx (t := .boolean) Bd.returns (by simp) (hb hby d19_45) hr
  · show QrmPE Z a1 a2 x1 x2 t1 t2 nN g zc h0 n0 _ T108.heap _
    rw [e108]
    exact ⟨rfl, N108, rfl⟩
theorem d18_0 : decode jdk_123_method_3_code 0 = .ok (.iload_n 1, 1) := by decide +kernel
theorem d18_1 : decode jdk_123_method_3_code 1 = .ok (.iload_n 2, 1) := by decide +kernel
theorem d18_2 : decode jdk_123_method_3_code 2 = .ok (.iadd, 1) := by decide +kernel
theorem d18_3 : decode jdk_123_method_3_code 3 = .ok (.istore_n 3, 1) := by decide +kernel
theorem d18_4 : decode jdk_123_method_3_code 4 = .ok (.iload_n 1, 1) := by decide +kernel
theorem d18_5 : decode jdk_123_method_3_code 5 = .ok (.istore 4, 2) := by decide +kernel
theorem d18_7 : decode jdk_123_method_3_code 7 = .ok (.iload 4, 2) := by decide +kernel
theorem d18_9 : decode jdk_123_method_3_code 9 = .ok (.iload_n 3, 1) := by decide +kernel
theorem d18_10 : decode jdk_123_method_3_code 10 = .ok (.if_icmp .ge 21, 3) := by decide +kernel
theorem d18_13 : decode jdk_123_method_3_code 13 = .ok (.aload_n 0, 1) := by decide +kernel
theorem d18_14 : decode jdk_123_method_3_code 14 = .ok (.iload 4, 2) := by decide +kernel
theorem d18_16 : decode jdk_123_method_3_code 16 = .ok (.baload, 1) := by decide +kernel
theorem d18_17 : decode jdk_123_method_3_code 17 = .ok (.ifCond .ge 8, 3) := by decide +kernel
theorem d18_20 : decode jdk_123_method_3_code 20 = .ok (.iload 4, 2) := by decide +kernel
theorem d18_22 : decode jdk_123_method_3_code 22 = .ok (.iload_n 1, 1) := by decide +kernel
theorem d18_23 : decode jdk_123_method_3_code 23 = .ok (.isub, 1) := by decide +kernel
theorem d18_24 : decode jdk_123_method_3_code 24 = .ok (.ireturn, 1) := by decide +kernel
theorem d18_25 : decode jdk_123_method_3_code 25 = .ok (.iinc 4 1, 3) := by decide +kernel
theorem d18_28 : decode jdk_123_method_3_code 28 = .ok (.goto (-21), 3) := by decide +kernel
theorem d18_31 : decode jdk_123_method_3_code 31 = .ok (.iload_n 2, 1) := by decide +kernel
theorem d18_32 : decode jdk_123_method_3_code 32 = .ok (.ireturn, 1) := by decide +kernel
theorem pn_6 : plainName "java/lang/StringCoding" = true := by first | (simp [plainName, overriddenIn]; done) | decide +kernel
theorem ef_rmCP (m : MethodId) (x0 : Addr) (x1 : Int32) (x2 : Int32) : entryFrame m #[(.ref x0), (.int x1), (.int x2)] 5 = mkF m 0 #[.val (.ref x0), .val (.int x1), .val (.int x2), .unset, .unset] [] := by first | (simp [entryFrame, mkF, argsToLocals, Value.category]; done) | rfl
def QrmCP (Z : State) (a1 : Addr) (nN : Nat) (d : Nat → Int32) (h0 : Heap) (n0 : Nat) (v : Option Value) (h : Heap) (L : List Loc) : Prop := ∃ mm : Nat, v = some (.int (Int32.ofNat mm)) ∧ Fr n0 L ∧ h = h0 ∧ mm ≤ nN ∧ (mm = nN → ∀ j, j < nN → 0 ≤ (d j).toInt)
set_option maxRecDepth 65536 in
set_option maxHeartbeats 40000000 in
theorem rmCP (l : Launch) (Z : State) (a0 : Array Value) (hw : ∀ d ∈ tables_1, d.before a0 Z = true) (ws : List Jvm.Cond) (a1 : Addr) (nN : Nat) (d : Nat → Int32) (h0 : Heap) (n0 : Nat) (Z0 : n0 ≤ h0.size) (b1 : nN ≤ 6) (V : own_Af Z h0 a1 .byte nN d) :
    MetFree l (⟨"java/lang/StringCoding", "countPositives", "([BII)I"⟩ : MethodName) (head1 (Jvm.Cond.code (⟨"java/lang/StringCoding", "countPositives", "([BII)I"⟩ : MethodName) jdk_123_method_3_code 5 (some .int) :: ws) ({ frames := 0, cells := 0, slots := 0, locals := 0 } : Room)) (fun a U => a = #[(.ref a1), (.int (0 : Int32)), (.int (Int32.ofNat nN))] ∧ Z.Warmed39 U.vm ∧ U.heap = h0) (fun _ _ _ _ _ => True) (fun _ U o U' => ∃ v L, o = .returned v ∧ QrmCP Z a1 nN d h0 n0 v U'.heap L ∧ FrameEnd U o U' L ({ frames := 0, cells := 0, slots := 0, locals := 0 } : Room).cells ({ frames := 0, cells := 0, slots := 0, locals := 0 } : Room).slots) := by
  refine MetFree.of_bodySF (plainFor_of_name pn_6) hisR ?_
  intro p e s m args below meth c s₁ Bd hml0 hP hK
  obtain ⟨rfl, hZ, hh⟩ := hP
  have hx := Bd.exec
  have hby := Bd.bytes
  have hml : c.maxLocals = 5 := hml0
  have hown : s.vm.findClass "java/lang/StringCoding" = some m.cls := findClass_of_methodNamed Bd.named
  have hnm := (name_of_methodNamed Bd.named Bd.method).1
  have X0 : Stand p l e ({ frames := 0, cells := 0, slots := 0, locals := 0 } : Room) s m #[(.ref a1), (.int (0 : Int32)), (.int (Int32.ofNat nN))] below meth c s₁ [] 0 0 := Stand.of_body Bd
  have e0 : s₁.heap = h0 := by rw [← hh, Bd.state]; rfl
  have N0 := Fr.nil n0
  have pre0 : ∀ t_, Steps p.tables e below (s₁.setTop (mkF m 0 #[.val (.ref a1), .val (.int (0 : Int32)), .val (.int (Int32.ofNat nN)), .unset, .unset] [])) t_ → Steps p.tables e below (s₁.setTop (entryFrame m #[(.ref a1), (.int (0 : Int32)), (.int (Int32.ofNat nN))] 5)) t_ := fun t_ k_ => castTop (ef_rmCP m a1 ((0 : Int32)) ((Int32.ofNat nN))) k_
  obtain ⟨cl, Ar, Sz, Hs⟩ := V
  have loop : ∀ (N k : Nat), k + N = nN → (∀ j, j < k → 0 ≤ (d j).toInt) → ∃ (mm pcx : Nat) (kx : Int32), (pcx = 24 ∨ pcx = 32) ∧ mm ≤ nN ∧ (mm = nN → ∀ j, j < nN → 0 ≤ (d j).toInt) ∧ ∀ t_, Steps p.tables e below (s₁.setTop (mkF m pcx #[.val (.ref a1), .val (.int (0 : Int32)), .val (.int (Int32.ofNat nN)), .val (.int (Int32.ofNat nN)), .val (.int kx)] [(.int (Int32.ofNat mm))])) t_ → Steps p.tables e below (s₁.setTop (mkF m 7 #[.val (.ref a1), .val (.int (0 : Int32)), .val (.int (Int32.ofNat nN)), .val (.int (Int32.ofNat nN)), .val (.int (Int32.ofNat k))] [])) t_ := by
    intro N
    induction N with
    | zero =>
      intro k z1 z2
      have ek : k = nN := by omega
      have pre101 : ∀ t_, Steps p.tables e below (s₁.setTop (mkF m 7 #[.val (.ref a1), .val (.int (0 : Int32)), .val (.int (Int32.ofNat nN)), .val (.int (Int32.ofNat nN)), .val (.int (Int32.ofNat k))] [])) t_ → Steps p.tables e below (s₁.setTop (mkF m 7 #[.val (.ref a1), .val (.int (0 : Int32)), .val (.int (Int32.ofNat nN)), .val (.int (Int32.ofNat nN)), .val (.int (Int32.ofNat k))] [])) t_ := fun _ k_ => k_
      have pre102 : ∀ t_, Steps p.tables e below (s₁.setTop (mkF m 32 #[.val (.ref a1), .val (.int (0 : Int32)), .val (.int (Int32.ofNat nN)), .val (.int (Int32.ofNat nN)), .val (.int (Int32.ofNat k))] [(.int (Int32.ofNat nN))])) t_ → Steps p.tables e below (s₁.setTop (mkF m 7 #[.val (.ref a1), .val (.int (0 : Int32)), .val (.int (Int32.ofNat nN)), .val (.int (Int32.ofNat nN)), .val (.int (Int32.ofNat k))] [])) t_ := fun t_ k_ => pre101 _ (by
        show Steps p.tables e below (s₁.setTop (mkF m 7 #[.val (.ref a1), .val (.int (0 : Int32)), .val (.int (Int32.ofNat nN)), .val (.int (Int32.ofNat nN)), .val (.int (Int32.ofNat k))] [])) _
        refine XS.iload X0.here hx rfl (hb hby d18_7) rfl ?_
        show Steps p.tables e below (s₁.setTop (mkF m 9 #[.val (.ref a1), .val (.int (0 : Int32)), .val (.int (Int32.ofNat nN)), .val (.int (Int32.ofNat nN)), .val (.int (Int32.ofNat k))] [(.int (Int32.ofNat k))])) _
        refine XS.iloadN X0.here hx rfl (hb hby d18_9) rfl ?_
        show Steps p.tables e below (s₁.setTop (mkF m 10 #[.val (.ref a1), .val (.int (0 : Int32)), .val (.int (Int32.ofNat nN)), .val (.int (Int32.ofNat nN)), .val (.int (Int32.ofNat k))] [(.int (Int32.ofNat nN)), (.int (Int32.ofNat k))])) _
        refine XS.icmpYes X0.here hx rfl (pc0 := 10) (pc' := 31) rfl (hb hby d18_10) rfl (flt (by rw [own_oflt (by omega) (by omega)]; omega)).2.1 (by decide) (by decide) ?_
        show Steps p.tables e below (s₁.setTop (mkF m 31 #[.val (.ref a1), .val (.int (0 : Int32)), .val (.int (Int32.ofNat nN)), .val (.int (Int32.ofNat nN)), .val (.int (Int32.ofNat k))] [])) _
        refine XS.iloadN X0.here hx rfl (hb hby d18_31) rfl ?_
        exact k_)
      exact ⟨nN, 32, _, Or.inr rfl, Nat.le_refl _, fun _ j hj => z2 j (by omega), pre102⟩
    | succ N ih =>
      intro k z1 z2
      have hin := own_ofin (a := k) Sz (by omega) (by omega)
      have hat := own_hat Hs (j := k) (by omega) (by omega)
      have pre103 : ∀ t_, Steps p.tables e below (s₁.setTop (mkF m 7 #[.val (.ref a1), .val (.int (0 : Int32)), .val (.int (Int32.ofNat nN)), .val (.int (Int32.ofNat nN)), .val (.int (Int32.ofNat k))] [])) t_ → Steps p.tables e below (s₁.setTop (mkF m 7 #[.val (.ref a1), .val (.int (0 : Int32)), .val (.int (Int32.ofNat nN)), .val (.int (Int32.ofNat nN)), .val (.int (Int32.ofNat k))] [])) t_ := fun _ k_ => k_
      have pre104 : ∀ t_, Steps p.tables e below (s₁.setTop (mkF m 17 #[.val (.ref a1), .val (.int (0 : Int32)), .val (.int (Int32.ofNat nN)), .val (.int (Int32.ofNat nN)), .val (.int (Int32.ofNat k))] [(.int (d k))])) t_ → Steps p.tables e below (s₁.setTop (mkF m 7 #[.val (.ref a1), .val (.int (0 : Int32)), .val (.int (Int32.ofNat nN)), .val (.int (Int32.ofNat nN)), .val (.int (Int32.ofNat k))] [])) t_ := fun t_ k_ => pre103 _ (by
        show Steps p.tables e below (s₁.setTop (mkF m 7 #[.val (.ref a1), .val (.int (0 : Int32)), .val (.int (Int32.ofNat nN)), .val (.int (Int32.ofNat nN)), .val (.int (Int32.ofNat k))] [])) _
        refine XS.iload X0.here hx rfl (hb hby d18_7) rfl ?_
        show Steps p.tables e below (s₁.setTop (mkF m 9 #[.val (.ref a1), .val (.int (0 : Int32)), .val (.int (Int32.ofNat nN)), .val (.int (Int32.ofNat nN)), .val (.int (Int32.ofNat k))] [(.int (Int32.ofNat k))])) _
        refine XS.iloadN X0.here hx rfl (hb hby d18_9) rfl ?_
        show Steps p.tables e below (s₁.setTop (mkF m 10 #[.val (.ref a1), .val (.int (0 : Int32)), .val (.int (Int32.ofNat nN)), .val (.int (Int32.ofNat nN)), .val (.int (Int32.ofNat k))] [(.int (Int32.ofNat nN)), (.int (Int32.ofNat k))])) _
        refine XS.icmpNo X0.here hx rfl (hb hby d18_10) rfl (tlt ((own_oflt (by omega) (by omega)).mpr (by omega))).2.1 ?_
        show Steps p.tables e below (s₁.setTop (mkF m 13 #[.val (.ref a1), .val (.int (0 : Int32)), .val (.int (Int32.ofNat nN)), .val (.int (Int32.ofNat nN)), .val (.int (Int32.ofNat k))] [])) _
        refine XS.aloadN X0.here hx rfl (hb hby d18_13) rfl rfl ?_
        show Steps p.tables e below (s₁.setTop (mkF m 14 #[.val (.ref a1), .val (.int (0 : Int32)), .val (.int (Int32.ofNat nN)), .val (.int (Int32.ofNat nN)), .val (.int (Int32.ofNat k))] [(.ref a1)])) _
        refine XS.iload X0.here hx rfl (hb hby d18_14) rfl ?_
        show Steps p.tables e below (s₁.setTop (mkF m 16 #[.val (.ref a1), .val (.int (0 : Int32)), .val (.int (Int32.ofNat nN)), .val (.int (Int32.ofNat nN)), .val (.int (Int32.ofNat k))] [(.int (Int32.ofNat k)), (.ref a1)])) _
        refine X0.baloadBytes hx (j := (Int32.ofNat k)) (v := (.int (d k))) (by rw [e0]; exact Ar.1) (State.isArrayOf_alike hZ.alike Ar.2.1) Ar.2.2 hin hat (g := (mkF m 16 #[.val (.ref a1), .val (.int (0 : Int32)), .val (.int (Int32.ofNat nN)), .val (.int (Int32.ofNat nN)), .val (.int (Int32.ofNat k))] [(.int (Int32.ofNat k)), (.ref a1)])) rfl rfl (hb hby d18_16) _ ?_
        exact k_)
      by_cases hn : (d k) < (0 : Int32)
      · skip
        have pre105 : ∀ t_, Steps p.tables e below (s₁.setTop (mkF m 24 #[.val (.ref a1), .val (.int (0 : Int32)), .val (.int (Int32.ofNat nN)), .val (.int (Int32.ofNat nN)), .val (.int (Int32.ofNat k))] [(.int ((Int32.ofNat k) - (0 : Int32)))])) t_ → Steps p.tables e below (s₁.setTop (mkF m 7 #[.val (.ref a1), .val (.int (0 : Int32)), .val (.int (Int32.ofNat nN)), .val (.int (Int32.ofNat nN)), .val (.int (Int32.ofNat k))] [])) t_ := fun t_ k_ => pre104 _ (by
          show Steps p.tables e below (s₁.setTop (mkF m 17 #[.val (.ref a1), .val (.int (0 : Int32)), .val (.int (Int32.ofNat nN)), .val (.int (Int32.ofNat nN)), .val (.int (Int32.ofNat k))] [(.int (d k))])) _
          refine XS.ifNo X0.here hx rfl (hb hby d18_17) rfl ((if0 _ _).trans (tlt hn).2.1) ?_
          show Steps p.tables e below (s₁.setTop (mkF m 20 #[.val (.ref a1), .val (.int (0 : Int32)), .val (.int (Int32.ofNat nN)), .val (.int (Int32.ofNat nN)), .val (.int (Int32.ofNat k))] [])) _
          refine XS.iload X0.here hx rfl (hb hby d18_20) rfl ?_
          show Steps p.tables e below (s₁.setTop (mkF m 22 #[.val (.ref a1), .val (.int (0 : Int32)), .val (.int (Int32.ofNat nN)), .val (.int (Int32.ofNat nN)), .val (.int (Int32.ofNat k))] [(.int (Int32.ofNat k))])) _
          refine XS.iloadN X0.here hx rfl (hb hby d18_22) rfl ?_
          show Steps p.tables e below (s₁.setTop (mkF m 23 #[.val (.ref a1), .val (.int (0 : Int32)), .val (.int (Int32.ofNat nN)), .val (.int (Int32.ofNat nN)), .val (.int (Int32.ofNat k))] [(.int (0 : Int32)), (.int (Int32.ofNat k))])) _
          refine XS.isub X0.here hx rfl (hb hby d18_23) rfl ?_
          exact k_)
        refine ⟨k, 24, Int32.ofNat k, Or.inl rfl, by omega, fun q => absurd q (by omega), fun t_ k_ => pre105 t_ ?_⟩
        rw [own_sub0]
        exact k_
      · skip
        have pre106 : ∀ t_, Steps p.tables e below (s₁.setTop (mkF m 7 #[.val (.ref a1), .val (.int (0 : Int32)), .val (.int (Int32.ofNat nN)), .val (.int (Int32.ofNat nN)), .val (.int ((Int32.ofNat k) + (1 : Int32)))] [])) t_ → Steps p.tables e below (s₁.setTop (mkF m 7 #[.val (.ref a1), .val (.int (0 : Int32)), .val (.int (Int32.ofNat nN)), .val (.int (Int32.ofNat nN)), .val (.int (Int32.ofNat k))] [])) t_ := fun t_ k_ => pre104 _ (by
          show Steps p.tables e below (s₁.setTop (mkF m 17 #[.val (.ref a1), .val (.int (0 : Int32)), .val (.int (Int32.ofNat nN)), .val (.int (Int32.ofNat nN)), .val (.int (Int32.ofNat k))] [(.int (d k))])) _
          refine XS.ifYes X0.here hx rfl (pc0 := 17) (pc' := 25) rfl (hb hby d18_17) rfl ((if0 _ _).trans (flt hn).2.1) (by decide) (by decide) ?_
          show Steps p.tables e below (s₁.setTop (mkF m 25 #[.val (.ref a1), .val (.int (0 : Int32)), .val (.int (Int32.ofNat nN)), .val (.int (Int32.ofNat nN)), .val (.int (Int32.ofNat k))] [])) _
          refine XS.iinc X0.here hx rfl (hb hby d18_25) rfl (l' := #[.val (.ref a1), .val (.int (0 : Int32)), .val (.int (Int32.ofNat nN)), .val (.int (Int32.ofNat nN)), .val (.int ((Int32.ofNat k) + (1 : Int32)))]) rfl ?_
          show Steps p.tables e below (s₁.setTop (mkF m 28 #[.val (.ref a1), .val (.int (0 : Int32)), .val (.int (Int32.ofNat nN)), .val (.int (Int32.ofNat nN)), .val (.int ((Int32.ofNat k) + (1 : Int32)))] [])) _
          refine XS.goto X0.here hx rfl (pc0 := 28) (pc' := 7) rfl (hb hby d18_28) (by decide) (by decide) ?_
          exact k_)
        obtain ⟨mm, pcx, kx, y1, y2, y3, st'⟩ := ih (k + 1) (by omega) (fun j hj => if q : j = k then (by rw [q]; exact Int.not_lt.mp (fun r => hn (Int32.lt_iff_toInt_lt.mpr r))) else z2 j (by omega))
        refine ⟨mm, pcx, kx, y1, y2, y3, fun t_ k_ => pre106 t_ ?_⟩
        rw [own_of1]
        exact st' t_ k_
  obtain ⟨lim, hv_lim, pre107⟩ : ∃ z_ : Int32, z_ = ((0 : Int32) + (Int32.ofNat nN)) ∧ ∀ t_, Steps p.tables e below (s₁.setTop (mkF m 4 #[.val (.ref a1), .val (.int (0 : Int32)), .val (.int (Int32.ofNat nN)), .val (.int z_), .unset] [])) t_ → Steps p.tables e below (s₁.setTop (entryFrame m #[(.ref a1), (.int (0 : Int32)), (.int (Int32.ofNat nN))] 5)) t_ := ⟨_, rfl, fun t_ k_ => pre0 _ (by
    show Steps p.tables e below (s₁.setTop (mkF m 0 #[.val (.ref a1), .val (.int (0 : Int32)), .val (.int (Int32.ofNat nN)), .unset, .unset] [])) _
    refine XS.iloadN X0.here hx rfl (hb hby d18_0) rfl ?_
    show Steps p.tables e below (s₁.setTop (mkF m 1 #[.val (.ref a1), .val (.int (0 : Int32)), .val (.int (Int32.ofNat nN)), .unset, .unset] [(.int (0 : Int32))])) _
    refine XS.iloadN X0.here hx rfl (hb hby d18_1) rfl ?_
    show Steps p.tables e below (s₁.setTop (mkF m 2 #[.val (.ref a1), .val (.int (0 : Int32)), .val (.int (Int32.ofNat nN)), .unset, .unset] [(.int (Int32.ofNat nN)), (.int (0 : Int32))])) _
    refine XS.iadd X0.here hx rfl (hb hby d18_2) rfl ?_
    show Steps p.tables e below (s₁.setTop (mkF m 3 #[.val (.ref a1), .val (.int (0 : Int32)), .val (.int (Int32.ofNat nN)), .unset, .unset] [(.int ((0 : Int32) + (Int32.ofNat nN)))])) _
    refine XS.istoreN X0.here hx rfl (hb hby d18_3) rfl (l' := #[.val (.ref a1), .val (.int (0 : Int32)), .val (.int (Int32.ofNat nN)), .val (.int ((0 : Int32) + (Int32.ofNat nN))), .unset]) rfl ?_
    exact k_)⟩
  obtain rfl : lim = Int32.ofNat nN := by rw [hv_lim]; exact Int32.zero_add _
  have pre108 : ∀ t_, Steps p.tables e below (s₁.setTop (mkF m 7 #[.val (.ref a1), .val (.int (0 : Int32)), .val (.int (Int32.ofNat nN)), .val (.int (Int32.ofNat nN)), .val (.int (0 : Int32))] [])) t_ → Steps p.tables e below (s₁.setTop (entryFrame m #[(.ref a1), (.int (0 : Int32)), (.int (Int32.ofNat nN))] 5)) t_ := fun t_ k_ => pre107 _ (by
    show Steps p.tables e below (s₁.setTop (mkF m 4 #[.val (.ref a1), .val (.int (0 : Int32)), .val (.int (Int32.ofNat nN)), .val (.int (Int32.ofNat nN)), .unset] [])) _
    refine XS.iloadN X0.here hx rfl (hb hby d18_4) rfl ?_
    show Steps p.tables e below (s₁.setTop (mkF m 5 #[.val (.ref a1), .val (.int (0 : Int32)), .val (.int (Int32.ofNat nN)), .val (.int (Int32.ofNat nN)), .unset] [(.int (0 : Int32))])) _
    refine XS.istore X0.here hx rfl (hb hby d18_5) rfl (l' := #[.val (.ref a1), .val (.int (0 : Int32)), .val (.int (Int32.ofNat nN)), .val (.int (Int32.ofNat nN)), .val (.int (0 : Int32))]) rfl ?_
    exact k_)
  obtain ⟨mm, pcx, kx, y1, y2, y3, st'⟩ := loop nN 0 (by omega) (fun _ q => absurd q (Nat.not_lt_zero _))
  rcases y1 with rfl | rfl
  · skip
    have pre109 : ∀ t_, Steps p.tables e below (s₁.setTop (mkF m 24 #[.val (.ref a1), .val (.int (0 : Int32)), .val (.int (Int32.ofNat nN)), .val (.int (Int32.ofNat nN)), .val (.int kx)] [(.int (Int32.ofNat mm))])) t_ → Steps p.tables e below (s₁.setTop (entryFrame m #[(.ref a1), (.int (0 : Int32)), (.int (Int32.ofNat nN))] 5)) t_ := fun t_ k_ => pre108 _ (by
      show Steps p.tables e below (s₁.setTop (mkF m 7 #[.val (.ref a1), .val (.int (0 : Int32)), .val (.int (Int32.ofNat nN)), .val (.int (Int32.ofNat nN)), .val (.int (0 : Int32))] [])) _
      refine st' _ ?_
      exact k_)
    obtain ⟨fs, hr, hrun, hended, hW, hsame⟩ := X0.leave (v := some (.int (Int32.ofNat mm))) (fun h => by rw [Bd.returns] at h; cases h)
    refine ⟨_, _, pre109 _ ?_, hrun, hended, _, _, rfl, ?_, ⟨_, rfl⟩, hW, hsame.mono (by decide) (by decide)⟩
    · show Steps p.tables e below (s₁.setTop (mkF m 24 #[.val (.ref a1), .val (.int (0 : Int32)), .val (.int (Int32.ofNat nN)), .val (.int (Int32.ofNat nN)), .val (.int kx)] [(.int (Int32.ofNat mm))])) _
      exact retI X0 hx Bd.returns (hb hby d18_24) hr
    · show QrmCP Z a1 nN d h0 n0 _ s₁.heap _
      rw [e0]
      exact ⟨mm, rfl, N0, rfl, y2, y3⟩
  · skip
    have pre110 : ∀ t_, Steps p.tables e below (s₁.setTop (mkF m 32 #[.val (.ref a1), .val (.int (0 : Int32)), .val (.int (Int32.ofNat nN)), .val (.int (Int32.ofNat nN)), .val (.int kx)] [(.int (Int32.ofNat mm))])) t_ → Steps p.tables e below (s₁.setTop (entryFrame m #[(.ref a1), (.int (0 : Int32)), (.int (Int32.ofNat nN))] 5)) t_ := fun t_ k_ => pre108 _ (by
      show Steps p.tables e below (s₁.setTop (mkF m 7 #[.val (.ref a1), .val (.int (0 : Int32)), .val (.int (Int32.ofNat nN)), .val (.int (Int32.ofNat nN)), .val (.int (0 : Int32))] [])) _
      refine st' _ ?_
      exact k_)
    obtain ⟨fs, hr, hrun, hended, hW, hsame⟩ := X0.leave (v := some (.int (Int32.ofNat mm))) (fun h => by rw [Bd.returns] at h; cases h)
    refine ⟨_, _, pre110 _ ?_, hrun, hended, _, _, rfl, ?_, ⟨_, rfl⟩, hW, hsame.mono (by decide) (by decide)⟩
    · show Steps p.tables e below (s₁.setTop (mkF m 32 #[.val (.ref a1), .val (.int (0 : Int32)), .val (.int (Int32.ofNat nN)), .val (.int (Int32.ofNat nN)), .val (.int kx)] [(.int (Int32.ofNat mm))])) _
      exact retI X0 hx Bd.returns (hb hby d18_32) hr
    · show QrmCP Z a1 nN d h0 n0 _ s₁.heap _
      rw [e0]
      exact ⟨mm, rfl, N0, rfl, y2, y3⟩
theorem pd_12 : parseMethodDescriptor "([BII)I" = some ⟨[(.array .byte), .int, .int], some .int⟩ := by decide +kernel
theorem d17_0 : decode jdk_123_method_2_code 0 = .ok (.aload_n 0, 1) := by decide +kernel
theorem d17_1 : decode jdk_123_method_2_code 1 = .ok (.iload_n 1, 1) := by decide +kernel
theorem d17_2 : decode jdk_123_method_2_code 2 = .ok (.iload_n 2, 1) := by decide +kernel
theorem d17_3 : decode jdk_123_method_2_code 3 = .ok (.invokestatic 7, 3) := by decide +kernel
theorem d17_6 : decode jdk_123_method_2_code 6 = .ok (.iload_n 2, 1) := by decide +kernel
theorem d17_7 : decode jdk_123_method_2_code 7 = .ok (.if_icmp .eq 7, 3) := by decide +kernel
theorem d17_10 : decode jdk_123_method_2_code 10 = .ok (.iconst 1, 1) := by decide +kernel
theorem d17_11 : decode jdk_123_method_2_code 11 = .ok (.goto 4, 3) := by decide +kernel
theorem d17_14 : decode jdk_123_method_2_code 14 = .ok (.iconst 0, 1) := by decide +kernel
theorem d17_15 : decode jdk_123_method_2_code 15 = .ok (.ireturn, 1) := by decide +kernel
theorem ef_rmHN (m : MethodId) (x0 : Addr) (x1 : Int32) (x2 : Int32) : entryFrame m #[(.ref x0), (.int x1), (.int x2)] 3 = mkF m 0 #[.val (.ref x0), .val (.int x1), .val (.int x2)] [] := by first | (simp [entryFrame, mkF, argsToLocals, Value.category]; done) | rfl
def QrmHN (Z : State) (a1 : Addr) (nN : Nat) (d : Nat → Int32) (h0 : Heap) (n0 : Nat) (v : Option Value) (h : Heap) (L : List Loc) : Prop := ∃ zq : Int32, v = some (.int zq) ∧ Fr n0 L ∧ h = h0 ∧ ((zq = 0 ∧ ∀ j, j < nN → 0 ≤ (d j).toInt) ∨ zq = 1)
set_option maxRecDepth 65536 in
set_option maxHeartbeats 40000000 in
theorem rmHN (l : Launch) (Z : State) (a0 : Array Value) (hw : ∀ d ∈ tables_1, d.before a0 Z = true) (ws : List Jvm.Cond) (a1 : Addr) (nN : Nat) (d : Nat → Int32) (h0 : Heap) (n0 : Nat) (Z0 : n0 ≤ h0.size) (b1 : nN ≤ 6) (V : own_Af Z h0 a1 .byte nN d) :
    MetFree l (⟨"java/lang/StringCoding", "hasNegatives", "([BII)Z"⟩ : MethodName) (head1 (Jvm.Cond.code (⟨"java/lang/StringCoding", "hasNegatives", "([BII)Z"⟩ : MethodName) jdk_123_method_2_code 3 (some .boolean) :: ws) ({ frames := 1, cells := 0, slots := 0, locals := 16 } : Room)) (fun a U => a = #[(.ref a1), (.int (0 : Int32)), (.int (Int32.ofNat nN))] ∧ Z.Warmed39 U.vm ∧ U.heap = h0) (fun _ _ _ _ _ => True) (fun _ U o U' => ∃ v L, o = .returned v ∧ QrmHN Z a1 nN d h0 n0 v U'.heap L ∧ FrameEnd U o U' L ({ frames := 1, cells := 0, slots := 0, locals := 16 } : Room).cells ({ frames := 1, cells := 0, slots := 0, locals := 16 } : Room).slots) := by
  refine MetFree.of_bodySF (plainFor_of_name pn_6) hisR ?_
  intro p e s m args below meth c s₁ Bd hml0 hP hK
  obtain ⟨rfl, hZ, hh⟩ := hP
  have hx := Bd.exec
  have hby := Bd.bytes
  have hml : c.maxLocals = 3 := hml0
  have hown : s.vm.findClass "java/lang/StringCoding" = some m.cls := findClass_of_methodNamed Bd.named
  have hnm := (name_of_methodNamed Bd.named Bd.method).1
  have X0 : Stand p l e ({ frames := 1, cells := 0, slots := 0, locals := 16 } : Room) s m #[(.ref a1), (.int (0 : Int32)), (.int (Int32.ofNat nN))] below meth c s₁ [] 0 0 := Stand.of_body Bd
  have e0 : s₁.heap = h0 := by rw [← hh, Bd.state]; rfl
  have N0 := Fr.nil n0
  have pre0 : ∀ t_, Steps p.tables e below (s₁.setTop (mkF m 0 #[.val (.ref a1), .val (.int (0 : Int32)), .val (.int (Int32.ofNat nN))] [])) t_ → Steps p.tables e below (s₁.setTop (entryFrame m #[(.ref a1), (.int (0 : Int32)), (.int (Int32.ofNat nN))] 3)) t_ := fun t_ k_ => castTop (ef_rmHN m a1 ((0 : Int32)) ((Int32.ofNat nN))) k_
  obtain ⟨_, _, ⟨T101, L101, k101, n101⟩, -, X101, ⟨Lc101, hQ101, l101, y101, z101⟩, st101⟩ := Jvm.LawKit.callS X0 hx (y := (⟨"java/lang/StringCoding", "countPositives", "([BII)I"⟩ : MethodName)) hown (mvT hZ (hw _ (List.mem_of_getElem? (i := 97) rfl))) (mvT hZ (hw _ (List.mem_of_getElem? (i := 98) rfl))) (mvT hZ (hw _ (List.mem_of_getElem? (i := 95) rfl))) (mvT hZ (hw _ (List.mem_of_getElem? (i := 99) rfl))) (by decide) (backOf (W := 0) (rmCP l Z a0 hw [] a1 nN d h0 n0 Z0 b1 V) hZ (hw _ (List.mem_of_getElem? (i := 99) rfl)) (hw _ (List.mem_of_getElem? (i := 95) rfl)) (by decide) (by decide)) (g := (mkF m 3 #[.val (.ref a1), .val (.int (0 : Int32)), .val (.int (Int32.ofNat nN))] [(.int (Int32.ofNat nN)), (.int (0 : Int32)), (.ref a1)])) rfl (by rw [hml]; rfl) (argsL := [(.ref a1), (.int (0 : Int32)), (.int (Int32.ofNat nN))]) (rest := []) (lenOf pd_12 rfl) rfl (by show 2 * 0 + _ ≤ _; exact Nat.le_of_eq rfl) (hb hby d17_3) (fun _ _ => ⟨rfl, e0, (by decide : 0 + 0 ≤ _), (by decide : 0 + 0 ≤ _)⟩)
  dsimp only [Pt.U, Pt.locs, Pt.cells, Pt.slots] at X101 l101 y101 z101 st101 hQ101
  subst l101 y101 z101
  obtain ⟨mm, rfl, N101q, e101, m1, m2⟩ := hQ101
  have N101 := Fr.app N0 N101q
  have pre102 : ∀ t_, Steps p.tables e below (T101.setTop (mkF m 7 #[.val (.ref a1), .val (.int (0 : Int32)), .val (.int (Int32.ofNat nN))] [(.int (Int32.ofNat nN)), (.int (Int32.ofNat mm))])) t_ → Steps p.tables e below (s₁.setTop (entryFrame m #[(.ref a1), (.int (0 : Int32)), (.int (Int32.ofNat nN))] 3)) t_ := fun t_ k_ => pre0 _ (by
    show Steps p.tables e below (s₁.setTop (mkF m 0 #[.val (.ref a1), .val (.int (0 : Int32)), .val (.int (Int32.ofNat nN))] [])) _
    refine XS.aloadN X0.here hx rfl (hb hby d17_0) rfl rfl ?_
    show Steps p.tables e below (s₁.setTop (mkF m 1 #[.val (.ref a1), .val (.int (0 : Int32)), .val (.int (Int32.ofNat nN))] [(.ref a1)])) _
    refine XS.iloadN X0.here hx rfl (hb hby d17_1) rfl ?_
    show Steps p.tables e below (s₁.setTop (mkF m 2 #[.val (.ref a1), .val (.int (0 : Int32)), .val (.int (Int32.ofNat nN))] [(.int (0 : Int32)), (.ref a1)])) _
    refine XS.iloadN X0.here hx rfl (hb hby d17_2) rfl ?_
    show Steps p.tables e below (s₁.setTop (mkF m 3 #[.val (.ref a1), .val (.int (0 : Int32)), .val (.int (Int32.ofNat nN))] [(.int (Int32.ofNat nN)), (.int (0 : Int32)), (.ref a1)])) _
    refine st101 _ ?_
    show Steps p.tables e below (T101.setTop (mkF m 6 #[.val (.ref a1), .val (.int (0 : Int32)), .val (.int (Int32.ofNat nN))] [(.int (Int32.ofNat mm))])) _
    refine XS.iloadN X101.here hx rfl (hb hby d17_6) rfl ?_
    exact k_)
  by_cases hm : mm = nN
  · skip
    have pre103 : ∀ t_, Steps p.tables e below (T101.setTop (mkF m 15 #[.val (.ref a1), .val (.int (0 : Int32)), .val (.int (Int32.ofNat nN))] [(.int (0 : Int32))])) t_ → Steps p.tables e below (s₁.setTop (entryFrame m #[(.ref a1), (.int (0 : Int32)), (.int (Int32.ofNat nN))] 3)) t_ := fun t_ k_ => pre102 _ (by
      show Steps p.tables e below (T101.setTop (mkF m 7 #[.val (.ref a1), .val (.int (0 : Int32)), .val (.int (Int32.ofNat nN))] [(.int (Int32.ofNat nN)), (.int (Int32.ofNat mm))])) _
      refine XS.icmpYes X101.here hx rfl (pc0 := 7) (pc' := 14) rfl (hb hby d17_7) rfl (teq (by rw [hm])).1 (by decide) (by decide) ?_
      show Steps p.tables e below (T101.setTop (mkF m 14 #[.val (.ref a1), .val (.int (0 : Int32)), .val (.int (Int32.ofNat nN))] [])) _
      refine XS.iconst X101.here hx rfl (hb hby d17_14) ?_
      exact k_)
    obtain ⟨fs, hr, hrun, hended, hW, hsame⟩ := X101.leave (v := some (.int (0 : Int32))) (fun h => by rw [Bd.returns] at h; cases h)
    refine ⟨_, _, pre103 _ ?_, hrun, hended, _, _, rfl, ?_, ⟨_, rfl⟩, hW, hsame.mono (by decide) (by decide)⟩
    · show Steps p.tables e below (T101.setTop (mkF m 15 #[.val (.ref a1), .val (.int (0 : Int32)), .val (.int (Int32.ofNat nN))] [(.int (0 : Int32))])) _
      exact retN X101 hx (t := .boolean) Bd.returns (by simp) (hb hby d17_15) hr
    · show QrmHN Z a1 nN d h0 n0 _ T101.heap _
      rw [e101]
      exact ⟨0, rfl, N101, rfl, Or.inl ⟨rfl, m2 hm⟩⟩
  · skip
    have pre104 : ∀ t_, Steps p.tables e below (T101.setTop (mkF m 15 #[.val (.ref a1), .val (.int (0 : Int32)), .val (.int (Int32.ofNat nN))] [(.int (1 : Int32))])) t_ → Steps p.tables e below (s₁.setTop (entryFrame m #[(.ref a1), (.int (0 : Int32)), (.int (Int32.ofNat nN))] 3)) t_ := fun t_ k_ => pre102 _ (by
      show Steps p.tables e below (T101.setTop (mkF m 7 #[.val (.ref a1), .val (.int (0 : Int32)), .val (.int (Int32.ofNat nN))] [(.int (Int32.ofNat nN)), (.int (Int32.ofNat mm))])) _
      refine XS.icmpNo X101.here hx rfl (hb hby d17_7) rfl (feq (own_ofne (by omega) (by omega) hm)).1 ?_
      show Steps p.tables e below (T101.setTop (mkF m 10 #[.val (.ref a1), .val (.int (0 : Int32)), .val (.int (Int32.ofNat nN))] [])) _
      refine XS.iconst X101.here hx rfl (hb hby d17_10) ?_
      show Steps p.tables e below (T101.setTop (mkF m 11 #[.val (.ref a1), .val (.int (0 : Int32)), .val (.int (Int32.ofNat nN))] [(.int (1 : Int32))])) _
      refine XS.goto X101.here hx rfl (pc0 := 11) (pc' := 15) rfl (hb hby d17_11) (by decide) (by decide) ?_
      exact k_)
    obtain ⟨fs, hr, hrun, hended, hW, hsame⟩ := X101.leave (v := some (.int (1 : Int32))) (fun h => by rw [Bd.returns] at h; cases h)
    refine ⟨_, _, pre104 _ ?_, hrun, hended, _, _, rfl, ?_, ⟨_, rfl⟩, hW, hsame.mono (by decide) (by decide)⟩
    · show Steps p.tables e below (T101.setTop (mkF m 15 #[.val (.ref a1), .val (.int (0 : Int32)), .val (.int (Int32.ofNat nN))] [(.int (1 : Int32))])) _
      exact retN X101 hx (t := .boolean) Bd.returns (by simp) (hb hby d17_15) hr
    · show QrmHN Z a1 nN d h0 n0 _ T101.heap _
      rw [e101]
      exact ⟨1, rfl, N101, rfl, Or.inr rfl⟩
theorem d32_0 : decode jdk_29_method_69_code 0 = .ok (.iload_n 0, 1) := by decide +kernel
theorem d32_1 : decode jdk_29_method_69_code 1 = .ok (.iload_n 1, 1) := by decide +kernel
theorem d32_2 : decode jdk_29_method_69_code 2 = .ok (.if_icmp .gt 7, 3) := by decide +kernel
theorem d32_9 : decode jdk_29_method_69_code 9 = .ok (.iload_n 1, 1) := by decide +kernel
theorem d32_10 : decode jdk_29_method_69_code 10 = .ok (.ireturn, 1) := by decide +kernel
theorem ef_rmMin (m : MethodId) (x0 : Int32) (x1 : Int32) : entryFrame m #[(.int x0), (.int x1)] 2 = mkF m 0 #[.val (.int x0), .val (.int x1)] [] := by first | (simp [entryFrame, mkF, argsToLocals, Value.category]; done) | rfl
def QrmMin (Z : State) (p1 : Int32) (p2 : Int32) (h0 : Heap) (n0 : Nat) (v : Option Value) (h : Heap) (L : List Loc) : Prop := v = some (.int p2) ∧ Fr n0 L ∧ h = h0
set_option maxRecDepth 65536 in
set_option maxHeartbeats 40000000 in
theorem rmMin (l : Launch) (Z : State) (a0 : Array Value) (hw : ∀ d ∈ tables_1, d.before a0 Z = true) (ws : List Jvm.Cond) (p1 : Int32) (p2 : Int32) (h0 : Heap) (n0 : Nat) (Z0 : n0 ≤ h0.size) (H : p2 < p1) :
    MetFree l (⟨"java/lang/Math", "min", "(II)I"⟩ : MethodName) (head1 (Jvm.Cond.code (⟨"java/lang/Math", "min", "(II)I"⟩ : MethodName) jdk_29_method_69_code 2 (some .int) :: ws) ({ frames := 0, cells := 0, slots := 0, locals := 0 } : Room)) (fun a U => a = #[(.int p1), (.int p2)] ∧ Z.Warmed39 U.vm ∧ U.heap = h0) (fun _ _ _ _ _ => True) (fun _ U o U' => ∃ v L, o = .returned v ∧ QrmMin Z p1 p2 h0 n0 v U'.heap L ∧ FrameEnd U o U' L ({ frames := 0, cells := 0, slots := 0, locals := 0 } : Room).cells ({ frames := 0, cells := 0, slots := 0, locals := 0 } : Room).slots) := by
  refine MetFree.of_bodySF (Jvm.Free.JP.mathPlain rfl (by decide +kernel)) hisR ?_
  intro p e s m args below meth c s₁ Bd hml0 hP hK
  obtain ⟨rfl, hZ, hh⟩ := hP
  have hx := Bd.exec
  have hby := Bd.bytes
  have hml : c.maxLocals = 2 := hml0
  have hown : s.vm.findClass "java/lang/Math" = some m.cls := findClass_of_methodNamed Bd.named
  have hnm := (name_of_methodNamed Bd.named Bd.method).1
  have X0 : Stand p l e ({ frames := 0, cells := 0, slots := 0, locals := 0 } : Room) s m #[(.int p1), (.int p2)] below meth c s₁ [] 0 0 := Stand.of_body Bd
  have e0 : s₁.heap = h0 := by rw [← hh, Bd.state]; rfl
  have N0 := Fr.nil n0
  have pre0 : ∀ t_, Steps p.tables e below (s₁.setTop (mkF m 0 #[.val (.int p1), .val (.int p2)] [])) t_ → Steps p.tables e below (s₁.setTop (entryFrame m #[(.int p1), (.int p2)] 2)) t_ := fun t_ k_ => castTop (ef_rmMin m p1 p2) k_
  have pre101 : ∀ t_, Steps p.tables e below (s₁.setTop (mkF m 10 #[.val (.int p1), .val (.int p2)] [(.int p2)])) t_ → Steps p.tables e below (s₁.setTop (entryFrame m #[(.int p1), (.int p2)] 2)) t_ := fun t_ k_ => pre0 _ (by
    show Steps p.tables e below (s₁.setTop (mkF m 0 #[.val (.int p1), .val (.int p2)] [])) _
    refine XS.iloadN X0.here hx rfl (hb hby d32_0) rfl ?_
    show Steps p.tables e below (s₁.setTop (mkF m 1 #[.val (.int p1), .val (.int p2)] [(.int p1)])) _
    refine XS.iloadN X0.here hx rfl (hb hby d32_1) rfl ?_
    show Steps p.tables e below (s₁.setTop (mkF m 2 #[.val (.int p1), .val (.int p2)] [(.int p2), (.int p1)])) _
    refine XS.icmpYes X0.here hx rfl (pc0 := 2) (pc' := 9) rfl (hb hby d32_2) rfl (tlt H).2.2.1 (by decide) (by decide) ?_
    show Steps p.tables e below (s₁.setTop (mkF m 9 #[.val (.int p1), .val (.int p2)] [])) _
    refine XS.iloadN X0.here hx rfl (hb hby d32_9) rfl ?_
    exact k_)
  obtain ⟨fs, hr, hrun, hended, hW, hsame⟩ := X0.leave (v := some (.int p2)) (fun h => by rw [Bd.returns] at h; cases h)
  refine ⟨_, _, pre101 _ ?_, hrun, hended, _, _, rfl, ?_, ⟨_, rfl⟩, hW, hsame.mono (by decide) (by decide)⟩
  · show Steps p.tables e below (s₁.setTop (mkF m 10 #[.val (.int p1), .val (.int p2)] [(.int p2)])) _
    exact retI X0 hx Bd.returns (hb hby d32_10) hr
  · show QrmMin Z p1 p2 h0 n0 _ s₁.heap _
    rw [e0]
    exact ⟨rfl, N0, rfl⟩
theorem pd_13 : parseMethodDescriptor "(II)I" = some ⟨[.int, .int], some .int⟩ := by decide +kernel
theorem d31_0 : decode jdk_65_method_121_code 0 = .ok (.iload_n 1, 1) := by decide +kernel
theorem d31_1 : decode jdk_65_method_121_code 1 = .ok (.aload_n 0, 1) := by decide +kernel
theorem d31_2 : decode jdk_65_method_121_code 2 = .ok (.arraylength, 1) := by decide +kernel
theorem d31_3 : decode jdk_65_method_121_code 3 = .ok (.if_icmp .ne 11, 3) := by decide +kernel
theorem d31_14 : decode jdk_65_method_121_code 14 = .ok (.iload_n 1, 1) := by decide +kernel
theorem d31_15 : decode jdk_65_method_121_code 15 = .ok (.newarray .byte, 2) := by decide +kernel
theorem d31_17 : decode jdk_65_method_121_code 17 = .ok (.astore_n 2, 1) := by decide +kernel
theorem d31_18 : decode jdk_65_method_121_code 18 = .ok (.aload_n 0, 1) := by decide +kernel
theorem d31_19 : decode jdk_65_method_121_code 19 = .ok (.iconst 0, 1) := by decide +kernel
theorem d31_20 : decode jdk_65_method_121_code 20 = .ok (.aload_n 2, 1) := by decide +kernel
theorem d31_21 : decode jdk_65_method_121_code 21 = .ok (.iconst 0, 1) := by decide +kernel
theorem d31_22 : decode jdk_65_method_121_code 22 = .ok (.aload_n 0, 1) := by decide +kernel
theorem d31_23 : decode jdk_65_method_121_code 23 = .ok (.arraylength, 1) := by decide +kernel
theorem d31_24 : decode jdk_65_method_121_code 24 = .ok (.iload_n 1, 1) := by decide +kernel
theorem d31_25 : decode jdk_65_method_121_code 25 = .ok (.invokestatic 304, 3) := by decide +kernel
theorem d31_28 : decode jdk_65_method_121_code 28 = .ok (.invokestatic 150, 3) := by decide +kernel
theorem d31_31 : decode jdk_65_method_121_code 31 = .ok (.aload_n 2, 1) := by decide +kernel
theorem d31_32 : decode jdk_65_method_121_code 32 = .ok (.areturn, 1) := by decide +kernel
theorem ef_rmCO (m : MethodId) (x0 : Addr) (x1 : Int32) : entryFrame m #[(.ref x0), (.int x1)] 3 = mkF m 0 #[.val (.ref x0), .val (.int x1), .unset] [] := by first | (simp [entryFrame, mkF, argsToLocals, Value.category]; done) | rfl
def QrmCO (Z : State) (a1 : Addr) (nN : Nat) (mN : Nat) (d : Nat → Int32) (h0 : Heap) (n0 : Nat) (v : Option Value) (h : Heap) (L : List Loc) : Prop := ∃ x : Addr, v = some (.ref x) ∧ Fr n0 L ∧ Keep h0 h [] ∧ own_Af Z h x .byte mN d
set_option maxRecDepth 65536 in
set_option maxHeartbeats 40000000 in
theorem rmCO (l : Launch) (Z : State) (a0 : Array Value) (hw : ∀ d ∈ tables_1, d.before a0 Z = true) (ws : List Jvm.Cond) (a1 : Addr) (nN : Nat) (mN : Nat) (d : Nat → Int32) (h0 : Heap) (n0 : Nat) (Z0 : n0 ≤ h0.size) (b1 : nN ≤ 12) (b2 : mN < nN) (V : own_Af Z h0 a1 .byte nN d) (hd : ∀ j, ∃ y, d j = own_b8 y) :
    MetFree l (⟨"java/util/Arrays", "copyOf", "([BI)[B"⟩ : MethodName) (head1 (Jvm.Cond.code (⟨"java/util/Arrays", "copyOf", "([BI)[B"⟩ : MethodName) jdk_65_method_121_code 3 (some (.array .byte)) :: ws) ({ frames := 1, cells := 1, slots := 12, locals := 18 } : Room)) (fun a U => a = #[(.ref a1), (.int (Int32.ofNat mN))] ∧ Z.Warmed39 U.vm ∧ U.heap = h0) (fun _ _ _ _ _ => True) (fun _ U o U' => ∃ v L, o = .returned v ∧ QrmCO Z a1 nN mN d h0 n0 v U'.heap L ∧ FrameEnd U o U' L ({ frames := 1, cells := 1, slots := 12, locals := 18 } : Room).cells ({ frames := 1, cells := 1, slots := 12, locals := 18 } : Room).slots) := by
  refine MetFree.of_bodySF (plainFor_of_name pn_4) hisR ?_
  intro p e s m args below meth c s₁ Bd hml0 hP hK
  obtain ⟨rfl, hZ, hh⟩ := hP
  have hx := Bd.exec
  have hby := Bd.bytes
  have hml : c.maxLocals = 3 := hml0
  have hown : s.vm.findClass "java/util/Arrays" = some m.cls := findClass_of_methodNamed Bd.named
  have hnm := (name_of_methodNamed Bd.named Bd.method).1
  have X0 : Stand p l e ({ frames := 1, cells := 1, slots := 12, locals := 18 } : Room) s m #[(.ref a1), (.int (Int32.ofNat mN))] below meth c s₁ [] 0 0 := Stand.of_body Bd
  have e0 : s₁.heap = h0 := by rw [← hh, Bd.state]; rfl
  have N0 := Fr.nil n0
  have pre0 : ∀ t_, Steps p.tables e below (s₁.setTop (mkF m 0 #[.val (.ref a1), .val (.int (Int32.ofNat mN)), .unset] [])) t_ → Steps p.tables e below (s₁.setTop (entryFrame m #[(.ref a1), (.int (Int32.ofNat mN))] 3)) t_ := fun t_ k_ => castTop (ef_rmCO m a1 ((Int32.ofNat mN))) k_
  obtain ⟨cl, Ar, Sz, Hs⟩ := id V
  have Sz2 : cl.slots.size = (Int32.ofNat nN).toNatClampNeg := by rw [Sz, own_ofc (by omega)]
  have Ng : ¬ (Int32.ofNat nN) < 0 := own_ofn0 (by omega)
  have Ngm : ¬ (Int32.ofNat mN) < 0 := own_ofn0 (by omega)
  obtain ⟨ks, AS0⟩ := own_toArv V (by omega) hd
  obtain ⟨T101, h101, k_y, X101, e101, Ext_y, A_y, st101⟩ := newP X0 hx hZ (hw _ (List.mem_of_getElem? (i := 15) rfl)) e0 (g := (mkF m 15 #[.val (.ref a1), .val (.int (Int32.ofNat mN)), .unset] [(.int (Int32.ofNat mN))])) rfl (hb hby d31_15) rfl Ngm (cap := 12) (by rw [own_ofc (by omega)]; omega) (by decide) (by decide) (by decide)
  obtain ⟨y, eq_y⟩ : ∃ z, z = h0.size := ⟨_, rfl⟩
  rw [← eq_y] at A_y st101
  have g_y : n0 ≤ y := Nat.le_trans Z0 (Nat.le_of_eq eq_y.symm)
  have ne_a1_y : a1 ≠ y := Nat.ne_of_lt (Nat.lt_of_lt_of_le AS0.lt (Nat.le_of_eq eq_y.symm))
  have AS_102 := AS0.ext Ext_y
  have K_103 := (Keep.refl h0 []).ext Ext_y
  have Z104 : n0 ≤ h101.size := Nat.le_trans Z0 (Ext_y.1)
  have V_y := Arv.new A_y Ngm
  have BY : Arv Z h101 y k_y .byte (Int32.ofNat mN) ([] ++ List.replicate mN (.int (0 : Int32))) (.int (0 : Int32)) := (Arv.new A_y Ngm).pad (pad_rep [] (.int (0 : Int32)) mN)
  have Ar2 := Ar.ext Ext_y
  obtain ⟨_, _, ⟨T105, L105, k105, n105⟩, -, X105, ⟨Lc105, hQ105, l105, y105, z105⟩, st105⟩ := Jvm.LawKit.callS X101 hx (y := (⟨"java/lang/Math", "min", "(II)I"⟩ : MethodName)) hown (mvT hZ (hw _ (List.mem_of_getElem? (i := 163) rfl))) (mvT hZ (hw _ (List.mem_of_getElem? (i := 164) rfl))) (mvT hZ (hw _ (List.mem_of_getElem? (i := 165) rfl))) (mvT hZ (hw _ (List.mem_of_getElem? (i := 166) rfl))) (by decide) (backOf (W := 4) (rmMin l Z a0 hw [] (Int32.ofNat nN) (Int32.ofNat mN) h101 n0 Z104 ((own_oflt (by omega) (by omega)).mpr b2)) hZ (hw _ (List.mem_of_getElem? (i := 166) rfl)) (hw _ (List.mem_of_getElem? (i := 165) rfl)) (by decide) (by decide)) (g := (mkF m 25 #[.val (.ref a1), .val (.int (Int32.ofNat mN)), .val (.ref y)] [(.int (Int32.ofNat mN)), (.int (Int32.ofNat nN)), (.int (0 : Int32)), (.ref y), (.int (0 : Int32)), (.ref a1)])) rfl (by rw [hml]; rfl) (argsL := [(.int (Int32.ofNat nN)), (.int (Int32.ofNat mN))]) (rest := [(.int (0 : Int32)), (.ref y), (.int (0 : Int32)), (.ref a1)]) (lenOf pd_13 rfl) rfl (by show 2 * 0 + _ ≤ _; exact Nat.le_of_eq rfl) (hb hby d31_25) (fun _ _ => ⟨rfl, e101, (by decide : 1 + 0 ≤ _), (by decide : 12 + 0 ≤ _)⟩)
  dsimp only [Pt.U, Pt.locs, Pt.cells, Pt.slots] at X105 l105 y105 z105 st105 hQ105
  subst l105 y105 z105
  obtain ⟨rfl, N105q, e105⟩ := hQ105
  have N105 := Fr.app N0 N105q
  obtain ⟨T106, h106, L106, X106, e106, N106, K106, V106, st106⟩ := cpA X105 hx hZ hown (hw _ (List.mem_of_getElem? (i := 167) rfl)) (hw _ (List.mem_of_getElem? (i := 170) rfl)) (hw _ (List.mem_of_getElem? (i := 168) rfl)) (hw _ (List.mem_of_getElem? (i := 169) rfl)) e105 AS_102 BY (Or.inl ⟨rfl, rfl⟩) (by decide) (by decide) Ngm (by rw [own_c0, own_ofc (a := mN) (by omega), own_ofc (a := nN) (by omega)]; omega) (by rw [own_c0, own_ofc (a := mN) (by omega)]; omega) rfl (by rw [own_c0, own_ofc (a := mN) (by omega)]; simp) N105 g_y (g := (mkF m 28 #[.val (.ref a1), .val (.int (Int32.ofNat mN)), .val (.ref y)] [(.int (Int32.ofNat mN)), (.int (0 : Int32)), (.ref y), (.int (0 : Int32)), (.ref a1)])) rfl (by rw [hml]; rfl) rfl (hb hby d31_28) (by decide) (W := 0) (by show 2 * 0 + _ ≤ _; exact Nat.le_of_eq rfl) (by decide)
  have AY := own_AfA (n := mN) (g := d) V106 (by omega) (fun j hj => own_cpget b2 (by omega) hj)
  have KY := K_103.trans K106 (allS (Or.inr (Nat.le_of_eq eq_y.symm)) all0)
  have pre107 : ∀ t_, Steps p.tables e below (T106.setTop (mkF m 32 #[.val (.ref a1), .val (.int (Int32.ofNat mN)), .val (.ref y)] [(.ref y)])) t_ → Steps p.tables e below (s₁.setTop (entryFrame m #[(.ref a1), (.int (Int32.ofNat mN))] 3)) t_ := fun t_ k_ => pre0 _ (by
    show Steps p.tables e below (s₁.setTop (mkF m 0 #[.val (.ref a1), .val (.int (Int32.ofNat mN)), .unset] [])) _
    refine XS.iloadN X0.here hx rfl (hb hby d31_0) rfl ?_
    show Steps p.tables e below (s₁.setTop (mkF m 1 #[.val (.ref a1), .val (.int (Int32.ofNat mN)), .unset] [(.int (Int32.ofNat mN))])) _
    refine XS.aloadN X0.here hx rfl (hb hby d31_1) rfl rfl ?_
    show Steps p.tables e below (s₁.setTop (mkF m 2 #[.val (.ref a1), .val (.int (Int32.ofNat mN)), .unset] [(.ref a1), (.int (Int32.ofNat mN))])) _
    refine X0.arraylength hx (by rw [e0]; exact Ar.1) (State.isArrayOf_alike hZ.alike Ar.2.1) (g := (mkF m 2 #[.val (.ref a1), .val (.int (Int32.ofNat mN)), .unset] [(.ref a1), (.int (Int32.ofNat mN))])) rfl rfl (hb hby d31_2) _ ?_
    rw [len_of Sz2 Ng]
    show Steps p.tables e below (s₁.setTop (mkF m 3 #[.val (.ref a1), .val (.int (Int32.ofNat mN)), .unset] [(.int (Int32.ofNat nN)), (.int (Int32.ofNat mN))])) _
    refine XS.icmpYes X0.here hx rfl (pc0 := 3) (pc' := 14) rfl (hb hby d31_3) rfl (feq (own_ofne (by omega) (by omega) (by omega))).2 (by decide) (by decide) ?_
    show Steps p.tables e below (s₁.setTop (mkF m 14 #[.val (.ref a1), .val (.int (Int32.ofNat mN)), .unset] [])) _
    refine XS.iloadN X0.here hx rfl (hb hby d31_14) rfl ?_
    show Steps p.tables e below (s₁.setTop (mkF m 15 #[.val (.ref a1), .val (.int (Int32.ofNat mN)), .unset] [(.int (Int32.ofNat mN))])) _
    refine st101 _ ?_
    show Steps p.tables e below (T101.setTop (mkF m 17 #[.val (.ref a1), .val (.int (Int32.ofNat mN)), .unset] [(.ref y)])) _
    refine XS.astoreN X101.here hx rfl (hb hby d31_17) rfl rfl (l' := #[.val (.ref a1), .val (.int (Int32.ofNat mN)), .val (.ref y)]) rfl ?_
    show Steps p.tables e below (T101.setTop (mkF m 18 #[.val (.ref a1), .val (.int (Int32.ofNat mN)), .val (.ref y)] [])) _
    refine XS.aloadN X101.here hx rfl (hb hby d31_18) rfl rfl ?_
    show Steps p.tables e below (T101.setTop (mkF m 19 #[.val (.ref a1), .val (.int (Int32.ofNat mN)), .val (.ref y)] [(.ref a1)])) _
    refine XS.iconst X101.here hx rfl (hb hby d31_19) ?_
    show Steps p.tables e below (T101.setTop (mkF m 20 #[.val (.ref a1), .val (.int (Int32.ofNat mN)), .val (.ref y)] [(.int (0 : Int32)), (.ref a1)])) _
    refine XS.aloadN X101.here hx rfl (hb hby d31_20) rfl rfl ?_
    show Steps p.tables e below (T101.setTop (mkF m 21 #[.val (.ref a1), .val (.int (Int32.ofNat mN)), .val (.ref y)] [(.ref y), (.int (0 : Int32)), (.ref a1)])) _
    refine XS.iconst X101.here hx rfl (hb hby d31_21) ?_
    show Steps p.tables e below (T101.setTop (mkF m 22 #[.val (.ref a1), .val (.int (Int32.ofNat mN)), .val (.ref y)] [(.int (0 : Int32)), (.ref y), (.int (0 : Int32)), (.ref a1)])) _
    refine XS.aloadN X101.here hx rfl (hb hby d31_22) rfl rfl ?_
    show Steps p.tables e below (T101.setTop (mkF m 23 #[.val (.ref a1), .val (.int (Int32.ofNat mN)), .val (.ref y)] [(.ref a1), (.int (0 : Int32)), (.ref y), (.int (0 : Int32)), (.ref a1)])) _
    refine X101.arraylength hx (by rw [e101]; exact Ar2.1) (State.isArrayOf_alike hZ.alike Ar2.2.1) (g := (mkF m 23 #[.val (.ref a1), .val (.int (Int32.ofNat mN)), .val (.ref y)] [(.ref a1), (.int (0 : Int32)), (.ref y), (.int (0 : Int32)), (.ref a1)])) rfl rfl (hb hby d31_23) _ ?_
    rw [len_of Sz2 Ng]
    show Steps p.tables e below (T101.setTop (mkF m 24 #[.val (.ref a1), .val (.int (Int32.ofNat mN)), .val (.ref y)] [(.int (Int32.ofNat nN)), (.int (0 : Int32)), (.ref y), (.int (0 : Int32)), (.ref a1)])) _
    refine XS.iloadN X101.here hx rfl (hb hby d31_24) rfl ?_
    show Steps p.tables e below (T101.setTop (mkF m 25 #[.val (.ref a1), .val (.int (Int32.ofNat mN)), .val (.ref y)] [(.int (Int32.ofNat mN)), (.int (Int32.ofNat nN)), (.int (0 : Int32)), (.ref y), (.int (0 : Int32)), (.ref a1)])) _
    refine st105 _ ?_
    show Steps p.tables e below (T105.setTop (mkF m 28 #[.val (.ref a1), .val (.int (Int32.ofNat mN)), .val (.ref y)] [(.int (Int32.ofNat mN)), (.int (0 : Int32)), (.ref y), (.int (0 : Int32)), (.ref a1)])) _
    refine st106 _ ?_
    show Steps p.tables e below (T106.setTop (mkF m 31 #[.val (.ref a1), .val (.int (Int32.ofNat mN)), .val (.ref y)] [])) _
    refine XS.aloadN X106.here hx rfl (hb hby d31_31) rfl rfl ?_
    exact k_)
  obtain ⟨fs, hr, hrun, hended, hW, hsame⟩ := X106.leave (v := some (.ref y)) (fun h => by rw [Bd.returns] at h; cases h)
  refine ⟨_, _, pre107 _ ?_, hrun, hended, _, _, rfl, ?_, ⟨_, rfl⟩, hW, hsame.mono (by decide) (by decide)⟩
  · show Steps p.tables e below (T106.setTop (mkF m 32 #[.val (.ref a1), .val (.int (Int32.ofNat mN)), .val (.ref y)] [(.ref y)])) _
    jvm_step X106.here [X106.here.top, hx, (hb hby d31_32), X106.method', Bd.returns, Value.isRef, FieldType.isReference]
    first | (intro acts; rw [hr _ acts rfl rfl rfl]) | rw [hr _ _ rfl rfl rfl]
    exact Steps.refl _
  · show QrmCO Z a1 nN mN d h0 n0 _ T106.heap _
    rw [e106]
    exact ⟨y, rfl, N106, KY, AY⟩
theorem pd_14 : parseMethodDescriptor "([BII)Z" = some ⟨[(.array .byte), .int, .int], some .boolean⟩ := by decide +kernel
theorem pd_15 : parseMethodDescriptor "(I)[B" = some ⟨[.int], some (.array .byte)⟩ := by decide +kernel
theorem pd_16 : parseMethodDescriptor "([BI)[B" = some ⟨[(.array .byte), .int], some (.array .byte)⟩ := by decide +kernel
theorem d16_0 : decode jdk_42_method_46_code 0 = .ok (.iload_n 0, 1) := by decide +kernel
theorem d16_1 : decode jdk_42_method_46_code 1 = .ok (.iconst 1, 1) := by decide +kernel
theorem d16_2 : decode jdk_42_method_46_code 2 = .ok (.if_icmp .ne 9, 3) := by decide +kernel
theorem d16_11 : decode jdk_42_method_46_code 11 = .ok (.aload_n 1, 1) := by decide +kernel
theorem d16_12 : decode jdk_42_method_46_code 12 = .ok (.iconst 0, 1) := by decide +kernel
theorem d16_13 : decode jdk_42_method_46_code 13 = .ok (.aload_n 1, 1) := by decide +kernel
theorem d16_14 : decode jdk_42_method_46_code 14 = .ok (.arraylength, 1) := by decide +kernel
theorem d16_15 : decode jdk_42_method_46_code 15 = .ok (.invokestatic 128, 3) := by decide +kernel
theorem d16_18 : decode jdk_42_method_46_code 18 = .ok (.ifCond .ne 11, 3) := by decide +kernel
theorem d16_21 : decode jdk_42_method_46_code 21 = .ok (.aload_n 1, 1) := by decide +kernel
theorem d16_22 : decode jdk_42_method_46_code 22 = .ok (.invokevirtual 279, 3) := by decide +kernel
theorem d16_25 : decode jdk_42_method_46_code 25 = .ok (.checkcast 280, 3) := by decide +kernel
theorem d16_28 : decode jdk_42_method_46_code 28 = .ok (.areturn, 1) := by decide +kernel
theorem d16_29 : decode jdk_42_method_46_code 29 = .ok (.iconst 0, 1) := by decide +kernel
theorem d16_30 : decode jdk_42_method_46_code 30 = .ok (.istore_n 3, 1) := by decide +kernel
theorem d16_31 : decode jdk_42_method_46_code 31 = .ok (.aload_n 1, 1) := by decide +kernel
theorem d16_32 : decode jdk_42_method_46_code 32 = .ok (.arraylength, 1) := by decide +kernel
theorem d16_33 : decode jdk_42_method_46_code 33 = .ok (.invokestatic 60, 3) := by decide +kernel
theorem d16_36 : decode jdk_42_method_46_code 36 = .ok (.astore 4, 2) := by decide +kernel
theorem d16_38 : decode jdk_42_method_46_code 38 = .ok (.aload_n 1, 1) := by decide +kernel
theorem d16_39 : decode jdk_42_method_46_code 39 = .ok (.astore 5, 2) := by decide +kernel
theorem d16_41 : decode jdk_42_method_46_code 41 = .ok (.aload 5, 2) := by decide +kernel
theorem d16_43 : decode jdk_42_method_46_code 43 = .ok (.arraylength, 1) := by decide +kernel
theorem d16_44 : decode jdk_42_method_46_code 44 = .ok (.istore 6, 2) := by decide +kernel
theorem d16_46 : decode jdk_42_method_46_code 46 = .ok (.iconst 0, 1) := by decide +kernel
theorem d16_47 : decode jdk_42_method_46_code 47 = .ok (.istore 7, 2) := by decide +kernel
theorem d16_49 : decode jdk_42_method_46_code 49 = .ok (.iload 7, 2) := by decide +kernel
theorem d16_51 : decode jdk_42_method_46_code 51 = .ok (.iload 6, 2) := by decide +kernel
theorem d16_53 : decode jdk_42_method_46_code 53 = .ok (.if_icmp .ge 71, 3) := by decide +kernel
theorem d16_56 : decode jdk_42_method_46_code 56 = .ok (.aload 5, 2) := by decide +kernel
theorem d16_58 : decode jdk_42_method_46_code 58 = .ok (.iload 7, 2) := by decide +kernel
theorem d16_60 : decode jdk_42_method_46_code 60 = .ok (.baload, 1) := by decide +kernel
theorem d16_61 : decode jdk_42_method_46_code 61 = .ok (.istore 8, 2) := by decide +kernel
theorem d16_63 : decode jdk_42_method_46_code 63 = .ok (.iload 8, 2) := by decide +kernel
theorem d16_65 : decode jdk_42_method_46_code 65 = .ok (.ifCond .ge 44, 3) := by decide +kernel
theorem d16_68 : decode jdk_42_method_46_code 68 = .ok (.aload 4, 2) := by decide +kernel
theorem d16_70 : decode jdk_42_method_46_code 70 = .ok (.iload_n 3, 1) := by decide +kernel
theorem d16_71 : decode jdk_42_method_46_code 71 = .ok (.iinc 3 1, 3) := by decide +kernel
theorem d16_74 : decode jdk_42_method_46_code 74 = .ok (.sipush 192, 3) := by decide +kernel
theorem d16_77 : decode jdk_42_method_46_code 77 = .ok (.iload 8, 2) := by decide +kernel
theorem d16_79 : decode jdk_42_method_46_code 79 = .ok (.sipush 255, 3) := by decide +kernel
theorem d16_82 : decode jdk_42_method_46_code 82 = .ok (.iand, 1) := by decide +kernel
theorem d16_83 : decode jdk_42_method_46_code 83 = .ok (.bipush 6, 2) := by decide +kernel
theorem d16_85 : decode jdk_42_method_46_code 85 = .ok (.ishr, 1) := by decide +kernel
theorem d16_86 : decode jdk_42_method_46_code 86 = .ok (.ior, 1) := by decide +kernel
theorem d16_87 : decode jdk_42_method_46_code 87 = .ok (.i2b, 1) := by decide +kernel
theorem d16_88 : decode jdk_42_method_46_code 88 = .ok (.bastore, 1) := by decide +kernel
theorem d16_89 : decode jdk_42_method_46_code 89 = .ok (.aload 4, 2) := by decide +kernel
theorem d16_91 : decode jdk_42_method_46_code 91 = .ok (.iload_n 3, 1) := by decide +kernel
theorem d16_92 : decode jdk_42_method_46_code 92 = .ok (.iinc 3 1, 3) := by decide +kernel
theorem d16_95 : decode jdk_42_method_46_code 95 = .ok (.sipush 128, 3) := by decide +kernel
theorem d16_98 : decode jdk_42_method_46_code 98 = .ok (.iload 8, 2) := by decide +kernel
theorem d16_100 : decode jdk_42_method_46_code 100 = .ok (.bipush 63, 2) := by decide +kernel
theorem d16_102 : decode jdk_42_method_46_code 102 = .ok (.iand, 1) := by decide +kernel
theorem d16_103 : decode jdk_42_method_46_code 103 = .ok (.ior, 1) := by decide +kernel
theorem d16_104 : decode jdk_42_method_46_code 104 = .ok (.i2b, 1) := by decide +kernel
theorem d16_105 : decode jdk_42_method_46_code 105 = .ok (.bastore, 1) := by decide +kernel
theorem d16_106 : decode jdk_42_method_46_code 106 = .ok (.goto 12, 3) := by decide +kernel
theorem d16_109 : decode jdk_42_method_46_code 109 = .ok (.aload 4, 2) := by decide +kernel
theorem d16_111 : decode jdk_42_method_46_code 111 = .ok (.iload_n 3, 1) := by decide +kernel
theorem d16_112 : decode jdk_42_method_46_code 112 = .ok (.iinc 3 1, 3) := by decide +kernel
theorem d16_115 : decode jdk_42_method_46_code 115 = .ok (.iload 8, 2) := by decide +kernel
theorem d16_117 : decode jdk_42_method_46_code 117 = .ok (.bastore, 1) := by decide +kernel
theorem d16_118 : decode jdk_42_method_46_code 118 = .ok (.iinc 7 1, 3) := by decide +kernel
theorem d16_121 : decode jdk_42_method_46_code 121 = .ok (.goto (-72), 3) := by decide +kernel
theorem d16_124 : decode jdk_42_method_46_code 124 = .ok (.iload_n 3, 1) := by decide +kernel
theorem d16_125 : decode jdk_42_method_46_code 125 = .ok (.aload 4, 2) := by decide +kernel
theorem d16_127 : decode jdk_42_method_46_code 127 = .ok (.arraylength, 1) := by decide +kernel
theorem d16_128 : decode jdk_42_method_46_code 128 = .ok (.if_icmp .ne 6, 3) := by decide +kernel
theorem d16_131 : decode jdk_42_method_46_code 131 = .ok (.aload 4, 2) := by decide +kernel
theorem d16_133 : decode jdk_42_method_46_code 133 = .ok (.areturn, 1) := by decide +kernel
theorem d16_134 : decode jdk_42_method_46_code 134 = .ok (.aload 4, 2) := by decide +kernel
theorem d16_136 : decode jdk_42_method_46_code 136 = .ok (.iload_n 3, 1) := by decide +kernel
theorem d16_137 : decode jdk_42_method_46_code 137 = .ok (.invokestatic 102, 3) := by decide +kernel
theorem d16_140 : decode jdk_42_method_46_code 140 = .ok (.areturn, 1) := by decide +kernel
theorem ef_rmEU (m : MethodId) (x0 : Int32) (x1 : Addr) (x2 : Int32) : entryFrame m #[(.int x0), (.ref x1), (.int x2)] 9 = mkF m 0 #[.val (.int x0), .val (.ref x1), .val (.int x2), .unset, .unset, .unset, .unset, .unset, .unset] [] := by first | (simp [entryFrame, mkF, argsToLocals, Value.category]; done) | rfl
def QrmEU (Z : State) (a2 : Addr) (nN : Nat) (g : Nat → Int32) (h0 : Heap) (n0 : Nat) (v : Option Value) (h : Heap) (L : List Loc) : Prop := ∃ (x : Addr) (db : Nat → Int32), v = some (.ref x) ∧ Fr n0 L ∧ Keep h0 h [] ∧ own_Af Z h x .byte (own_ul g nN) db ∧ (0 < nN → db 0 = own_fb (g 0))
set_option maxRecDepth 65536 in
set_option maxHeartbeats 40000000 in
theorem rmEU (l : Launch) (Z : State) (a0 : Array Value) (hw : ∀ d ∈ tables_1, d.before a0 Z = true) (ws : List Jvm.Cond) (a2 : Addr) (nN : Nat) (g : Nat → Int32) (h0 : Heap) (n0 : Nat) (Z0 : n0 ≤ h0.size) (b1 : nN ≤ 3) (lt : own_lat nN g) (V : own_Af Z h0 a2 .byte nN (fun j => own_b8 (g j))) (EV : Exa Z h0 a2 "[B") :
    MetFree l (⟨"java/lang/String", "encodeUTF8", "(B[BZ)[B"⟩ : MethodName) (head1 (Jvm.Cond.code (⟨"java/lang/String", "encodeUTF8", "(B[BZ)[B"⟩ : MethodName) jdk_42_method_46_code 9 (some (.array .byte)) :: ws) ({ frames := 2, cells := 2, slots := 24, locals := 32 } : Room)) (fun a U => a = #[(.int (0 : Int32)), (.ref a2), (.int (1 : Int32))] ∧ Z.Warmed39 U.vm ∧ U.heap = h0) (fun _ _ _ _ _ => True) (fun _ U o U' => ∃ v L, o = .returned v ∧ QrmEU Z a2 nN g h0 n0 v U'.heap L ∧ FrameEnd U o U' L ({ frames := 2, cells := 2, slots := 24, locals := 32 } : Room).cells ({ frames := 2, cells := 2, slots := 24, locals := 32 } : Room).slots) := by
  refine MetFree.of_bodySF (plainFor_of_name pn_1) hisR ?_
  intro p e s m args below meth c s₁ Bd hml0 hP hK
  obtain ⟨rfl, hZ, hh⟩ := hP
  have hx := Bd.exec
  have hby := Bd.bytes
  have hml : c.maxLocals = 9 := hml0
  have hown : s.vm.findClass "java/lang/String" = some m.cls := findClass_of_methodNamed Bd.named
  have hnm := (name_of_methodNamed Bd.named Bd.method).1
  have X0 : Stand p l e ({ frames := 2, cells := 2, slots := 24, locals := 32 } : Room) s m #[(.int (0 : Int32)), (.ref a2), (.int (1 : Int32))] below meth c s₁ [] 0 0 := Stand.of_body Bd
  have e0 : s₁.heap = h0 := by rw [← hh, Bd.state]; rfl
  have N0 := Fr.nil n0
  have pre0 : ∀ t_, Steps p.tables e below (s₁.setTop (mkF m 0 #[.val (.int (0 : Int32)), .val (.ref a2), .val (.int (1 : Int32)), .unset, .unset, .unset, .unset, .unset, .unset] [])) t_ → Steps p.tables e below (s₁.setTop (entryFrame m #[(.int (0 : Int32)), (.ref a2), (.int (1 : Int32))] 9)) t_ := fun t_ k_ => castTop (ef_rmEU m ((0 : Int32)) a2 ((1 : Int32))) k_
  obtain ⟨cl, Ar, Sz, Hs⟩ := id V
  have Sz2 : cl.slots.size = (Int32.ofNat nN).toNatClampNeg := by rw [Sz, own_ofc (by omega)]
  have Ng : ¬ (Int32.ofNat nN) < 0 := own_ofn0 (by omega)
  have ub := own_ulb g nN
  obtain ⟨_, _, ⟨T101, L101, k101, n101⟩, -, X101, ⟨Lc101, hQ101, l101, y101, z101⟩, st101⟩ := Jvm.LawKit.callS X0 hx (y := (⟨"java/lang/StringCoding", "hasNegatives", "([BII)Z"⟩ : MethodName)) hown (mvT hZ (hw _ (List.mem_of_getElem? (i := 93) rfl))) (mvT hZ (hw _ (List.mem_of_getElem? (i := 94) rfl))) (mvT hZ (hw _ (List.mem_of_getElem? (i := 95) rfl))) (mvT hZ (hw _ (List.mem_of_getElem? (i := 96) rfl))) (by decide) (backOf (W := 0) (rmHN l Z a0 hw [] a2 nN (fun j => own_b8 (g j)) h0 n0 Z0 (by omega) V) hZ (hw _ (List.mem_of_getElem? (i := 96) rfl)) (hw _ (List.mem_of_getElem? (i := 95) rfl)) (by decide) (by decide)) (g := (mkF m 15 #[.val (.int (0 : Int32)), .val (.ref a2), .val (.int (1 : Int32)), .unset, .unset, .unset, .unset, .unset, .unset] [(.int (Int32.ofNat nN)), (.int (0 : Int32)), (.ref a2)])) rfl (by rw [hml]; rfl) (argsL := [(.ref a2), (.int (0 : Int32)), (.int (Int32.ofNat nN))]) (rest := []) (lenOf pd_14 rfl) rfl (by show 2 * 0 + _ ≤ _; exact Nat.le_of_eq rfl) (hb hby d16_15) (fun _ _ => ⟨rfl, e0, (by decide : 0 + 0 ≤ _), (by decide : 0 + 0 ≤ _)⟩)
  dsimp only [Pt.U, Pt.locs, Pt.cells, Pt.slots] at X101 l101 y101 z101 st101 hQ101
  subst l101 y101 z101
  obtain ⟨zq, rfl, N101q, e101, hq⟩ := hQ101
  have N101 := Fr.app N0 N101q
  have pre102 : ∀ t_, Steps p.tables e below (T101.setTop (mkF m 18 #[.val (.int (0 : Int32)), .val (.ref a2), .val (.int (1 : Int32)), .unset, .unset, .unset, .unset, .unset, .unset] [(.int zq)])) t_ → Steps p.tables e below (s₁.setTop (entryFrame m #[(.int (0 : Int32)), (.ref a2), (.int (1 : Int32))] 9)) t_ := fun t_ k_ => pre0 _ (by
    show Steps p.tables e below (s₁.setTop (mkF m 0 #[.val (.int (0 : Int32)), .val (.ref a2), .val (.int (1 : Int32)), .unset, .unset, .unset, .unset, .unset, .unset] [])) _
    refine XS.iloadN X0.here hx rfl (hb hby d16_0) rfl ?_
    show Steps p.tables e below (s₁.setTop (mkF m 1 #[.val (.int (0 : Int32)), .val (.ref a2), .val (.int (1 : Int32)), .unset, .unset, .unset, .unset, .unset, .unset] [(.int (0 : Int32))])) _
    refine XS.iconst X0.here hx rfl (hb hby d16_1) ?_
    show Steps p.tables e below (s₁.setTop (mkF m 2 #[.val (.int (0 : Int32)), .val (.ref a2), .val (.int (1 : Int32)), .unset, .unset, .unset, .unset, .unset, .unset] [(.int (1 : Int32)), (.int (0 : Int32))])) _
    refine XS.icmpYes X0.here hx rfl (pc0 := 2) (pc' := 11) rfl (hb hby d16_2) rfl (feq (by decide)).2 (by decide) (by decide) ?_
    show Steps p.tables e below (s₁.setTop (mkF m 11 #[.val (.int (0 : Int32)), .val (.ref a2), .val (.int (1 : Int32)), .unset, .unset, .unset, .unset, .unset, .unset] [])) _
    refine XS.aloadN X0.here hx rfl (hb hby d16_11) rfl rfl ?_
    show Steps p.tables e below (s₁.setTop (mkF m 12 #[.val (.int (0 : Int32)), .val (.ref a2), .val (.int (1 : Int32)), .unset, .unset, .unset, .unset, .unset, .unset] [(.ref a2)])) _
    refine XS.iconst X0.here hx rfl (hb hby d16_12) ?_
    show Steps p.tables e below (s₁.setTop (mkF m 13 #[.val (.int (0 : Int32)), .val (.ref a2), .val (.int (1 : Int32)), .unset, .unset, .unset, .unset, .unset, .unset] [(.int (0 : Int32)), (.ref a2)])) _
    refine XS.aloadN X0.here hx rfl (hb hby d16_13) rfl rfl ?_
    show Steps p.tables e below (s₁.setTop (mkF m 14 #[.val (.int (0 : Int32)), .val (.ref a2), .val (.int (1 : Int32)), .unset, .unset, .unset, .unset, .unset, .unset] [(.ref a2), (.int (0 : Int32)), (.ref a2)])) _
    refine X0.arraylength hx (by rw [e0]; exact Ar.1) (State.isArrayOf_alike hZ.alike Ar.2.1) (g := (mkF m 14 #[.val (.int (0 : Int32)), .val (.ref a2), .val (.int (1 : Int32)), .unset, .unset, .unset, .unset, .unset, .unset] [(.ref a2), (.int (0 : Int32)), (.ref a2)])) rfl rfl (hb hby d16_14) _ ?_
    rw [len_of Sz2 Ng]
    show Steps p.tables e below (s₁.setTop (mkF m 15 #[.val (.int (0 : Int32)), .val (.ref a2), .val (.int (1 : Int32)), .unset, .unset, .unset, .unset, .unset, .unset] [(.int (Int32.ofNat nN)), (.int (0 : Int32)), (.ref a2)])) _
    refine st101 _ ?_
    exact k_)
  rcases hq with ⟨rfl, hp⟩ | rfl
  · skip
    obtain ⟨kv, AV⟩ := own_toArv V (by omega) (fun j => ⟨_, rfl⟩)
    have eU := own_ulp g nN (own_pos lt hp)
    obtain ⟨T103, h103, X103, e103, Ext_x, V_x, E_x, st103⟩ := cloneH X101 hx hZ hown (hw _ (List.mem_of_getElem? (i := 100) rfl)) (hw _ (List.mem_of_getElem? (i := 101) rfl)) (hw _ (List.mem_of_getElem? (i := 105) rfl)) (hw _ (List.mem_of_getElem? (i := 103) rfl)) (hw _ (List.mem_of_getElem? (i := 104) rfl)) (hw _ (List.mem_of_getElem? (i := 106) rfl)) e101 (Arv.arh AV) EV (g := (mkF m 22 #[.val (.int (0 : Int32)), .val (.ref a2), .val (.int (1 : Int32)), .unset, .unset, .unset, .unset, .unset, .unset] [(.ref a2)])) rfl (by rw [hml]; rfl) rfl (hb hby d16_22) (by decide) (W := 0) (cap := 3) (by show 2 * 0 + _ ≤ _; exact Nat.le_of_eq rfl) (by decide) (by rw [own_ofc (by omega)]; omega) (by decide) (by decide)
    obtain ⟨x, eq_x⟩ : ∃ z, z = h0.size := ⟨_, rfl⟩
    rw [← eq_x] at V_x E_x st103
    have g_x : n0 ≤ x := Nat.le_trans Z0 (Nat.le_of_eq eq_x.symm)
    have Z104 : n0 ≤ h103.size := Nat.le_trans Z0 (Ext_x.1)
    obtain ⟨T105, X105, e105, st105⟩ := castY X103 hx hZ hown (hw _ (List.mem_of_getElem? (i := 107) rfl)) e103 (Ins.self E_x) (g := (mkF m 25 #[.val (.int (0 : Int32)), .val (.ref a2), .val (.int (1 : Int32)), .unset, .unset, .unset, .unset, .unset, .unset] [(.ref x)])) rfl rfl (hb hby d16_25)
    have AX : Arv Z h103 x kv .byte (Int32.ofNat nN) ((List.range nN).map fun j => .int (own_b8 (g j))) (.int (0 : Int32)) := V_x
    have AF := own_AfA (n := nN) (g := (fun j => own_b8 (g j))) AX (by omega) (fun j hj => own_rget hj)
    have pre106 : ∀ t_, Steps p.tables e below (T105.setTop (mkF m 28 #[.val (.int (0 : Int32)), .val (.ref a2), .val (.int (1 : Int32)), .unset, .unset, .unset, .unset, .unset, .unset] [(.ref x)])) t_ → Steps p.tables e below (s₁.setTop (entryFrame m #[(.int (0 : Int32)), (.ref a2), (.int (1 : Int32))] 9)) t_ := fun t_ k_ => pre102 _ (by
      show Steps p.tables e below (T101.setTop (mkF m 18 #[.val (.int (0 : Int32)), .val (.ref a2), .val (.int (1 : Int32)), .unset, .unset, .unset, .unset, .unset, .unset] [(.int (0 : Int32))])) _
      refine XS.ifNo X101.here hx rfl (hb hby d16_18) rfl ((if0 _ _).trans (teq (rfl : (0 : Int32) = 0)).2) ?_
      show Steps p.tables e below (T101.setTop (mkF m 21 #[.val (.int (0 : Int32)), .val (.ref a2), .val (.int (1 : Int32)), .unset, .unset, .unset, .unset, .unset, .unset] [])) _
      refine XS.aloadN X101.here hx rfl (hb hby d16_21) rfl rfl ?_
      show Steps p.tables e below (T101.setTop (mkF m 22 #[.val (.int (0 : Int32)), .val (.ref a2), .val (.int (1 : Int32)), .unset, .unset, .unset, .unset, .unset, .unset] [(.ref a2)])) _
      refine st103 _ ?_
      show Steps p.tables e below (T103.setTop (mkF m 25 #[.val (.int (0 : Int32)), .val (.ref a2), .val (.int (1 : Int32)), .unset, .unset, .unset, .unset, .unset, .unset] [(.ref x)])) _
      refine st105 _ ?_
      exact k_)
    obtain ⟨fs, hr, hrun, hended, hW, hsame⟩ := X105.leave (v := some (.ref x)) (fun h => by rw [Bd.returns] at h; cases h)
    refine ⟨_, _, pre106 _ ?_, hrun, hended, _, _, rfl, ?_, ⟨_, rfl⟩, hW, hsame.mono (by decide) (by decide)⟩
    · show Steps p.tables e below (T105.setTop (mkF m 28 #[.val (.int (0 : Int32)), .val (.ref a2), .val (.int (1 : Int32)), .unset, .unset, .unset, .unset, .unset, .unset] [(.ref x)])) _
      jvm_step X105.here [X105.here.top, hx, (hb hby d16_28), X105.method', Bd.returns, Value.isRef, FieldType.isReference]
      first | (intro acts; rw [hr _ acts rfl rfl rfl]) | rw [hr _ _ rfl rfl rfl]
      exact Steps.refl _
    · show QrmEU Z a2 nN g h0 n0 _ T105.heap _
      rw [e105]
      exact ⟨x, (fun j => own_b8 (g j)), rfl, N101, (Keep.refl h0 []).ext Ext_x, by rw [eU]; exact AF, fun h => own_fbp (own_pos lt hp 0 h)⟩
  · skip
    obtain ⟨_, _, ⟨T107, L107, k107, n107⟩, -, X107, ⟨Lc107, hQ107, l107, y107, z107⟩, st107⟩ := Jvm.LawKit.callS X101 hx (y := (⟨"java/lang/StringUTF16", "newBytesFor", "(I)[B"⟩ : MethodName)) hown (mvT hZ (hw _ (List.mem_of_getElem? (i := 146) rfl))) (mvT hZ (hw _ (List.mem_of_getElem? (i := 147) rfl))) (mvT hZ (hw _ (List.mem_of_getElem? (i := 138) rfl))) (mvT hZ (hw _ (List.mem_of_getElem? (i := 148) rfl))) (by decide) (backOf (W := 0) (rmNB l Z a0 hw [] nN h0 n0 Z0 (by omega)) hZ (hw _ (List.mem_of_getElem? (i := 148) rfl)) (hw _ (List.mem_of_getElem? (i := 138) rfl)) (by decide) (by decide)) (g := (mkF m 33 #[.val (.int (0 : Int32)), .val (.ref a2), .val (.int (1 : Int32)), .val (.int (0 : Int32)), .unset, .unset, .unset, .unset, .unset] [(.int (Int32.ofNat nN))])) rfl (by rw [hml]; rfl) (argsL := [(.int (Int32.ofNat nN))]) (rest := []) (lenOf pd_15 rfl) rfl (by show 2 * 0 + _ ≤ _; exact Nat.le_of_eq rfl) (hb hby d16_33) (fun _ _ => ⟨rfl, e101, (by decide : 0 + 1 ≤ _), (by decide : 0 + 12 ≤ _)⟩)
    dsimp only [Pt.U, Pt.locs, Pt.cells, Pt.slots] at X107 l107 y107 z107 st107 hQ107
    subst l107 y107 z107
    obtain ⟨x, rfl, N107q, K107, AF, gx⟩ := hQ107
    have N107 := Fr.app N101 N107q
    have g_x : n0 ≤ x := Nat.le_trans Z0 gx
    have Ar3 : Arr Z T107.heap a2 cl .byte := ⟨K107.2.1 _ _ Ar.1 nin0, Ar.2⟩
    have pre108 : ∀ t_, Steps p.tables e below (T107.setTop (mkF m 49 #[.val (.int (0 : Int32)), .val (.ref a2), .val (.int (1 : Int32)), .val (.int (0 : Int32)), .val (.ref x), .val (.ref a2), .val (.int (Int32.ofNat nN)), .val (.int (0 : Int32)), .unset] [])) t_ → Steps p.tables e below (s₁.setTop (entryFrame m #[(.int (0 : Int32)), (.ref a2), (.int (1 : Int32))] 9)) t_ := fun t_ k_ => pre102 _ (by
      show Steps p.tables e below (T101.setTop (mkF m 18 #[.val (.int (0 : Int32)), .val (.ref a2), .val (.int (1 : Int32)), .unset, .unset, .unset, .unset, .unset, .unset] [(.int (1 : Int32))])) _
      refine XS.ifYes X101.here hx rfl (pc0 := 18) (pc' := 29) rfl (hb hby d16_18) rfl ((if0 _ _).trans (feq (by decide : ¬ (1 : Int32) = 0)).2) (by decide) (by decide) ?_
      show Steps p.tables e below (T101.setTop (mkF m 29 #[.val (.int (0 : Int32)), .val (.ref a2), .val (.int (1 : Int32)), .unset, .unset, .unset, .unset, .unset, .unset] [])) _
      refine XS.iconst X101.here hx rfl (hb hby d16_29) ?_
      show Steps p.tables e below (T101.setTop (mkF m 30 #[.val (.int (0 : Int32)), .val (.ref a2), .val (.int (1 : Int32)), .unset, .unset, .unset, .unset, .unset, .unset] [(.int (0 : Int32))])) _
      refine XS.istoreN X101.here hx rfl (hb hby d16_30) rfl (l' := #[.val (.int (0 : Int32)), .val (.ref a2), .val (.int (1 : Int32)), .val (.int (0 : Int32)), .unset, .unset, .unset, .unset, .unset]) rfl ?_
      show Steps p.tables e below (T101.setTop (mkF m 31 #[.val (.int (0 : Int32)), .val (.ref a2), .val (.int (1 : Int32)), .val (.int (0 : Int32)), .unset, .unset, .unset, .unset, .unset] [])) _
      refine XS.aloadN X101.here hx rfl (hb hby d16_31) rfl rfl ?_
      show Steps p.tables e below (T101.setTop (mkF m 32 #[.val (.int (0 : Int32)), .val (.ref a2), .val (.int (1 : Int32)), .val (.int (0 : Int32)), .unset, .unset, .unset, .unset, .unset] [(.ref a2)])) _
      refine X101.arraylength hx (by rw [e101]; exact Ar.1) (State.isArrayOf_alike hZ.alike Ar.2.1) (g := (mkF m 32 #[.val (.int (0 : Int32)), .val (.ref a2), .val (.int (1 : Int32)), .val (.int (0 : Int32)), .unset, .unset, .unset, .unset, .unset] [(.ref a2)])) rfl rfl (hb hby d16_32) _ ?_
      rw [len_of Sz2 Ng]
      show Steps p.tables e below (T101.setTop (mkF m 33 #[.val (.int (0 : Int32)), .val (.ref a2), .val (.int (1 : Int32)), .val (.int (0 : Int32)), .unset, .unset, .unset, .unset, .unset] [(.int (Int32.ofNat nN))])) _
      refine st107 _ ?_
      show Steps p.tables e below (T107.setTop (mkF m 36 #[.val (.int (0 : Int32)), .val (.ref a2), .val (.int (1 : Int32)), .val (.int (0 : Int32)), .unset, .unset, .unset, .unset, .unset] [(.ref x)])) _
      refine XS.astore X107.here hx rfl (hb hby d16_36) rfl rfl (l' := #[.val (.int (0 : Int32)), .val (.ref a2), .val (.int (1 : Int32)), .val (.int (0 : Int32)), .val (.ref x), .unset, .unset, .unset, .unset]) rfl ?_
      show Steps p.tables e below (T107.setTop (mkF m 38 #[.val (.int (0 : Int32)), .val (.ref a2), .val (.int (1 : Int32)), .val (.int (0 : Int32)), .val (.ref x), .unset, .unset, .unset, .unset] [])) _
      refine XS.aloadN X107.here hx rfl (hb hby d16_38) rfl rfl ?_
      show Steps p.tables e below (T107.setTop (mkF m 39 #[.val (.int (0 : Int32)), .val (.ref a2), .val (.int (1 : Int32)), .val (.int (0 : Int32)), .val (.ref x), .unset, .unset, .unset, .unset] [(.ref a2)])) _
      refine XS.astore X107.here hx rfl (hb hby d16_39) rfl rfl (l' := #[.val (.int (0 : Int32)), .val (.ref a2), .val (.int (1 : Int32)), .val (.int (0 : Int32)), .val (.ref x), .val (.ref a2), .unset, .unset, .unset]) rfl ?_
      show Steps p.tables e below (T107.setTop (mkF m 41 #[.val (.int (0 : Int32)), .val (.ref a2), .val (.int (1 : Int32)), .val (.int (0 : Int32)), .val (.ref x), .val (.ref a2), .unset, .unset, .unset] [])) _
      refine XS.aload X107.here hx rfl (hb hby d16_41) rfl rfl ?_
      show Steps p.tables e below (T107.setTop (mkF m 43 #[.val (.int (0 : Int32)), .val (.ref a2), .val (.int (1 : Int32)), .val (.int (0 : Int32)), .val (.ref x), .val (.ref a2), .unset, .unset, .unset] [(.ref a2)])) _
      refine X107.arraylength hx (by exact Ar3.1) (State.isArrayOf_alike hZ.alike Ar3.2.1) (g := (mkF m 43 #[.val (.int (0 : Int32)), .val (.ref a2), .val (.int (1 : Int32)), .val (.int (0 : Int32)), .val (.ref x), .val (.ref a2), .unset, .unset, .unset] [(.ref a2)])) rfl rfl (hb hby d16_43) _ ?_
      rw [len_of Sz2 Ng]
      show Steps p.tables e below (T107.setTop (mkF m 44 #[.val (.int (0 : Int32)), .val (.ref a2), .val (.int (1 : Int32)), .val (.int (0 : Int32)), .val (.ref x), .val (.ref a2), .unset, .unset, .unset] [(.int (Int32.ofNat nN))])) _
      refine XS.istore X107.here hx rfl (hb hby d16_44) rfl (l' := #[.val (.int (0 : Int32)), .val (.ref a2), .val (.int (1 : Int32)), .val (.int (0 : Int32)), .val (.ref x), .val (.ref a2), .val (.int (Int32.ofNat nN)), .unset, .unset]) rfl ?_
      show Steps p.tables e below (T107.setTop (mkF m 46 #[.val (.int (0 : Int32)), .val (.ref a2), .val (.int (1 : Int32)), .val (.int (0 : Int32)), .val (.ref x), .val (.ref a2), .val (.int (Int32.ofNat nN)), .unset, .unset] [])) _
      refine XS.iconst X107.here hx rfl (hb hby d16_46) ?_
      show Steps p.tables e below (T107.setTop (mkF m 47 #[.val (.int (0 : Int32)), .val (.ref a2), .val (.int (1 : Int32)), .val (.int (0 : Int32)), .val (.ref x), .val (.ref a2), .val (.int (Int32.ofNat nN)), .unset, .unset] [(.int (0 : Int32))])) _
      refine XS.istore X107.here hx rfl (hb hby d16_47) rfl (l' := #[.val (.int (0 : Int32)), .val (.ref a2), .val (.int (1 : Int32)), .val (.int (0 : Int32)), .val (.ref x), .val (.ref a2), .val (.int (Int32.ofNat nN)), .val (.int (0 : Int32)), .unset]) rfl ?_
      exact k_)
    have loop : ∀ (N : Nat) (k : Nat) (lx : Slot) (T1 : State) (h1 : Heap) (lc : List Loc), own_fr lx → k + N = nN → Stand p l e ({ frames := 2, cells := 2, slots := 24, locals := 32 } : Room) s m #[(.int (0 : Int32)), (.ref a2), (.int (1 : Int32))] below meth c T1 lc 1 12 → T1.heap = h1 → Fr n0 lc → Keep h0 h1 [] → own_I Z h1 x nN g k →
        ∃ (lx' : Slot) (T' : State) (h' : Heap) (lc' : List Loc), Stand p l e ({ frames := 2, cells := 2, slots := 24, locals := 32 } : Room) s m #[(.int (0 : Int32)), (.ref a2), (.int (1 : Int32))] below meth c T' lc' 1 12 ∧ T'.heap = h' ∧ Fr n0 lc' ∧ Keep h0 h' [] ∧ own_I Z h' x nN g nN ∧
          ∀ t_, Steps p.tables e below (T'.setTop (mkF m 124 #[.val (.int (0 : Int32)), .val (.ref a2), .val (.int (1 : Int32)), .val (.int (Int32.ofNat (own_ul g nN))), .val (.ref x), .val (.ref a2), .val (.int (Int32.ofNat nN)), .val (.int (Int32.ofNat nN)), lx'] [])) t_ → Steps p.tables e below (T1.setTop (mkF m 49 #[.val (.int (0 : Int32)), .val (.ref a2), .val (.int (1 : Int32)), .val (.int (Int32.ofNat (own_ul g k))), .val (.ref x), .val (.ref a2), .val (.int (Int32.ofNat nN)), .val (.int (Int32.ofNat k)), lx] [])) t_ := by
      intro N
      induction N with
      | zero =>
        intro k lx T1 h1 lc h_lx z1 X1 e1 N1 K1 I1
        have pre109 : ∀ t_, Steps p.tables e below (T1.setTop (mkF m 49 #[.val (.int (0 : Int32)), .val (.ref a2), .val (.int (1 : Int32)), .val (.int (Int32.ofNat (own_ul g k))), .val (.ref x), .val (.ref a2), .val (.int (Int32.ofNat nN)), .val (.int (Int32.ofNat k)), lx] [])) t_ → Steps p.tables e below (T1.setTop (mkF m 49 #[.val (.int (0 : Int32)), .val (.ref a2), .val (.int (1 : Int32)), .val (.int (Int32.ofNat (own_ul g k))), .val (.ref x), .val (.ref a2), .val (.int (Int32.ofNat nN)), .val (.int (Int32.ofNat k)), lx] [])) t_ := fun _ k_ => k_
        have ek : k = nN := by omega
        have pre110 : ∀ t_, Steps p.tables e below (T1.setTop (mkF m 124 #[.val (.int (0 : Int32)), .val (.ref a2), .val (.int (1 : Int32)), .val (.int (Int32.ofNat (own_ul g k))), .val (.ref x), .val (.ref a2), .val (.int (Int32.ofNat nN)), .val (.int (Int32.ofNat k)), lx] [])) t_ → Steps p.tables e below (T1.setTop (mkF m 49 #[.val (.int (0 : Int32)), .val (.ref a2), .val (.int (1 : Int32)), .val (.int (Int32.ofNat (own_ul g k))), .val (.ref x), .val (.ref a2), .val (.int (Int32.ofNat nN)), .val (.int (Int32.ofNat k)), lx] [])) t_ := fun t_ k_ => pre109 _ (by
          show Steps p.tables e below (T1.setTop (mkF m 49 #[.val (.int (0 : Int32)), .val (.ref a2), .val (.int (1 : Int32)), .val (.int (Int32.ofNat (own_ul g k))), .val (.ref x), .val (.ref a2), .val (.int (Int32.ofNat nN)), .val (.int (Int32.ofNat k)), lx] [])) _
          refine XS.iload X1.here hx rfl (hb hby d16_49) rfl ?_
          show Steps p.tables e below (T1.setTop (mkF m 51 #[.val (.int (0 : Int32)), .val (.ref a2), .val (.int (1 : Int32)), .val (.int (Int32.ofNat (own_ul g k))), .val (.ref x), .val (.ref a2), .val (.int (Int32.ofNat nN)), .val (.int (Int32.ofNat k)), lx] [(.int (Int32.ofNat k))])) _
          refine XS.iload X1.here hx rfl (hb hby d16_51) rfl ?_
          show Steps p.tables e below (T1.setTop (mkF m 53 #[.val (.int (0 : Int32)), .val (.ref a2), .val (.int (1 : Int32)), .val (.int (Int32.ofNat (own_ul g k))), .val (.ref x), .val (.ref a2), .val (.int (Int32.ofNat nN)), .val (.int (Int32.ofNat k)), lx] [(.int (Int32.ofNat nN)), (.int (Int32.ofNat k))])) _
          refine XS.icmpYes X1.here hx rfl (pc0 := 53) (pc' := 124) rfl (hb hby d16_53) rfl (flt (by rw [own_oflt (by omega) (by omega)]; omega)).2.1 (by decide) (by decide) ?_
          exact k_)
        refine ⟨lx, T1, h1, lc, X1, e1, N1, K1, by rw [← ek] at I1 ⊢; exact I1, fun t_ k_ => pre110 t_ ?_⟩
        rw [ek]
        exact k_
      | succ N ih =>
        intro k lx T1 h1 lc h_lx z1 X1 e1 N1 K1 I1
        have pre111 : ∀ t_, Steps p.tables e below (T1.setTop (mkF m 49 #[.val (.int (0 : Int32)), .val (.ref a2), .val (.int (1 : Int32)), .val (.int (Int32.ofNat (own_ul g k))), .val (.ref x), .val (.ref a2), .val (.int (Int32.ofNat nN)), .val (.int (Int32.ofNat k)), lx] [])) t_ → Steps p.tables e below (T1.setTop (mkF m 49 #[.val (.int (0 : Int32)), .val (.ref a2), .val (.int (1 : Int32)), .val (.int (Int32.ofNat (own_ul g k))), .val (.ref x), .val (.ref a2), .val (.int (Int32.ofNat nN)), .val (.int (Int32.ofNat k)), lx] [])) t_ := fun _ k_ => k_
        obtain ⟨c1, A1, S1, H1⟩ := own_Afkeep V K1 nin0
        have hin := own_ofin (a := k) S1 (by omega) (by omega)
        have hat := own_hat H1 (j := k) (by omega) (by omega)
        have lk := lt k (by omega)
        have uk := own_ulb g k
        obtain ⟨d1, AD, hd, hd0⟩ := I1
        have pre112 : ∀ t_, Steps p.tables e below (T1.setTop (mkF m 65 #[.val (.int (0 : Int32)), .val (.ref a2), .val (.int (1 : Int32)), .val (.int (Int32.ofNat (own_ul g k))), .val (.ref x), .val (.ref a2), .val (.int (Int32.ofNat nN)), .val (.int (Int32.ofNat k)), .val (.int (own_b8 (g k)))] [(.int (own_b8 (g k)))])) t_ → Steps p.tables e below (T1.setTop (mkF m 49 #[.val (.int (0 : Int32)), .val (.ref a2), .val (.int (1 : Int32)), .val (.int (Int32.ofNat (own_ul g k))), .val (.ref x), .val (.ref a2), .val (.int (Int32.ofNat nN)), .val (.int (Int32.ofNat k)), lx] [])) t_ := fun t_ k_ => pre111 _ (by
          show Steps p.tables e below (T1.setTop (mkF m 49 #[.val (.int (0 : Int32)), .val (.ref a2), .val (.int (1 : Int32)), .val (.int (Int32.ofNat (own_ul g k))), .val (.ref x), .val (.ref a2), .val (.int (Int32.ofNat nN)), .val (.int (Int32.ofNat k)), lx] [])) _
          refine XS.iload X1.here hx rfl (hb hby d16_49) rfl ?_
          show Steps p.tables e below (T1.setTop (mkF m 51 #[.val (.int (0 : Int32)), .val (.ref a2), .val (.int (1 : Int32)), .val (.int (Int32.ofNat (own_ul g k))), .val (.ref x), .val (.ref a2), .val (.int (Int32.ofNat nN)), .val (.int (Int32.ofNat k)), lx] [(.int (Int32.ofNat k))])) _
          refine XS.iload X1.here hx rfl (hb hby d16_51) rfl ?_
          show Steps p.tables e below (T1.setTop (mkF m 53 #[.val (.int (0 : Int32)), .val (.ref a2), .val (.int (1 : Int32)), .val (.int (Int32.ofNat (own_ul g k))), .val (.ref x), .val (.ref a2), .val (.int (Int32.ofNat nN)), .val (.int (Int32.ofNat k)), lx] [(.int (Int32.ofNat nN)), (.int (Int32.ofNat k))])) _
          refine XS.icmpNo X1.here hx rfl (hb hby d16_53) rfl (tlt ((own_oflt (by omega) (by omega)).mpr (by omega))).2.1 ?_
          show Steps p.tables e below (T1.setTop (mkF m 56 #[.val (.int (0 : Int32)), .val (.ref a2), .val (.int (1 : Int32)), .val (.int (Int32.ofNat (own_ul g k))), .val (.ref x), .val (.ref a2), .val (.int (Int32.ofNat nN)), .val (.int (Int32.ofNat k)), lx] [])) _
          refine XS.aload X1.here hx rfl (hb hby d16_56) rfl rfl ?_
          show Steps p.tables e below (T1.setTop (mkF m 58 #[.val (.int (0 : Int32)), .val (.ref a2), .val (.int (1 : Int32)), .val (.int (Int32.ofNat (own_ul g k))), .val (.ref x), .val (.ref a2), .val (.int (Int32.ofNat nN)), .val (.int (Int32.ofNat k)), lx] [(.ref a2)])) _
          refine XS.iload X1.here hx rfl (hb hby d16_58) rfl ?_
          show Steps p.tables e below (T1.setTop (mkF m 60 #[.val (.int (0 : Int32)), .val (.ref a2), .val (.int (1 : Int32)), .val (.int (Int32.ofNat (own_ul g k))), .val (.ref x), .val (.ref a2), .val (.int (Int32.ofNat nN)), .val (.int (Int32.ofNat k)), lx] [(.int (Int32.ofNat k)), (.ref a2)])) _
          refine X1.baloadBytes hx (j := (Int32.ofNat k)) (v := (.int (own_b8 (g k)))) (by rw [e1]; exact A1.1) (State.isArrayOf_alike hZ.alike A1.2.1) A1.2.2 hin hat (g := (mkF m 60 #[.val (.int (0 : Int32)), .val (.ref a2), .val (.int (1 : Int32)), .val (.int (Int32.ofNat (own_ul g k))), .val (.ref x), .val (.ref a2), .val (.int (Int32.ofNat nN)), .val (.int (Int32.ofNat k)), lx] [(.int (Int32.ofNat k)), (.ref a2)])) rfl rfl (hb hby d16_60) _ ?_
          show Steps p.tables e below (T1.setTop (mkF m 61 #[.val (.int (0 : Int32)), .val (.ref a2), .val (.int (1 : Int32)), .val (.int (Int32.ofNat (own_ul g k))), .val (.ref x), .val (.ref a2), .val (.int (Int32.ofNat nN)), .val (.int (Int32.ofNat k)), lx] [(.int (own_b8 (g k)))])) _
          refine XS.istore X1.here hx rfl (hb hby d16_61) rfl (l' := #[.val (.int (0 : Int32)), .val (.ref a2), .val (.int (1 : Int32)), .val (.int (Int32.ofNat (own_ul g k))), .val (.ref x), .val (.ref a2), .val (.int (Int32.ofNat nN)), .val (.int (Int32.ofNat k)), .val (.int (own_b8 (g k)))]) (by rcases h_lx with q | ⟨z, q⟩ <;> rw [q] <;> rfl) ?_
          show Steps p.tables e below (T1.setTop (mkF m 63 #[.val (.int (0 : Int32)), .val (.ref a2), .val (.int (1 : Int32)), .val (.int (Int32.ofNat (own_ul g k))), .val (.ref x), .val (.ref a2), .val (.int (Int32.ofNat nN)), .val (.int (Int32.ofNat k)), .val (.int (own_b8 (g k)))] [])) _
          refine XS.iload X1.here hx rfl (hb hby d16_63) rfl ?_
          exact k_)
        by_cases hlt : g k < (128 : Int32)
        · skip
          obtain ⟨cl113, Ar113, Sz113, Hs113⟩ := AD
          have hin113 : ¬ ((Int32.ofNat (own_ul g k)) < 0 ∨ cl113.slots.size ≤ ((Int32.ofNat (own_ul g k))).toNatClampNeg) := by exact own_ofin Sz113 (by omega) (by omega)
          obtain ⟨T114, h114, X114, e114, W114, st114⟩ := stB X1 hx hZ e1 Ar113 (j := (Int32.ofNat (own_ul g k))) hin113 (g := (mkF m 117 #[.val (.int (0 : Int32)), .val (.ref a2), .val (.int (1 : Int32)), .val (.int ((Int32.ofNat (own_ul g k)) + (1 : Int32))), .val (.ref x), .val (.ref a2), .val (.int (Int32.ofNat nN)), .val (.int (Int32.ofNat k)), .val (.int (own_b8 (g k)))] [(.int (own_b8 (g k))), (.int (Int32.ofNat (own_ul g k))), (.ref x)])) rfl rfl (hb hby d16_117)
          rw [own_ofc (by omega), own_nb'] at W114
          have V114 := own_Afwr Ar113 Sz113 Hs113 W114 (by omega)
          have N114_ := Fr.snoc X114 N1 g_x
          have pre115 : ∀ t_, Steps p.tables e below (T114.setTop (mkF m 49 #[.val (.int (0 : Int32)), .val (.ref a2), .val (.int (1 : Int32)), .val (.int ((Int32.ofNat (own_ul g k)) + (1 : Int32))), .val (.ref x), .val (.ref a2), .val (.int (Int32.ofNat nN)), .val (.int ((Int32.ofNat k) + (1 : Int32))), .val (.int (own_b8 (g k)))] [])) t_ → Steps p.tables e below (T1.setTop (mkF m 49 #[.val (.int (0 : Int32)), .val (.ref a2), .val (.int (1 : Int32)), .val (.int (Int32.ofNat (own_ul g k))), .val (.ref x), .val (.ref a2), .val (.int (Int32.ofNat nN)), .val (.int (Int32.ofNat k)), lx] [])) t_ := fun t_ k_ => pre112 _ (by
            show Steps p.tables e below (T1.setTop (mkF m 65 #[.val (.int (0 : Int32)), .val (.ref a2), .val (.int (1 : Int32)), .val (.int (Int32.ofNat (own_ul g k))), .val (.ref x), .val (.ref a2), .val (.int (Int32.ofNat nN)), .val (.int (Int32.ofNat k)), .val (.int (own_b8 (g k)))] [(.int (own_b8 (g k)))])) _
            refine XS.ifYes X1.here hx rfl (pc0 := 65) (pc' := 109) rfl (hb hby d16_65) rfl ((if0 _ _).trans (flt (fun q => (own_sg lk.1 lk.2).mp q hlt)).2.1) (by decide) (by decide) ?_
            show Steps p.tables e below (T1.setTop (mkF m 109 #[.val (.int (0 : Int32)), .val (.ref a2), .val (.int (1 : Int32)), .val (.int (Int32.ofNat (own_ul g k))), .val (.ref x), .val (.ref a2), .val (.int (Int32.ofNat nN)), .val (.int (Int32.ofNat k)), .val (.int (own_b8 (g k)))] [])) _
            refine XS.aload X1.here hx rfl (hb hby d16_109) rfl rfl ?_
            show Steps p.tables e below (T1.setTop (mkF m 111 #[.val (.int (0 : Int32)), .val (.ref a2), .val (.int (1 : Int32)), .val (.int (Int32.ofNat (own_ul g k))), .val (.ref x), .val (.ref a2), .val (.int (Int32.ofNat nN)), .val (.int (Int32.ofNat k)), .val (.int (own_b8 (g k)))] [(.ref x)])) _
            refine XS.iloadN X1.here hx rfl (hb hby d16_111) rfl ?_
            show Steps p.tables e below (T1.setTop (mkF m 112 #[.val (.int (0 : Int32)), .val (.ref a2), .val (.int (1 : Int32)), .val (.int (Int32.ofNat (own_ul g k))), .val (.ref x), .val (.ref a2), .val (.int (Int32.ofNat nN)), .val (.int (Int32.ofNat k)), .val (.int (own_b8 (g k)))] [(.int (Int32.ofNat (own_ul g k))), (.ref x)])) _
            refine XS.iinc X1.here hx rfl (hb hby d16_112) rfl (l' := #[.val (.int (0 : Int32)), .val (.ref a2), .val (.int (1 : Int32)), .val (.int ((Int32.ofNat (own_ul g k)) + (1 : Int32))), .val (.ref x), .val (.ref a2), .val (.int (Int32.ofNat nN)), .val (.int (Int32.ofNat k)), .val (.int (own_b8 (g k)))]) rfl ?_
            show Steps p.tables e below (T1.setTop (mkF m 115 #[.val (.int (0 : Int32)), .val (.ref a2), .val (.int (1 : Int32)), .val (.int ((Int32.ofNat (own_ul g k)) + (1 : Int32))), .val (.ref x), .val (.ref a2), .val (.int (Int32.ofNat nN)), .val (.int (Int32.ofNat k)), .val (.int (own_b8 (g k)))] [(.int (Int32.ofNat (own_ul g k))), (.ref x)])) _
            refine XS.iload X1.here hx rfl (hb hby d16_115) rfl ?_
            show Steps p.tables e below (T1.setTop (mkF m 117 #[.val (.int (0 : Int32)), .val (.ref a2), .val (.int (1 : Int32)), .val (.int ((Int32.ofNat (own_ul g k)) + (1 : Int32))), .val (.ref x), .val (.ref a2), .val (.int (Int32.ofNat nN)), .val (.int (Int32.ofNat k)), .val (.int (own_b8 (g k)))] [(.int (own_b8 (g k))), (.int (Int32.ofNat (own_ul g k))), (.ref x)])) _
            refine st114 _ ?_
            show Steps p.tables e below (T114.setTop (mkF m 118 #[.val (.int (0 : Int32)), .val (.ref a2), .val (.int (1 : Int32)), .val (.int ((Int32.ofNat (own_ul g k)) + (1 : Int32))), .val (.ref x), .val (.ref a2), .val (.int (Int32.ofNat nN)), .val (.int (Int32.ofNat k)), .val (.int (own_b8 (g k)))] [])) _
            refine XS.iinc X114.here hx rfl (hb hby d16_118) rfl (l' := #[.val (.int (0 : Int32)), .val (.ref a2), .val (.int (1 : Int32)), .val (.int ((Int32.ofNat (own_ul g k)) + (1 : Int32))), .val (.ref x), .val (.ref a2), .val (.int (Int32.ofNat nN)), .val (.int ((Int32.ofNat k) + (1 : Int32))), .val (.int (own_b8 (g k)))]) rfl ?_
            show Steps p.tables e below (T114.setTop (mkF m 121 #[.val (.int (0 : Int32)), .val (.ref a2), .val (.int (1 : Int32)), .val (.int ((Int32.ofNat (own_ul g k)) + (1 : Int32))), .val (.ref x), .val (.ref a2), .val (.int (Int32.ofNat nN)), .val (.int ((Int32.ofNat k) + (1 : Int32))), .val (.int (own_b8 (g k)))] [])) _
            refine XS.goto X114.here hx rfl (pc0 := 121) (pc' := 49) rfl (hb hby d16_121) (by decide) (by decide) ?_
            exact k_)
          have eU : own_ul g (k + 1) = own_ul g k + 1 := by rw [own_ul, if_pos hlt]
          obtain ⟨lx', T', h', lc', X', e', N', K', I', st'⟩ := ih (k + 1) (.val (.int (own_b8 (g k)))) _ _ _ (Or.inr ⟨_, rfl⟩) (by omega) X114 e114 N114_ (K1.trans (Keep.of_wr W114) (allS (Or.inr gx) all0)) (own_I1 V114 hd hd0 (own_fbp hlt))
          refine ⟨lx', T', h', lc', X', e', N', K', I', fun t_ k_ => pre115 t_ ?_⟩
          have st2 := st' t_ k_
          rw [eU] at st2
          simp only [own_of1]
          exact st2
        · skip
          have ea : own_b8 (g k) &&& (255 : Int32) = g k := own_and8 lk.1 lk.2 rfl
          obtain ⟨cl116, Ar116, Sz116, Hs116⟩ := AD
          have hin116 : ¬ ((Int32.ofNat (own_ul g k)) < 0 ∨ cl116.slots.size ≤ ((Int32.ofNat (own_ul g k))).toNatClampNeg) := by exact own_ofin Sz116 (by omega) (by omega)
          obtain ⟨T117, h117, X117, e117, W117, st117⟩ := stB X1 hx hZ e1 Ar116 (j := (Int32.ofNat (own_ul g k))) hin116 (g := (mkF m 88 #[.val (.int (0 : Int32)), .val (.ref a2), .val (.int (1 : Int32)), .val (.int ((Int32.ofNat (own_ul g k)) + (1 : Int32))), .val (.ref x), .val (.ref a2), .val (.int (Int32.ofNat nN)), .val (.int (Int32.ofNat k)), .val (.int (own_b8 (g k)))] [(.int (((192 : Int32) ||| (((own_b8 (g k)) &&& (255 : Int32)) >>> ((6 : Int32) &&& 31))).toInt8.toInt32)), (.int (Int32.ofNat (own_ul g k))), (.ref x)])) rfl rfl (hb hby d16_88)
          rw [own_ofc (by omega), own_nb, ea] at W117
          have V117 := own_Afwr Ar116 Sz116 Hs116 W117 (by omega)
          have N117_ := Fr.snoc X117 N1 g_x
          obtain ⟨cl118, Ar118, Sz118, Hs118⟩ := V117
          have hin118 : ¬ (((Int32.ofNat (own_ul g k)) + (1 : Int32)) < 0 ∨ cl118.slots.size ≤ (((Int32.ofNat (own_ul g k)) + (1 : Int32))).toNatClampNeg) := by rw [own_of1]; exact own_ofin Sz118 (by omega) (by omega)
          obtain ⟨T119, h119, X119, e119, W119, st119⟩ := stB X117 hx hZ e117 Ar118 (j := ((Int32.ofNat (own_ul g k)) + (1 : Int32))) hin118 (g := (mkF m 105 #[.val (.int (0 : Int32)), .val (.ref a2), .val (.int (1 : Int32)), .val (.int (((Int32.ofNat (own_ul g k)) + (1 : Int32)) + (1 : Int32))), .val (.ref x), .val (.ref a2), .val (.int (Int32.ofNat nN)), .val (.int (Int32.ofNat k)), .val (.int (own_b8 (g k)))] [(.int (((128 : Int32) ||| ((own_b8 (g k)) &&& (63 : Int32))).toInt8.toInt32)), (.int ((Int32.ofNat (own_ul g k)) + (1 : Int32))), (.ref x)])) rfl rfl (hb hby d16_105)
          rw [own_of1, own_ofc (by omega), own_nb] at W119
          have V119 := own_Afwr Ar118 Sz118 Hs118 W119 (by omega)
          have N119_ := Fr.snoc X119 N117_ g_x
          have pre120 : ∀ t_, Steps p.tables e below (T119.setTop (mkF m 49 #[.val (.int (0 : Int32)), .val (.ref a2), .val (.int (1 : Int32)), .val (.int (((Int32.ofNat (own_ul g k)) + (1 : Int32)) + (1 : Int32))), .val (.ref x), .val (.ref a2), .val (.int (Int32.ofNat nN)), .val (.int ((Int32.ofNat k) + (1 : Int32))), .val (.int (own_b8 (g k)))] [])) t_ → Steps p.tables e below (T1.setTop (mkF m 49 #[.val (.int (0 : Int32)), .val (.ref a2), .val (.int (1 : Int32)), .val (.int (Int32.ofNat (own_ul g k))), .val (.ref x), .val (.ref a2), .val (.int (Int32.ofNat nN)), .val (.int (Int32.ofNat k)), lx] [])) t_ := fun t_ k_ => pre112 _ (by
            show Steps p.tables e below (T1.setTop (mkF m 65 #[.val (.int (0 : Int32)), .val (.ref a2), .val (.int (1 : Int32)), .val (.int (Int32.ofNat (own_ul g k))), .val (.ref x), .val (.ref a2), .val (.int (Int32.ofNat nN)), .val (.int (Int32.ofNat k)), .val (.int (own_b8 (g k)))] [(.int (own_b8 (g k)))])) _
            refine XS.ifNo X1.here hx rfl (hb hby d16_65) rfl ((if0 _ _).trans (tlt ((own_sg lk.1 lk.2).mpr hlt)).2.1) ?_
            show Steps p.tables e below (T1.setTop (mkF m 68 #[.val (.int (0 : Int32)), .val (.ref a2), .val (.int (1 : Int32)), .val (.int (Int32.ofNat (own_ul g k))), .val (.ref x), .val (.ref a2), .val (.int (Int32.ofNat nN)), .val (.int (Int32.ofNat k)), .val (.int (own_b8 (g k)))] [])) _
            refine XS.aload X1.here hx rfl (hb hby d16_68) rfl rfl ?_
            show Steps p.tables e below (T1.setTop (mkF m 70 #[.val (.int (0 : Int32)), .val (.ref a2), .val (.int (1 : Int32)), .val (.int (Int32.ofNat (own_ul g k))), .val (.ref x), .val (.ref a2), .val (.int (Int32.ofNat nN)), .val (.int (Int32.ofNat k)), .val (.int (own_b8 (g k)))] [(.ref x)])) _
            refine XS.iloadN X1.here hx rfl (hb hby d16_70) rfl ?_
            show Steps p.tables e below (T1.setTop (mkF m 71 #[.val (.int (0 : Int32)), .val (.ref a2), .val (.int (1 : Int32)), .val (.int (Int32.ofNat (own_ul g k))), .val (.ref x), .val (.ref a2), .val (.int (Int32.ofNat nN)), .val (.int (Int32.ofNat k)), .val (.int (own_b8 (g k)))] [(.int (Int32.ofNat (own_ul g k))), (.ref x)])) _
            refine XS.iinc X1.here hx rfl (hb hby d16_71) rfl (l' := #[.val (.int (0 : Int32)), .val (.ref a2), .val (.int (1 : Int32)), .val (.int ((Int32.ofNat (own_ul g k)) + (1 : Int32))), .val (.ref x), .val (.ref a2), .val (.int (Int32.ofNat nN)), .val (.int (Int32.ofNat k)), .val (.int (own_b8 (g k)))]) rfl ?_
            show Steps p.tables e below (T1.setTop (mkF m 74 #[.val (.int (0 : Int32)), .val (.ref a2), .val (.int (1 : Int32)), .val (.int ((Int32.ofNat (own_ul g k)) + (1 : Int32))), .val (.ref x), .val (.ref a2), .val (.int (Int32.ofNat nN)), .val (.int (Int32.ofNat k)), .val (.int (own_b8 (g k)))] [(.int (Int32.ofNat (own_ul g k))), (.ref x)])) _
            refine XS.sipush X1.here hx rfl (hb hby d16_74) ?_
            show Steps p.tables e below (T1.setTop (mkF m 77 #[.val (.int (0 : Int32)), .val (.ref a2), .val (.int (1 : Int32)), .val (.int ((Int32.ofNat (own_ul g k)) + (1 : Int32))), .val (.ref x), .val (.ref a2), .val (.int (Int32.ofNat nN)), .val (.int (Int32.ofNat k)), .val (.int (own_b8 (g k)))] [(.int (192 : Int32)), (.int (Int32.ofNat (own_ul g k))), (.ref x)])) _
            refine XS.iload X1.here hx rfl (hb hby d16_77) rfl ?_
            show Steps p.tables e below (T1.setTop (mkF m 79 #[.val (.int (0 : Int32)), .val (.ref a2), .val (.int (1 : Int32)), .val (.int ((Int32.ofNat (own_ul g k)) + (1 : Int32))), .val (.ref x), .val (.ref a2), .val (.int (Int32.ofNat nN)), .val (.int (Int32.ofNat k)), .val (.int (own_b8 (g k)))] [(.int (own_b8 (g k))), (.int (192 : Int32)), (.int (Int32.ofNat (own_ul g k))), (.ref x)])) _
            refine XS.sipush X1.here hx rfl (hb hby d16_79) ?_
            show Steps p.tables e below (T1.setTop (mkF m 82 #[.val (.int (0 : Int32)), .val (.ref a2), .val (.int (1 : Int32)), .val (.int ((Int32.ofNat (own_ul g k)) + (1 : Int32))), .val (.ref x), .val (.ref a2), .val (.int (Int32.ofNat nN)), .val (.int (Int32.ofNat k)), .val (.int (own_b8 (g k)))] [(.int (255 : Int32)), (.int (own_b8 (g k))), (.int (192 : Int32)), (.int (Int32.ofNat (own_ul g k))), (.ref x)])) _
            refine XS.iand X1.here hx rfl (hb hby d16_82) rfl ?_
            show Steps p.tables e below (T1.setTop (mkF m 83 #[.val (.int (0 : Int32)), .val (.ref a2), .val (.int (1 : Int32)), .val (.int ((Int32.ofNat (own_ul g k)) + (1 : Int32))), .val (.ref x), .val (.ref a2), .val (.int (Int32.ofNat nN)), .val (.int (Int32.ofNat k)), .val (.int (own_b8 (g k)))] [(.int ((own_b8 (g k)) &&& (255 : Int32))), (.int (192 : Int32)), (.int (Int32.ofNat (own_ul g k))), (.ref x)])) _
            refine XS.bipush X1.here hx rfl (hb hby d16_83) ?_
            show Steps p.tables e below (T1.setTop (mkF m 85 #[.val (.int (0 : Int32)), .val (.ref a2), .val (.int (1 : Int32)), .val (.int ((Int32.ofNat (own_ul g k)) + (1 : Int32))), .val (.ref x), .val (.ref a2), .val (.int (Int32.ofNat nN)), .val (.int (Int32.ofNat k)), .val (.int (own_b8 (g k)))] [(.int (6 : Int32)), (.int ((own_b8 (g k)) &&& (255 : Int32))), (.int (192 : Int32)), (.int (Int32.ofNat (own_ul g k))), (.ref x)])) _
            refine XS.ishr X1.here hx rfl (hb hby d16_85) rfl ?_
            show Steps p.tables e below (T1.setTop (mkF m 86 #[.val (.int (0 : Int32)), .val (.ref a2), .val (.int (1 : Int32)), .val (.int ((Int32.ofNat (own_ul g k)) + (1 : Int32))), .val (.ref x), .val (.ref a2), .val (.int (Int32.ofNat nN)), .val (.int (Int32.ofNat k)), .val (.int (own_b8 (g k)))] [(.int (((own_b8 (g k)) &&& (255 : Int32)) >>> ((6 : Int32) &&& 31))), (.int (192 : Int32)), (.int (Int32.ofNat (own_ul g k))), (.ref x)])) _
            refine XS.ior X1.here hx rfl (hb hby d16_86) rfl ?_
            show Steps p.tables e below (T1.setTop (mkF m 87 #[.val (.int (0 : Int32)), .val (.ref a2), .val (.int (1 : Int32)), .val (.int ((Int32.ofNat (own_ul g k)) + (1 : Int32))), .val (.ref x), .val (.ref a2), .val (.int (Int32.ofNat nN)), .val (.int (Int32.ofNat k)), .val (.int (own_b8 (g k)))] [(.int ((192 : Int32) ||| (((own_b8 (g k)) &&& (255 : Int32)) >>> ((6 : Int32) &&& 31)))), (.int (Int32.ofNat (own_ul g k))), (.ref x)])) _
            refine XS.i2b X1.here hx rfl (hb hby d16_87) rfl ?_
            show Steps p.tables e below (T1.setTop (mkF m 88 #[.val (.int (0 : Int32)), .val (.ref a2), .val (.int (1 : Int32)), .val (.int ((Int32.ofNat (own_ul g k)) + (1 : Int32))), .val (.ref x), .val (.ref a2), .val (.int (Int32.ofNat nN)), .val (.int (Int32.ofNat k)), .val (.int (own_b8 (g k)))] [(.int (((192 : Int32) ||| (((own_b8 (g k)) &&& (255 : Int32)) >>> ((6 : Int32) &&& 31))).toInt8.toInt32)), (.int (Int32.ofNat (own_ul g k))), (.ref x)])) _
            refine st117 _ ?_
            show Steps p.tables e below (T117.setTop (mkF m 89 #[.val (.int (0 : Int32)), .val (.ref a2), .val (.int (1 : Int32)), .val (.int ((Int32.ofNat (own_ul g k)) + (1 : Int32))), .val (.ref x), .val (.ref a2), .val (.int (Int32.ofNat nN)), .val (.int (Int32.ofNat k)), .val (.int (own_b8 (g k)))] [])) _
            refine XS.aload X117.here hx rfl (hb hby d16_89) rfl rfl ?_
            show Steps p.tables e below (T117.setTop (mkF m 91 #[.val (.int (0 : Int32)), .val (.ref a2), .val (.int (1 : Int32)), .val (.int ((Int32.ofNat (own_ul g k)) + (1 : Int32))), .val (.ref x), .val (.ref a2), .val (.int (Int32.ofNat nN)), .val (.int (Int32.ofNat k)), .val (.int (own_b8 (g k)))] [(.ref x)])) _
            refine XS.iloadN X117.here hx rfl (hb hby d16_91) rfl ?_
            show Steps p.tables e below (T117.setTop (mkF m 92 #[.val (.int (0 : Int32)), .val (.ref a2), .val (.int (1 : Int32)), .val (.int ((Int32.ofNat (own_ul g k)) + (1 : Int32))), .val (.ref x), .val (.ref a2), .val (.int (Int32.ofNat nN)), .val (.int (Int32.ofNat k)), .val (.int (own_b8 (g k)))] [(.int ((Int32.ofNat (own_ul g k)) + (1 : Int32))), (.ref x)])) _
            refine XS.iinc X117.here hx rfl (hb hby d16_92) rfl (l' := #[.val (.int (0 : Int32)), .val (.ref a2), .val (.int (1 : Int32)), .val (.int (((Int32.ofNat (own_ul g k)) + (1 : Int32)) + (1 : Int32))), .val (.ref x), .val (.ref a2), .val (.int (Int32.ofNat nN)), .val (.int (Int32.ofNat k)), .val (.int (own_b8 (g k)))]) rfl ?_
            show Steps p.tables e below (T117.setTop (mkF m 95 #[.val (.int (0 : Int32)), .val (.ref a2), .val (.int (1 : Int32)), .val (.int (((Int32.ofNat (own_ul g k)) + (1 : Int32)) + (1 : Int32))), .val (.ref x), .val (.ref a2), .val (.int (Int32.ofNat nN)), .val (.int (Int32.ofNat k)), .val (.int (own_b8 (g k)))] [(.int ((Int32.ofNat (own_ul g k)) + (1 : Int32))), (.ref x)])) _
            refine XS.sipush X117.here hx rfl (hb hby d16_95) ?_
            show Steps p.tables e below (T117.setTop (mkF m 98 #[.val (.int (0 : Int32)), .val (.ref a2), .val (.int (1 : Int32)), .val (.int (((Int32.ofNat (own_ul g k)) + (1 : Int32)) + (1 : Int32))), .val (.ref x), .val (.ref a2), .val (.int (Int32.ofNat nN)), .val (.int (Int32.ofNat k)), .val (.int (own_b8 (g k)))] [(.int (128 : Int32)), (.int ((Int32.ofNat (own_ul g k)) + (1 : Int32))), (.ref x)])) _
            refine XS.iload X117.here hx rfl (hb hby d16_98) rfl ?_
            show Steps p.tables e below (T117.setTop (mkF m 100 #[.val (.int (0 : Int32)), .val (.ref a2), .val (.int (1 : Int32)), .val (.int (((Int32.ofNat (own_ul g k)) + (1 : Int32)) + (1 : Int32))), .val (.ref x), .val (.ref a2), .val (.int (Int32.ofNat nN)), .val (.int (Int32.ofNat k)), .val (.int (own_b8 (g k)))] [(.int (own_b8 (g k))), (.int (128 : Int32)), (.int ((Int32.ofNat (own_ul g k)) + (1 : Int32))), (.ref x)])) _
            refine XS.bipush X117.here hx rfl (hb hby d16_100) ?_
            show Steps p.tables e below (T117.setTop (mkF m 102 #[.val (.int (0 : Int32)), .val (.ref a2), .val (.int (1 : Int32)), .val (.int (((Int32.ofNat (own_ul g k)) + (1 : Int32)) + (1 : Int32))), .val (.ref x), .val (.ref a2), .val (.int (Int32.ofNat nN)), .val (.int (Int32.ofNat k)), .val (.int (own_b8 (g k)))] [(.int (63 : Int32)), (.int (own_b8 (g k))), (.int (128 : Int32)), (.int ((Int32.ofNat (own_ul g k)) + (1 : Int32))), (.ref x)])) _
            refine XS.iand X117.here hx rfl (hb hby d16_102) rfl ?_
            show Steps p.tables e below (T117.setTop (mkF m 103 #[.val (.int (0 : Int32)), .val (.ref a2), .val (.int (1 : Int32)), .val (.int (((Int32.ofNat (own_ul g k)) + (1 : Int32)) + (1 : Int32))), .val (.ref x), .val (.ref a2), .val (.int (Int32.ofNat nN)), .val (.int (Int32.ofNat k)), .val (.int (own_b8 (g k)))] [(.int ((own_b8 (g k)) &&& (63 : Int32))), (.int (128 : Int32)), (.int ((Int32.ofNat (own_ul g k)) + (1 : Int32))), (.ref x)])) _
            refine XS.ior X117.here hx rfl (hb hby d16_103) rfl ?_
            show Steps p.tables e below (T117.setTop (mkF m 104 #[.val (.int (0 : Int32)), .val (.ref a2), .val (.int (1 : Int32)), .val (.int (((Int32.ofNat (own_ul g k)) + (1 : Int32)) + (1 : Int32))), .val (.ref x), .val (.ref a2), .val (.int (Int32.ofNat nN)), .val (.int (Int32.ofNat k)), .val (.int (own_b8 (g k)))] [(.int ((128 : Int32) ||| ((own_b8 (g k)) &&& (63 : Int32)))), (.int ((Int32.ofNat (own_ul g k)) + (1 : Int32))), (.ref x)])) _
            refine XS.i2b X117.here hx rfl (hb hby d16_104) rfl ?_
            show Steps p.tables e below (T117.setTop (mkF m 105 #[.val (.int (0 : Int32)), .val (.ref a2), .val (.int (1 : Int32)), .val (.int (((Int32.ofNat (own_ul g k)) + (1 : Int32)) + (1 : Int32))), .val (.ref x), .val (.ref a2), .val (.int (Int32.ofNat nN)), .val (.int (Int32.ofNat k)), .val (.int (own_b8 (g k)))] [(.int (((128 : Int32) ||| ((own_b8 (g k)) &&& (63 : Int32))).toInt8.toInt32)), (.int ((Int32.ofNat (own_ul g k)) + (1 : Int32))), (.ref x)])) _
            refine st119 _ ?_
            show Steps p.tables e below (T119.setTop (mkF m 106 #[.val (.int (0 : Int32)), .val (.ref a2), .val (.int (1 : Int32)), .val (.int (((Int32.ofNat (own_ul g k)) + (1 : Int32)) + (1 : Int32))), .val (.ref x), .val (.ref a2), .val (.int (Int32.ofNat nN)), .val (.int (Int32.ofNat k)), .val (.int (own_b8 (g k)))] [])) _
            refine XS.goto X119.here hx rfl (pc0 := 106) (pc' := 118) rfl (hb hby d16_106) (by decide) (by decide) ?_
            show Steps p.tables e below (T119.setTop (mkF m 118 #[.val (.int (0 : Int32)), .val (.ref a2), .val (.int (1 : Int32)), .val (.int (((Int32.ofNat (own_ul g k)) + (1 : Int32)) + (1 : Int32))), .val (.ref x), .val (.ref a2), .val (.int (Int32.ofNat nN)), .val (.int (Int32.ofNat k)), .val (.int (own_b8 (g k)))] [])) _
            refine XS.iinc X119.here hx rfl (hb hby d16_118) rfl (l' := #[.val (.int (0 : Int32)), .val (.ref a2), .val (.int (1 : Int32)), .val (.int (((Int32.ofNat (own_ul g k)) + (1 : Int32)) + (1 : Int32))), .val (.ref x), .val (.ref a2), .val (.int (Int32.ofNat nN)), .val (.int ((Int32.ofNat k) + (1 : Int32))), .val (.int (own_b8 (g k)))]) rfl ?_
            show Steps p.tables e below (T119.setTop (mkF m 121 #[.val (.int (0 : Int32)), .val (.ref a2), .val (.int (1 : Int32)), .val (.int (((Int32.ofNat (own_ul g k)) + (1 : Int32)) + (1 : Int32))), .val (.ref x), .val (.ref a2), .val (.int (Int32.ofNat nN)), .val (.int ((Int32.ofNat k) + (1 : Int32))), .val (.int (own_b8 (g k)))] [])) _
            refine XS.goto X119.here hx rfl (pc0 := 121) (pc' := 49) rfl (hb hby d16_121) (by decide) (by decide) ?_
            exact k_)
          have eU : own_ul g (k + 1) = own_ul g k + 1 + 1 := by rw [own_ul, if_neg hlt]
          obtain ⟨lx', T', h', lc', X', e', N', K', I', st'⟩ := ih (k + 1) (.val (.int (own_b8 (g k)))) _ _ _ (Or.inr ⟨_, rfl⟩) (by omega) X119 e119 N119_ ((K1.trans (Keep.of_wr W117) (allS (Or.inr gx) all0)).trans (Keep.of_wr W119) (allS (Or.inr gx) all0)) (own_I2 V119 hd hd0 (own_fbn hlt))
          refine ⟨lx', T', h', lc', X', e', N', K', I', fun t_ k_ => pre120 t_ ?_⟩
          have st2 := st' t_ k_
          rw [eU] at st2
          simp only [own_of1]
          exact st2
    have I0 : own_I Z T107.heap x nN g 0 := ⟨_, AF, fun j => ⟨0, by decide⟩, fun q => absurd q (Nat.lt_irrefl _)⟩
    obtain ⟨lx', T', h', lc', X', e', N', K', I', st'⟩ := loop nN 0 .unset _ _ _ (Or.inl rfl) (by omega) X107 rfl N107 K107 I0
    obtain ⟨d1, AD, hd, hd0⟩ := I'
    obtain ⟨cx, Ax, Sx, Hx⟩ := id AD
    have Sx2 : cx.slots.size = (Int32.ofNat (2 * nN)).toNatClampNeg := by rw [Sx, own_ofc (by omega)]
    have Z1 := Nat.le_trans Z0 K'.1
    have pre121 : ∀ t_, Steps p.tables e below (T'.setTop (mkF m 128 #[.val (.int (0 : Int32)), .val (.ref a2), .val (.int (1 : Int32)), .val (.int (Int32.ofNat (own_ul g nN))), .val (.ref x), .val (.ref a2), .val (.int (Int32.ofNat nN)), .val (.int (Int32.ofNat nN)), lx'] [(.int (Int32.ofNat (2 * nN))), (.int (Int32.ofNat (own_ul g nN)))])) t_ → Steps p.tables e below (s₁.setTop (entryFrame m #[(.int (0 : Int32)), (.ref a2), (.int (1 : Int32))] 9)) t_ := fun t_ k_ => pre108 _ (by
      show Steps p.tables e below (T107.setTop (mkF m 49 #[.val (.int (0 : Int32)), .val (.ref a2), .val (.int (1 : Int32)), .val (.int (0 : Int32)), .val (.ref x), .val (.ref a2), .val (.int (Int32.ofNat nN)), .val (.int (0 : Int32)), .unset] [])) _
      refine st' _ ?_
      show Steps p.tables e below (T'.setTop (mkF m 124 #[.val (.int (0 : Int32)), .val (.ref a2), .val (.int (1 : Int32)), .val (.int (Int32.ofNat (own_ul g nN))), .val (.ref x), .val (.ref a2), .val (.int (Int32.ofNat nN)), .val (.int (Int32.ofNat nN)), lx'] [])) _
      refine XS.iloadN X'.here hx rfl (hb hby d16_124) rfl ?_
      show Steps p.tables e below (T'.setTop (mkF m 125 #[.val (.int (0 : Int32)), .val (.ref a2), .val (.int (1 : Int32)), .val (.int (Int32.ofNat (own_ul g nN))), .val (.ref x), .val (.ref a2), .val (.int (Int32.ofNat nN)), .val (.int (Int32.ofNat nN)), lx'] [(.int (Int32.ofNat (own_ul g nN)))])) _
      refine XS.aload X'.here hx rfl (hb hby d16_125) rfl rfl ?_
      show Steps p.tables e below (T'.setTop (mkF m 127 #[.val (.int (0 : Int32)), .val (.ref a2), .val (.int (1 : Int32)), .val (.int (Int32.ofNat (own_ul g nN))), .val (.ref x), .val (.ref a2), .val (.int (Int32.ofNat nN)), .val (.int (Int32.ofNat nN)), lx'] [(.ref x), (.int (Int32.ofNat (own_ul g nN)))])) _
      refine X'.arraylength hx (by rw [e']; exact Ax.1) (State.isArrayOf_alike hZ.alike Ax.2.1) (g := (mkF m 127 #[.val (.int (0 : Int32)), .val (.ref a2), .val (.int (1 : Int32)), .val (.int (Int32.ofNat (own_ul g nN))), .val (.ref x), .val (.ref a2), .val (.int (Int32.ofNat nN)), .val (.int (Int32.ofNat nN)), lx'] [(.ref x), (.int (Int32.ofNat (own_ul g nN)))])) rfl rfl (hb hby d16_127) _ ?_
      rw [len_of Sx2 (own_ofn0 (a := 2 * nN) (by omega))]
      exact k_)
    by_cases hU : own_ul g nN = 2 * nN
    · skip
      have pre122 : ∀ t_, Steps p.tables e below (T'.setTop (mkF m 133 #[.val (.int (0 : Int32)), .val (.ref a2), .val (.int (1 : Int32)), .val (.int (Int32.ofNat (own_ul g nN))), .val (.ref x), .val (.ref a2), .val (.int (Int32.ofNat nN)), .val (.int (Int32.ofNat nN)), lx'] [(.ref x)])) t_ → Steps p.tables e below (s₁.setTop (entryFrame m #[(.int (0 : Int32)), (.ref a2), (.int (1 : Int32))] 9)) t_ := fun t_ k_ => pre121 _ (by
        show Steps p.tables e below (T'.setTop (mkF m 128 #[.val (.int (0 : Int32)), .val (.ref a2), .val (.int (1 : Int32)), .val (.int (Int32.ofNat (own_ul g nN))), .val (.ref x), .val (.ref a2), .val (.int (Int32.ofNat nN)), .val (.int (Int32.ofNat nN)), lx'] [(.int (Int32.ofNat (2 * nN))), (.int (Int32.ofNat (own_ul g nN)))])) _
        refine XS.icmpNo X'.here hx rfl (hb hby d16_128) rfl (teq (by rw [hU])).2 ?_
        show Steps p.tables e below (T'.setTop (mkF m 131 #[.val (.int (0 : Int32)), .val (.ref a2), .val (.int (1 : Int32)), .val (.int (Int32.ofNat (own_ul g nN))), .val (.ref x), .val (.ref a2), .val (.int (Int32.ofNat nN)), .val (.int (Int32.ofNat nN)), lx'] [])) _
        refine XS.aload X'.here hx rfl (hb hby d16_131) rfl rfl ?_
        exact k_)
      obtain ⟨fs, hr, hrun, hended, hW, hsame⟩ := X'.leave (v := some (.ref x)) (fun h => by rw [Bd.returns] at h; cases h)
      refine ⟨_, _, pre122 _ ?_, hrun, hended, _, _, rfl, ?_, ⟨_, rfl⟩, hW, hsame.mono (by decide) (by decide)⟩
      · show Steps p.tables e below (T'.setTop (mkF m 133 #[.val (.int (0 : Int32)), .val (.ref a2), .val (.int (1 : Int32)), .val (.int (Int32.ofNat (own_ul g nN))), .val (.ref x), .val (.ref a2), .val (.int (Int32.ofNat nN)), .val (.int (Int32.ofNat nN)), lx'] [(.ref x)])) _
        jvm_step X'.here [X'.here.top, hx, (hb hby d16_133), X'.method', Bd.returns, Value.isRef, FieldType.isReference]
        first | (intro acts; rw [hr _ acts rfl rfl rfl]) | rw [hr _ _ rfl rfl rfl]
        exact Steps.refl _
      · show QrmEU Z a2 nN g h0 n0 _ T'.heap _
        rw [e']
        exact ⟨x, d1, rfl, N', K', by rw [hU]; exact AD, hd0⟩
    · skip
      obtain ⟨_, _, ⟨T123, L123, k123, n123⟩, -, X123, ⟨Lc123, hQ123, l123, y123, z123⟩, st123⟩ := Jvm.LawKit.callS X' hx (y := (⟨"java/util/Arrays", "copyOf", "([BI)[B"⟩ : MethodName)) hown (mvT hZ (hw _ (List.mem_of_getElem? (i := 160) rfl))) (mvT hZ (hw _ (List.mem_of_getElem? (i := 161) rfl))) (mvT hZ (hw _ (List.mem_of_getElem? (i := 129) rfl))) (mvT hZ (hw _ (List.mem_of_getElem? (i := 162) rfl))) (by decide) (backOf (W := 0) (rmCO l Z a0 hw [] x (2 * nN) (own_ul g nN) d1 h' n0 Z1 (by omega) (by omega) AD hd) hZ (hw _ (List.mem_of_getElem? (i := 162) rfl)) (hw _ (List.mem_of_getElem? (i := 129) rfl)) (by decide) (by decide)) (g := (mkF m 137 #[.val (.int (0 : Int32)), .val (.ref a2), .val (.int (1 : Int32)), .val (.int (Int32.ofNat (own_ul g nN))), .val (.ref x), .val (.ref a2), .val (.int (Int32.ofNat nN)), .val (.int (Int32.ofNat nN)), lx'] [(.int (Int32.ofNat (own_ul g nN))), (.ref x)])) rfl (by rw [hml]; rfl) (argsL := [(.ref x), (.int (Int32.ofNat (own_ul g nN)))]) (rest := []) (lenOf pd_16 rfl) rfl (by show 2 * 0 + _ ≤ _; exact Nat.le_of_eq rfl) (hb hby d16_137) (fun _ _ => ⟨rfl, e', (by decide : 1 + 1 ≤ _), (by decide : 12 + 12 ≤ _)⟩)
      dsimp only [Pt.U, Pt.locs, Pt.cells, Pt.slots] at X123 l123 y123 z123 st123 hQ123
      subst l123 y123 z123
      obtain ⟨y, rfl, N123q, K123, AY⟩ := hQ123
      have N123 := Fr.app N' N123q
      have pre124 : ∀ t_, Steps p.tables e below (T123.setTop (mkF m 140 #[.val (.int (0 : Int32)), .val (.ref a2), .val (.int (1 : Int32)), .val (.int (Int32.ofNat (own_ul g nN))), .val (.ref x), .val (.ref a2), .val (.int (Int32.ofNat nN)), .val (.int (Int32.ofNat nN)), lx'] [(.ref y)])) t_ → Steps p.tables e below (s₁.setTop (entryFrame m #[(.int (0 : Int32)), (.ref a2), (.int (1 : Int32))] 9)) t_ := fun t_ k_ => pre121 _ (by
        show Steps p.tables e below (T'.setTop (mkF m 128 #[.val (.int (0 : Int32)), .val (.ref a2), .val (.int (1 : Int32)), .val (.int (Int32.ofNat (own_ul g nN))), .val (.ref x), .val (.ref a2), .val (.int (Int32.ofNat nN)), .val (.int (Int32.ofNat nN)), lx'] [(.int (Int32.ofNat (2 * nN))), (.int (Int32.ofNat (own_ul g nN)))])) _
        refine XS.icmpYes X'.here hx rfl (pc0 := 128) (pc' := 134) rfl (hb hby d16_128) rfl (feq (own_ofne (by omega) (by omega) hU)).2 (by decide) (by decide) ?_
        show Steps p.tables e below (T'.setTop (mkF m 134 #[.val (.int (0 : Int32)), .val (.ref a2), .val (.int (1 : Int32)), .val (.int (Int32.ofNat (own_ul g nN))), .val (.ref x), .val (.ref a2), .val (.int (Int32.ofNat nN)), .val (.int (Int32.ofNat nN)), lx'] [])) _
        refine XS.aload X'.here hx rfl (hb hby d16_134) rfl rfl ?_
        show Steps p.tables e below (T'.setTop (mkF m 136 #[.val (.int (0 : Int32)), .val (.ref a2), .val (.int (1 : Int32)), .val (.int (Int32.ofNat (own_ul g nN))), .val (.ref x), .val (.ref a2), .val (.int (Int32.ofNat nN)), .val (.int (Int32.ofNat nN)), lx'] [(.ref x)])) _
        refine XS.iloadN X'.here hx rfl (hb hby d16_136) rfl ?_
        show Steps p.tables e below (T'.setTop (mkF m 137 #[.val (.int (0 : Int32)), .val (.ref a2), .val (.int (1 : Int32)), .val (.int (Int32.ofNat (own_ul g nN))), .val (.ref x), .val (.ref a2), .val (.int (Int32.ofNat nN)), .val (.int (Int32.ofNat nN)), lx'] [(.int (Int32.ofNat (own_ul g nN))), (.ref x)])) _
        refine st123 _ ?_
        exact k_)
      obtain ⟨fs, hr, hrun, hended, hW, hsame⟩ := X123.leave (v := some (.ref y)) (fun h => by rw [Bd.returns] at h; cases h)
      refine ⟨_, _, pre124 _ ?_, hrun, hended, _, _, rfl, ?_, ⟨_, rfl⟩, hW, hsame.mono (by decide) (by decide)⟩
      · show Steps p.tables e below (T123.setTop (mkF m 140 #[.val (.int (0 : Int32)), .val (.ref a2), .val (.int (1 : Int32)), .val (.int (Int32.ofNat (own_ul g nN))), .val (.ref x), .val (.ref a2), .val (.int (Int32.ofNat nN)), .val (.int (Int32.ofNat nN)), lx'] [(.ref y)])) _
        jvm_step X123.here [X123.here.top, hx, (hb hby d16_140), X123.method', Bd.returns, Value.isRef, FieldType.isReference]
        first | (intro acts; rw [hr _ acts rfl rfl rfl]) | rw [hr _ _ rfl rfl rfl]
        exact Steps.refl _
      · show QrmEU Z a2 nN g h0 n0 _ T123.heap _
        exact ⟨y, d1, rfl, N123, K'.trans K123 (fun _ q => nomatch q), AY, hd0⟩
theorem pd_17 : parseMethodDescriptor "(B[BZ)[B" = some ⟨[.byte, (.array .byte), .boolean], some (.array .byte)⟩ := by decide +kernel
theorem d15_0 : decode jdk_42_method_18_code 0 = .ok (.aload_n 0, 1) := by decide +kernel
theorem d15_1 : decode jdk_42_method_18_code 1 = .ok (.getstatic 86, 3) := by decide +kernel
theorem d15_4 : decode jdk_42_method_18_code 4 = .ok (.if_acmp .ne 10, 3) := by decide +kernel
theorem d15_7 : decode jdk_42_method_18_code 7 = .ok (.iload_n 1, 1) := by decide +kernel
theorem d15_8 : decode jdk_42_method_18_code 8 = .ok (.aload_n 2, 1) := by decide +kernel
theorem d15_9 : decode jdk_42_method_18_code 9 = .ok (.iconst 1, 1) := by decide +kernel
theorem d15_10 : decode jdk_42_method_18_code 10 = .ok (.invokestatic 252, 3) := by decide +kernel
theorem d15_13 : decode jdk_42_method_18_code 13 = .ok (.areturn, 1) := by decide +kernel
theorem ef_rmEn (m : MethodId) (x0 : Addr) (x1 : Int32) (x2 : Addr) : entryFrame m #[(.ref x0), (.int x1), (.ref x2)] 3 = mkF m 0 #[.val (.ref x0), .val (.int x1), .val (.ref x2)] [] := by first | (simp [entryFrame, mkF, argsToLocals, Value.category]; done) | rfl
def QrmEn (Z : State) (a1 : Addr) (a3 : Addr) (nN : Nat) (g : Nat → Int32) (h0 : Heap) (n0 : Nat) (v : Option Value) (h : Heap) (L : List Loc) : Prop := ∃ (x : Addr) (db : Nat → Int32), v = some (.ref x) ∧ Fr n0 L ∧ Keep h0 h [] ∧ own_Af Z h x .byte (own_ul g nN) db ∧ (0 < nN → db 0 = own_fb (g 0))
set_option maxRecDepth 65536 in
set_option maxHeartbeats 40000000 in
theorem rmEn (l : Launch) (Z : State) (a0 : Array Value) (hw : ∀ d ∈ tables_1, d.before a0 Z = true) (ws : List Jvm.Cond) (a1 : Addr) (a3 : Addr) (nN : Nat) (g : Nat → Int32) (h0 : Heap) (n0 : Nat) (Z0 : n0 ≤ h0.size) (O : Old Z n0 h0) (S_i : Sta Z Z.heap "sun/nio/cs/UTF_8" "INSTANCE" "Lsun/nio/cs/UTF_8;" (.ref a1)) (b1 : nN ≤ 3) (lt : own_lat nN g) (V : own_Af Z h0 a3 .byte nN (fun j => own_b8 (g j))) (EV : Exa Z h0 a3 "[B") :
    MetFree l (⟨"java/lang/String", "encode", "(Ljava/nio/charset/Charset;B[B)[B"⟩ : MethodName) (head1 (Jvm.Cond.code (⟨"java/lang/String", "encode", "(Ljava/nio/charset/Charset;B[B)[B"⟩ : MethodName) jdk_42_method_18_code 3 (some (.array .byte)) :: ws) ({ frames := 3, cells := 2, slots := 24, locals := 52 } : Room)) (fun a U => a = #[(.ref a1), (.int (0 : Int32)), (.ref a3)] ∧ Z.Warmed39 U.vm ∧ U.heap = h0) (fun _ _ _ _ _ => True) (fun _ U o U' => ∃ v L, o = .returned v ∧ QrmEn Z a1 a3 nN g h0 n0 v U'.heap L ∧ FrameEnd U o U' L ({ frames := 3, cells := 2, slots := 24, locals := 52 } : Room).cells ({ frames := 3, cells := 2, slots := 24, locals := 52 } : Room).slots) := by
  refine MetFree.of_bodySF (plainFor_of_name pn_1) hisR ?_
  intro p e s m args below meth c s₁ Bd hml0 hP hK
  obtain ⟨rfl, hZ, hh⟩ := hP
  have hx := Bd.exec
  have hby := Bd.bytes
  have hml : c.maxLocals = 3 := hml0
  have hown : s.vm.findClass "java/lang/String" = some m.cls := findClass_of_methodNamed Bd.named
  have hnm := (name_of_methodNamed Bd.named Bd.method).1
  have X0 : Stand p l e ({ frames := 3, cells := 2, slots := 24, locals := 52 } : Room) s m #[(.ref a1), (.int (0 : Int32)), (.ref a3)] below meth c s₁ [] 0 0 := Stand.of_body Bd
  have e0 : s₁.heap = h0 := by rw [← hh, Bd.state]; rfl
  have N0 := Fr.nil n0
  have pre0 : ∀ t_, Steps p.tables e below (s₁.setTop (mkF m 0 #[.val (.ref a1), .val (.int (0 : Int32)), .val (.ref a3)] [])) t_ → Steps p.tables e below (s₁.setTop (entryFrame m #[(.ref a1), (.int (0 : Int32)), (.ref a3)] 3)) t_ := fun t_ k_ => castTop (ef_rmEn m a1 ((0 : Int32)) a3) k_
  obtain ⟨T101, X101, e101, st101⟩ := getS2 X0 hx hZ hown (host := "") (Or.inl (hw _ (List.mem_of_getElem? (i := 88) rfl))) Via.refl e0 (S_i.ext O.2) (g := (mkF m 1 #[.val (.ref a1), .val (.int (0 : Int32)), .val (.ref a3)] [(.ref a1)])) rfl (hb hby d15_1)
  obtain ⟨_, _, ⟨T102, L102, k102, n102⟩, -, X102, ⟨Lc102, hQ102, l102, y102, z102⟩, st102⟩ := Jvm.LawKit.callS X101 hx (y := (⟨"java/lang/String", "encodeUTF8", "(B[BZ)[B"⟩ : MethodName)) hown (mvT hZ (hw _ (List.mem_of_getElem? (i := 90) rfl))) (mvT hZ (hw _ (List.mem_of_getElem? (i := 91) rfl))) (mvT hZ (hw _ (List.mem_of_getElem? (i := 3) rfl))) (mvT hZ (hw _ (List.mem_of_getElem? (i := 92) rfl))) (by decide) (backOf (W := 0) (rmEU l Z a0 hw [] a3 nN g h0 n0 Z0 b1 lt V EV) hZ (hw _ (List.mem_of_getElem? (i := 92) rfl)) (hw _ (List.mem_of_getElem? (i := 3) rfl)) (by decide) (by decide)) (g := (mkF m 10 #[.val (.ref a1), .val (.int (0 : Int32)), .val (.ref a3)] [(.int (1 : Int32)), (.ref a3), (.int (0 : Int32))])) rfl (by rw [hml]; rfl) (argsL := [(.int (0 : Int32)), (.ref a3), (.int (1 : Int32))]) (rest := []) (lenOf pd_17 rfl) rfl (by show 2 * 0 + _ ≤ _; exact Nat.le_of_eq rfl) (hb hby d15_10) (fun _ _ => ⟨rfl, e101, (by decide : 0 + 2 ≤ _), (by decide : 0 + 24 ≤ _)⟩)
  dsimp only [Pt.U, Pt.locs, Pt.cells, Pt.slots] at X102 l102 y102 z102 st102 hQ102
  subst l102 y102 z102
  obtain ⟨x, db, rfl, N102q, K102, AB102, B0102⟩ := hQ102
  have N102 := Fr.app N0 N102q
  have pre103 : ∀ t_, Steps p.tables e below (T102.setTop (mkF m 13 #[.val (.ref a1), .val (.int (0 : Int32)), .val (.ref a3)] [(.ref x)])) t_ → Steps p.tables e below (s₁.setTop (entryFrame m #[(.ref a1), (.int (0 : Int32)), (.ref a3)] 3)) t_ := fun t_ k_ => pre0 _ (by
    show Steps p.tables e below (s₁.setTop (mkF m 0 #[.val (.ref a1), .val (.int (0 : Int32)), .val (.ref a3)] [])) _
    refine XS.aloadN X0.here hx rfl (hb hby d15_0) rfl rfl ?_
    show Steps p.tables e below (s₁.setTop (mkF m 1 #[.val (.ref a1), .val (.int (0 : Int32)), .val (.ref a3)] [(.ref a1)])) _
    refine st101 _ ?_
    show Steps p.tables e below (T101.setTop (mkF m 4 #[.val (.ref a1), .val (.int (0 : Int32)), .val (.ref a3)] [(.ref a1), (.ref a1)])) _
    refine Jvm.RoadKit.acmp (g := (mkF m 4 #[.val (.ref a1), .val (.int (0 : Int32)), .val (.ref a3)] [(.ref a1), (.ref a1)])) X101 hx rfl rfl rfl (pc0 := 4) (pc' := 7) (same := true) rfl (hb hby d15_4) rfl (decide_eq_true rfl) (by decide) (by decide) ?_
    show Steps p.tables e below (T101.setTop (mkF m 7 #[.val (.ref a1), .val (.int (0 : Int32)), .val (.ref a3)] [])) _
    refine XS.iloadN X101.here hx rfl (hb hby d15_7) rfl ?_
    show Steps p.tables e below (T101.setTop (mkF m 8 #[.val (.ref a1), .val (.int (0 : Int32)), .val (.ref a3)] [(.int (0 : Int32))])) _
    refine XS.aloadN X101.here hx rfl (hb hby d15_8) rfl rfl ?_
    show Steps p.tables e below (T101.setTop (mkF m 9 #[.val (.ref a1), .val (.int (0 : Int32)), .val (.ref a3)] [(.ref a3), (.int (0 : Int32))])) _
    refine XS.iconst X101.here hx rfl (hb hby d15_9) ?_
    show Steps p.tables e below (T101.setTop (mkF m 10 #[.val (.ref a1), .val (.int (0 : Int32)), .val (.ref a3)] [(.int (1 : Int32)), (.ref a3), (.int (0 : Int32))])) _
    refine st102 _ ?_
    exact k_)
  obtain ⟨fs, hr, hrun, hended, hW, hsame⟩ := X102.leave (v := some (.ref x)) (fun h => by rw [Bd.returns] at h; cases h)
  refine ⟨_, _, pre103 _ ?_, hrun, hended, _, _, rfl, ?_, ⟨_, rfl⟩, hW, hsame.mono (by decide) (by decide)⟩
  · show Steps p.tables e below (T102.setTop (mkF m 13 #[.val (.ref a1), .val (.int (0 : Int32)), .val (.ref a3)] [(.ref x)])) _
    jvm_step X102.here [X102.here.top, hx, (hb hby d15_13), X102.method', Bd.returns, Value.isRef, FieldType.isReference]
    first | (intro acts; rw [hr _ acts rfl rfl rfl]) | rw [hr _ _ rfl rfl rfl]
    exact Steps.refl _
  · show QrmEn Z a1 a3 nN g h0 n0 _ T102.heap _
    exact ⟨x, db, rfl, N102, K102, AB102, B0102⟩
theorem pd_18 : parseMethodDescriptor "(Ljava/nio/charset/Charset;B[B)[B" = some ⟨[(.object "java/nio/charset/Charset"), .byte, (.array .byte)], some (.array .byte)⟩ := by decide +kernel
theorem d14_0 : decode jdk_42_method_64_code 0 = .ok (.aload_n 1, 1) := by decide +kernel
theorem d14_1 : decode jdk_42_method_64_code 1 = .ok (.ifnonnull 11, 3) := by decide +kernel
theorem d14_12 : decode jdk_42_method_64_code 12 = .ok (.aload_n 1, 1) := by decide +kernel
theorem d14_13 : decode jdk_42_method_64_code 13 = .ok (.aload_n 0, 1) := by decide +kernel
theorem d14_14 : decode jdk_42_method_64_code 14 = .ok (.invokevirtual 335, 3) := by decide +kernel
theorem d14_17 : decode jdk_42_method_64_code 17 = .ok (.aload_n 0, 1) := by decide +kernel
theorem d14_18 : decode jdk_42_method_64_code 18 = .ok (.getfield 9, 3) := by decide +kernel
theorem d14_21 : decode jdk_42_method_64_code 21 = .ok (.invokestatic 535, 3) := by decide +kernel
theorem d14_24 : decode jdk_42_method_64_code 24 = .ok (.areturn, 1) := by decide +kernel
theorem ef_rmGB (m : MethodId) (x0 : Addr) (x1 : Addr) : entryFrame m #[(.ref x0), (.ref x1)] 2 = mkF m 0 #[.val (.ref x0), .val (.ref x1)] [] := by first | (simp [entryFrame, mkF, argsToLocals, Value.category]; done) | rfl
def QrmGB (Z : State) (a1 : Addr) (a2 : Addr) (t1 : Addr) (nN : Nat) (g : Nat → Int32) (zc : Int32) (h0 : Heap) (n0 : Nat) (v : Option Value) (h : Heap) (L : List Loc) : Prop := ∃ (x : Addr) (db : Nat → Int32), v = some (.ref x) ∧ Fr n0 L ∧ Keep h0 h [] ∧ own_Af Z h x .byte (own_ul g nN) db ∧ (0 < nN → db 0 = own_fb (g 0))
set_option maxRecDepth 65536 in
set_option maxHeartbeats 40000000 in
theorem rmGB (l : Launch) (Z : State) (a0 : Array Value) (hw : ∀ d ∈ tables_1, d.before a0 Z = true) (ws : List Jvm.Cond) (a1 : Addr) (a2 : Addr) (t1 : Addr) (nN : Nat) (g : Nat → Int32) (zc : Int32) (h0 : Heap) (n0 : Nat) (Z0 : n0 ≤ h0.size) (O : Old Z n0 h0) (S_i : Sta Z Z.heap "sun/nio/cs/UTF_8" "INSTANCE" "Lsun/nio/cs/UTF_8;" (.ref a2)) (S_c : Sta Z Z.heap "java/lang/String" "COMPACT_STRINGS" "Z" (.int zc)) (hzc : ¬ zc = 0) (b1 : nN ≤ 3) (lt : own_lat nN g) (L1 : own_L Z h0 a1 t1 nN g) :
    MetFree l (⟨"java/lang/String", "getBytes", "(Ljava/nio/charset/Charset;)[B"⟩ : MethodName) (head1 (Jvm.Cond.code (⟨"java/lang/String", "getBytes", "(Ljava/nio/charset/Charset;)[B"⟩ : MethodName) jdk_42_method_64_code 2 (some (.array .byte)) :: ws) ({ frames := 4, cells := 2, slots := 24, locals := 66 } : Room)) (fun a U => a = #[(.ref a1), (.ref a2)] ∧ Z.Warmed39 U.vm ∧ U.heap = h0) (fun _ _ _ _ _ => True) (fun _ U o U' => ∃ v L, o = .returned v ∧ QrmGB Z a1 a2 t1 nN g zc h0 n0 v U'.heap L ∧ FrameEnd U o U' L ({ frames := 4, cells := 2, slots := 24, locals := 66 } : Room).cells ({ frames := 4, cells := 2, slots := 24, locals := 66 } : Room).slots) := by
  refine MetFree.of_bodySF (plainFor_of_name pn_1) hisR ?_
  intro p e s m args below meth c s₁ Bd hml0 hP hK
  obtain ⟨rfl, hZ, hh⟩ := hP
  have hx := Bd.exec
  have hby := Bd.bytes
  have hml : c.maxLocals = 2 := hml0
  have hown : s.vm.findClass "java/lang/String" = some m.cls := findClass_of_methodNamed Bd.named
  have hnm := (name_of_methodNamed Bd.named Bd.method).1
  have X0 : Stand p l e ({ frames := 4, cells := 2, slots := 24, locals := 66 } : Room) s m #[(.ref a1), (.ref a2)] below meth c s₁ [] 0 0 := Stand.of_body Bd
  have e0 : s₁.heap = h0 := by rw [← hh, Bd.state]; rfl
  have N0 := Fr.nil n0
  have pre0 : ∀ t_, Steps p.tables e below (s₁.setTop (mkF m 0 #[.val (.ref a1), .val (.ref a2)] [])) t_ → Steps p.tables e below (s₁.setTop (entryFrame m #[(.ref a1), (.ref a2)] 2)) t_ := fun t_ k_ => castTop (ef_rmGB m a1 a2) k_
  obtain ⟨Ea, Va, Ca, Aa, Ba⟩ := L1
  obtain ⟨cq101, kq101, q101a, q101b, q101c⟩ := isOf hZ e0 Ea
  obtain ⟨_, _, ⟨T101, L101, k101, n101⟩, -, X101, ⟨Lc101, hQ101, l101, y101, z101⟩, st101⟩ := X0.virtualBack hx (y := (⟨"java/lang/String", "coder", "()B"⟩ : MethodName)) (z := (⟨"java/lang/String", "coder", "()B"⟩ : MethodName)) hown (mvT hZ (hw _ (List.mem_of_getElem? (i := 67) rfl))) (mvT hZ (hw _ (List.mem_of_getElem? (i := 68) rfl))) (notFace_of_selects (args := #[]) (mvT hZ (hw _ (List.mem_of_getElem? (i := 70) rfl)))) (mvT hZ (hw _ (List.mem_of_getElem? (i := 70) rfl))) (mvT hZ (hw _ (List.mem_of_getElem? (i := 69) rfl))) (by decide) (backOf (W := 1) (rmCo l Z a0 hw [] a1 (0 : Int32) zc h0 n0 Z0 Ca (Or.inl rfl) (S_c.ext O.2) hzc) hZ (hw _ (List.mem_of_getElem? (i := 71) rfl)) (hw _ (List.mem_of_getElem? (i := 3) rfl)) (by decide) (by decide)) q101a q101c (g := (mkF m 14 #[.val (.ref a1), .val (.ref a2)] [(.ref a1), (.ref a2)])) rfl (by rw [hml]; rfl) (Steps.refl _) (argsL := []) (rest := [(.ref a2)]) (lenOf pd_5 rfl) rfl (by show 2 * 0 + _ ≤ _; exact Nat.le_of_eq rfl) (hb hby d14_14) (fun _ _ => ⟨rfl, e0, (by decide : 0 + 0 ≤ _), (by decide : 0 + 0 ≤ _)⟩)
  dsimp only [Pt.U, Pt.locs, Pt.cells, Pt.slots] at X101 l101 y101 z101 st101 hQ101
  subst l101 y101 z101
  obtain ⟨rfl, N101q, e101⟩ := hQ101
  have N101 := Fr.app N0 N101q
  obtain ⟨T102, X102, e102, st102⟩ := getF X101 hx hZ hown (host := "") (Or.inl (hw _ (List.mem_of_getElem? (i := 20) rfl))) Via.refl e101 Va (g := (mkF m 18 #[.val (.ref a1), .val (.ref a2)] [(.ref a1), (.int (0 : Int32)), (.ref a2)])) rfl rfl (hb hby d14_18)
  obtain ⟨_, _, ⟨T103, L103, k103, n103⟩, -, X103, ⟨Lc103, hQ103, l103, y103, z103⟩, st103⟩ := Jvm.LawKit.callS X102 hx (y := (⟨"java/lang/String", "encode", "(Ljava/nio/charset/Charset;B[B)[B"⟩ : MethodName)) hown (mvT hZ (hw _ (List.mem_of_getElem? (i := 85) rfl))) (mvT hZ (hw _ (List.mem_of_getElem? (i := 86) rfl))) (mvT hZ (hw _ (List.mem_of_getElem? (i := 3) rfl))) (mvT hZ (hw _ (List.mem_of_getElem? (i := 87) rfl))) (by decide) (backOf (W := 0) (rmEn l Z a0 hw [] a2 t1 nN g h0 n0 Z0 O S_i b1 lt Aa Ba) hZ (hw _ (List.mem_of_getElem? (i := 87) rfl)) (hw _ (List.mem_of_getElem? (i := 3) rfl)) (by decide) (by decide)) (g := (mkF m 21 #[.val (.ref a1), .val (.ref a2)] [(.ref t1), (.int (0 : Int32)), (.ref a2)])) rfl (by rw [hml]; rfl) (argsL := [(.ref a2), (.int (0 : Int32)), (.ref t1)]) (rest := []) (lenOf pd_18 rfl) rfl (by show 2 * 0 + _ ≤ _; exact Nat.le_of_eq rfl) (hb hby d14_21) (fun _ _ => ⟨rfl, e102, (by decide : 0 + 2 ≤ _), (by decide : 0 + 24 ≤ _)⟩)
  dsimp only [Pt.U, Pt.locs, Pt.cells, Pt.slots] at X103 l103 y103 z103 st103 hQ103
  subst l103 y103 z103
  obtain ⟨x, db, rfl, N103q, K103, AB103, B0103⟩ := hQ103
  have N103 := Fr.app N101 N103q
  have pre104 : ∀ t_, Steps p.tables e below (T103.setTop (mkF m 24 #[.val (.ref a1), .val (.ref a2)] [(.ref x)])) t_ → Steps p.tables e below (s₁.setTop (entryFrame m #[(.ref a1), (.ref a2)] 2)) t_ := fun t_ k_ => pre0 _ (by
    show Steps p.tables e below (s₁.setTop (mkF m 0 #[.val (.ref a1), .val (.ref a2)] [])) _
    refine XS.aloadN X0.here hx rfl (hb hby d14_0) rfl rfl ?_
    show Steps p.tables e below (s₁.setTop (mkF m 1 #[.val (.ref a1), .val (.ref a2)] [(.ref a2)])) _
    refine XS.ifnonnullYes X0.here hx rfl (pc0 := 1) (pc' := 12) rfl (hb hby d14_1) rfl (by decide) (by decide) ?_
    show Steps p.tables e below (s₁.setTop (mkF m 12 #[.val (.ref a1), .val (.ref a2)] [])) _
    refine XS.aloadN X0.here hx rfl (hb hby d14_12) rfl rfl ?_
    show Steps p.tables e below (s₁.setTop (mkF m 13 #[.val (.ref a1), .val (.ref a2)] [(.ref a2)])) _
    refine XS.aloadN X0.here hx rfl (hb hby d14_13) rfl rfl ?_
    show Steps p.tables e below (s₁.setTop (mkF m 14 #[.val (.ref a1), .val (.ref a2)] [(.ref a1), (.ref a2)])) _
    refine st101.trans ?_
    show Steps p.tables e below (T101.setTop (mkF m 17 #[.val (.ref a1), .val (.ref a2)] [(.int (0 : Int32)), (.ref a2)])) _
    refine XS.aloadN X101.here hx rfl (hb hby d14_17) rfl rfl ?_
    show Steps p.tables e below (T101.setTop (mkF m 18 #[.val (.ref a1), .val (.ref a2)] [(.ref a1), (.int (0 : Int32)), (.ref a2)])) _
    refine st102 _ ?_
    show Steps p.tables e below (T102.setTop (mkF m 21 #[.val (.ref a1), .val (.ref a2)] [(.ref t1), (.int (0 : Int32)), (.ref a2)])) _
    refine st103 _ ?_
    exact k_)
  obtain ⟨fs, hr, hrun, hended, hW, hsame⟩ := X103.leave (v := some (.ref x)) (fun h => by rw [Bd.returns] at h; cases h)
  refine ⟨_, _, pre104 _ ?_, hrun, hended, _, _, rfl, ?_, ⟨_, rfl⟩, hW, hsame.mono (by decide) (by decide)⟩
  · show Steps p.tables e below (T103.setTop (mkF m 24 #[.val (.ref a1), .val (.ref a2)] [(.ref x)])) _
    jvm_step X103.here [X103.here.top, hx, (hb hby d14_24), X103.method', Bd.returns, Value.isRef, FieldType.isReference]
    first | (intro acts; rw [hr _ acts rfl rfl rfl]) | rw [hr _ _ rfl rfl rfl]
    exact Steps.refl _
  · show QrmGB Z a1 a2 t1 nN g zc h0 n0 _ T103.heap _
    exact ⟨x, db, rfl, N103, K103, AB103, B0103⟩
theorem pd_19 : parseMethodDescriptor "(Ljava/nio/charset/Charset;)[B" = some ⟨[(.object "java/nio/charset/Charset")], some (.array .byte)⟩ := by decide +kernel
theorem d13_0 : decode prog_22_method_6_code 0 = .ok (.aload_n 0, 1) := by decide +kernel
theorem d13_1 : decode prog_22_method_6_code 1 = .ok (.getfield 7, 3) := by decide +kernel
theorem d13_4 : decode prog_22_method_6_code 4 = .ok (.ifnull 16, 3) := by decide +kernel
theorem d13_7 : decode prog_22_method_6_code 7 = .ok (.aload_n 0, 1) := by decide +kernel
theorem d13_8 : decode prog_22_method_6_code 8 = .ok (.getfield 7, 3) := by decide +kernel
theorem d13_11 : decode prog_22_method_6_code 11 = .ok (.getstatic 35, 3) := by decide +kernel
theorem d13_14 : decode prog_22_method_6_code 14 = .ok (.invokevirtual 41, 3) := by decide +kernel
theorem d13_17 : decode prog_22_method_6_code 17 = .ok (.goto 13, 3) := by decide +kernel
theorem d13_30 : decode prog_22_method_6_code 30 = .ok (.areturn, 1) := by decide +kernel
theorem ef_rmBy (m : MethodId) (x0 : Addr) : entryFrame m #[(.ref x0)] 1 = mkF m 0 #[.val (.ref x0)] [] := by first | (simp [entryFrame, mkF, argsToLocals, Value.category]; done) | rfl
def QrmBy (Z : State) (a1 : Addr) (x1 : Addr) (uu : Addr) (t1 : Addr) (nN : Nat) (g : Nat → Int32) (zc : Int32) (h0 : Heap) (n0 : Nat) (v : Option Value) (h : Heap) (L : List Loc) : Prop := ∃ (x : Addr) (db : Nat → Int32), v = some (.ref x) ∧ Fr n0 L ∧ Keep h0 h [] ∧ own_Af Z h x .byte (own_ul g nN) db ∧ (0 < nN → db 0 = own_fb (g 0))
set_option maxRecDepth 65536 in
set_option maxHeartbeats 40000000 in
theorem rmBy (l : Launch) (Z : State) (a0 : Array Value) (hw : ∀ d ∈ tables_1, d.before a0 Z = true) (ws : List Jvm.Cond) (a1 : Addr) (x1 : Addr) (uu : Addr) (t1 : Addr) (nN : Nat) (g : Nat → Int32) (zc : Int32) (h0 : Heap) (n0 : Nat) (Z0 : n0 ≤ h0.size) (F0 : Fld Z h0 a1 "com/example/ledgerpost/ledgerpost/Payload" "text" "Ljava/lang/String;" (.ref x1)) (O : Old Z n0 h0) (S_u : Sta Z Z.heap "java/nio/charset/StandardCharsets" "UTF_8" "Ljava/nio/charset/Charset;" (.ref uu)) (S_i : Sta Z Z.heap "sun/nio/cs/UTF_8" "INSTANCE" "Lsun/nio/cs/UTF_8;" (.ref uu)) (S_c : Sta Z Z.heap "java/lang/String" "COMPACT_STRINGS" "Z" (.int zc)) (hzc : ¬ zc = 0) (b1 : nN ≤ 3) (lt : own_lat nN g) (L1 : own_L Z h0 x1 t1 nN g) :
    MetFree l (⟨"com/example/ledgerpost/ledgerpost/Payload", "bytes", "()[B"⟩ : MethodName) (head1 (Jvm.Cond.code (⟨"com/example/ledgerpost/ledgerpost/Payload", "bytes", "()[B"⟩ : MethodName) prog_22_method_6_code 1 (some (.array .byte)) :: ws) ({ frames := 5, cells := 2, slots := 24, locals := 79 } : Room)) (fun a U => a = #[(.ref a1)] ∧ Z.Warmed39 U.vm ∧ U.heap = h0) (fun _ _ _ _ _ => True) (fun _ U o U' => ∃ v L, o = .returned v ∧ QrmBy Z a1 x1 uu t1 nN g zc h0 n0 v U'.heap L ∧ FrameEnd U o U' L ({ frames := 5, cells := 2, slots := 24, locals := 79 } : Room).cells ({ frames := 5, cells := 2, slots := 24, locals := 79 } : Room).slots) := by
  refine MetFree.of_bodySF (plainFor_of_name pn_5) hisR ?_
  intro p e s m args below meth c s₁ Bd hml0 hP hK
  obtain ⟨rfl, hZ, hh⟩ := hP
  have hx := Bd.exec
  have hby := Bd.bytes
  have hml : c.maxLocals = 1 := hml0
  have hown : s.vm.findClass "com/example/ledgerpost/ledgerpost/Payload" = some m.cls := findClass_of_methodNamed Bd.named
  have hnm := (name_of_methodNamed Bd.named Bd.method).1
  have X0 : Stand p l e ({ frames := 5, cells := 2, slots := 24, locals := 79 } : Room) s m #[(.ref a1)] below meth c s₁ [] 0 0 := Stand.of_body Bd
  have e0 : s₁.heap = h0 := by rw [← hh, Bd.state]; rfl
  have N0 := Fr.nil n0
  have pre0 : ∀ t_, Steps p.tables e below (s₁.setTop (mkF m 0 #[.val (.ref a1)] [])) t_ → Steps p.tables e below (s₁.setTop (entryFrame m #[(.ref a1)] 1)) t_ := fun t_ k_ => castTop (ef_rmBy m a1) k_
  obtain ⟨T101, X101, e101, st101⟩ := getF X0 hx hZ hown (host := "") (Or.inl (hw _ (List.mem_of_getElem? (i := 38) rfl))) Via.refl e0 F0 (g := (mkF m 1 #[.val (.ref a1)] [(.ref a1)])) rfl rfl (hb hby d13_1)
  obtain ⟨T102, X102, e102, st102⟩ := getF X101 hx hZ hown (host := "") (Or.inl (hw _ (List.mem_of_getElem? (i := 38) rfl))) Via.refl e101 F0 (g := (mkF m 8 #[.val (.ref a1)] [(.ref a1)])) rfl rfl (hb hby d13_8)
  obtain ⟨T103, X103, e103, st103⟩ := getS2 X102 hx hZ hown (host := "") (Or.inl (hw _ (List.mem_of_getElem? (i := 78) rfl))) Via.refl e102 (S_u.ext O.2) (g := (mkF m 11 #[.val (.ref a1)] [(.ref x1)])) rfl (hb hby d13_11)
  obtain ⟨cq104, kq104, q104a, q104b, q104c⟩ := isOf hZ e103 L1.1
  obtain ⟨_, _, ⟨T104, L104, k104, n104⟩, -, X104, ⟨Lc104, hQ104, l104, y104, z104⟩, st104⟩ := X103.virtualBack hx (y := (⟨"java/lang/String", "getBytes", "(Ljava/nio/charset/Charset;)[B"⟩ : MethodName)) (z := (⟨"java/lang/String", "getBytes", "(Ljava/nio/charset/Charset;)[B"⟩ : MethodName)) hown (mvT hZ (hw _ (List.mem_of_getElem? (i := 80) rfl))) (mvT hZ (hw _ (List.mem_of_getElem? (i := 81) rfl))) (notFace_of_selects (args := #[]) (mvT hZ (hw _ (List.mem_of_getElem? (i := 83) rfl)))) (mvT hZ (hw _ (List.mem_of_getElem? (i := 83) rfl))) (mvT hZ (hw _ (List.mem_of_getElem? (i := 82) rfl))) (by decide) (backOf (W := 0) (rmGB l Z a0 hw [] x1 uu t1 nN g zc h0 n0 Z0 O S_i S_c hzc b1 lt L1) hZ (hw _ (List.mem_of_getElem? (i := 84) rfl)) (hw _ (List.mem_of_getElem? (i := 3) rfl)) (by decide) (by decide)) q104a q104c (g := (mkF m 14 #[.val (.ref a1)] [(.ref uu), (.ref x1)])) rfl (by rw [hml]; rfl) (Steps.refl _) (argsL := [(.ref uu)]) (rest := []) (lenOf pd_19 rfl) rfl (by show 2 * 0 + _ ≤ _; exact Nat.le_of_eq rfl) (hb hby d13_14) (fun _ _ => ⟨rfl, e103, (by decide : 0 + 2 ≤ _), (by decide : 0 + 24 ≤ _)⟩)
  dsimp only [Pt.U, Pt.locs, Pt.cells, Pt.slots] at X104 l104 y104 z104 st104 hQ104
  subst l104 y104 z104
  obtain ⟨x, db, rfl, N104q, K104, AB104, B0104⟩ := hQ104
  have N104 := Fr.app N0 N104q
  have pre105 : ∀ t_, Steps p.tables e below (T104.setTop (mkF m 30 #[.val (.ref a1)] [(.ref x)])) t_ → Steps p.tables e below (s₁.setTop (entryFrame m #[(.ref a1)] 1)) t_ := fun t_ k_ => pre0 _ (by
    show Steps p.tables e below (s₁.setTop (mkF m 0 #[.val (.ref a1)] [])) _
    refine XS.aloadN X0.here hx rfl (hb hby d13_0) rfl rfl ?_
    show Steps p.tables e below (s₁.setTop (mkF m 1 #[.val (.ref a1)] [(.ref a1)])) _
    refine st101 _ ?_
    show Steps p.tables e below (T101.setTop (mkF m 4 #[.val (.ref a1)] [(.ref x1)])) _
    refine XS.ifnullNo X101.here hx rfl (hb hby d13_4) rfl ?_
    show Steps p.tables e below (T101.setTop (mkF m 7 #[.val (.ref a1)] [])) _
    refine XS.aloadN X101.here hx rfl (hb hby d13_7) rfl rfl ?_
    show Steps p.tables e below (T101.setTop (mkF m 8 #[.val (.ref a1)] [(.ref a1)])) _
    refine st102 _ ?_
    show Steps p.tables e below (T102.setTop (mkF m 11 #[.val (.ref a1)] [(.ref x1)])) _
    refine st103 _ ?_
    show Steps p.tables e below (T103.setTop (mkF m 14 #[.val (.ref a1)] [(.ref uu), (.ref x1)])) _
    refine st104.trans ?_
    show Steps p.tables e below (T104.setTop (mkF m 17 #[.val (.ref a1)] [(.ref x)])) _
    refine XS.goto X104.here hx rfl (pc0 := 17) (pc' := 30) rfl (hb hby d13_17) (by decide) (by decide) ?_
    exact k_)
  obtain ⟨fs, hr, hrun, hended, hW, hsame⟩ := X104.leave (v := some (.ref x)) (fun h => by rw [Bd.returns] at h; cases h)
  refine ⟨_, _, pre105 _ ?_, hrun, hended, _, _, rfl, ?_, ⟨_, rfl⟩, hW, hsame.mono (by decide) (by decide)⟩
  · show Steps p.tables e below (T104.setTop (mkF m 30 #[.val (.ref a1)] [(.ref x)])) _
    jvm_step X104.here [X104.here.top, hx, (hb hby d13_30), X104.method', Bd.returns, Value.isRef, FieldType.isReference]
    first | (intro acts; rw [hr _ acts rfl rfl rfl]) | rw [hr _ _ rfl rfl rfl]
    exact Steps.refl _
  · show QrmBy Z a1 x1 uu t1 nN g zc h0 n0 _ T104.heap _
    exact ⟨x, db, rfl, N104, K104, AB104, B0104⟩
theorem d29_0 : decode method_2_code 0 = .ok (.iload_n 0, 1) := by decide +kernel
theorem d29_1 : decode method_2_code 1 = .ok (.sipush 128, 3) := by decide +kernel
theorem d29_4 : decode method_2_code 4 = .ok (.if_icmp .ge 7, 3) := by decide +kernel
theorem d29_7 : decode method_2_code 7 = .ok (.iconst 1, 1) := by decide +kernel
theorem d29_8 : decode method_2_code 8 = .ok (.goto 4, 3) := by decide +kernel
theorem d29_11 : decode method_2_code 11 = .ok (.iconst 2, 1) := by decide +kernel
theorem d29_12 : decode method_2_code 12 = .ok (.ireturn, 1) := by decide +kernel
theorem pn_7 : plainName "com/example/ledgerpost/ledgerpost/PayloadOfTextPinLaw" = true := by first | (simp [plainName, overriddenIn]; done) | decide +kernel
theorem ef_rmutf8Len (m : MethodId) (x0 : Int32) : entryFrame m #[(.int x0)] 1 = mkF m 0 #[.val (.int x0)] [] := by first | (simp [entryFrame, mkF, argsToLocals, Value.category]; done) | rfl
def Qrmutf8Len (Z : State) (p1 : Int32) (h0 : Heap) (n0 : Nat) (v : Option Value) (h : Heap) (L : List Loc) : Prop := v = some (.int (own_u1 p1)) ∧ Fr n0 L ∧ h = h0
set_option maxRecDepth 65536 in
set_option maxHeartbeats 40000000 in
theorem rmutf8Len (l : Launch) (Z : State) (a0 : Array Value) (hw : ∀ d ∈ tables_1, d.before a0 Z = true) (ws : List Jvm.Cond) (p1 : Int32) (h0 : Heap) (n0 : Nat) (Z0 : n0 ≤ h0.size) :
    MetFree l (⟨"com/example/ledgerpost/ledgerpost/PayloadOfTextPinLaw", "utf8Len", "(C)I"⟩ : MethodName) (head1 (Jvm.Cond.code (⟨"com/example/ledgerpost/ledgerpost/PayloadOfTextPinLaw", "utf8Len", "(C)I"⟩ : MethodName) method_2_code 1 (some .int) :: ws) ({ frames := 0, cells := 0, slots := 0, locals := 0 } : Room)) (fun a U => a = #[(.int p1)] ∧ Z.Warmed39 U.vm ∧ U.heap = h0) (fun _ _ _ _ _ => True) (fun _ U o U' => ∃ v L, o = .returned v ∧ Qrmutf8Len Z p1 h0 n0 v U'.heap L ∧ FrameEnd U o U' L ({ frames := 0, cells := 0, slots := 0, locals := 0 } : Room).cells ({ frames := 0, cells := 0, slots := 0, locals := 0 } : Room).slots) := by
  refine MetFree.of_bodySF (plainFor_of_name pn_7) hisR ?_
  intro p e s m args below meth c s₁ Bd hml0 hP hK
  obtain ⟨rfl, hZ, hh⟩ := hP
  have hx := Bd.exec
  have hby := Bd.bytes
  have hml : c.maxLocals = 1 := hml0
  have hown : s.vm.findClass "com/example/ledgerpost/ledgerpost/PayloadOfTextPinLaw" = some m.cls := findClass_of_methodNamed Bd.named
  have hnm := (name_of_methodNamed Bd.named Bd.method).1
  have X0 : Stand p l e ({ frames := 0, cells := 0, slots := 0, locals := 0 } : Room) s m #[(.int p1)] below meth c s₁ [] 0 0 := Stand.of_body Bd
  have e0 : s₁.heap = h0 := by rw [← hh, Bd.state]; rfl
  have N0 := Fr.nil n0
  have pre0 : ∀ t_, Steps p.tables e below (s₁.setTop (mkF m 0 #[.val (.int p1)] [])) t_ → Steps p.tables e below (s₁.setTop (entryFrame m #[(.int p1)] 1)) t_ := fun t_ k_ => castTop (ef_rmutf8Len m p1) k_
  have pre101 : ∀ t_, Steps p.tables e below (s₁.setTop (mkF m 4 #[.val (.int p1)] [(.int (128 : Int32)), (.int p1)])) t_ → Steps p.tables e below (s₁.setTop (entryFrame m #[(.int p1)] 1)) t_ := fun t_ k_ => pre0 _ (by
    show Steps p.tables e below (s₁.setTop (mkF m 0 #[.val (.int p1)] [])) _
    refine XS.iloadN X0.here hx rfl (hb hby d29_0) rfl ?_
    show Steps p.tables e below (s₁.setTop (mkF m 1 #[.val (.int p1)] [(.int p1)])) _
    refine XS.sipush X0.here hx rfl (hb hby d29_1) ?_
    exact k_)
  by_cases hc : p1 < (128 : Int32)
  · skip
    have pre102 : ∀ t_, Steps p.tables e below (s₁.setTop (mkF m 12 #[.val (.int p1)] [(.int (1 : Int32))])) t_ → Steps p.tables e below (s₁.setTop (entryFrame m #[(.int p1)] 1)) t_ := fun t_ k_ => pre101 _ (by
      show Steps p.tables e below (s₁.setTop (mkF m 4 #[.val (.int p1)] [(.int (128 : Int32)), (.int p1)])) _
      refine XS.icmpNo X0.here hx rfl (hb hby d29_4) rfl (tlt hc).2.1 ?_
      show Steps p.tables e below (s₁.setTop (mkF m 7 #[.val (.int p1)] [])) _
      refine XS.iconst X0.here hx rfl (hb hby d29_7) ?_
      show Steps p.tables e below (s₁.setTop (mkF m 8 #[.val (.int p1)] [(.int (1 : Int32))])) _
      refine XS.goto X0.here hx rfl (pc0 := 8) (pc' := 12) rfl (hb hby d29_8) (by decide) (by decide) ?_
      exact k_)
    obtain ⟨fs, hr, hrun, hended, hW, hsame⟩ := X0.leave (v := some (.int (1 : Int32))) (fun h => by rw [Bd.returns] at h; cases h)
    refine ⟨_, _, pre102 _ ?_, hrun, hended, _, _, rfl, ?_, ⟨_, rfl⟩, hW, hsame.mono (by decide) (by decide)⟩
    · show Steps p.tables e below (s₁.setTop (mkF m 12 #[.val (.int p1)] [(.int (1 : Int32))])) _
      exact retI X0 hx Bd.returns (hb hby d29_12) hr
    · show Qrmutf8Len Z p1 h0 n0 _ s₁.heap _
      rw [e0]
      exact ⟨by rw [own_u1, if_pos hc], N0, rfl⟩
  · skip
    have pre103 : ∀ t_, Steps p.tables e below (s₁.setTop (mkF m 12 #[.val (.int p1)] [(.int (2 : Int32))])) t_ → Steps p.tables e below (s₁.setTop (entryFrame m #[(.int p1)] 1)) t_ := fun t_ k_ => pre101 _ (by
      show Steps p.tables e below (s₁.setTop (mkF m 4 #[.val (.int p1)] [(.int (128 : Int32)), (.int p1)])) _
      refine XS.icmpYes X0.here hx rfl (pc0 := 4) (pc' := 11) rfl (hb hby d29_4) rfl (flt hc).2.1 (by decide) (by decide) ?_
      show Steps p.tables e below (s₁.setTop (mkF m 11 #[.val (.int p1)] [])) _
      refine XS.iconst X0.here hx rfl (hb hby d29_11) ?_
      exact k_)
    obtain ⟨fs, hr, hrun, hended, hW, hsame⟩ := X0.leave (v := some (.int (2 : Int32))) (fun h => by rw [Bd.returns] at h; cases h)
    refine ⟨_, _, pre103 _ ?_, hrun, hended, _, _, rfl, ?_, ⟨_, rfl⟩, hW, hsame.mono (by decide) (by decide)⟩
    · show Steps p.tables e below (s₁.setTop (mkF m 12 #[.val (.int p1)] [(.int (2 : Int32))])) _
      exact retI X0 hx Bd.returns (hb hby d29_12) hr
    · show Qrmutf8Len Z p1 h0 n0 _ s₁.heap _
      rw [e0]
      exact ⟨by rw [own_u1, if_neg hc], N0, rfl⟩
theorem d30_0 : decode method_3_code 0 = .ok (.iload_n 0, 1) := by decide +kernel
theorem d30_1 : decode method_3_code 1 = .ok (.sipush 128, 3) := by decide +kernel
theorem d30_4 : decode method_3_code 4 = .ok (.if_icmp .ge 7, 3) := by decide +kernel
theorem d30_7 : decode method_3_code 7 = .ok (.iload_n 0, 1) := by decide +kernel
theorem d30_8 : decode method_3_code 8 = .ok (.goto 11, 3) := by decide +kernel
theorem d30_11 : decode method_3_code 11 = .ok (.sipush 192, 3) := by decide +kernel
theorem d30_14 : decode method_3_code 14 = .ok (.iload_n 0, 1) := by decide +kernel
theorem d30_15 : decode method_3_code 15 = .ok (.bipush 6, 2) := by decide +kernel
theorem d30_17 : decode method_3_code 17 = .ok (.ishr, 1) := by decide +kernel
theorem d30_18 : decode method_3_code 18 = .ok (.ior, 1) := by decide +kernel
theorem d30_19 : decode method_3_code 19 = .ok (.ireturn, 1) := by decide +kernel
theorem ef_rmfirstByte (m : MethodId) (x0 : Int32) : entryFrame m #[(.int x0)] 1 = mkF m 0 #[.val (.int x0)] [] := by first | (simp [entryFrame, mkF, argsToLocals, Value.category]; done) | rfl
def QrmfirstByte (Z : State) (p1 : Int32) (h0 : Heap) (n0 : Nat) (v : Option Value) (h : Heap) (L : List Loc) : Prop := v = some (.int (own_f1 p1)) ∧ Fr n0 L ∧ h = h0
set_option maxRecDepth 65536 in
set_option maxHeartbeats 40000000 in
theorem rmfirstByte (l : Launch) (Z : State) (a0 : Array Value) (hw : ∀ d ∈ tables_1, d.before a0 Z = true) (ws : List Jvm.Cond) (p1 : Int32) (h0 : Heap) (n0 : Nat) (Z0 : n0 ≤ h0.size) :
    MetFree l (⟨"com/example/ledgerpost/ledgerpost/PayloadOfTextPinLaw", "firstByte", "(C)I"⟩ : MethodName) (head1 (Jvm.Cond.code (⟨"com/example/ledgerpost/ledgerpost/PayloadOfTextPinLaw", "firstByte", "(C)I"⟩ : MethodName) method_3_code 1 (some .int) :: ws) ({ frames := 0, cells := 0, slots := 0, locals := 0 } : Room)) (fun a U => a = #[(.int p1)] ∧ Z.Warmed39 U.vm ∧ U.heap = h0) (fun _ _ _ _ _ => True) (fun _ U o U' => ∃ v L, o = .returned v ∧ QrmfirstByte Z p1 h0 n0 v U'.heap L ∧ FrameEnd U o U' L ({ frames := 0, cells := 0, slots := 0, locals := 0 } : Room).cells ({ frames := 0, cells := 0, slots := 0, locals := 0 } : Room).slots) := by
  refine MetFree.of_bodySF (plainFor_of_name pn_7) hisR ?_
  intro p e s m args below meth c s₁ Bd hml0 hP hK
  obtain ⟨rfl, hZ, hh⟩ := hP
  have hx := Bd.exec
  have hby := Bd.bytes
  have hml : c.maxLocals = 1 := hml0
  have hown : s.vm.findClass "com/example/ledgerpost/ledgerpost/PayloadOfTextPinLaw" = some m.cls := findClass_of_methodNamed Bd.named
  have hnm := (name_of_methodNamed Bd.named Bd.method).1
  have X0 : Stand p l e ({ frames := 0, cells := 0, slots := 0, locals := 0 } : Room) s m #[(.int p1)] below meth c s₁ [] 0 0 := Stand.of_body Bd
  have e0 : s₁.heap = h0 := by rw [← hh, Bd.state]; rfl
  have N0 := Fr.nil n0
  have pre0 : ∀ t_, Steps p.tables e below (s₁.setTop (mkF m 0 #[.val (.int p1)] [])) t_ → Steps p.tables e below (s₁.setTop (entryFrame m #[(.int p1)] 1)) t_ := fun t_ k_ => castTop (ef_rmfirstByte m p1) k_
  have pre101 : ∀ t_, Steps p.tables e below (s₁.setTop (mkF m 4 #[.val (.int p1)] [(.int (128 : Int32)), (.int p1)])) t_ → Steps p.tables e below (s₁.setTop (entryFrame m #[(.int p1)] 1)) t_ := fun t_ k_ => pre0 _ (by
    show Steps p.tables e below (s₁.setTop (mkF m 0 #[.val (.int p1)] [])) _
    refine XS.iloadN X0.here hx rfl (hb hby d30_0) rfl ?_
    show Steps p.tables e below (s₁.setTop (mkF m 1 #[.val (.int p1)] [(.int p1)])) _
    refine XS.sipush X0.here hx rfl (hb hby d30_1) ?_
    exact k_)
  by_cases hc : p1 < (128 : Int32)
  · skip
    have pre102 : ∀ t_, Steps p.tables e below (s₁.setTop (mkF m 19 #[.val (.int p1)] [(.int p1)])) t_ → Steps p.tables e below (s₁.setTop (entryFrame m #[(.int p1)] 1)) t_ := fun t_ k_ => pre101 _ (by
      show Steps p.tables e below (s₁.setTop (mkF m 4 #[.val (.int p1)] [(.int (128 : Int32)), (.int p1)])) _
      refine XS.icmpNo X0.here hx rfl (hb hby d30_4) rfl (tlt hc).2.1 ?_
      show Steps p.tables e below (s₁.setTop (mkF m 7 #[.val (.int p1)] [])) _
      refine XS.iloadN X0.here hx rfl (hb hby d30_7) rfl ?_
      show Steps p.tables e below (s₁.setTop (mkF m 8 #[.val (.int p1)] [(.int p1)])) _
      refine XS.goto X0.here hx rfl (pc0 := 8) (pc' := 19) rfl (hb hby d30_8) (by decide) (by decide) ?_
      exact k_)
    obtain ⟨fs, hr, hrun, hended, hW, hsame⟩ := X0.leave (v := some (.int p1)) (fun h => by rw [Bd.returns] at h; cases h)
    refine ⟨_, _, pre102 _ ?_, hrun, hended, _, _, rfl, ?_, ⟨_, rfl⟩, hW, hsame.mono (by decide) (by decide)⟩
    · show Steps p.tables e below (s₁.setTop (mkF m 19 #[.val (.int p1)] [(.int p1)])) _
      exact retI X0 hx Bd.returns (hb hby d30_19) hr
    · show QrmfirstByte Z p1 h0 n0 _ s₁.heap _
      rw [e0]
      exact ⟨by rw [own_f1, if_pos hc], N0, rfl⟩
  · skip
    have pre103 : ∀ t_, Steps p.tables e below (s₁.setTop (mkF m 19 #[.val (.int p1)] [(.int ((192 : Int32) ||| (p1 >>> ((6 : Int32) &&& 31))))])) t_ → Steps p.tables e below (s₁.setTop (entryFrame m #[(.int p1)] 1)) t_ := fun t_ k_ => pre101 _ (by
      show Steps p.tables e below (s₁.setTop (mkF m 4 #[.val (.int p1)] [(.int (128 : Int32)), (.int p1)])) _
      refine XS.icmpYes X0.here hx rfl (pc0 := 4) (pc' := 11) rfl (hb hby d30_4) rfl (flt hc).2.1 (by decide) (by decide) ?_
      show Steps p.tables e below (s₁.setTop (mkF m 11 #[.val (.int p1)] [])) _
      refine XS.sipush X0.here hx rfl (hb hby d30_11) ?_
      show Steps p.tables e below (s₁.setTop (mkF m 14 #[.val (.int p1)] [(.int (192 : Int32))])) _
      refine XS.iloadN X0.here hx rfl (hb hby d30_14) rfl ?_
      show Steps p.tables e below (s₁.setTop (mkF m 15 #[.val (.int p1)] [(.int p1), (.int (192 : Int32))])) _
      refine XS.bipush X0.here hx rfl (hb hby d30_15) ?_
      show Steps p.tables e below (s₁.setTop (mkF m 17 #[.val (.int p1)] [(.int (6 : Int32)), (.int p1), (.int (192 : Int32))])) _
      refine XS.ishr X0.here hx rfl (hb hby d30_17) rfl ?_
      show Steps p.tables e below (s₁.setTop (mkF m 18 #[.val (.int p1)] [(.int (p1 >>> ((6 : Int32) &&& 31))), (.int (192 : Int32))])) _
      refine XS.ior X0.here hx rfl (hb hby d30_18) rfl ?_
      exact k_)
    obtain ⟨fs, hr, hrun, hended, hW, hsame⟩ := X0.leave (v := some (.int ((192 : Int32) ||| (p1 >>> ((6 : Int32) &&& 31))))) (fun h => by rw [Bd.returns] at h; cases h)
    refine ⟨_, _, pre103 _ ?_, hrun, hended, _, _, rfl, ?_, ⟨_, rfl⟩, hW, hsame.mono (by decide) (by decide)⟩
    · show Steps p.tables e below (s₁.setTop (mkF m 19 #[.val (.int p1)] [(.int ((192 : Int32) ||| (p1 >>> ((6 : Int32) &&& 31))))])) _
      exact retI X0 hx Bd.returns (hb hby d30_19) hr
    · show QrmfirstByte Z p1 h0 n0 _ s₁.heap _
      rw [e0]
      exact ⟨by rw [own_f1, if_neg hc], N0, rfl⟩
theorem pd_20 : parseMethodDescriptor "([C)V" = some ⟨[(.array .char)], none⟩ := by decide +kernel
theorem pd_21 : parseMethodDescriptor "(Ljava/lang/String;)Lcom/example/ledgerpost/ledgerpost/Payload;" = some ⟨[(.object "java/lang/String")], some (.object "com/example/ledgerpost/ledgerpost/Payload")⟩ := by decide +kernel
theorem pd_22 : parseMethodDescriptor "()Z" = some ⟨[], some .boolean⟩ := by decide +kernel
theorem pd_23 : parseMethodDescriptor "()Ljava/lang/String;" = some ⟨[], some (.object "java/lang/String")⟩ := by decide +kernel
theorem pd_24 : parseMethodDescriptor "()J" = some ⟨[], some .long⟩ := by decide +kernel
theorem pd_25 : parseMethodDescriptor "()[B" = some ⟨[], some (.array .byte)⟩ := by decide +kernel
theorem pd_26 : parseMethodDescriptor "(C)I" = some ⟨[.char], some .int⟩ := by decide +kernel
theorem ef_rm0 (m : MethodId) (x0 : Int32) (x1 : Int32) (x2 : Int32) (x3 : Int32) : entryFrame m #[(.int x0), (.int x1), (.int x2), (.int x3)] maxLocals = mkF m 0 #[.val (.int x0), .val (.int x1), .val (.int x2), .val (.int x3), .unset, .unset, .unset, .unset, .unset, .unset, .unset, .unset, .unset, .unset, .unset, .unset, .unset] [] := by first | (simp [entryFrame, mkF, argsToLocals, Value.category, maxLocals]; done) | rfl
def Qrm0 (Z : State) (p1 : Int32) (p2 : Int32) (p3 : Int32) (p4 : Int32) (zc : Int32) (uu : Addr) (h0 : Heap) (n0 : Nat) (v : Option Value) (h : Heap) (L : List Loc) : Prop := v = some (.int 1) ∧ Fr n0 L
set_option maxRecDepth 65536 in
set_option maxHeartbeats 40000000 in
theorem rm0 (l : Launch) (Z : State) (a0 : Array Value) (hw : ∀ d ∈ tables_1, d.before a0 Z = true) (ws : List Jvm.Cond) (p1 : Int32) (p2 : Int32) (p3 : Int32) (p4 : Int32) (zc : Int32) (uu : Addr) (h0 : Heap) (n0 : Nat) (Z0 : n0 ≤ h0.size) (O : Old Z n0 h0) (S_c : Sta Z Z.heap "java/lang/String" "COMPACT_STRINGS" "Z" (.int zc)) (hzc : ¬ zc = 0) (S_u : Sta Z Z.heap "java/nio/charset/StandardCharsets" "UTF_8" "Ljava/nio/charset/Charset;" (.ref uu)) (S_i : Sta Z Z.heap "sun/nio/cs/UTF_8" "INSTANCE" "Lsun/nio/cs/UTF_8;" (.ref uu)) :
    MetFree l x (head1 (Jvm.Cond.code x code maxLocals ret :: ws) room_1) (fun a U => a = #[(.int p1), (.int p2), (.int p3), (.int p4)] ∧ Z.Warmed39 U.vm ∧ U.heap = h0 ∧ CHv Z own_EL U.vm h0) (fun _ _ _ _ _ => True) (fun _ U o U' => ∃ v L, o = .returned v ∧ Qrm0 Z p1 p2 p3 p4 zc uu h0 n0 v U'.heap L ∧ ReturnedEndW U o U' L room_1.cells room_1.slots) := by
  refine MetFree.of_bodySF (plainFor_of_name pn_7) hisR ?_
  intro p e s m args below meth c s₁ Bd hml0 hP hK
  obtain ⟨rfl, hZ, hh, hH⟩ := hP
  have hx := Bd.exec
  have hby := Bd.bytes
  have hml : c.maxLocals = 17 := hml0
  have hown : s.vm.findClass "com/example/ledgerpost/ledgerpost/PayloadOfTextPinLaw" = some m.cls := findClass_of_methodNamed Bd.named
  have hnm := (name_of_methodNamed Bd.named Bd.method).1
  have X0 : Stand p l e room_1 s m #[(.int p1), (.int p2), (.int p3), (.int p4)] below meth c s₁ [] 0 0 := Stand.of_body Bd
  have e0 : s₁.heap = h0 := by rw [← hh, Bd.state]; rfl
  have N0 := Fr.nil n0
  have pre0 : ∀ t_, Steps p.tables e below (s₁.setTop (mkF m 0 #[.val (.int p1), .val (.int p2), .val (.int p3), .val (.int p4), .unset, .unset, .unset, .unset, .unset, .unset, .unset, .unset, .unset, .unset, .unset, .unset, .unset] [])) t_ → Steps p.tables e below (s₁.setTop (entryFrame m #[(.int p1), (.int p2), (.int p3), (.int p4)] maxLocals)) t_ := fun t_ k_ => castTop (ef_rm0 m p1 p2 p3 p4) k_
  obtain ⟨cu, hv_cu, pre101⟩ : ∃ z_ : Int32, z_ = ((p2 &&& (255 : Int32)).toUInt32.toUInt16.toUInt32.toInt32) ∧ ∀ t_, Steps p.tables e below (s₁.setTop (mkF m 29 #[.val (.int p1), .val (.int p2), .val (.int p3), .val (.int p4), .val (.int (p1 &&& (3 : Int32))), .val (.int z_), .val (.int ((p3 &&& (255 : Int32)).toUInt32.toUInt16.toUInt32.toInt32)), .val (.int ((p4 &&& (255 : Int32)).toUInt32.toUInt16.toUInt32.toInt32)), .unset, .unset, .unset, .unset, .unset, .unset, .unset, .unset, .unset] [])) t_ → Steps p.tables e below (s₁.setTop (entryFrame m #[(.int p1), (.int p2), (.int p3), (.int p4)] maxLocals)) t_ := ⟨_, rfl, fun t_ k_ => pre0 _ (by
    show Steps p.tables e below (s₁.setTop (mkF m 0 #[.val (.int p1), .val (.int p2), .val (.int p3), .val (.int p4), .unset, .unset, .unset, .unset, .unset, .unset, .unset, .unset, .unset, .unset, .unset, .unset, .unset] [])) _
    refine XS.iloadN X0.here hx rfl (hb hby at_0) rfl ?_
    show Steps p.tables e below (s₁.setTop (mkF m 1 #[.val (.int p1), .val (.int p2), .val (.int p3), .val (.int p4), .unset, .unset, .unset, .unset, .unset, .unset, .unset, .unset, .unset, .unset, .unset, .unset, .unset] [(.int p1)])) _
    refine XS.iconst X0.here hx rfl (hb hby at_1) ?_
    show Steps p.tables e below (s₁.setTop (mkF m 2 #[.val (.int p1), .val (.int p2), .val (.int p3), .val (.int p4), .unset, .unset, .unset, .unset, .unset, .unset, .unset, .unset, .unset, .unset, .unset, .unset, .unset] [(.int (3 : Int32)), (.int p1)])) _
    refine XS.iand X0.here hx rfl (hb hby at_2) rfl ?_
    show Steps p.tables e below (s₁.setTop (mkF m 3 #[.val (.int p1), .val (.int p2), .val (.int p3), .val (.int p4), .unset, .unset, .unset, .unset, .unset, .unset, .unset, .unset, .unset, .unset, .unset, .unset, .unset] [(.int (p1 &&& (3 : Int32)))])) _
    refine XS.istore X0.here hx rfl (hb hby at_3) rfl (l' := #[.val (.int p1), .val (.int p2), .val (.int p3), .val (.int p4), .val (.int (p1 &&& (3 : Int32))), .unset, .unset, .unset, .unset, .unset, .unset, .unset, .unset, .unset, .unset, .unset, .unset]) rfl ?_
    show Steps p.tables e below (s₁.setTop (mkF m 5 #[.val (.int p1), .val (.int p2), .val (.int p3), .val (.int p4), .val (.int (p1 &&& (3 : Int32))), .unset, .unset, .unset, .unset, .unset, .unset, .unset, .unset, .unset, .unset, .unset, .unset] [])) _
    refine XS.iloadN X0.here hx rfl (hb hby at_5) rfl ?_
    show Steps p.tables e below (s₁.setTop (mkF m 6 #[.val (.int p1), .val (.int p2), .val (.int p3), .val (.int p4), .val (.int (p1 &&& (3 : Int32))), .unset, .unset, .unset, .unset, .unset, .unset, .unset, .unset, .unset, .unset, .unset, .unset] [(.int p2)])) _
    refine XS.sipush X0.here hx rfl (hb hby at_6) ?_
    show Steps p.tables e below (s₁.setTop (mkF m 9 #[.val (.int p1), .val (.int p2), .val (.int p3), .val (.int p4), .val (.int (p1 &&& (3 : Int32))), .unset, .unset, .unset, .unset, .unset, .unset, .unset, .unset, .unset, .unset, .unset, .unset] [(.int (255 : Int32)), (.int p2)])) _
    refine XS.iand X0.here hx rfl (hb hby at_9) rfl ?_
    show Steps p.tables e below (s₁.setTop (mkF m 10 #[.val (.int p1), .val (.int p2), .val (.int p3), .val (.int p4), .val (.int (p1 &&& (3 : Int32))), .unset, .unset, .unset, .unset, .unset, .unset, .unset, .unset, .unset, .unset, .unset, .unset] [(.int (p2 &&& (255 : Int32)))])) _
    refine XS.i2c X0.here hx rfl (hb hby at_10) rfl ?_
    show Steps p.tables e below (s₁.setTop (mkF m 11 #[.val (.int p1), .val (.int p2), .val (.int p3), .val (.int p4), .val (.int (p1 &&& (3 : Int32))), .unset, .unset, .unset, .unset, .unset, .unset, .unset, .unset, .unset, .unset, .unset, .unset] [(.int ((p2 &&& (255 : Int32)).toUInt32.toUInt16.toUInt32.toInt32))])) _
    refine XS.istore X0.here hx rfl (hb hby at_11) rfl (l' := #[.val (.int p1), .val (.int p2), .val (.int p3), .val (.int p4), .val (.int (p1 &&& (3 : Int32))), .val (.int ((p2 &&& (255 : Int32)).toUInt32.toUInt16.toUInt32.toInt32)), .unset, .unset, .unset, .unset, .unset, .unset, .unset, .unset, .unset, .unset, .unset]) rfl ?_
    show Steps p.tables e below (s₁.setTop (mkF m 13 #[.val (.int p1), .val (.int p2), .val (.int p3), .val (.int p4), .val (.int (p1 &&& (3 : Int32))), .val (.int ((p2 &&& (255 : Int32)).toUInt32.toUInt16.toUInt32.toInt32)), .unset, .unset, .unset, .unset, .unset, .unset, .unset, .unset, .unset, .unset, .unset] [])) _
    refine XS.iloadN X0.here hx rfl (hb hby at_13) rfl ?_
    show Steps p.tables e below (s₁.setTop (mkF m 14 #[.val (.int p1), .val (.int p2), .val (.int p3), .val (.int p4), .val (.int (p1 &&& (3 : Int32))), .val (.int ((p2 &&& (255 : Int32)).toUInt32.toUInt16.toUInt32.toInt32)), .unset, .unset, .unset, .unset, .unset, .unset, .unset, .unset, .unset, .unset, .unset] [(.int p3)])) _
    refine XS.sipush X0.here hx rfl (hb hby at_14) ?_
    show Steps p.tables e below (s₁.setTop (mkF m 17 #[.val (.int p1), .val (.int p2), .val (.int p3), .val (.int p4), .val (.int (p1 &&& (3 : Int32))), .val (.int ((p2 &&& (255 : Int32)).toUInt32.toUInt16.toUInt32.toInt32)), .unset, .unset, .unset, .unset, .unset, .unset, .unset, .unset, .unset, .unset, .unset] [(.int (255 : Int32)), (.int p3)])) _
    refine XS.iand X0.here hx rfl (hb hby at_17) rfl ?_
    show Steps p.tables e below (s₁.setTop (mkF m 18 #[.val (.int p1), .val (.int p2), .val (.int p3), .val (.int p4), .val (.int (p1 &&& (3 : Int32))), .val (.int ((p2 &&& (255 : Int32)).toUInt32.toUInt16.toUInt32.toInt32)), .unset, .unset, .unset, .unset, .unset, .unset, .unset, .unset, .unset, .unset, .unset] [(.int (p3 &&& (255 : Int32)))])) _
    refine XS.i2c X0.here hx rfl (hb hby at_18) rfl ?_
    show Steps p.tables e below (s₁.setTop (mkF m 19 #[.val (.int p1), .val (.int p2), .val (.int p3), .val (.int p4), .val (.int (p1 &&& (3 : Int32))), .val (.int ((p2 &&& (255 : Int32)).toUInt32.toUInt16.toUInt32.toInt32)), .unset, .unset, .unset, .unset, .unset, .unset, .unset, .unset, .unset, .unset, .unset] [(.int ((p3 &&& (255 : Int32)).toUInt32.toUInt16.toUInt32.toInt32))])) _
    refine XS.istore X0.here hx rfl (hb hby at_19) rfl (l' := #[.val (.int p1), .val (.int p2), .val (.int p3), .val (.int p4), .val (.int (p1 &&& (3 : Int32))), .val (.int ((p2 &&& (255 : Int32)).toUInt32.toUInt16.toUInt32.toInt32)), .val (.int ((p3 &&& (255 : Int32)).toUInt32.toUInt16.toUInt32.toInt32)), .unset, .unset, .unset, .unset, .unset, .unset, .unset, .unset, .unset, .unset]) rfl ?_
    show Steps p.tables e below (s₁.setTop (mkF m 21 #[.val (.int p1), .val (.int p2), .val (.int p3), .val (.int p4), .val (.int (p1 &&& (3 : Int32))), .val (.int ((p2 &&& (255 : Int32)).toUInt32.toUInt16.toUInt32.toInt32)), .val (.int ((p3 &&& (255 : Int32)).toUInt32.toUInt16.toUInt32.toInt32)), .unset, .unset, .unset, .unset, .unset, .unset, .unset, .unset, .unset, .unset] [])) _
    refine XS.iloadN X0.here hx rfl (hb hby at_21) rfl ?_
    show Steps p.tables e below (s₁.setTop (mkF m 22 #[.val (.int p1), .val (.int p2), .val (.int p3), .val (.int p4), .val (.int (p1 &&& (3 : Int32))), .val (.int ((p2 &&& (255 : Int32)).toUInt32.toUInt16.toUInt32.toInt32)), .val (.int ((p3 &&& (255 : Int32)).toUInt32.toUInt16.toUInt32.toInt32)), .unset, .unset, .unset, .unset, .unset, .unset, .unset, .unset, .unset, .unset] [(.int p4)])) _
    refine XS.sipush X0.here hx rfl (hb hby at_22) ?_
    show Steps p.tables e below (s₁.setTop (mkF m 25 #[.val (.int p1), .val (.int p2), .val (.int p3), .val (.int p4), .val (.int (p1 &&& (3 : Int32))), .val (.int ((p2 &&& (255 : Int32)).toUInt32.toUInt16.toUInt32.toInt32)), .val (.int ((p3 &&& (255 : Int32)).toUInt32.toUInt16.toUInt32.toInt32)), .unset, .unset, .unset, .unset, .unset, .unset, .unset, .unset, .unset, .unset] [(.int (255 : Int32)), (.int p4)])) _
    refine XS.iand X0.here hx rfl (hb hby at_25) rfl ?_
    show Steps p.tables e below (s₁.setTop (mkF m 26 #[.val (.int p1), .val (.int p2), .val (.int p3), .val (.int p4), .val (.int (p1 &&& (3 : Int32))), .val (.int ((p2 &&& (255 : Int32)).toUInt32.toUInt16.toUInt32.toInt32)), .val (.int ((p3 &&& (255 : Int32)).toUInt32.toUInt16.toUInt32.toInt32)), .unset, .unset, .unset, .unset, .unset, .unset, .unset, .unset, .unset, .unset] [(.int (p4 &&& (255 : Int32)))])) _
    refine XS.i2c X0.here hx rfl (hb hby at_26) rfl ?_
    show Steps p.tables e below (s₁.setTop (mkF m 27 #[.val (.int p1), .val (.int p2), .val (.int p3), .val (.int p4), .val (.int (p1 &&& (3 : Int32))), .val (.int ((p2 &&& (255 : Int32)).toUInt32.toUInt16.toUInt32.toInt32)), .val (.int ((p3 &&& (255 : Int32)).toUInt32.toUInt16.toUInt32.toInt32)), .unset, .unset, .unset, .unset, .unset, .unset, .unset, .unset, .unset, .unset] [(.int ((p4 &&& (255 : Int32)).toUInt32.toUInt16.toUInt32.toInt32))])) _
    refine XS.istore X0.here hx rfl (hb hby at_27) rfl (l' := #[.val (.int p1), .val (.int p2), .val (.int p3), .val (.int p4), .val (.int (p1 &&& (3 : Int32))), .val (.int ((p2 &&& (255 : Int32)).toUInt32.toUInt16.toUInt32.toInt32)), .val (.int ((p3 &&& (255 : Int32)).toUInt32.toUInt16.toUInt32.toInt32)), .val (.int ((p4 &&& (255 : Int32)).toUInt32.toUInt16.toUInt32.toInt32)), .unset, .unset, .unset, .unset, .unset, .unset, .unset, .unset, .unset]) rfl ?_
    exact k_)⟩
  have b_cu : 0 ≤ cu.toInt ∧ cu.toInt < 256 := by rw [hv_cu]; exact own_c255 _
  obtain ⟨cv, hv_cv, pre102⟩ : ∃ z_ : Int32, z_ = ((p3 &&& (255 : Int32)).toUInt32.toUInt16.toUInt32.toInt32) ∧ ∀ t_, Steps p.tables e below (s₁.setTop (mkF m 29 #[.val (.int p1), .val (.int p2), .val (.int p3), .val (.int p4), .val (.int (p1 &&& (3 : Int32))), .val (.int cu), .val (.int z_), .val (.int ((p4 &&& (255 : Int32)).toUInt32.toUInt16.toUInt32.toInt32)), .unset, .unset, .unset, .unset, .unset, .unset, .unset, .unset, .unset] [])) t_ → Steps p.tables e below (s₁.setTop (entryFrame m #[(.int p1), (.int p2), (.int p3), (.int p4)] maxLocals)) t_ := ⟨_, rfl, fun t_ k_ => pre101 _ (by
    exact k_)⟩
  have b_cv : 0 ≤ cv.toInt ∧ cv.toInt < 256 := by rw [hv_cv]; exact own_c255 _
  obtain ⟨cw, hv_cw, pre103⟩ : ∃ z_ : Int32, z_ = ((p4 &&& (255 : Int32)).toUInt32.toUInt16.toUInt32.toInt32) ∧ ∀ t_, Steps p.tables e below (s₁.setTop (mkF m 29 #[.val (.int p1), .val (.int p2), .val (.int p3), .val (.int p4), .val (.int (p1 &&& (3 : Int32))), .val (.int cu), .val (.int cv), .val (.int z_), .unset, .unset, .unset, .unset, .unset, .unset, .unset, .unset, .unset] [])) t_ → Steps p.tables e below (s₁.setTop (entryFrame m #[(.int p1), (.int p2), (.int p3), (.int p4)] maxLocals)) t_ := ⟨_, rfl, fun t_ k_ => pre102 _ (by
    exact k_)⟩
  have b_cw : 0 ≤ cw.toInt ∧ cw.toInt < 256 := by rw [hv_cw]; exact own_c255 _
  obtain ⟨un, hv_un, pre104⟩ : ∃ z_ : Int32, z_ = (p1 &&& (3 : Int32)) ∧ ∀ t_, Steps p.tables e below (s₁.setTop (mkF m 29 #[.val (.int p1), .val (.int p2), .val (.int p3), .val (.int p4), .val (.int z_), .val (.int cu), .val (.int cv), .val (.int cw), .unset, .unset, .unset, .unset, .unset, .unset, .unset, .unset, .unset] [])) t_ → Steps p.tables e below (s₁.setTop (entryFrame m #[(.int p1), (.int p2), (.int p3), (.int p4)] maxLocals)) t_ := ⟨_, rfl, fun t_ k_ => pre103 _ (by
    exact k_)⟩
  have hn : un = 0 ∨ un = 1 ∨ un = 2 ∨ un = 3 := by rw [hv_un]; exact own_u4 p1
  obtain ⟨gg, egg⟩ : ∃ z, z = own_g cu cv cw := ⟨_, rfl⟩
  have g0 : gg 0 = cu := by rw [egg]; rfl
  have g1 : gg 1 = cv := by rw [egg]; rfl
  have g2 : gg 2 = cw := by rw [egg]; rfl
  have lat : ∀ n, own_lat n gg := fun n => by rw [egg]; exact own_glat b_cu b_cv b_cw n
  rcases hn with q | q | q | q
  · skip
    subst q
    obtain ⟨T105, h105, k_ca, X105, e105, Ext_ca, A_ca, st105⟩ := newP X0 hx hZ (hw _ (List.mem_of_getElem? (i := 0) rfl)) e0 (g := (mkF m 31 #[.val (.int p1), .val (.int p2), .val (.int p3), .val (.int p4), .val (.int (0 : Int32)), .val (.int cu), .val (.int cv), .val (.int cw), .unset, .unset, .unset, .unset, .unset, .unset, .unset, .unset, .unset] [(.int (0 : Int32))])) rfl (hb hby at_31) rfl (by decide) (cap := 0) (by decide) (by decide) (by decide) (by decide)
    obtain ⟨ca, eq_ca⟩ : ∃ z, z = h0.size := ⟨_, rfl⟩
    rw [← eq_ca] at A_ca st105
    have g_ca : n0 ≤ ca := Nat.le_trans Z0 (Nat.le_of_eq eq_ca.symm)
    have O_106 := O.ext Ext_ca
    have Z107 : n0 ≤ h105.size := Nat.le_trans Z0 (Ext_ca.1)
    have ch108 := (CHr.refl hH).trans (CHr.ext Ext_ca (CHr.refl hH).1)
    have V_ca : Arv Z h105 ca k_ca .char (0 : Int32) [] (.int (0 : Int32)) := Arv.new A_ca (by decide)
    obtain ⟨T109, h109, k_cb, X109, e109, Ext_cb, A_cb, st109⟩ := newP X105 hx hZ (hw _ (List.mem_of_getElem? (i := 0) rfl)) e105 (g := (mkF m 37 #[.val (.int p1), .val (.int p2), .val (.int p3), .val (.int p4), .val (.int (0 : Int32)), .val (.int cu), .val (.int cv), .val (.int cw), .val (.ref ca), .unset, .unset, .unset, .unset, .unset, .unset, .unset, .unset] [(.int (0 : Int32))])) rfl (hb hby at_37) rfl (by decide) (cap := 0) (by decide) (by decide) (by decide) (by decide)
    obtain ⟨cb, eq_cb⟩ : ∃ z, z = h105.size := ⟨_, rfl⟩
    rw [← eq_cb] at A_cb st109
    have g_cb : n0 ≤ cb := Nat.le_trans Z107 (Nat.le_of_eq eq_cb.symm)
    have O_110 := O_106.ext Ext_cb
    have ne_ca_cb : ca ≠ cb := Nat.ne_of_lt (Nat.lt_of_lt_of_le V_ca.lt (Nat.le_of_eq eq_cb.symm))
    have V_ca_111 := V_ca.ext Ext_cb
    have Z112 : n0 ≤ h109.size := Nat.le_trans Z107 (Ext_cb.1)
    have ch113 := ch108.trans (CHr.ext Ext_cb ch108.1)
    have V_cb : Arv Z h109 cb k_cb .char (0 : Int32) [] (.int (0 : Int32)) := Arv.new A_cb (by decide)
    obtain ⟨T114, h114, X114, e114, Ext_s1, E_s1, D_s1, -, st114⟩ := newO X109 hx hZ hown (hw _ (List.mem_of_getElem? (i := 1) rfl)) (hw _ (List.mem_of_getElem? (i := 2) rfl)) (hw _ (List.mem_of_getElem? (i := 3) rfl)) e109 (g := (mkF m 95 #[.val (.int p1), .val (.int p2), .val (.int p3), .val (.int p4), .val (.int (0 : Int32)), .val (.int cu), .val (.int cv), .val (.int cw), .val (.ref ca), .val (.ref cb), .unset, .unset, .unset, .unset, .unset, .unset, .unset] [])) rfl (hb hby at_95) (by decide) (by decide)
    obtain ⟨s1, eq_s1⟩ : ∃ z, z = h109.size := ⟨_, rfl⟩
    rw [← eq_s1] at E_s1 D_s1 st114
    have g_s1 : n0 ≤ s1 := Nat.le_trans Z112 (Nat.le_of_eq eq_s1.symm)
    have O_115 := O_110.ext Ext_s1
    have ne_ca_s1 : ca ≠ s1 := Nat.ne_of_lt (Nat.lt_of_lt_of_le V_ca_111.lt (Nat.le_of_eq eq_s1.symm))
    have V_ca_116 := V_ca_111.ext Ext_s1
    have ne_cb_s1 : cb ≠ s1 := Nat.ne_of_lt (Nat.lt_of_lt_of_le V_cb.lt (Nat.le_of_eq eq_s1.symm))
    have V_cb_118 := V_cb.ext Ext_s1
    have Z119 : n0 ≤ h114.size := Nat.le_trans Z112 (Ext_s1.1)
    have ch120 := ch113.trans (CHr.ext Ext_s1 ch113.1)
    have Fv_s1 : Fld Z h114 s1 "java/lang/String" "value" "[B" .null := D_s1 (Or.inr (hw _ (List.mem_of_getElem? (i := 16) rfl))) (ty := (.array .byte)) (by decide)
    have Fc_s1 : Fld Z h114 s1 "java/lang/String" "coder" "B" (.int (0 : Int32)) := D_s1 (Or.inr (hw _ (List.mem_of_getElem? (i := 17) rfl))) (ty := .byte) (by decide)
    obtain ⟨_, _, ⟨T121, L121, k121, n121⟩, -, X121, hS121, hle121, ⟨Lc121, hQ121, l121, y121, z121, hC121⟩, st121⟩ := Jvm.Stand.specialBackS (s := (s.setVm s.vm)) X114 hx (y := (⟨"java/lang/String", "<init>", "([C)V"⟩ : MethodName)) rfl hown (mvT hZ (hw _ (List.mem_of_getElem? (i := 4) rfl))) (mvT hZ (hw _ (List.mem_of_getElem? (i := 5) rfl))) (mvT hZ (hw _ (List.mem_of_getElem? (i := 6) rfl))) (by decide) (backOfSH (s := s) (vm0 := s.vm) (W := 1) (rmS1 l Z a0 hw [] s1 ca k_ca h114 n0 Z119 E_s1 Fv_s1 Fc_s1 g_s1 V_ca_116) hZ (hw _ (List.mem_of_getElem? (i := 6) rfl)) (hw _ (List.mem_of_getElem? (i := 3) rfl)) (by decide) (by decide) (own_EW hw) ch120.1) (g := (mkF m 101 #[.val (.int p1), .val (.int p2), .val (.int p3), .val (.int p4), .val (.int (0 : Int32)), .val (.int cu), .val (.int cv), .val (.int cw), .val (.ref ca), .val (.ref cb), .unset, .unset, .unset, .unset, .unset, .unset, .unset] [(.ref ca), (.ref s1), (.ref s1)])) rfl (by rw [hml]; rfl) (Steps.refl _) (a := s1) (argsL := [(.ref ca)]) (rest := [(.ref s1)]) (lenOf pd_20 rfl) rfl (by show 2 * 0 + _ ≤ _; exact Nat.le_of_eq rfl) (hb hby at_101) (fun _ _ => ⟨rfl, e114, (by decide : 3 + 4 ≤ _), (by decide : 4 + 8 ≤ _)⟩)
    dsimp only [Pt.U, Pt.locs, Pt.cells, Pt.slots] at X121 l121 y121 z121 st121 hQ121 hS121 hle121 hC121
    rw [l121, y121, z121] at X121
    have hle121' : h114.size ≤ T121.heap.size := by have q := hle121; rw [e114] at q; exact q
    obtain ⟨X121', hS121', hZ121, hown121⟩ := rebS (s := s) (vm0 := s.vm) ((State.WarmedH.refl s).since 0) (Nat.zero_le _) X121 hS121 hle121' hZ hown
    obtain ⟨hv121, N121q, K121, t1, kb121, Es121, Vs121, Cs121, As121, Bs121⟩ := hQ121
    rw [hv121] at st121
    have N121 := Fr.app N0 N121q
    have ch122 := ch120.trans hC121
    have LL_s1 : own_L Z T121.heap s1 t1 0 gg := own_L0 Es121 Vs121 Cs121 As121 Bs121
    have O_123 := O_115.keep K121 (allS g_s1 all0)
    have V_cb_125 := V_cb_118.keep K121 (ninS ne_cb_s1 nin0)
    have Z128 : n0 ≤ T121.heap.size := Nat.le_trans Z119 (K121.1)
    have ltS := LL_s1.1.lt
    have ltT := LL_s1.2.2.2.2.lt
    obtain ⟨T129, h129, X129, e129, Ext_s2, E_s2, D_s2, -, st129⟩ := newO X121' hx hZ121 hown121 (hw _ (List.mem_of_getElem? (i := 1) rfl)) (hw _ (List.mem_of_getElem? (i := 2) rfl)) (hw _ (List.mem_of_getElem? (i := 3) rfl)) rfl (g := (mkF m 106 #[.val (.int p1), .val (.int p2), .val (.int p3), .val (.int p4), .val (.int (0 : Int32)), .val (.int cu), .val (.int cv), .val (.int cw), .val (.ref ca), .val (.ref cb), .val (.ref s1), .unset, .unset, .unset, .unset, .unset, .unset] [])) rfl (hb hby at_106) (by decide) (by decide)
    obtain ⟨s2, eq_s2⟩ : ∃ z, z = T121.heap.size := ⟨_, rfl⟩
    rw [← eq_s2] at E_s2 D_s2 st129
    have g_s2 : n0 ≤ s2 := Nat.le_trans Z128 (Nat.le_of_eq eq_s2.symm)
    have ne_cb_s2 : cb ≠ s2 := Nat.ne_of_lt (Nat.lt_of_lt_of_le V_cb_125.lt (Nat.le_of_eq eq_s2.symm))
    have V_cb_131 := V_cb_125.ext Ext_s2
    have O_134 := O_123.ext Ext_s2
    have Z135 : n0 ≤ h129.size := Nat.le_trans Z128 (Ext_s2.1)
    have hk136 := Nat.le_trans (Nat.le_refl _) (Ext_s2.1)
    have ch137 := ch122.trans (CHr.ext Ext_s2 ch122.1)
    have L_138 := own_Lx LL_s1 Ext_s2
    have Fv_s2 : Fld Z h129 s2 "java/lang/String" "value" "[B" .null := D_s2 (Or.inr (hw _ (List.mem_of_getElem? (i := 16) rfl))) (ty := (.array .byte)) (by decide)
    have Fc_s2 : Fld Z h129 s2 "java/lang/String" "coder" "B" (.int (0 : Int32)) := D_s2 (Or.inr (hw _ (List.mem_of_getElem? (i := 17) rfl))) (ty := .byte) (by decide)
    have ne12 : s1 ≠ s2 := Nat.ne_of_lt (Nat.lt_of_lt_of_le ltS (Nat.le_of_eq eq_s2.symm))
    have net2 : t1 ≠ s2 := Nat.ne_of_lt (Nat.lt_of_lt_of_le ltT (Nat.le_of_eq eq_s2.symm))
    obtain ⟨_, _, ⟨T139, L139, k139, n139⟩, -, X139, hS139, hle139, ⟨Lc139, hQ139, l139, y139, z139, hC139⟩, st139⟩ := Jvm.Stand.specialBackS (s := (s.setVm T121.vm)) X129 hx (y := (⟨"java/lang/String", "<init>", "([C)V"⟩ : MethodName)) rfl hown121 (mvT hZ121 (hw _ (List.mem_of_getElem? (i := 4) rfl))) (mvT hZ121 (hw _ (List.mem_of_getElem? (i := 5) rfl))) (mvT hZ121 (hw _ (List.mem_of_getElem? (i := 6) rfl))) (by decide) (backOfSH (s := s) (vm0 := T121.vm) (W := 1) (rmS1 l Z a0 hw [] s2 cb k_cb h129 n0 Z135 E_s2 Fv_s2 Fc_s2 g_s2 V_cb_131) hZ121 (hw _ (List.mem_of_getElem? (i := 6) rfl)) (hw _ (List.mem_of_getElem? (i := 3) rfl)) (by decide) (by decide) (own_EW hw) ch137.1) (g := (mkF m 112 #[.val (.int p1), .val (.int p2), .val (.int p3), .val (.int p4), .val (.int (0 : Int32)), .val (.int cu), .val (.int cv), .val (.int cw), .val (.ref ca), .val (.ref cb), .val (.ref s1), .unset, .unset, .unset, .unset, .unset, .unset] [(.ref cb), (.ref s2), (.ref s2)])) rfl (by rw [hml]; rfl) (Steps.refl _) (a := s2) (argsL := [(.ref cb)]) (rest := [(.ref s2)]) (lenOf pd_20 rfl) rfl (by show 2 * 0 + _ ≤ _; exact Nat.le_of_eq rfl) (hb hby at_112) (fun _ _ => ⟨rfl, e129, (by decide : 8 + 4 ≤ _), (by decide : 16 + 8 ≤ _)⟩)
    dsimp only [Pt.U, Pt.locs, Pt.cells, Pt.slots] at X139 l139 y139 z139 st139 hQ139 hS139 hle139 hC139
    rw [l139, y139, z139] at X139
    have hle139' : h129.size ≤ T139.heap.size := by have q := hle139; rw [e129] at q; exact q
    obtain ⟨X139', hS139', hZ139, hown139⟩ := rebS (s := s) (vm0 := T121.vm) hS121' hk136 X139 hS139 hle139' hZ121 hown121
    obtain ⟨hv139, N139q, K139, t2, kb139, Es139, Vs139, Cs139, As139, Bs139⟩ := hQ139
    rw [hv139] at st139
    have N139 := Fr.app N121 N139q
    have ch140 := ch137.trans hC139
    have LL_s2 : own_L Z T139.heap s2 t2 0 gg := own_L0 Es139 Vs139 Cs139 As139 Bs139
    have O_141 := O_134.keep K139 (allS g_s2 all0)
    have L_142 := own_Lo L_138 K139 (ninS ne12 nin0) (ninS net2 nin0)
    have Z147 : n0 ≤ T139.heap.size := Nat.le_trans Z135 (K139.1)
    obtain ⟨_, _, ⟨T148, L148, k148, n148⟩, -, X148, hS148, hle148, ⟨Lc148, hQ148, l148, y148, z148⟩, st148⟩ := callSS (s := (s.setVm T139.vm)) X139' hx (y := (⟨"com/example/ledgerpost/ledgerpost/Payload", "ofText", "(Ljava/lang/String;)Lcom/example/ledgerpost/ledgerpost/Payload;"⟩ : MethodName)) hown139 (mvT hZ139 (hw _ (List.mem_of_getElem? (i := 22) rfl))) (mvT hZ139 (hw _ (List.mem_of_getElem? (i := 23) rfl))) (mvT hZ139 (hw _ (List.mem_of_getElem? (i := 24) rfl))) (mvT hZ139 (hw _ (List.mem_of_getElem? (i := 25) rfl))) (by decide) (backOfS (W := 0) (rmO l Z a0 hw [] s1 T139.heap n0 Z147 L_142.1) hZ139 (hw _ (List.mem_of_getElem? (i := 25) rfl)) (hw _ (List.mem_of_getElem? (i := 24) rfl)) (by decide) (by decide)) (g := (mkF m 119 #[.val (.int p1), .val (.int p2), .val (.int p3), .val (.int p4), .val (.int (0 : Int32)), .val (.int cu), .val (.int cv), .val (.int cw), .val (.ref ca), .val (.ref cb), .val (.ref s1), .val (.ref s2), .unset, .unset, .unset, .unset, .unset] [(.ref s1)])) rfl (by rw [hml]; rfl) (argsL := [(.ref s1)]) (rest := []) (lenOf pd_21 rfl) rfl (by show 2 * 0 + _ ≤ _; exact Nat.le_of_eq rfl) (hb hby at_119) (fun _ _ => ⟨rfl, rfl, (by decide : 12 + 3 ≤ _), (by decide : 24 + 22 ≤ _)⟩)
    dsimp only [Pt.U, Pt.locs, Pt.cells, Pt.slots] at X148 l148 y148 z148 st148 hQ148 hS148 hle148
    rw [l148, y148, z148] at X148
    have hle148' := hle148
    obtain ⟨X148', hS148', hZ148, hown148⟩ := rebS (s := s) (vm0 := T139.vm) hS139' (Nat.le_refl _) X148 hS148 hle148' hZ139 hown139
    obtain ⟨pa, hv148, N148q, K148, E148, F0148, F1148, lp148⟩ := hQ148
    rw [hv148] at st148
    have N148 := Fr.app N139 N148q
    have O_149 := O_141.keep K148 all0
    have L_150 := own_Lk L_142 K148
    have L_151 := own_Lk LL_s2 K148
    have Z152 : n0 ≤ T148.heap.size := Nat.le_trans Z147 (K148.1)
    obtain ⟨cq153, kq153, q153a, q153b, q153c⟩ := isOf hZ148 rfl E148
    obtain ⟨_, _, ⟨T153, L153, k153, n153⟩, -, X153, ⟨Lc153, hQ153, l153, y153, z153⟩, st153⟩ := X148'.virtualBack hx (y := (⟨"com/example/ledgerpost/ledgerpost/Payload", "isText", "()Z"⟩ : MethodName)) (z := (⟨"com/example/ledgerpost/ledgerpost/Payload", "isText", "()Z"⟩ : MethodName)) hown148 (mvT hZ148 (hw _ (List.mem_of_getElem? (i := 42) rfl))) (mvT hZ148 (hw _ (List.mem_of_getElem? (i := 43) rfl))) (notFace_of_selects (args := #[]) (mvT hZ148 (hw _ (List.mem_of_getElem? (i := 45) rfl)))) (mvT hZ148 (hw _ (List.mem_of_getElem? (i := 45) rfl))) (mvT hZ148 (hw _ (List.mem_of_getElem? (i := 44) rfl))) (by decide) (backOf (W := 0) (rmIt l Z a0 hw [] pa s1 T148.heap n0 Z152 F0148) hZ148 (hw _ (List.mem_of_getElem? (i := 46) rfl)) (hw _ (List.mem_of_getElem? (i := 24) rfl)) (by decide) (by decide)) q153a q153c (g := (mkF m 126 #[.val (.int p1), .val (.int p2), .val (.int p3), .val (.int p4), .val (.int (0 : Int32)), .val (.int cu), .val (.int cv), .val (.int cw), .val (.ref ca), .val (.ref cb), .val (.ref s1), .val (.ref s2), .val (.ref pa), .unset, .unset, .unset, .unset] [(.ref pa)])) rfl (by rw [hml]; rfl) (Steps.refl _) (argsL := []) (rest := []) (lenOf pd_22 rfl) rfl (by show 2 * 0 + _ ≤ _; exact Nat.le_of_eq rfl) (hb hby at_126) (fun _ _ => ⟨rfl, rfl, (by decide : 15 + 0 ≤ _), (by decide : 46 + 0 ≤ _)⟩)
    dsimp only [Pt.U, Pt.locs, Pt.cells, Pt.slots] at X153 l153 y153 z153 st153 hQ153
    rw [l153, y153, z153] at X153
    obtain ⟨hv153, N153q, e153⟩ := hQ153
    rw [hv153] at st153
    have N153 := Fr.app N148 N153q
    have pre154 : ∀ t_, Steps p.tables e below (T153.setTop (mkF m 129 #[.val (.int p1), .val (.int p2), .val (.int p3), .val (.int p4), .val (.int (0 : Int32)), .val (.int cu), .val (.int cv), .val (.int cw), .val (.ref ca), .val (.ref cb), .val (.ref s1), .val (.ref s2), .val (.ref pa), .unset, .unset, .unset, .unset] [(.int (1 : Int32))])) t_ → Steps p.tables e below (s₁.setTop (entryFrame m #[(.int p1), (.int p2), (.int p3), (.int p4)] maxLocals)) t_ := fun t_ k_ => pre104 _ (by
      show Steps p.tables e below (s₁.setTop (mkF m 29 #[.val (.int p1), .val (.int p2), .val (.int p3), .val (.int p4), .val (.int (0 : Int32)), .val (.int cu), .val (.int cv), .val (.int cw), .unset, .unset, .unset, .unset, .unset, .unset, .unset, .unset, .unset] [])) _
      refine XS.iload X0.here hx rfl (hb hby at_29) rfl ?_
      show Steps p.tables e below (s₁.setTop (mkF m 31 #[.val (.int p1), .val (.int p2), .val (.int p3), .val (.int p4), .val (.int (0 : Int32)), .val (.int cu), .val (.int cv), .val (.int cw), .unset, .unset, .unset, .unset, .unset, .unset, .unset, .unset, .unset] [(.int (0 : Int32))])) _
      refine st105 _ ?_
      show Steps p.tables e below (T105.setTop (mkF m 33 #[.val (.int p1), .val (.int p2), .val (.int p3), .val (.int p4), .val (.int (0 : Int32)), .val (.int cu), .val (.int cv), .val (.int cw), .unset, .unset, .unset, .unset, .unset, .unset, .unset, .unset, .unset] [(.ref ca)])) _
      refine XS.astore X105.here hx rfl (hb hby at_33) rfl rfl (l' := #[.val (.int p1), .val (.int p2), .val (.int p3), .val (.int p4), .val (.int (0 : Int32)), .val (.int cu), .val (.int cv), .val (.int cw), .val (.ref ca), .unset, .unset, .unset, .unset, .unset, .unset, .unset, .unset]) rfl ?_
      show Steps p.tables e below (T105.setTop (mkF m 35 #[.val (.int p1), .val (.int p2), .val (.int p3), .val (.int p4), .val (.int (0 : Int32)), .val (.int cu), .val (.int cv), .val (.int cw), .val (.ref ca), .unset, .unset, .unset, .unset, .unset, .unset, .unset, .unset] [])) _
      refine XS.iload X105.here hx rfl (hb hby at_35) rfl ?_
      show Steps p.tables e below (T105.setTop (mkF m 37 #[.val (.int p1), .val (.int p2), .val (.int p3), .val (.int p4), .val (.int (0 : Int32)), .val (.int cu), .val (.int cv), .val (.int cw), .val (.ref ca), .unset, .unset, .unset, .unset, .unset, .unset, .unset, .unset] [(.int (0 : Int32))])) _
      refine st109 _ ?_
      show Steps p.tables e below (T109.setTop (mkF m 39 #[.val (.int p1), .val (.int p2), .val (.int p3), .val (.int p4), .val (.int (0 : Int32)), .val (.int cu), .val (.int cv), .val (.int cw), .val (.ref ca), .unset, .unset, .unset, .unset, .unset, .unset, .unset, .unset] [(.ref cb)])) _
      refine XS.astore X109.here hx rfl (hb hby at_39) rfl rfl (l' := #[.val (.int p1), .val (.int p2), .val (.int p3), .val (.int p4), .val (.int (0 : Int32)), .val (.int cu), .val (.int cv), .val (.int cw), .val (.ref ca), .val (.ref cb), .unset, .unset, .unset, .unset, .unset, .unset, .unset]) rfl ?_
      show Steps p.tables e below (T109.setTop (mkF m 41 #[.val (.int p1), .val (.int p2), .val (.int p3), .val (.int p4), .val (.int (0 : Int32)), .val (.int cu), .val (.int cv), .val (.int cw), .val (.ref ca), .val (.ref cb), .unset, .unset, .unset, .unset, .unset, .unset, .unset] [])) _
      refine XS.iload X109.here hx rfl (hb hby at_41) rfl ?_
      show Steps p.tables e below (T109.setTop (mkF m 43 #[.val (.int p1), .val (.int p2), .val (.int p3), .val (.int p4), .val (.int (0 : Int32)), .val (.int cu), .val (.int cv), .val (.int cw), .val (.ref ca), .val (.ref cb), .unset, .unset, .unset, .unset, .unset, .unset, .unset] [(.int (0 : Int32))])) _
      refine XS.iconst X109.here hx rfl (hb hby at_43) ?_
      show Steps p.tables e below (T109.setTop (mkF m 44 #[.val (.int p1), .val (.int p2), .val (.int p3), .val (.int p4), .val (.int (0 : Int32)), .val (.int cu), .val (.int cv), .val (.int cw), .val (.ref ca), .val (.ref cb), .unset, .unset, .unset, .unset, .unset, .unset, .unset] [(.int (1 : Int32)), (.int (0 : Int32))])) _
      refine XS.icmpYes X109.here hx rfl (pc0 := 44) (pc' := 59) rfl (hb hby at_44) rfl (tlt (by decide)).1 (by decide) (by decide) ?_
      show Steps p.tables e below (T109.setTop (mkF m 59 #[.val (.int p1), .val (.int p2), .val (.int p3), .val (.int p4), .val (.int (0 : Int32)), .val (.int cu), .val (.int cv), .val (.int cw), .val (.ref ca), .val (.ref cb), .unset, .unset, .unset, .unset, .unset, .unset, .unset] [])) _
      refine XS.iload X109.here hx rfl (hb hby at_59) rfl ?_
      show Steps p.tables e below (T109.setTop (mkF m 61 #[.val (.int p1), .val (.int p2), .val (.int p3), .val (.int p4), .val (.int (0 : Int32)), .val (.int cu), .val (.int cv), .val (.int cw), .val (.ref ca), .val (.ref cb), .unset, .unset, .unset, .unset, .unset, .unset, .unset] [(.int (0 : Int32))])) _
      refine XS.iconst X109.here hx rfl (hb hby at_61) ?_
      show Steps p.tables e below (T109.setTop (mkF m 62 #[.val (.int p1), .val (.int p2), .val (.int p3), .val (.int p4), .val (.int (0 : Int32)), .val (.int cu), .val (.int cv), .val (.int cw), .val (.ref ca), .val (.ref cb), .unset, .unset, .unset, .unset, .unset, .unset, .unset] [(.int (2 : Int32)), (.int (0 : Int32))])) _
      refine XS.icmpYes X109.here hx rfl (pc0 := 62) (pc' := 77) rfl (hb hby at_62) rfl (tlt (by decide)).1 (by decide) (by decide) ?_
      show Steps p.tables e below (T109.setTop (mkF m 77 #[.val (.int p1), .val (.int p2), .val (.int p3), .val (.int p4), .val (.int (0 : Int32)), .val (.int cu), .val (.int cv), .val (.int cw), .val (.ref ca), .val (.ref cb), .unset, .unset, .unset, .unset, .unset, .unset, .unset] [])) _
      refine XS.iload X109.here hx rfl (hb hby at_77) rfl ?_
      show Steps p.tables e below (T109.setTop (mkF m 79 #[.val (.int p1), .val (.int p2), .val (.int p3), .val (.int p4), .val (.int (0 : Int32)), .val (.int cu), .val (.int cv), .val (.int cw), .val (.ref ca), .val (.ref cb), .unset, .unset, .unset, .unset, .unset, .unset, .unset] [(.int (0 : Int32))])) _
      refine XS.iconst X109.here hx rfl (hb hby at_79) ?_
      show Steps p.tables e below (T109.setTop (mkF m 80 #[.val (.int p1), .val (.int p2), .val (.int p3), .val (.int p4), .val (.int (0 : Int32)), .val (.int cu), .val (.int cv), .val (.int cw), .val (.ref ca), .val (.ref cb), .unset, .unset, .unset, .unset, .unset, .unset, .unset] [(.int (3 : Int32)), (.int (0 : Int32))])) _
      refine XS.icmpYes X109.here hx rfl (pc0 := 80) (pc' := 95) rfl (hb hby at_80) rfl (tlt (by decide)).1 (by decide) (by decide) ?_
      show Steps p.tables e below (T109.setTop (mkF m 95 #[.val (.int p1), .val (.int p2), .val (.int p3), .val (.int p4), .val (.int (0 : Int32)), .val (.int cu), .val (.int cv), .val (.int cw), .val (.ref ca), .val (.ref cb), .unset, .unset, .unset, .unset, .unset, .unset, .unset] [])) _
      refine st114 _ ?_
      show Steps p.tables e below (T114.setTop (mkF m 98 #[.val (.int p1), .val (.int p2), .val (.int p3), .val (.int p4), .val (.int (0 : Int32)), .val (.int cu), .val (.int cv), .val (.int cw), .val (.ref ca), .val (.ref cb), .unset, .unset, .unset, .unset, .unset, .unset, .unset] [(.ref s1)])) _
      refine XS.dup X114.here hx rfl (hb hby at_98) rfl rfl ?_
      show Steps p.tables e below (T114.setTop (mkF m 99 #[.val (.int p1), .val (.int p2), .val (.int p3), .val (.int p4), .val (.int (0 : Int32)), .val (.int cu), .val (.int cv), .val (.int cw), .val (.ref ca), .val (.ref cb), .unset, .unset, .unset, .unset, .unset, .unset, .unset] [(.ref s1), (.ref s1)])) _
      refine XS.aload X114.here hx rfl (hb hby at_99) rfl rfl ?_
      show Steps p.tables e below (T114.setTop (mkF m 101 #[.val (.int p1), .val (.int p2), .val (.int p3), .val (.int p4), .val (.int (0 : Int32)), .val (.int cu), .val (.int cv), .val (.int cw), .val (.ref ca), .val (.ref cb), .unset, .unset, .unset, .unset, .unset, .unset, .unset] [(.ref ca), (.ref s1), (.ref s1)])) _
      refine st121.trans ?_
      show Steps p.tables e below (T121.setTop (mkF m 104 #[.val (.int p1), .val (.int p2), .val (.int p3), .val (.int p4), .val (.int (0 : Int32)), .val (.int cu), .val (.int cv), .val (.int cw), .val (.ref ca), .val (.ref cb), .unset, .unset, .unset, .unset, .unset, .unset, .unset] [(.ref s1)])) _
      refine XS.astore X121'.here hx rfl (hb hby at_104) rfl rfl (l' := #[.val (.int p1), .val (.int p2), .val (.int p3), .val (.int p4), .val (.int (0 : Int32)), .val (.int cu), .val (.int cv), .val (.int cw), .val (.ref ca), .val (.ref cb), .val (.ref s1), .unset, .unset, .unset, .unset, .unset, .unset]) rfl ?_
      show Steps p.tables e below (T121.setTop (mkF m 106 #[.val (.int p1), .val (.int p2), .val (.int p3), .val (.int p4), .val (.int (0 : Int32)), .val (.int cu), .val (.int cv), .val (.int cw), .val (.ref ca), .val (.ref cb), .val (.ref s1), .unset, .unset, .unset, .unset, .unset, .unset] [])) _
      refine st129 _ ?_
      show Steps p.tables e below (T129.setTop (mkF m 109 #[.val (.int p1), .val (.int p2), .val (.int p3), .val (.int p4), .val (.int (0 : Int32)), .val (.int cu), .val (.int cv), .val (.int cw), .val (.ref ca), .val (.ref cb), .val (.ref s1), .unset, .unset, .unset, .unset, .unset, .unset] [(.ref s2)])) _
      refine XS.dup X129.here hx rfl (hb hby at_109) rfl rfl ?_
      show Steps p.tables e below (T129.setTop (mkF m 110 #[.val (.int p1), .val (.int p2), .val (.int p3), .val (.int p4), .val (.int (0 : Int32)), .val (.int cu), .val (.int cv), .val (.int cw), .val (.ref ca), .val (.ref cb), .val (.ref s1), .unset, .unset, .unset, .unset, .unset, .unset] [(.ref s2), (.ref s2)])) _
      refine XS.aload X129.here hx rfl (hb hby at_110) rfl rfl ?_
      show Steps p.tables e below (T129.setTop (mkF m 112 #[.val (.int p1), .val (.int p2), .val (.int p3), .val (.int p4), .val (.int (0 : Int32)), .val (.int cu), .val (.int cv), .val (.int cw), .val (.ref ca), .val (.ref cb), .val (.ref s1), .unset, .unset, .unset, .unset, .unset, .unset] [(.ref cb), (.ref s2), (.ref s2)])) _
      refine st139.trans ?_
      show Steps p.tables e below (T139.setTop (mkF m 115 #[.val (.int p1), .val (.int p2), .val (.int p3), .val (.int p4), .val (.int (0 : Int32)), .val (.int cu), .val (.int cv), .val (.int cw), .val (.ref ca), .val (.ref cb), .val (.ref s1), .unset, .unset, .unset, .unset, .unset, .unset] [(.ref s2)])) _
      refine XS.astore X139'.here hx rfl (hb hby at_115) rfl rfl (l' := #[.val (.int p1), .val (.int p2), .val (.int p3), .val (.int p4), .val (.int (0 : Int32)), .val (.int cu), .val (.int cv), .val (.int cw), .val (.ref ca), .val (.ref cb), .val (.ref s1), .val (.ref s2), .unset, .unset, .unset, .unset, .unset]) rfl ?_
      show Steps p.tables e below (T139.setTop (mkF m 117 #[.val (.int p1), .val (.int p2), .val (.int p3), .val (.int p4), .val (.int (0 : Int32)), .val (.int cu), .val (.int cv), .val (.int cw), .val (.ref ca), .val (.ref cb), .val (.ref s1), .val (.ref s2), .unset, .unset, .unset, .unset, .unset] [])) _
      refine XS.aload X139'.here hx rfl (hb hby at_117) rfl rfl ?_
      show Steps p.tables e below (T139.setTop (mkF m 119 #[.val (.int p1), .val (.int p2), .val (.int p3), .val (.int p4), .val (.int (0 : Int32)), .val (.int cu), .val (.int cv), .val (.int cw), .val (.ref ca), .val (.ref cb), .val (.ref s1), .val (.ref s2), .unset, .unset, .unset, .unset, .unset] [(.ref s1)])) _
      refine st148.trans ?_
      show Steps p.tables e below (T148.setTop (mkF m 122 #[.val (.int p1), .val (.int p2), .val (.int p3), .val (.int p4), .val (.int (0 : Int32)), .val (.int cu), .val (.int cv), .val (.int cw), .val (.ref ca), .val (.ref cb), .val (.ref s1), .val (.ref s2), .unset, .unset, .unset, .unset, .unset] [(.ref pa)])) _
      refine XS.astore X148'.here hx rfl (hb hby at_122) rfl rfl (l' := #[.val (.int p1), .val (.int p2), .val (.int p3), .val (.int p4), .val (.int (0 : Int32)), .val (.int cu), .val (.int cv), .val (.int cw), .val (.ref ca), .val (.ref cb), .val (.ref s1), .val (.ref s2), .val (.ref pa), .unset, .unset, .unset, .unset]) rfl ?_
      show Steps p.tables e below (T148.setTop (mkF m 124 #[.val (.int p1), .val (.int p2), .val (.int p3), .val (.int p4), .val (.int (0 : Int32)), .val (.int cu), .val (.int cv), .val (.int cw), .val (.ref ca), .val (.ref cb), .val (.ref s1), .val (.ref s2), .val (.ref pa), .unset, .unset, .unset, .unset] [])) _
      refine XS.aload X148'.here hx rfl (hb hby at_124) rfl rfl ?_
      show Steps p.tables e below (T148.setTop (mkF m 126 #[.val (.int p1), .val (.int p2), .val (.int p3), .val (.int p4), .val (.int (0 : Int32)), .val (.int cu), .val (.int cv), .val (.int cw), .val (.ref ca), .val (.ref cb), .val (.ref s1), .val (.ref s2), .val (.ref pa), .unset, .unset, .unset, .unset] [(.ref pa)])) _
      refine st153.trans ?_
      exact k_)
    obtain ⟨cq155, kq155, q155a, q155b, q155c⟩ := isOf hZ148 e153 E148
    obtain ⟨_, _, ⟨T155, L155, k155, n155⟩, -, X155, ⟨Lc155, hQ155, l155, y155, z155⟩, st155⟩ := X153.virtualBack hx (y := (⟨"com/example/ledgerpost/ledgerpost/Payload", "text", "()Ljava/lang/String;"⟩ : MethodName)) (z := (⟨"com/example/ledgerpost/ledgerpost/Payload", "text", "()Ljava/lang/String;"⟩ : MethodName)) hown148 (mvT hZ148 (hw _ (List.mem_of_getElem? (i := 47) rfl))) (mvT hZ148 (hw _ (List.mem_of_getElem? (i := 48) rfl))) (notFace_of_selects (args := #[]) (mvT hZ148 (hw _ (List.mem_of_getElem? (i := 50) rfl)))) (mvT hZ148 (hw _ (List.mem_of_getElem? (i := 50) rfl))) (mvT hZ148 (hw _ (List.mem_of_getElem? (i := 49) rfl))) (by decide) (backOf (W := 0) (rmTx l Z a0 hw [] pa s1 T148.heap n0 Z152 F0148) hZ148 (hw _ (List.mem_of_getElem? (i := 51) rfl)) (hw _ (List.mem_of_getElem? (i := 24) rfl)) (by decide) (by decide)) q155a q155c (g := (mkF m 136 #[.val (.int p1), .val (.int p2), .val (.int p3), .val (.int p4), .val (.int (0 : Int32)), .val (.int cu), .val (.int cv), .val (.int cw), .val (.ref ca), .val (.ref cb), .val (.ref s1), .val (.ref s2), .val (.ref pa), .unset, .unset, .unset, .unset] [(.ref pa)])) rfl (by rw [hml]; rfl) (Steps.refl _) (argsL := []) (rest := []) (lenOf pd_23 rfl) rfl (by show 2 * 0 + _ ≤ _; exact Nat.le_of_eq rfl) (hb hby at_136) (fun _ _ => ⟨rfl, e153, (by decide : 15 + 0 ≤ _), (by decide : 46 + 0 ≤ _)⟩)
    dsimp only [Pt.U, Pt.locs, Pt.cells, Pt.slots] at X155 l155 y155 z155 st155 hQ155
    rw [l155, y155, z155] at X155
    obtain ⟨hv155, N155q, e155⟩ := hQ155
    rw [hv155] at st155
    have N155 := Fr.app N153 N155q
    obtain ⟨cq156, kq156, q156a, q156b, q156c⟩ := isOf hZ148 e155 L_150.1
    obtain ⟨_, _, ⟨T156, L156, k156, n156⟩, -, X156, ⟨Lc156, hQ156, l156, y156, z156⟩, st156⟩ := X155.virtualBack hx (y := (⟨"java/lang/String", "equals", "(Ljava/lang/Object;)Z"⟩ : MethodName)) (z := (⟨"java/lang/String", "equals", "(Ljava/lang/Object;)Z"⟩ : MethodName)) hown148 (mvT hZ148 (hw _ (List.mem_of_getElem? (i := 52) rfl))) (mvT hZ148 (hw _ (List.mem_of_getElem? (i := 53) rfl))) (notFace_of_selects (args := #[]) (mvT hZ148 (hw _ (List.mem_of_getElem? (i := 55) rfl)))) (mvT hZ148 (hw _ (List.mem_of_getElem? (i := 55) rfl))) (mvT hZ148 (hw _ (List.mem_of_getElem? (i := 54) rfl))) (by decide) (backOf (W := 0) (rmEs l Z a0 hw [] s1 s1 T148.heap n0 Z152 rfl) hZ148 (hw _ (List.mem_of_getElem? (i := 56) rfl)) (hw _ (List.mem_of_getElem? (i := 3) rfl)) (by decide) (by decide)) q156a q156c (g := (mkF m 150 #[.val (.int p1), .val (.int p2), .val (.int p3), .val (.int p4), .val (.int (0 : Int32)), .val (.int cu), .val (.int cv), .val (.int cw), .val (.ref ca), .val (.ref cb), .val (.ref s1), .val (.ref s2), .val (.ref pa), .val (.ref s1), .unset, .unset, .unset] [(.ref s1), (.ref s1)])) rfl (by rw [hml]; rfl) (Steps.refl _) (argsL := [(.ref s1)]) (rest := []) (lenOf pd_7 rfl) rfl (by show 2 * 0 + _ ≤ _; exact Nat.le_of_eq rfl) (hb hby at_150) (fun _ _ => ⟨rfl, e155, (by decide : 15 + 0 ≤ _), (by decide : 46 + 0 ≤ _)⟩)
    dsimp only [Pt.U, Pt.locs, Pt.cells, Pt.slots] at X156 l156 y156 z156 st156 hQ156
    rw [l156, y156, z156] at X156
    obtain ⟨hv156, N156q, e156⟩ := hQ156
    rw [hv156] at st156
    have N156 := Fr.app N155 N156q
    obtain ⟨cq157, kq157, q157a, q157b, q157c⟩ := isOf hZ148 e156 E148
    obtain ⟨_, _, ⟨T157, L157, k157, n157⟩, -, X157, ⟨Lc157, hQ157, l157, y157, z157⟩, st157⟩ := X156.virtualBack hx (y := (⟨"com/example/ledgerpost/ledgerpost/Payload", "length", "()J"⟩ : MethodName)) (z := (⟨"com/example/ledgerpost/ledgerpost/Payload", "length", "()J"⟩ : MethodName)) hown148 (mvT hZ148 (hw _ (List.mem_of_getElem? (i := 57) rfl))) (mvT hZ148 (hw _ (List.mem_of_getElem? (i := 58) rfl))) (notFace_of_selects (args := #[]) (mvT hZ148 (hw _ (List.mem_of_getElem? (i := 60) rfl)))) (mvT hZ148 (hw _ (List.mem_of_getElem? (i := 60) rfl))) (mvT hZ148 (hw _ (List.mem_of_getElem? (i := 59) rfl))) (by decide) (backOf (W := 0) (rmLg l Z a0 hw [] pa s1 t1 0 gg zc T148.heap n0 Z152 F0148 (by omega) L_150 (lat _) (S_c.ext O_149.2) hzc) hZ148 (hw _ (List.mem_of_getElem? (i := 61) rfl)) (hw _ (List.mem_of_getElem? (i := 24) rfl)) (by decide) (by decide)) q157a q157c (g := (mkF m 160 #[.val (.int p1), .val (.int p2), .val (.int p3), .val (.int p4), .val (.int (0 : Int32)), .val (.int cu), .val (.int cv), .val (.int cw), .val (.ref ca), .val (.ref cb), .val (.ref s1), .val (.ref s2), .val (.ref pa), .val (.ref s1), .unset, .unset, .unset] [(.ref pa)])) rfl (by rw [hml]; rfl) (Steps.refl _) (argsL := []) (rest := []) (lenOf pd_24 rfl) rfl (by show 2 * 0 + _ ≤ _; exact Nat.le_of_eq rfl) (hb hby at_160) (fun _ _ => ⟨rfl, e156, (by decide : 15 + 0 ≤ _), (by decide : 46 + 0 ≤ _)⟩)
    dsimp only [Pt.U, Pt.locs, Pt.cells, Pt.slots] at X157 l157 y157 z157 st157 hQ157
    rw [l157, y157, z157] at X157
    obtain ⟨hv157, N157q, e157⟩ := hQ157
    rw [hv157] at st157
    have N157 := Fr.app N156 N157q
    obtain ⟨cq158, kq158, q158a, q158b, q158c⟩ := isOf hZ148 e157 E148
    obtain ⟨_, _, ⟨T158, L158, k158, n158⟩, -, X158, ⟨Lc158, hQ158, l158, y158, z158⟩, st158⟩ := X157.virtualBack hx (y := (⟨"com/example/ledgerpost/ledgerpost/Payload", "bytes", "()[B"⟩ : MethodName)) (z := (⟨"com/example/ledgerpost/ledgerpost/Payload", "bytes", "()[B"⟩ : MethodName)) hown148 (mvT hZ148 (hw _ (List.mem_of_getElem? (i := 73) rfl))) (mvT hZ148 (hw _ (List.mem_of_getElem? (i := 74) rfl))) (notFace_of_selects (args := #[]) (mvT hZ148 (hw _ (List.mem_of_getElem? (i := 76) rfl)))) (mvT hZ148 (hw _ (List.mem_of_getElem? (i := 76) rfl))) (mvT hZ148 (hw _ (List.mem_of_getElem? (i := 75) rfl))) (by decide) (backOf (W := 0) (rmBy l Z a0 hw [] pa s1 uu t1 0 gg zc T148.heap n0 Z152 F0148 O_149 S_u S_i S_c hzc (by omega) (lat _) L_150) hZ148 (hw _ (List.mem_of_getElem? (i := 77) rfl)) (hw _ (List.mem_of_getElem? (i := 24) rfl)) (by decide) (by decide)) q158a q158c (g := (mkF m 174 #[.val (.int p1), .val (.int p2), .val (.int p3), .val (.int p4), .val (.int (0 : Int32)), .val (.int cu), .val (.int cv), .val (.int cw), .val (.ref ca), .val (.ref cb), .val (.ref s1), .val (.ref s2), .val (.ref pa), .val (.ref s1), .unset, .unset, .unset] [(.ref pa)])) rfl (by rw [hml]; rfl) (Steps.refl _) (argsL := []) (rest := []) (lenOf pd_25 rfl) rfl (by show 2 * 0 + _ ≤ _; exact Nat.le_of_eq rfl) (hb hby at_174) (fun _ _ => ⟨rfl, e157, (by decide : 15 + 2 ≤ _), (by decide : 46 + 24 ≤ _)⟩)
    dsimp only [Pt.U, Pt.locs, Pt.cells, Pt.slots] at X158 l158 y158 z158 st158 hQ158
    rw [l158, y158, z158] at X158
    obtain ⟨bb, db, hv158, N158q, K158, AB, B0⟩ := hQ158
    rw [hv158] at st158
    have N158 := Fr.app N157 N158q
    have O_159 := O_149.keep K158 all0
    have L_160 := own_Lk L_150 K158
    have L_161 := own_Lk L_151 K158
    have E_pa_162 := E148.keep K158
    have F0_pa_163 := F0148.keep K158 nin0
    have F1_pa_164 := F1148.keep K158 nin0
    have Z165 : n0 ≤ T158.heap.size := Nat.le_trans Z152 (K158.1)
    have hk166 := Nat.le_trans (Nat.le_refl _) (K158.1)
    obtain ⟨cl, Ar, Sz, Hs⟩ := id AB
    have ub := own_ulb gg 0
    have Sz2 : cl.slots.size = (Int32.ofNat (own_ul gg 0)).toNatClampNeg := by rw [Sz, own_ofc (by omega)]
    have pre167 : ∀ t_, Steps p.tables e below (T158.setTop (mkF m 230 #[.val (.int p1), .val (.int p2), .val (.int p3), .val (.int p4), .val (.int (0 : Int32)), .val (.int cu), .val (.int cv), .val (.int cw), .val (.ref ca), .val (.ref cb), .val (.ref s1), .val (.ref s2), .val (.ref pa), .val (.ref s1), .val (.ref bb), .val (.int (0 : Int32)), .unset] [])) t_ → Steps p.tables e below (s₁.setTop (entryFrame m #[(.int p1), (.int p2), (.int p3), (.int p4)] maxLocals)) t_ := fun t_ k_ => pre154 _ (by
      show Steps p.tables e below (T153.setTop (mkF m 129 #[.val (.int p1), .val (.int p2), .val (.int p3), .val (.int p4), .val (.int (0 : Int32)), .val (.int cu), .val (.int cv), .val (.int cw), .val (.ref ca), .val (.ref cb), .val (.ref s1), .val (.ref s2), .val (.ref pa), .unset, .unset, .unset, .unset] [(.int (1 : Int32))])) _
      refine XS.ifYes X153.here hx rfl (pc0 := 129) (pc' := 134) rfl (hb hby at_129) rfl ((if0 _ _).trans (feq (by decide : ¬ (1 : Int32) = 0)).2) (by decide) (by decide) ?_
      show Steps p.tables e below (T153.setTop (mkF m 134 #[.val (.int p1), .val (.int p2), .val (.int p3), .val (.int p4), .val (.int (0 : Int32)), .val (.int cu), .val (.int cv), .val (.int cw), .val (.ref ca), .val (.ref cb), .val (.ref s1), .val (.ref s2), .val (.ref pa), .unset, .unset, .unset, .unset] [])) _
      refine XS.aload X153.here hx rfl (hb hby at_134) rfl rfl ?_
      show Steps p.tables e below (T153.setTop (mkF m 136 #[.val (.int p1), .val (.int p2), .val (.int p3), .val (.int p4), .val (.int (0 : Int32)), .val (.int cu), .val (.int cv), .val (.int cw), .val (.ref ca), .val (.ref cb), .val (.ref s1), .val (.ref s2), .val (.ref pa), .unset, .unset, .unset, .unset] [(.ref pa)])) _
      refine st155.trans ?_
      show Steps p.tables e below (T155.setTop (mkF m 139 #[.val (.int p1), .val (.int p2), .val (.int p3), .val (.int p4), .val (.int (0 : Int32)), .val (.int cu), .val (.int cv), .val (.int cw), .val (.ref ca), .val (.ref cb), .val (.ref s1), .val (.ref s2), .val (.ref pa), .unset, .unset, .unset, .unset] [(.ref s1)])) _
      refine XS.astore X155.here hx rfl (hb hby at_139) rfl rfl (l' := #[.val (.int p1), .val (.int p2), .val (.int p3), .val (.int p4), .val (.int (0 : Int32)), .val (.int cu), .val (.int cv), .val (.int cw), .val (.ref ca), .val (.ref cb), .val (.ref s1), .val (.ref s2), .val (.ref pa), .val (.ref s1), .unset, .unset, .unset]) rfl ?_
      show Steps p.tables e below (T155.setTop (mkF m 141 #[.val (.int p1), .val (.int p2), .val (.int p3), .val (.int p4), .val (.int (0 : Int32)), .val (.int cu), .val (.int cv), .val (.int cw), .val (.ref ca), .val (.ref cb), .val (.ref s1), .val (.ref s2), .val (.ref pa), .val (.ref s1), .unset, .unset, .unset] [])) _
      refine XS.aload X155.here hx rfl (hb hby at_141) rfl rfl ?_
      show Steps p.tables e below (T155.setTop (mkF m 143 #[.val (.int p1), .val (.int p2), .val (.int p3), .val (.int p4), .val (.int (0 : Int32)), .val (.int cu), .val (.int cv), .val (.int cw), .val (.ref ca), .val (.ref cb), .val (.ref s1), .val (.ref s2), .val (.ref pa), .val (.ref s1), .unset, .unset, .unset] [(.ref s1)])) _
      refine XS.ifnullNo X155.here hx rfl (hb hby at_143) rfl ?_
      show Steps p.tables e below (T155.setTop (mkF m 146 #[.val (.int p1), .val (.int p2), .val (.int p3), .val (.int p4), .val (.int (0 : Int32)), .val (.int cu), .val (.int cv), .val (.int cw), .val (.ref ca), .val (.ref cb), .val (.ref s1), .val (.ref s2), .val (.ref pa), .val (.ref s1), .unset, .unset, .unset] [])) _
      refine XS.aload X155.here hx rfl (hb hby at_146) rfl rfl ?_
      show Steps p.tables e below (T155.setTop (mkF m 148 #[.val (.int p1), .val (.int p2), .val (.int p3), .val (.int p4), .val (.int (0 : Int32)), .val (.int cu), .val (.int cv), .val (.int cw), .val (.ref ca), .val (.ref cb), .val (.ref s1), .val (.ref s2), .val (.ref pa), .val (.ref s1), .unset, .unset, .unset] [(.ref s1)])) _
      refine XS.aload X155.here hx rfl (hb hby at_148) rfl rfl ?_
      show Steps p.tables e below (T155.setTop (mkF m 150 #[.val (.int p1), .val (.int p2), .val (.int p3), .val (.int p4), .val (.int (0 : Int32)), .val (.int cu), .val (.int cv), .val (.int cw), .val (.ref ca), .val (.ref cb), .val (.ref s1), .val (.ref s2), .val (.ref pa), .val (.ref s1), .unset, .unset, .unset] [(.ref s1), (.ref s1)])) _
      refine st156.trans ?_
      show Steps p.tables e below (T156.setTop (mkF m 153 #[.val (.int p1), .val (.int p2), .val (.int p3), .val (.int p4), .val (.int (0 : Int32)), .val (.int cu), .val (.int cv), .val (.int cw), .val (.ref ca), .val (.ref cb), .val (.ref s1), .val (.ref s2), .val (.ref pa), .val (.ref s1), .unset, .unset, .unset] [(.int (1 : Int32))])) _
      refine XS.ifYes X156.here hx rfl (pc0 := 153) (pc' := 158) rfl (hb hby at_153) rfl ((if0 _ _).trans (feq (by decide : ¬ (1 : Int32) = 0)).2) (by decide) (by decide) ?_
      show Steps p.tables e below (T156.setTop (mkF m 158 #[.val (.int p1), .val (.int p2), .val (.int p3), .val (.int p4), .val (.int (0 : Int32)), .val (.int cu), .val (.int cv), .val (.int cw), .val (.ref ca), .val (.ref cb), .val (.ref s1), .val (.ref s2), .val (.ref pa), .val (.ref s1), .unset, .unset, .unset] [])) _
      refine XS.aload X156.here hx rfl (hb hby at_158) rfl rfl ?_
      show Steps p.tables e below (T156.setTop (mkF m 160 #[.val (.int p1), .val (.int p2), .val (.int p3), .val (.int p4), .val (.int (0 : Int32)), .val (.int cu), .val (.int cv), .val (.int cw), .val (.ref ca), .val (.ref cb), .val (.ref s1), .val (.ref s2), .val (.ref pa), .val (.ref s1), .unset, .unset, .unset] [(.ref pa)])) _
      refine st157.trans ?_
      show Steps p.tables e below (T157.setTop (mkF m 163 #[.val (.int p1), .val (.int p2), .val (.int p3), .val (.int p4), .val (.int (0 : Int32)), .val (.int cu), .val (.int cv), .val (.int cw), .val (.ref ca), .val (.ref cb), .val (.ref s1), .val (.ref s2), .val (.ref pa), .val (.ref s1), .unset, .unset, .unset] [(.long ((Int32.ofNat 0).toInt64))])) _
      refine XS.iload X157.here hx rfl (hb hby at_163) rfl ?_
      show Steps p.tables e below (T157.setTop (mkF m 165 #[.val (.int p1), .val (.int p2), .val (.int p3), .val (.int p4), .val (.int (0 : Int32)), .val (.int cu), .val (.int cv), .val (.int cw), .val (.ref ca), .val (.ref cb), .val (.ref s1), .val (.ref s2), .val (.ref pa), .val (.ref s1), .unset, .unset, .unset] [(.int (0 : Int32)), (.long ((Int32.ofNat 0).toInt64))])) _
      refine XS.i2l X157.here hx rfl (hb hby at_165) rfl ?_
      show Steps p.tables e below (T157.setTop (mkF m 166 #[.val (.int p1), .val (.int p2), .val (.int p3), .val (.int p4), .val (.int (0 : Int32)), .val (.int cu), .val (.int cv), .val (.int cw), .val (.ref ca), .val (.ref cb), .val (.ref s1), .val (.ref s2), .val (.ref pa), .val (.ref s1), .unset, .unset, .unset] [(.long ((0 : Int32).toInt64)), (.long ((Int32.ofNat 0).toInt64))])) _
      refine XS.lcmp X157.here hx rfl (hb hby at_166) rfl ?_
      show Steps p.tables e below (T157.setTop (mkF m 167 #[.val (.int p1), .val (.int p2), .val (.int p3), .val (.int p4), .val (.int (0 : Int32)), .val (.int cu), .val (.int cv), .val (.int cw), .val (.ref ca), .val (.ref cb), .val (.ref s1), .val (.ref s2), .val (.ref pa), .val (.ref s1), .unset, .unset, .unset] [(.int (lcmpW ((Int32.ofNat 0).toInt64) ((0 : Int32).toInt64)))])) _
      refine XS.ifYes X157.here hx rfl (pc0 := 167) (pc' := 172) rfl (hb hby at_167) rfl ((if0 _ _).trans (teq ((lw_eq _ _).mpr rfl)).1) (by decide) (by decide) ?_
      show Steps p.tables e below (T157.setTop (mkF m 172 #[.val (.int p1), .val (.int p2), .val (.int p3), .val (.int p4), .val (.int (0 : Int32)), .val (.int cu), .val (.int cv), .val (.int cw), .val (.ref ca), .val (.ref cb), .val (.ref s1), .val (.ref s2), .val (.ref pa), .val (.ref s1), .unset, .unset, .unset] [])) _
      refine XS.aload X157.here hx rfl (hb hby at_172) rfl rfl ?_
      show Steps p.tables e below (T157.setTop (mkF m 174 #[.val (.int p1), .val (.int p2), .val (.int p3), .val (.int p4), .val (.int (0 : Int32)), .val (.int cu), .val (.int cv), .val (.int cw), .val (.ref ca), .val (.ref cb), .val (.ref s1), .val (.ref s2), .val (.ref pa), .val (.ref s1), .unset, .unset, .unset] [(.ref pa)])) _
      refine st158.trans ?_
      show Steps p.tables e below (T158.setTop (mkF m 177 #[.val (.int p1), .val (.int p2), .val (.int p3), .val (.int p4), .val (.int (0 : Int32)), .val (.int cu), .val (.int cv), .val (.int cw), .val (.ref ca), .val (.ref cb), .val (.ref s1), .val (.ref s2), .val (.ref pa), .val (.ref s1), .unset, .unset, .unset] [(.ref bb)])) _
      refine XS.astore X158.here hx rfl (hb hby at_177) rfl rfl (l' := #[.val (.int p1), .val (.int p2), .val (.int p3), .val (.int p4), .val (.int (0 : Int32)), .val (.int cu), .val (.int cv), .val (.int cw), .val (.ref ca), .val (.ref cb), .val (.ref s1), .val (.ref s2), .val (.ref pa), .val (.ref s1), .val (.ref bb), .unset, .unset]) rfl ?_
      show Steps p.tables e below (T158.setTop (mkF m 179 #[.val (.int p1), .val (.int p2), .val (.int p3), .val (.int p4), .val (.int (0 : Int32)), .val (.int cu), .val (.int cv), .val (.int cw), .val (.ref ca), .val (.ref cb), .val (.ref s1), .val (.ref s2), .val (.ref pa), .val (.ref s1), .val (.ref bb), .unset, .unset] [])) _
      refine XS.iconst X158.here hx rfl (hb hby at_179) ?_
      show Steps p.tables e below (T158.setTop (mkF m 180 #[.val (.int p1), .val (.int p2), .val (.int p3), .val (.int p4), .val (.int (0 : Int32)), .val (.int cu), .val (.int cv), .val (.int cw), .val (.ref ca), .val (.ref cb), .val (.ref s1), .val (.ref s2), .val (.ref pa), .val (.ref s1), .val (.ref bb), .unset, .unset] [(.int (0 : Int32))])) _
      refine XS.istore X158.here hx rfl (hb hby at_180) rfl (l' := #[.val (.int p1), .val (.int p2), .val (.int p3), .val (.int p4), .val (.int (0 : Int32)), .val (.int cu), .val (.int cv), .val (.int cw), .val (.ref ca), .val (.ref cb), .val (.ref s1), .val (.ref s2), .val (.ref pa), .val (.ref s1), .val (.ref bb), .val (.int (0 : Int32)), .unset]) rfl ?_
      show Steps p.tables e below (T158.setTop (mkF m 182 #[.val (.int p1), .val (.int p2), .val (.int p3), .val (.int p4), .val (.int (0 : Int32)), .val (.int cu), .val (.int cv), .val (.int cw), .val (.ref ca), .val (.ref cb), .val (.ref s1), .val (.ref s2), .val (.ref pa), .val (.ref s1), .val (.ref bb), .val (.int (0 : Int32)), .unset] [])) _
      refine XS.iload X158.here hx rfl (hb hby at_182) rfl ?_
      show Steps p.tables e below (T158.setTop (mkF m 184 #[.val (.int p1), .val (.int p2), .val (.int p3), .val (.int p4), .val (.int (0 : Int32)), .val (.int cu), .val (.int cv), .val (.int cw), .val (.ref ca), .val (.ref cb), .val (.ref s1), .val (.ref s2), .val (.ref pa), .val (.ref s1), .val (.ref bb), .val (.int (0 : Int32)), .unset] [(.int (0 : Int32))])) _
      refine XS.iconst X158.here hx rfl (hb hby at_184) ?_
      show Steps p.tables e below (T158.setTop (mkF m 185 #[.val (.int p1), .val (.int p2), .val (.int p3), .val (.int p4), .val (.int (0 : Int32)), .val (.int cu), .val (.int cv), .val (.int cw), .val (.ref ca), .val (.ref cb), .val (.ref s1), .val (.ref s2), .val (.ref pa), .val (.ref s1), .val (.ref bb), .val (.int (0 : Int32)), .unset] [(.int (1 : Int32)), (.int (0 : Int32))])) _
      refine XS.icmpYes X158.here hx rfl (pc0 := 185) (pc' := 198) rfl (hb hby at_185) rfl (tlt (by decide)).1 (by decide) (by decide) ?_
      show Steps p.tables e below (T158.setTop (mkF m 198 #[.val (.int p1), .val (.int p2), .val (.int p3), .val (.int p4), .val (.int (0 : Int32)), .val (.int cu), .val (.int cv), .val (.int cw), .val (.ref ca), .val (.ref cb), .val (.ref s1), .val (.ref s2), .val (.ref pa), .val (.ref s1), .val (.ref bb), .val (.int (0 : Int32)), .unset] [])) _
      refine XS.iload X158.here hx rfl (hb hby at_198) rfl ?_
      show Steps p.tables e below (T158.setTop (mkF m 200 #[.val (.int p1), .val (.int p2), .val (.int p3), .val (.int p4), .val (.int (0 : Int32)), .val (.int cu), .val (.int cv), .val (.int cw), .val (.ref ca), .val (.ref cb), .val (.ref s1), .val (.ref s2), .val (.ref pa), .val (.ref s1), .val (.ref bb), .val (.int (0 : Int32)), .unset] [(.int (0 : Int32))])) _
      refine XS.iconst X158.here hx rfl (hb hby at_200) ?_
      show Steps p.tables e below (T158.setTop (mkF m 201 #[.val (.int p1), .val (.int p2), .val (.int p3), .val (.int p4), .val (.int (0 : Int32)), .val (.int cu), .val (.int cv), .val (.int cw), .val (.ref ca), .val (.ref cb), .val (.ref s1), .val (.ref s2), .val (.ref pa), .val (.ref s1), .val (.ref bb), .val (.int (0 : Int32)), .unset] [(.int (2 : Int32)), (.int (0 : Int32))])) _
      refine XS.icmpYes X158.here hx rfl (pc0 := 201) (pc' := 214) rfl (hb hby at_201) rfl (tlt (by decide)).1 (by decide) (by decide) ?_
      show Steps p.tables e below (T158.setTop (mkF m 214 #[.val (.int p1), .val (.int p2), .val (.int p3), .val (.int p4), .val (.int (0 : Int32)), .val (.int cu), .val (.int cv), .val (.int cw), .val (.ref ca), .val (.ref cb), .val (.ref s1), .val (.ref s2), .val (.ref pa), .val (.ref s1), .val (.ref bb), .val (.int (0 : Int32)), .unset] [])) _
      refine XS.iload X158.here hx rfl (hb hby at_214) rfl ?_
      show Steps p.tables e below (T158.setTop (mkF m 216 #[.val (.int p1), .val (.int p2), .val (.int p3), .val (.int p4), .val (.int (0 : Int32)), .val (.int cu), .val (.int cv), .val (.int cw), .val (.ref ca), .val (.ref cb), .val (.ref s1), .val (.ref s2), .val (.ref pa), .val (.ref s1), .val (.ref bb), .val (.int (0 : Int32)), .unset] [(.int (0 : Int32))])) _
      refine XS.iconst X158.here hx rfl (hb hby at_216) ?_
      show Steps p.tables e below (T158.setTop (mkF m 217 #[.val (.int p1), .val (.int p2), .val (.int p3), .val (.int p4), .val (.int (0 : Int32)), .val (.int cu), .val (.int cv), .val (.int cw), .val (.ref ca), .val (.ref cb), .val (.ref s1), .val (.ref s2), .val (.ref pa), .val (.ref s1), .val (.ref bb), .val (.int (0 : Int32)), .unset] [(.int (3 : Int32)), (.int (0 : Int32))])) _
      refine XS.icmpYes X158.here hx rfl (pc0 := 217) (pc' := 230) rfl (hb hby at_217) rfl (tlt (by decide)).1 (by decide) (by decide) ?_
      exact k_)
    obtain ⟨_, _, ⟨T168, L168, k168, n168⟩, -, X168, hS168, hle168, ⟨Lc168, hQ168, l168, y168, z168⟩, st168⟩ := callSS (s := (s.setVm T148.vm)) X158 hx (y := (⟨"com/example/ledgerpost/ledgerpost/Payload", "ofText", "(Ljava/lang/String;)Lcom/example/ledgerpost/ledgerpost/Payload;"⟩ : MethodName)) hown148 (mvT hZ148 (hw _ (List.mem_of_getElem? (i := 22) rfl))) (mvT hZ148 (hw _ (List.mem_of_getElem? (i := 23) rfl))) (mvT hZ148 (hw _ (List.mem_of_getElem? (i := 24) rfl))) (mvT hZ148 (hw _ (List.mem_of_getElem? (i := 25) rfl))) (by decide) (backOfS (W := 1) (rmO l Z a0 hw [] s2 T158.heap n0 Z165 L_161.1) hZ148 (hw _ (List.mem_of_getElem? (i := 25) rfl)) (hw _ (List.mem_of_getElem? (i := 24) rfl)) (by decide) (by decide)) (g := (mkF m 268 #[.val (.int p1), .val (.int p2), .val (.int p3), .val (.int p4), .val (.int (0 : Int32)), .val (.int cu), .val (.int cv), .val (.int cw), .val (.ref ca), .val (.ref cb), .val (.ref s1), .val (.ref s2), .val (.ref pa), .val (.ref s1), .val (.ref bb), .val (.int (0 : Int32)), .unset] [(.ref s2), (.ref pa)])) rfl (by rw [hml]; rfl) (argsL := [(.ref s2)]) (rest := [(.ref pa)]) (lenOf pd_21 rfl) rfl (by show 2 * 0 + _ ≤ _; exact Nat.le_of_eq rfl) (hb hby at_268) (fun _ _ => ⟨rfl, rfl, (by decide : 17 + 3 ≤ _), (by decide : 70 + 22 ≤ _)⟩)
    dsimp only [Pt.U, Pt.locs, Pt.cells, Pt.slots] at X168 l168 y168 z168 st168 hQ168 hS168 hle168
    rw [l168, y168, z168] at X168
    have hle168' := hle168
    obtain ⟨X168', hS168', hZ168, hown168⟩ := rebS (s := s) (vm0 := T148.vm) hS148' hk166 X168 hS168 hle168' hZ148 hown148
    obtain ⟨pb, hv168, N168q, K168, E168, F0168, F1168, lp168⟩ := hQ168
    rw [hv168] at st168
    have N168 := Fr.app N158 N168q
    have O_169 := O_159.keep K168 all0
    have L_170 := own_Lk L_160 K168
    have L_171 := own_Lk L_161 K168
    have E_pa_172 := E_pa_162.keep K168
    have F0_pa_173 := F0_pa_163.keep K168 nin0
    have F1_pa_174 := F1_pa_164.keep K168 nin0
    have Z175 : n0 ≤ T168.heap.size := Nat.le_trans Z165 (K168.1)
    obtain ⟨cq176, kq176, q176a, q176b, q176c⟩ := isOf hZ168 rfl E_pa_172
    obtain ⟨_, _, ⟨T176, L176, k176, n176⟩, -, X176, ⟨Lc176, hQ176, l176, y176, z176⟩, st176⟩ := X168'.virtualBack hx (y := (⟨"com/example/ledgerpost/ledgerpost/Payload", "equals", "(Ljava/lang/Object;)Z"⟩ : MethodName)) (z := (⟨"com/example/ledgerpost/ledgerpost/Payload", "equals", "(Ljava/lang/Object;)Z"⟩ : MethodName)) hown168 (mvT hZ168 (hw _ (List.mem_of_getElem? (i := 109) rfl))) (mvT hZ168 (hw _ (List.mem_of_getElem? (i := 110) rfl))) (notFace_of_selects (args := #[]) (mvT hZ168 (hw _ (List.mem_of_getElem? (i := 112) rfl)))) (mvT hZ168 (hw _ (List.mem_of_getElem? (i := 112) rfl))) (mvT hZ168 (hw _ (List.mem_of_getElem? (i := 111) rfl))) (by decide) (backOf (W := 0) (rmPE l Z a0 hw [] pa pb s1 s2 t1 t2 0 gg zc T168.heap n0 Z175 F0_pa_173 F0168 F1_pa_174 F1168 E168 (by omega) L_170 L_171 ne12 (S_c.ext O_169.2) hzc) hZ168 (hw _ (List.mem_of_getElem? (i := 113) rfl)) (hw _ (List.mem_of_getElem? (i := 24) rfl)) (by decide) (by decide)) q176a q176c (g := (mkF m 271 #[.val (.int p1), .val (.int p2), .val (.int p3), .val (.int p4), .val (.int (0 : Int32)), .val (.int cu), .val (.int cv), .val (.int cw), .val (.ref ca), .val (.ref cb), .val (.ref s1), .val (.ref s2), .val (.ref pa), .val (.ref s1), .val (.ref bb), .val (.int (0 : Int32)), .unset] [(.ref pb), (.ref pa)])) rfl (by rw [hml]; rfl) (Steps.refl _) (argsL := [(.ref pb)]) (rest := []) (lenOf pd_7 rfl) rfl (by show 2 * 0 + _ ≤ _; exact Nat.le_of_eq rfl) (hb hby at_271) (fun _ _ => ⟨rfl, rfl, (by decide : 20 + 0 ≤ _), (by decide : 92 + 0 ≤ _)⟩)
    dsimp only [Pt.U, Pt.locs, Pt.cells, Pt.slots] at X176 l176 y176 z176 st176 hQ176
    rw [l176, y176, z176] at X176
    obtain ⟨hv176, N176q, e176⟩ := hQ176
    rw [hv176] at st176
    have N176 := Fr.app N168 N176q
    obtain ⟨cq177, kq177, q177a, q177b, q177c⟩ := isOf hZ168 e176 E_pa_172
    obtain ⟨_, _, ⟨T177, L177, k177, n177⟩, -, X177, ⟨Lc177, hQ177, l177, y177, z177⟩, st177⟩ := X176.virtualBack hx (y := (⟨"com/example/ledgerpost/ledgerpost/Payload", "toString", "()Ljava/lang/String;"⟩ : MethodName)) (z := (⟨"com/example/ledgerpost/ledgerpost/Payload", "toString", "()Ljava/lang/String;"⟩ : MethodName)) hown168 (mvT hZ168 (hw _ (List.mem_of_getElem? (i := 131) rfl))) (mvT hZ168 (hw _ (List.mem_of_getElem? (i := 132) rfl))) (notFace_of_selects (args := #[]) (mvT hZ168 (hw _ (List.mem_of_getElem? (i := 134) rfl)))) (mvT hZ168 (hw _ (List.mem_of_getElem? (i := 134) rfl))) (mvT hZ168 (hw _ (List.mem_of_getElem? (i := 133) rfl))) (by decide) (backOf (W := 0) (rmTs l Z a0 hw [] pa s1 T168.heap n0 Z175 F0_pa_173) hZ168 (hw _ (List.mem_of_getElem? (i := 135) rfl)) (hw _ (List.mem_of_getElem? (i := 24) rfl)) (by decide) (by decide)) q177a q177c (g := (mkF m 281 #[.val (.int p1), .val (.int p2), .val (.int p3), .val (.int p4), .val (.int (0 : Int32)), .val (.int cu), .val (.int cv), .val (.int cw), .val (.ref ca), .val (.ref cb), .val (.ref s1), .val (.ref s2), .val (.ref pa), .val (.ref s1), .val (.ref bb), .val (.int (0 : Int32)), .unset] [(.ref pa)])) rfl (by rw [hml]; rfl) (Steps.refl _) (argsL := []) (rest := []) (lenOf pd_23 rfl) rfl (by show 2 * 0 + _ ≤ _; exact Nat.le_of_eq rfl) (hb hby at_281) (fun _ _ => ⟨rfl, e176, (by decide : 20 + 0 ≤ _), (by decide : 92 + 0 ≤ _)⟩)
    dsimp only [Pt.U, Pt.locs, Pt.cells, Pt.slots] at X177 l177 y177 z177 st177 hQ177
    rw [l177, y177, z177] at X177
    obtain ⟨hv177, N177q, e177⟩ := hQ177
    rw [hv177] at st177
    have N177 := Fr.app N176 N177q
    obtain ⟨cq178, kq178, q178a, q178b, q178c⟩ := isOf hZ168 e177 L_170.1
    obtain ⟨_, _, ⟨T178, L178, k178, n178⟩, -, X178, ⟨Lc178, hQ178, l178, y178, z178⟩, st178⟩ := X177.virtualBack hx (y := (⟨"java/lang/String", "equals", "(Ljava/lang/Object;)Z"⟩ : MethodName)) (z := (⟨"java/lang/String", "equals", "(Ljava/lang/Object;)Z"⟩ : MethodName)) hown168 (mvT hZ168 (hw _ (List.mem_of_getElem? (i := 52) rfl))) (mvT hZ168 (hw _ (List.mem_of_getElem? (i := 53) rfl))) (notFace_of_selects (args := #[]) (mvT hZ168 (hw _ (List.mem_of_getElem? (i := 55) rfl)))) (mvT hZ168 (hw _ (List.mem_of_getElem? (i := 55) rfl))) (mvT hZ168 (hw _ (List.mem_of_getElem? (i := 54) rfl))) (by decide) (backOf (W := 0) (rmEs l Z a0 hw [] s1 s1 T168.heap n0 Z175 rfl) hZ168 (hw _ (List.mem_of_getElem? (i := 56) rfl)) (hw _ (List.mem_of_getElem? (i := 3) rfl)) (by decide) (by decide)) q178a q178c (g := (mkF m 295 #[.val (.int p1), .val (.int p2), .val (.int p3), .val (.int p4), .val (.int (0 : Int32)), .val (.int cu), .val (.int cv), .val (.int cw), .val (.ref ca), .val (.ref cb), .val (.ref s1), .val (.ref s2), .val (.ref pa), .val (.ref s1), .val (.ref bb), .val (.int (0 : Int32)), .val (.ref s1)] [(.ref s1), (.ref s1)])) rfl (by rw [hml]; rfl) (Steps.refl _) (argsL := [(.ref s1)]) (rest := []) (lenOf pd_7 rfl) rfl (by show 2 * 0 + _ ≤ _; exact Nat.le_of_eq rfl) (hb hby at_295) (fun _ _ => ⟨rfl, e177, (by decide : 20 + 0 ≤ _), (by decide : 92 + 0 ≤ _)⟩)
    dsimp only [Pt.U, Pt.locs, Pt.cells, Pt.slots] at X178 l178 y178 z178 st178 hQ178
    rw [l178, y178, z178] at X178
    obtain ⟨hv178, N178q, e178⟩ := hQ178
    rw [hv178] at st178
    have N178 := Fr.app N177 N178q
    have pre179 : ∀ t_, Steps p.tables e below (T178.setTop (mkF m 306 #[.val (.int p1), .val (.int p2), .val (.int p3), .val (.int p4), .val (.int (0 : Int32)), .val (.int cu), .val (.int cv), .val (.int cw), .val (.ref ca), .val (.ref cb), .val (.ref s1), .val (.ref s2), .val (.ref pa), .val (.ref s1), .val (.ref bb), .val (.int (0 : Int32)), .val (.ref s1)] [(.int (1 : Int32))])) t_ → Steps p.tables e below (s₁.setTop (entryFrame m #[(.int p1), (.int p2), (.int p3), (.int p4)] maxLocals)) t_ := fun t_ k_ => pre167 _ (by
      show Steps p.tables e below (T158.setTop (mkF m 230 #[.val (.int p1), .val (.int p2), .val (.int p3), .val (.int p4), .val (.int (0 : Int32)), .val (.int cu), .val (.int cv), .val (.int cw), .val (.ref ca), .val (.ref cb), .val (.ref s1), .val (.ref s2), .val (.ref pa), .val (.ref s1), .val (.ref bb), .val (.int (0 : Int32)), .unset] [])) _
      refine XS.aload X158.here hx rfl (hb hby at_230) rfl rfl ?_
      show Steps p.tables e below (T158.setTop (mkF m 232 #[.val (.int p1), .val (.int p2), .val (.int p3), .val (.int p4), .val (.int (0 : Int32)), .val (.int cu), .val (.int cv), .val (.int cw), .val (.ref ca), .val (.ref cb), .val (.ref s1), .val (.ref s2), .val (.ref pa), .val (.ref s1), .val (.ref bb), .val (.int (0 : Int32)), .unset] [(.ref bb)])) _
      refine X158.arraylength hx (by exact Ar.1) (State.isArrayOf_alike hZ148.alike Ar.2.1) (g := (mkF m 232 #[.val (.int p1), .val (.int p2), .val (.int p3), .val (.int p4), .val (.int (0 : Int32)), .val (.int cu), .val (.int cv), .val (.int cw), .val (.ref ca), .val (.ref cb), .val (.ref s1), .val (.ref s2), .val (.ref pa), .val (.ref s1), .val (.ref bb), .val (.int (0 : Int32)), .unset] [(.ref bb)])) rfl rfl (hb hby at_232) _ ?_
      rw [len_of Sz2 (own_ofn0 (a := own_ul gg 0) (by omega))]
      show Steps p.tables e below (T158.setTop (mkF m 233 #[.val (.int p1), .val (.int p2), .val (.int p3), .val (.int p4), .val (.int (0 : Int32)), .val (.int cu), .val (.int cv), .val (.int cw), .val (.ref ca), .val (.ref cb), .val (.ref s1), .val (.ref s2), .val (.ref pa), .val (.ref s1), .val (.ref bb), .val (.int (0 : Int32)), .unset] [(.int (Int32.ofNat (own_ul gg 0)))])) _
      refine XS.iload X158.here hx rfl (hb hby at_233) rfl ?_
      show Steps p.tables e below (T158.setTop (mkF m 235 #[.val (.int p1), .val (.int p2), .val (.int p3), .val (.int p4), .val (.int (0 : Int32)), .val (.int cu), .val (.int cv), .val (.int cw), .val (.ref ca), .val (.ref cb), .val (.ref s1), .val (.ref s2), .val (.ref pa), .val (.ref s1), .val (.ref bb), .val (.int (0 : Int32)), .unset] [(.int (0 : Int32)), (.int (Int32.ofNat (own_ul gg 0)))])) _
      refine XS.icmpYes X158.here hx rfl (pc0 := 235) (pc' := 240) rfl (hb hby at_235) rfl (teq (by rw [own_sum0 gg])).1 (by decide) (by decide) ?_
      show Steps p.tables e below (T158.setTop (mkF m 240 #[.val (.int p1), .val (.int p2), .val (.int p3), .val (.int p4), .val (.int (0 : Int32)), .val (.int cu), .val (.int cv), .val (.int cw), .val (.ref ca), .val (.ref cb), .val (.ref s1), .val (.ref s2), .val (.ref pa), .val (.ref s1), .val (.ref bb), .val (.int (0 : Int32)), .unset] [])) _
      refine XS.iload X158.here hx rfl (hb hby at_240) rfl ?_
      show Steps p.tables e below (T158.setTop (mkF m 242 #[.val (.int p1), .val (.int p2), .val (.int p3), .val (.int p4), .val (.int (0 : Int32)), .val (.int cu), .val (.int cv), .val (.int cw), .val (.ref ca), .val (.ref cb), .val (.ref s1), .val (.ref s2), .val (.ref pa), .val (.ref s1), .val (.ref bb), .val (.int (0 : Int32)), .unset] [(.int (0 : Int32))])) _
      refine XS.iconst X158.here hx rfl (hb hby at_242) ?_
      show Steps p.tables e below (T158.setTop (mkF m 243 #[.val (.int p1), .val (.int p2), .val (.int p3), .val (.int p4), .val (.int (0 : Int32)), .val (.int cu), .val (.int cv), .val (.int cw), .val (.ref ca), .val (.ref cb), .val (.ref s1), .val (.ref s2), .val (.ref pa), .val (.ref s1), .val (.ref bb), .val (.int (0 : Int32)), .unset] [(.int (1 : Int32)), (.int (0 : Int32))])) _
      refine XS.icmpYes X158.here hx rfl (pc0 := 243) (pc' := 264) rfl (hb hby at_243) rfl (tlt (by decide)).1 (by decide) (by decide) ?_
      show Steps p.tables e below (T158.setTop (mkF m 264 #[.val (.int p1), .val (.int p2), .val (.int p3), .val (.int p4), .val (.int (0 : Int32)), .val (.int cu), .val (.int cv), .val (.int cw), .val (.ref ca), .val (.ref cb), .val (.ref s1), .val (.ref s2), .val (.ref pa), .val (.ref s1), .val (.ref bb), .val (.int (0 : Int32)), .unset] [])) _
      refine XS.aload X158.here hx rfl (hb hby at_264) rfl rfl ?_
      show Steps p.tables e below (T158.setTop (mkF m 266 #[.val (.int p1), .val (.int p2), .val (.int p3), .val (.int p4), .val (.int (0 : Int32)), .val (.int cu), .val (.int cv), .val (.int cw), .val (.ref ca), .val (.ref cb), .val (.ref s1), .val (.ref s2), .val (.ref pa), .val (.ref s1), .val (.ref bb), .val (.int (0 : Int32)), .unset] [(.ref pa)])) _
      refine XS.aload X158.here hx rfl (hb hby at_266) rfl rfl ?_
      show Steps p.tables e below (T158.setTop (mkF m 268 #[.val (.int p1), .val (.int p2), .val (.int p3), .val (.int p4), .val (.int (0 : Int32)), .val (.int cu), .val (.int cv), .val (.int cw), .val (.ref ca), .val (.ref cb), .val (.ref s1), .val (.ref s2), .val (.ref pa), .val (.ref s1), .val (.ref bb), .val (.int (0 : Int32)), .unset] [(.ref s2), (.ref pa)])) _
      refine st168.trans ?_
      show Steps p.tables e below (T168.setTop (mkF m 271 #[.val (.int p1), .val (.int p2), .val (.int p3), .val (.int p4), .val (.int (0 : Int32)), .val (.int cu), .val (.int cv), .val (.int cw), .val (.ref ca), .val (.ref cb), .val (.ref s1), .val (.ref s2), .val (.ref pa), .val (.ref s1), .val (.ref bb), .val (.int (0 : Int32)), .unset] [(.ref pb), (.ref pa)])) _
      refine st176.trans ?_
      show Steps p.tables e below (T176.setTop (mkF m 274 #[.val (.int p1), .val (.int p2), .val (.int p3), .val (.int p4), .val (.int (0 : Int32)), .val (.int cu), .val (.int cv), .val (.int cw), .val (.ref ca), .val (.ref cb), .val (.ref s1), .val (.ref s2), .val (.ref pa), .val (.ref s1), .val (.ref bb), .val (.int (0 : Int32)), .unset] [(.int (1 : Int32))])) _
      refine XS.ifYes X176.here hx rfl (pc0 := 274) (pc' := 279) rfl (hb hby at_274) rfl ((if0 _ _).trans (feq (by decide : ¬ (1 : Int32) = 0)).2) (by decide) (by decide) ?_
      show Steps p.tables e below (T176.setTop (mkF m 279 #[.val (.int p1), .val (.int p2), .val (.int p3), .val (.int p4), .val (.int (0 : Int32)), .val (.int cu), .val (.int cv), .val (.int cw), .val (.ref ca), .val (.ref cb), .val (.ref s1), .val (.ref s2), .val (.ref pa), .val (.ref s1), .val (.ref bb), .val (.int (0 : Int32)), .unset] [])) _
      refine XS.aload X176.here hx rfl (hb hby at_279) rfl rfl ?_
      show Steps p.tables e below (T176.setTop (mkF m 281 #[.val (.int p1), .val (.int p2), .val (.int p3), .val (.int p4), .val (.int (0 : Int32)), .val (.int cu), .val (.int cv), .val (.int cw), .val (.ref ca), .val (.ref cb), .val (.ref s1), .val (.ref s2), .val (.ref pa), .val (.ref s1), .val (.ref bb), .val (.int (0 : Int32)), .unset] [(.ref pa)])) _
      refine st177.trans ?_
      show Steps p.tables e below (T177.setTop (mkF m 284 #[.val (.int p1), .val (.int p2), .val (.int p3), .val (.int p4), .val (.int (0 : Int32)), .val (.int cu), .val (.int cv), .val (.int cw), .val (.ref ca), .val (.ref cb), .val (.ref s1), .val (.ref s2), .val (.ref pa), .val (.ref s1), .val (.ref bb), .val (.int (0 : Int32)), .unset] [(.ref s1)])) _
      refine XS.astore X177.here hx rfl (hb hby at_284) rfl rfl (l' := #[.val (.int p1), .val (.int p2), .val (.int p3), .val (.int p4), .val (.int (0 : Int32)), .val (.int cu), .val (.int cv), .val (.int cw), .val (.ref ca), .val (.ref cb), .val (.ref s1), .val (.ref s2), .val (.ref pa), .val (.ref s1), .val (.ref bb), .val (.int (0 : Int32)), .val (.ref s1)]) rfl ?_
      show Steps p.tables e below (T177.setTop (mkF m 286 #[.val (.int p1), .val (.int p2), .val (.int p3), .val (.int p4), .val (.int (0 : Int32)), .val (.int cu), .val (.int cv), .val (.int cw), .val (.ref ca), .val (.ref cb), .val (.ref s1), .val (.ref s2), .val (.ref pa), .val (.ref s1), .val (.ref bb), .val (.int (0 : Int32)), .val (.ref s1)] [])) _
      refine XS.aload X177.here hx rfl (hb hby at_286) rfl rfl ?_
      show Steps p.tables e below (T177.setTop (mkF m 288 #[.val (.int p1), .val (.int p2), .val (.int p3), .val (.int p4), .val (.int (0 : Int32)), .val (.int cu), .val (.int cv), .val (.int cw), .val (.ref ca), .val (.ref cb), .val (.ref s1), .val (.ref s2), .val (.ref pa), .val (.ref s1), .val (.ref bb), .val (.int (0 : Int32)), .val (.ref s1)] [(.ref s1)])) _
      refine XS.ifnullNo X177.here hx rfl (hb hby at_288) rfl ?_
      show Steps p.tables e below (T177.setTop (mkF m 291 #[.val (.int p1), .val (.int p2), .val (.int p3), .val (.int p4), .val (.int (0 : Int32)), .val (.int cu), .val (.int cv), .val (.int cw), .val (.ref ca), .val (.ref cb), .val (.ref s1), .val (.ref s2), .val (.ref pa), .val (.ref s1), .val (.ref bb), .val (.int (0 : Int32)), .val (.ref s1)] [])) _
      refine XS.aload X177.here hx rfl (hb hby at_291) rfl rfl ?_
      show Steps p.tables e below (T177.setTop (mkF m 293 #[.val (.int p1), .val (.int p2), .val (.int p3), .val (.int p4), .val (.int (0 : Int32)), .val (.int cu), .val (.int cv), .val (.int cw), .val (.ref ca), .val (.ref cb), .val (.ref s1), .val (.ref s2), .val (.ref pa), .val (.ref s1), .val (.ref bb), .val (.int (0 : Int32)), .val (.ref s1)] [(.ref s1)])) _
      refine XS.aload X177.here hx rfl (hb hby at_293) rfl rfl ?_
      show Steps p.tables e below (T177.setTop (mkF m 295 #[.val (.int p1), .val (.int p2), .val (.int p3), .val (.int p4), .val (.int (0 : Int32)), .val (.int cu), .val (.int cv), .val (.int cw), .val (.ref ca), .val (.ref cb), .val (.ref s1), .val (.ref s2), .val (.ref pa), .val (.ref s1), .val (.ref bb), .val (.int (0 : Int32)), .val (.ref s1)] [(.ref s1), (.ref s1)])) _
      refine st178.trans ?_
      show Steps p.tables e below (T178.setTop (mkF m 298 #[.val (.int p1), .val (.int p2), .val (.int p3), .val (.int p4), .val (.int (0 : Int32)), .val (.int cu), .val (.int cv), .val (.int cw), .val (.ref ca), .val (.ref cb), .val (.ref s1), .val (.ref s2), .val (.ref pa), .val (.ref s1), .val (.ref bb), .val (.int (0 : Int32)), .val (.ref s1)] [(.int (1 : Int32))])) _
      refine XS.ifNo X178.here hx rfl (hb hby at_298) rfl ((if0 _ _).trans (feq (by decide : ¬ (1 : Int32) = 0)).1) ?_
      show Steps p.tables e below (T178.setTop (mkF m 301 #[.val (.int p1), .val (.int p2), .val (.int p3), .val (.int p4), .val (.int (0 : Int32)), .val (.int cu), .val (.int cv), .val (.int cw), .val (.ref ca), .val (.ref cb), .val (.ref s1), .val (.ref s2), .val (.ref pa), .val (.ref s1), .val (.ref bb), .val (.int (0 : Int32)), .val (.ref s1)] [])) _
      refine XS.iconst X178.here hx rfl (hb hby at_301) ?_
      show Steps p.tables e below (T178.setTop (mkF m 302 #[.val (.int p1), .val (.int p2), .val (.int p3), .val (.int p4), .val (.int (0 : Int32)), .val (.int cu), .val (.int cv), .val (.int cw), .val (.ref ca), .val (.ref cb), .val (.ref s1), .val (.ref s2), .val (.ref pa), .val (.ref s1), .val (.ref bb), .val (.int (0 : Int32)), .val (.ref s1)] [(.int (1 : Int32))])) _
      refine XS.goto X178.here hx rfl (pc0 := 302) (pc' := 306) rfl (hb hby at_302) (by decide) (by decide) ?_
      exact k_)
    obtain ⟨fs, hr, hrun, hended, hWr, hW1, hW2, hsame⟩ := Jvm.Stand.leaveW (s := s) X178 hS168' (by rw [e178]; exact (Nat.le_refl _)) (v := some (.int (1 : Int32))) (fun h => by rw [Bd.returns] at h; cases h)
    refine ⟨_, _, pre179 _ ?_, hrun, hended, _, _, rfl, ?_, hWr, hW1, hW2, hsame.mono (by decide) (by decide)⟩
    · show Steps p.tables e below (T178.setTop (mkF m 306 #[.val (.int p1), .val (.int p2), .val (.int p3), .val (.int p4), .val (.int (0 : Int32)), .val (.int cu), .val (.int cv), .val (.int cw), .val (.ref ca), .val (.ref cb), .val (.ref s1), .val (.ref s2), .val (.ref pa), .val (.ref s1), .val (.ref bb), .val (.int (0 : Int32)), .val (.ref s1)] [(.int (1 : Int32))])) _
      exact retN X178 hx (t := .boolean) Bd.returns (by simp) (hb hby at_306) hr
    · show Qrm0 Z p1 p2 p3 p4 zc uu h0 n0 _ T178.heap _
      rw [e178]
      exact ⟨rfl, N178⟩
  · skip
    subst q
    obtain ⟨T180, h180, k_ca, X180, e180, Ext_ca, A_ca, st180⟩ := newP X0 hx hZ (hw _ (List.mem_of_getElem? (i := 0) rfl)) e0 (g := (mkF m 31 #[.val (.int p1), .val (.int p2), .val (.int p3), .val (.int p4), .val (.int (1 : Int32)), .val (.int cu), .val (.int cv), .val (.int cw), .unset, .unset, .unset, .unset, .unset, .unset, .unset, .unset, .unset] [(.int (1 : Int32))])) rfl (hb hby at_31) rfl (by decide) (cap := 1) (by decide) (by decide) (by decide) (by decide)
    obtain ⟨ca, eq_ca⟩ : ∃ z, z = h0.size := ⟨_, rfl⟩
    rw [← eq_ca] at A_ca st180
    have g_ca : n0 ≤ ca := Nat.le_trans Z0 (Nat.le_of_eq eq_ca.symm)
    have O_181 := O.ext Ext_ca
    have Z182 : n0 ≤ h180.size := Nat.le_trans Z0 (Ext_ca.1)
    have V_ca : Arv Z h180 ca k_ca .char (1 : Int32) [(.int (0 : Int32))] (.int (0 : Int32)) := (Arv.new A_ca (by decide)).pad (pad_rep [] (.int (0 : Int32)) 1)
    obtain ⟨T183, h183, k_cb, X183, e183, Ext_cb, A_cb, st183⟩ := newP X180 hx hZ (hw _ (List.mem_of_getElem? (i := 0) rfl)) e180 (g := (mkF m 37 #[.val (.int p1), .val (.int p2), .val (.int p3), .val (.int p4), .val (.int (1 : Int32)), .val (.int cu), .val (.int cv), .val (.int cw), .val (.ref ca), .unset, .unset, .unset, .unset, .unset, .unset, .unset, .unset] [(.int (1 : Int32))])) rfl (hb hby at_37) rfl (by decide) (cap := 1) (by decide) (by decide) (by decide) (by decide)
    obtain ⟨cb, eq_cb⟩ : ∃ z, z = h180.size := ⟨_, rfl⟩
    rw [← eq_cb] at A_cb st183
    have g_cb : n0 ≤ cb := Nat.le_trans Z182 (Nat.le_of_eq eq_cb.symm)
    have O_184 := O_181.ext Ext_cb
    have ne_ca_cb : ca ≠ cb := Nat.ne_of_lt (Nat.lt_of_lt_of_le V_ca.lt (Nat.le_of_eq eq_cb.symm))
    have V_ca_185 := V_ca.ext Ext_cb
    have Z186 : n0 ≤ h183.size := Nat.le_trans Z182 (Ext_cb.1)
    have V_cb : Arv Z h183 cb k_cb .char (1 : Int32) [(.int (0 : Int32))] (.int (0 : Int32)) := (Arv.new A_cb (by decide)).pad (pad_rep [] (.int (0 : Int32)) 1)
    obtain ⟨cl187, Ar187, qk187, Sz187, Ng187, Hs187, Gs187⟩ := V_ca_185
    have hin187 : ¬ ((0 : Int32) < 0 ∨ cl187.slots.size ≤ ((0 : Int32)).toNatClampNeg) := inb_of Sz187 ⟨by decide, by decide⟩
    obtain ⟨T188, h188, X188, e188, W188, st188⟩ := stC X183 hx hZ e183 Ar187 (j := (0 : Int32)) hin187 (g := (mkF m 52 #[.val (.int p1), .val (.int p2), .val (.int p3), .val (.int p4), .val (.int (1 : Int32)), .val (.int cu), .val (.int cv), .val (.int cw), .val (.ref ca), .val (.ref cb), .unset, .unset, .unset, .unset, .unset, .unset, .unset] [(.int cu), (.int (0 : Int32)), (.ref ca)])) rfl rfl (hb hby at_52)
    have O_189 := O_184.wr W188 g_ca
    have V_cb_191 := V_cb.other W188 (Ne.symm ne_ca_cb)
    have V_ca_188 : Arv Z h188 ca k_ca .char (1 : Int32) [(.int (nar .char cu))] (.int (0 : Int32)) := Arv.set Ar187 qk187 Sz187 Ng187 Hs187 Gs187 (fits_nar_char _) W188 0 rfl (Nat.le_of_ble_eq_true rfl)
    have N188 := Fr.snoc X188 N0 g_ca
    have Z192 : n0 ≤ h188.size := Nat.le_trans Z186 ((Keep.of_wr W188).1)
    obtain ⟨cl193, Ar193, qk193, Sz193, Ng193, Hs193, Gs193⟩ := V_cb_191
    have hin193 : ¬ ((0 : Int32) < 0 ∨ cl193.slots.size ≤ ((0 : Int32)).toNatClampNeg) := inb_of Sz193 ⟨by decide, by decide⟩
    obtain ⟨T194, h194, X194, e194, W194, st194⟩ := stC X188 hx hZ e188 Ar193 (j := (0 : Int32)) hin193 (g := (mkF m 58 #[.val (.int p1), .val (.int p2), .val (.int p3), .val (.int p4), .val (.int (1 : Int32)), .val (.int cu), .val (.int cv), .val (.int cw), .val (.ref ca), .val (.ref cb), .unset, .unset, .unset, .unset, .unset, .unset, .unset] [(.int cu), (.int (0 : Int32)), (.ref cb)])) rfl rfl (hb hby at_58)
    have O_195 := O_189.wr W194 g_cb
    have V_ca_196 := V_ca_188.other W194 ne_ca_cb
    have V_cb_194 : Arv Z h194 cb k_cb .char (1 : Int32) [(.int (nar .char cu))] (.int (0 : Int32)) := Arv.set Ar193 qk193 Sz193 Ng193 Hs193 Gs193 (fits_nar_char _) W194 0 rfl (Nat.le_of_ble_eq_true rfl)
    have N194 := Fr.snoc X194 N188 g_cb
    have Z198 : n0 ≤ h194.size := Nat.le_trans Z192 ((Keep.of_wr W194).1)
    obtain ⟨T199, h199, X199, e199, Ext_s1, E_s1, D_s1, -, st199⟩ := newO X194 hx hZ hown (hw _ (List.mem_of_getElem? (i := 1) rfl)) (hw _ (List.mem_of_getElem? (i := 2) rfl)) (hw _ (List.mem_of_getElem? (i := 3) rfl)) e194 (g := (mkF m 95 #[.val (.int p1), .val (.int p2), .val (.int p3), .val (.int p4), .val (.int (1 : Int32)), .val (.int cu), .val (.int cv), .val (.int cw), .val (.ref ca), .val (.ref cb), .unset, .unset, .unset, .unset, .unset, .unset, .unset] [])) rfl (hb hby at_95) (by decide) (by decide)
    obtain ⟨s1, eq_s1⟩ : ∃ z, z = h194.size := ⟨_, rfl⟩
    rw [← eq_s1] at E_s1 D_s1 st199
    have g_s1 : n0 ≤ s1 := Nat.le_trans Z198 (Nat.le_of_eq eq_s1.symm)
    have O_200 := O_195.ext Ext_s1
    have ne_ca_s1 : ca ≠ s1 := Nat.ne_of_lt (Nat.lt_of_lt_of_le V_ca_196.lt (Nat.le_of_eq eq_s1.symm))
    have V_ca_201 := V_ca_196.ext Ext_s1
    have ne_cb_s1 : cb ≠ s1 := Nat.ne_of_lt (Nat.lt_of_lt_of_le V_cb_194.lt (Nat.le_of_eq eq_s1.symm))
    have V_cb_203 := V_cb_194.ext Ext_s1
    have Z204 : n0 ≤ h199.size := Nat.le_trans Z198 (Ext_s1.1)
    have Fv_s1 : Fld Z h199 s1 "java/lang/String" "value" "[B" .null := D_s1 (Or.inr (hw _ (List.mem_of_getElem? (i := 16) rfl))) (ty := (.array .byte)) (by decide)
    have Fc_s1 : Fld Z h199 s1 "java/lang/String" "coder" "B" (.int (0 : Int32)) := D_s1 (Or.inr (hw _ (List.mem_of_getElem? (i := 17) rfl))) (ty := .byte) (by decide)
    have VC_s1 := V_ca_201
    rw [own_nc (own_r16 b_cu)] at VC_s1
    have AC_s1 := own_AfA (n := 1) (g := gg) VC_s1 (by omega) (fun j hj => match j, hj with | 0, _ => congrArg Value.int g0.symm | (j + 1), h => absurd h (by omega))
    obtain ⟨_, _, ⟨T205, L205, k205, n205⟩, -, X205, ⟨Lc205, hQ205, l205, y205, z205⟩, st205⟩ := X199.specialBack hx (y := (⟨"java/lang/String", "<init>", "([C)V"⟩ : MethodName)) rfl hown (mvT hZ (hw _ (List.mem_of_getElem? (i := 4) rfl))) (mvT hZ (hw _ (List.mem_of_getElem? (i := 5) rfl))) (mvT hZ (hw _ (List.mem_of_getElem? (i := 6) rfl))) (by decide) (backOf (W := 1) (rmI1 l Z a0 hw [] s1 ca 1 gg zc h199 n0 Z204 E_s1 Fv_s1 Fc_s1 g_s1 O_200 S_c hzc (by omega) (by omega) (lat _) AC_s1) hZ (hw _ (List.mem_of_getElem? (i := 6) rfl)) (hw _ (List.mem_of_getElem? (i := 3) rfl)) (by decide) (by decide)) (g := (mkF m 101 #[.val (.int p1), .val (.int p2), .val (.int p3), .val (.int p4), .val (.int (1 : Int32)), .val (.int cu), .val (.int cv), .val (.int cw), .val (.ref ca), .val (.ref cb), .unset, .unset, .unset, .unset, .unset, .unset, .unset] [(.ref ca), (.ref s1), (.ref s1)])) rfl (by rw [hml]; rfl) (Steps.refl _) (a := s1) (argsL := [(.ref ca)]) (rest := [(.ref s1)]) (lenOf pd_20 rfl) rfl (by show 2 * 0 + _ ≤ _; exact Nat.le_of_eq rfl) (hb hby at_101) (fun _ _ => ⟨rfl, e199, (by decide : 3 + 1 ≤ _), (by decide : 6 + 6 ≤ _)⟩)
    dsimp only [Pt.U, Pt.locs, Pt.cells, Pt.slots] at X205 l205 y205 z205 st205 hQ205
    rw [l205, y205, z205] at X205
    obtain ⟨hv205, N205q, K205, t1, LL_s1⟩ := hQ205
    rw [hv205] at st205
    have N205 := Fr.app N194 N205q
    have O_206 := O_200.keep K205 (allS g_s1 all0)
    have V_cb_208 := V_cb_203.keep K205 (ninS ne_cb_s1 nin0)
    have Z211 : n0 ≤ T205.heap.size := Nat.le_trans Z204 (K205.1)
    have ltS := LL_s1.1.lt
    have ltT := LL_s1.2.2.2.2.lt
    obtain ⟨T212, h212, X212, e212, Ext_s2, E_s2, D_s2, -, st212⟩ := newO X205 hx hZ hown (hw _ (List.mem_of_getElem? (i := 1) rfl)) (hw _ (List.mem_of_getElem? (i := 2) rfl)) (hw _ (List.mem_of_getElem? (i := 3) rfl)) rfl (g := (mkF m 106 #[.val (.int p1), .val (.int p2), .val (.int p3), .val (.int p4), .val (.int (1 : Int32)), .val (.int cu), .val (.int cv), .val (.int cw), .val (.ref ca), .val (.ref cb), .val (.ref s1), .unset, .unset, .unset, .unset, .unset, .unset] [])) rfl (hb hby at_106) (by decide) (by decide)
    obtain ⟨s2, eq_s2⟩ : ∃ z, z = T205.heap.size := ⟨_, rfl⟩
    rw [← eq_s2] at E_s2 D_s2 st212
    have g_s2 : n0 ≤ s2 := Nat.le_trans Z211 (Nat.le_of_eq eq_s2.symm)
    have ne_cb_s2 : cb ≠ s2 := Nat.ne_of_lt (Nat.lt_of_lt_of_le V_cb_208.lt (Nat.le_of_eq eq_s2.symm))
    have V_cb_214 := V_cb_208.ext Ext_s2
    have O_217 := O_206.ext Ext_s2
    have Z218 : n0 ≤ h212.size := Nat.le_trans Z211 (Ext_s2.1)
    have L_219 := own_Lx LL_s1 Ext_s2
    have Fv_s2 : Fld Z h212 s2 "java/lang/String" "value" "[B" .null := D_s2 (Or.inr (hw _ (List.mem_of_getElem? (i := 16) rfl))) (ty := (.array .byte)) (by decide)
    have Fc_s2 : Fld Z h212 s2 "java/lang/String" "coder" "B" (.int (0 : Int32)) := D_s2 (Or.inr (hw _ (List.mem_of_getElem? (i := 17) rfl))) (ty := .byte) (by decide)
    have ne12 : s1 ≠ s2 := Nat.ne_of_lt (Nat.lt_of_lt_of_le ltS (Nat.le_of_eq eq_s2.symm))
    have net2 : t1 ≠ s2 := Nat.ne_of_lt (Nat.lt_of_lt_of_le ltT (Nat.le_of_eq eq_s2.symm))
    have pre220 : ∀ t_, Steps p.tables e below (T212.setTop (mkF m 110 #[.val (.int p1), .val (.int p2), .val (.int p3), .val (.int p4), .val (.int (1 : Int32)), .val (.int cu), .val (.int cv), .val (.int cw), .val (.ref ca), .val (.ref cb), .val (.ref s1), .unset, .unset, .unset, .unset, .unset, .unset] [(.ref s2), (.ref s2)])) t_ → Steps p.tables e below (s₁.setTop (entryFrame m #[(.int p1), (.int p2), (.int p3), (.int p4)] maxLocals)) t_ := fun t_ k_ => pre104 _ (by
      show Steps p.tables e below (s₁.setTop (mkF m 29 #[.val (.int p1), .val (.int p2), .val (.int p3), .val (.int p4), .val (.int (1 : Int32)), .val (.int cu), .val (.int cv), .val (.int cw), .unset, .unset, .unset, .unset, .unset, .unset, .unset, .unset, .unset] [])) _
      refine XS.iload X0.here hx rfl (hb hby at_29) rfl ?_
      show Steps p.tables e below (s₁.setTop (mkF m 31 #[.val (.int p1), .val (.int p2), .val (.int p3), .val (.int p4), .val (.int (1 : Int32)), .val (.int cu), .val (.int cv), .val (.int cw), .unset, .unset, .unset, .unset, .unset, .unset, .unset, .unset, .unset] [(.int (1 : Int32))])) _
      refine st180 _ ?_
      show Steps p.tables e below (T180.setTop (mkF m 33 #[.val (.int p1), .val (.int p2), .val (.int p3), .val (.int p4), .val (.int (1 : Int32)), .val (.int cu), .val (.int cv), .val (.int cw), .unset, .unset, .unset, .unset, .unset, .unset, .unset, .unset, .unset] [(.ref ca)])) _
      refine XS.astore X180.here hx rfl (hb hby at_33) rfl rfl (l' := #[.val (.int p1), .val (.int p2), .val (.int p3), .val (.int p4), .val (.int (1 : Int32)), .val (.int cu), .val (.int cv), .val (.int cw), .val (.ref ca), .unset, .unset, .unset, .unset, .unset, .unset, .unset, .unset]) rfl ?_
      show Steps p.tables e below (T180.setTop (mkF m 35 #[.val (.int p1), .val (.int p2), .val (.int p3), .val (.int p4), .val (.int (1 : Int32)), .val (.int cu), .val (.int cv), .val (.int cw), .val (.ref ca), .unset, .unset, .unset, .unset, .unset, .unset, .unset, .unset] [])) _
      refine XS.iload X180.here hx rfl (hb hby at_35) rfl ?_
      show Steps p.tables e below (T180.setTop (mkF m 37 #[.val (.int p1), .val (.int p2), .val (.int p3), .val (.int p4), .val (.int (1 : Int32)), .val (.int cu), .val (.int cv), .val (.int cw), .val (.ref ca), .unset, .unset, .unset, .unset, .unset, .unset, .unset, .unset] [(.int (1 : Int32))])) _
      refine st183 _ ?_
      show Steps p.tables e below (T183.setTop (mkF m 39 #[.val (.int p1), .val (.int p2), .val (.int p3), .val (.int p4), .val (.int (1 : Int32)), .val (.int cu), .val (.int cv), .val (.int cw), .val (.ref ca), .unset, .unset, .unset, .unset, .unset, .unset, .unset, .unset] [(.ref cb)])) _
      refine XS.astore X183.here hx rfl (hb hby at_39) rfl rfl (l' := #[.val (.int p1), .val (.int p2), .val (.int p3), .val (.int p4), .val (.int (1 : Int32)), .val (.int cu), .val (.int cv), .val (.int cw), .val (.ref ca), .val (.ref cb), .unset, .unset, .unset, .unset, .unset, .unset, .unset]) rfl ?_
      show Steps p.tables e below (T183.setTop (mkF m 41 #[.val (.int p1), .val (.int p2), .val (.int p3), .val (.int p4), .val (.int (1 : Int32)), .val (.int cu), .val (.int cv), .val (.int cw), .val (.ref ca), .val (.ref cb), .unset, .unset, .unset, .unset, .unset, .unset, .unset] [])) _
      refine XS.iload X183.here hx rfl (hb hby at_41) rfl ?_
      show Steps p.tables e below (T183.setTop (mkF m 43 #[.val (.int p1), .val (.int p2), .val (.int p3), .val (.int p4), .val (.int (1 : Int32)), .val (.int cu), .val (.int cv), .val (.int cw), .val (.ref ca), .val (.ref cb), .unset, .unset, .unset, .unset, .unset, .unset, .unset] [(.int (1 : Int32))])) _
      refine XS.iconst X183.here hx rfl (hb hby at_43) ?_
      show Steps p.tables e below (T183.setTop (mkF m 44 #[.val (.int p1), .val (.int p2), .val (.int p3), .val (.int p4), .val (.int (1 : Int32)), .val (.int cu), .val (.int cv), .val (.int cw), .val (.ref ca), .val (.ref cb), .unset, .unset, .unset, .unset, .unset, .unset, .unset] [(.int (1 : Int32)), (.int (1 : Int32))])) _
      refine XS.icmpNo X183.here hx rfl (hb hby at_44) rfl (flt (by decide)).1 ?_
      show Steps p.tables e below (T183.setTop (mkF m 47 #[.val (.int p1), .val (.int p2), .val (.int p3), .val (.int p4), .val (.int (1 : Int32)), .val (.int cu), .val (.int cv), .val (.int cw), .val (.ref ca), .val (.ref cb), .unset, .unset, .unset, .unset, .unset, .unset, .unset] [])) _
      refine XS.aload X183.here hx rfl (hb hby at_47) rfl rfl ?_
      show Steps p.tables e below (T183.setTop (mkF m 49 #[.val (.int p1), .val (.int p2), .val (.int p3), .val (.int p4), .val (.int (1 : Int32)), .val (.int cu), .val (.int cv), .val (.int cw), .val (.ref ca), .val (.ref cb), .unset, .unset, .unset, .unset, .unset, .unset, .unset] [(.ref ca)])) _
      refine XS.iconst X183.here hx rfl (hb hby at_49) ?_
      show Steps p.tables e below (T183.setTop (mkF m 50 #[.val (.int p1), .val (.int p2), .val (.int p3), .val (.int p4), .val (.int (1 : Int32)), .val (.int cu), .val (.int cv), .val (.int cw), .val (.ref ca), .val (.ref cb), .unset, .unset, .unset, .unset, .unset, .unset, .unset] [(.int (0 : Int32)), (.ref ca)])) _
      refine XS.iload X183.here hx rfl (hb hby at_50) rfl ?_
      show Steps p.tables e below (T183.setTop (mkF m 52 #[.val (.int p1), .val (.int p2), .val (.int p3), .val (.int p4), .val (.int (1 : Int32)), .val (.int cu), .val (.int cv), .val (.int cw), .val (.ref ca), .val (.ref cb), .unset, .unset, .unset, .unset, .unset, .unset, .unset] [(.int cu), (.int (0 : Int32)), (.ref ca)])) _
      refine st188 _ ?_
      show Steps p.tables e below (T188.setTop (mkF m 53 #[.val (.int p1), .val (.int p2), .val (.int p3), .val (.int p4), .val (.int (1 : Int32)), .val (.int cu), .val (.int cv), .val (.int cw), .val (.ref ca), .val (.ref cb), .unset, .unset, .unset, .unset, .unset, .unset, .unset] [])) _
      refine XS.aload X188.here hx rfl (hb hby at_53) rfl rfl ?_
      show Steps p.tables e below (T188.setTop (mkF m 55 #[.val (.int p1), .val (.int p2), .val (.int p3), .val (.int p4), .val (.int (1 : Int32)), .val (.int cu), .val (.int cv), .val (.int cw), .val (.ref ca), .val (.ref cb), .unset, .unset, .unset, .unset, .unset, .unset, .unset] [(.ref cb)])) _
      refine XS.iconst X188.here hx rfl (hb hby at_55) ?_
      show Steps p.tables e below (T188.setTop (mkF m 56 #[.val (.int p1), .val (.int p2), .val (.int p3), .val (.int p4), .val (.int (1 : Int32)), .val (.int cu), .val (.int cv), .val (.int cw), .val (.ref ca), .val (.ref cb), .unset, .unset, .unset, .unset, .unset, .unset, .unset] [(.int (0 : Int32)), (.ref cb)])) _
      refine XS.iload X188.here hx rfl (hb hby at_56) rfl ?_
      show Steps p.tables e below (T188.setTop (mkF m 58 #[.val (.int p1), .val (.int p2), .val (.int p3), .val (.int p4), .val (.int (1 : Int32)), .val (.int cu), .val (.int cv), .val (.int cw), .val (.ref ca), .val (.ref cb), .unset, .unset, .unset, .unset, .unset, .unset, .unset] [(.int cu), (.int (0 : Int32)), (.ref cb)])) _
      refine st194 _ ?_
      show Steps p.tables e below (T194.setTop (mkF m 59 #[.val (.int p1), .val (.int p2), .val (.int p3), .val (.int p4), .val (.int (1 : Int32)), .val (.int cu), .val (.int cv), .val (.int cw), .val (.ref ca), .val (.ref cb), .unset, .unset, .unset, .unset, .unset, .unset, .unset] [])) _
      refine XS.iload X194.here hx rfl (hb hby at_59) rfl ?_
      show Steps p.tables e below (T194.setTop (mkF m 61 #[.val (.int p1), .val (.int p2), .val (.int p3), .val (.int p4), .val (.int (1 : Int32)), .val (.int cu), .val (.int cv), .val (.int cw), .val (.ref ca), .val (.ref cb), .unset, .unset, .unset, .unset, .unset, .unset, .unset] [(.int (1 : Int32))])) _
      refine XS.iconst X194.here hx rfl (hb hby at_61) ?_
      show Steps p.tables e below (T194.setTop (mkF m 62 #[.val (.int p1), .val (.int p2), .val (.int p3), .val (.int p4), .val (.int (1 : Int32)), .val (.int cu), .val (.int cv), .val (.int cw), .val (.ref ca), .val (.ref cb), .unset, .unset, .unset, .unset, .unset, .unset, .unset] [(.int (2 : Int32)), (.int (1 : Int32))])) _
      refine XS.icmpYes X194.here hx rfl (pc0 := 62) (pc' := 77) rfl (hb hby at_62) rfl (tlt (by decide)).1 (by decide) (by decide) ?_
      show Steps p.tables e below (T194.setTop (mkF m 77 #[.val (.int p1), .val (.int p2), .val (.int p3), .val (.int p4), .val (.int (1 : Int32)), .val (.int cu), .val (.int cv), .val (.int cw), .val (.ref ca), .val (.ref cb), .unset, .unset, .unset, .unset, .unset, .unset, .unset] [])) _
      refine XS.iload X194.here hx rfl (hb hby at_77) rfl ?_
      show Steps p.tables e below (T194.setTop (mkF m 79 #[.val (.int p1), .val (.int p2), .val (.int p3), .val (.int p4), .val (.int (1 : Int32)), .val (.int cu), .val (.int cv), .val (.int cw), .val (.ref ca), .val (.ref cb), .unset, .unset, .unset, .unset, .unset, .unset, .unset] [(.int (1 : Int32))])) _
      refine XS.iconst X194.here hx rfl (hb hby at_79) ?_
      show Steps p.tables e below (T194.setTop (mkF m 80 #[.val (.int p1), .val (.int p2), .val (.int p3), .val (.int p4), .val (.int (1 : Int32)), .val (.int cu), .val (.int cv), .val (.int cw), .val (.ref ca), .val (.ref cb), .unset, .unset, .unset, .unset, .unset, .unset, .unset] [(.int (3 : Int32)), (.int (1 : Int32))])) _
      refine XS.icmpYes X194.here hx rfl (pc0 := 80) (pc' := 95) rfl (hb hby at_80) rfl (tlt (by decide)).1 (by decide) (by decide) ?_
      show Steps p.tables e below (T194.setTop (mkF m 95 #[.val (.int p1), .val (.int p2), .val (.int p3), .val (.int p4), .val (.int (1 : Int32)), .val (.int cu), .val (.int cv), .val (.int cw), .val (.ref ca), .val (.ref cb), .unset, .unset, .unset, .unset, .unset, .unset, .unset] [])) _
      refine st199 _ ?_
      show Steps p.tables e below (T199.setTop (mkF m 98 #[.val (.int p1), .val (.int p2), .val (.int p3), .val (.int p4), .val (.int (1 : Int32)), .val (.int cu), .val (.int cv), .val (.int cw), .val (.ref ca), .val (.ref cb), .unset, .unset, .unset, .unset, .unset, .unset, .unset] [(.ref s1)])) _
      refine XS.dup X199.here hx rfl (hb hby at_98) rfl rfl ?_
      show Steps p.tables e below (T199.setTop (mkF m 99 #[.val (.int p1), .val (.int p2), .val (.int p3), .val (.int p4), .val (.int (1 : Int32)), .val (.int cu), .val (.int cv), .val (.int cw), .val (.ref ca), .val (.ref cb), .unset, .unset, .unset, .unset, .unset, .unset, .unset] [(.ref s1), (.ref s1)])) _
      refine XS.aload X199.here hx rfl (hb hby at_99) rfl rfl ?_
      show Steps p.tables e below (T199.setTop (mkF m 101 #[.val (.int p1), .val (.int p2), .val (.int p3), .val (.int p4), .val (.int (1 : Int32)), .val (.int cu), .val (.int cv), .val (.int cw), .val (.ref ca), .val (.ref cb), .unset, .unset, .unset, .unset, .unset, .unset, .unset] [(.ref ca), (.ref s1), (.ref s1)])) _
      refine st205.trans ?_
      show Steps p.tables e below (T205.setTop (mkF m 104 #[.val (.int p1), .val (.int p2), .val (.int p3), .val (.int p4), .val (.int (1 : Int32)), .val (.int cu), .val (.int cv), .val (.int cw), .val (.ref ca), .val (.ref cb), .unset, .unset, .unset, .unset, .unset, .unset, .unset] [(.ref s1)])) _
      refine XS.astore X205.here hx rfl (hb hby at_104) rfl rfl (l' := #[.val (.int p1), .val (.int p2), .val (.int p3), .val (.int p4), .val (.int (1 : Int32)), .val (.int cu), .val (.int cv), .val (.int cw), .val (.ref ca), .val (.ref cb), .val (.ref s1), .unset, .unset, .unset, .unset, .unset, .unset]) rfl ?_
      show Steps p.tables e below (T205.setTop (mkF m 106 #[.val (.int p1), .val (.int p2), .val (.int p3), .val (.int p4), .val (.int (1 : Int32)), .val (.int cu), .val (.int cv), .val (.int cw), .val (.ref ca), .val (.ref cb), .val (.ref s1), .unset, .unset, .unset, .unset, .unset, .unset] [])) _
      refine st212 _ ?_
      show Steps p.tables e below (T212.setTop (mkF m 109 #[.val (.int p1), .val (.int p2), .val (.int p3), .val (.int p4), .val (.int (1 : Int32)), .val (.int cu), .val (.int cv), .val (.int cw), .val (.ref ca), .val (.ref cb), .val (.ref s1), .unset, .unset, .unset, .unset, .unset, .unset] [(.ref s2)])) _
      refine XS.dup X212.here hx rfl (hb hby at_109) rfl rfl ?_
      exact k_)
    have VC_s2 := V_cb_214
    rw [own_nc (own_r16 b_cu)] at VC_s2
    have AC_s2 := own_AfA (n := 1) (g := gg) VC_s2 (by omega) (fun j hj => match j, hj with | 0, _ => congrArg Value.int g0.symm | (j + 1), h => absurd h (by omega))
    obtain ⟨_, _, ⟨T221, L221, k221, n221⟩, -, X221, ⟨Lc221, hQ221, l221, y221, z221⟩, st221⟩ := X212.specialBack hx (y := (⟨"java/lang/String", "<init>", "([C)V"⟩ : MethodName)) rfl hown (mvT hZ (hw _ (List.mem_of_getElem? (i := 4) rfl))) (mvT hZ (hw _ (List.mem_of_getElem? (i := 5) rfl))) (mvT hZ (hw _ (List.mem_of_getElem? (i := 6) rfl))) (by decide) (backOf (W := 1) (rmI1 l Z a0 hw [] s2 cb 1 gg zc h212 n0 Z218 E_s2 Fv_s2 Fc_s2 g_s2 O_217 S_c hzc (by omega) (by omega) (lat _) AC_s2) hZ (hw _ (List.mem_of_getElem? (i := 6) rfl)) (hw _ (List.mem_of_getElem? (i := 3) rfl)) (by decide) (by decide)) (g := (mkF m 112 #[.val (.int p1), .val (.int p2), .val (.int p3), .val (.int p4), .val (.int (1 : Int32)), .val (.int cu), .val (.int cv), .val (.int cw), .val (.ref ca), .val (.ref cb), .val (.ref s1), .unset, .unset, .unset, .unset, .unset, .unset] [(.ref cb), (.ref s2), (.ref s2)])) rfl (by rw [hml]; rfl) (Steps.refl _) (a := s2) (argsL := [(.ref cb)]) (rest := [(.ref s2)]) (lenOf pd_20 rfl) rfl (by show 2 * 0 + _ ≤ _; exact Nat.le_of_eq rfl) (hb hby at_112) (fun _ _ => ⟨rfl, e212, (by decide : 5 + 1 ≤ _), (by decide : 16 + 6 ≤ _)⟩)
    dsimp only [Pt.U, Pt.locs, Pt.cells, Pt.slots] at X221 l221 y221 z221 st221 hQ221
    rw [l221, y221, z221] at X221
    obtain ⟨hv221, N221q, K221, t2, LL_s2⟩ := hQ221
    rw [hv221] at st221
    have N221 := Fr.app N205 N221q
    have O_222 := O_217.keep K221 (allS g_s2 all0)
    have L_223 := own_Lo L_219 K221 (ninS ne12 nin0) (ninS net2 nin0)
    have Z228 : n0 ≤ T221.heap.size := Nat.le_trans Z218 (K221.1)
    obtain ⟨_, _, ⟨T229, L229, k229, n229⟩, -, X229, hS229, hle229, ⟨Lc229, hQ229, l229, y229, z229⟩, st229⟩ := callSS (s := s) X221 hx (y := (⟨"com/example/ledgerpost/ledgerpost/Payload", "ofText", "(Ljava/lang/String;)Lcom/example/ledgerpost/ledgerpost/Payload;"⟩ : MethodName)) hown (mvT hZ (hw _ (List.mem_of_getElem? (i := 22) rfl))) (mvT hZ (hw _ (List.mem_of_getElem? (i := 23) rfl))) (mvT hZ (hw _ (List.mem_of_getElem? (i := 24) rfl))) (mvT hZ (hw _ (List.mem_of_getElem? (i := 25) rfl))) (by decide) (backOfS (W := 0) (rmO l Z a0 hw [] s1 T221.heap n0 Z228 L_223.1) hZ (hw _ (List.mem_of_getElem? (i := 25) rfl)) (hw _ (List.mem_of_getElem? (i := 24) rfl)) (by decide) (by decide)) (g := (mkF m 119 #[.val (.int p1), .val (.int p2), .val (.int p3), .val (.int p4), .val (.int (1 : Int32)), .val (.int cu), .val (.int cv), .val (.int cw), .val (.ref ca), .val (.ref cb), .val (.ref s1), .val (.ref s2), .unset, .unset, .unset, .unset, .unset] [(.ref s1)])) rfl (by rw [hml]; rfl) (argsL := [(.ref s1)]) (rest := []) (lenOf pd_21 rfl) rfl (by show 2 * 0 + _ ≤ _; exact Nat.le_of_eq rfl) (hb hby at_119) (fun _ _ => ⟨rfl, rfl, (by decide : 6 + 3 ≤ _), (by decide : 22 + 22 ≤ _)⟩)
    dsimp only [Pt.U, Pt.locs, Pt.cells, Pt.slots] at X229 l229 y229 z229 st229 hQ229 hS229 hle229
    rw [l229, y229, z229] at X229
    have hle229' := hle229
    obtain ⟨X229', hS229', hZ229, hown229⟩ := rebS (s := s) (vm0 := s.vm) ((State.WarmedH.refl s).since 0) (Nat.zero_le _) X229 hS229 hle229' hZ hown
    obtain ⟨pa, hv229, N229q, K229, E229, F0229, F1229, lp229⟩ := hQ229
    rw [hv229] at st229
    have N229 := Fr.app N221 N229q
    have O_230 := O_222.keep K229 all0
    have L_231 := own_Lk L_223 K229
    have L_232 := own_Lk LL_s2 K229
    have Z233 : n0 ≤ T229.heap.size := Nat.le_trans Z228 (K229.1)
    obtain ⟨cq234, kq234, q234a, q234b, q234c⟩ := isOf hZ229 rfl E229
    obtain ⟨_, _, ⟨T234, L234, k234, n234⟩, -, X234, ⟨Lc234, hQ234, l234, y234, z234⟩, st234⟩ := X229'.virtualBack hx (y := (⟨"com/example/ledgerpost/ledgerpost/Payload", "isText", "()Z"⟩ : MethodName)) (z := (⟨"com/example/ledgerpost/ledgerpost/Payload", "isText", "()Z"⟩ : MethodName)) hown229 (mvT hZ229 (hw _ (List.mem_of_getElem? (i := 42) rfl))) (mvT hZ229 (hw _ (List.mem_of_getElem? (i := 43) rfl))) (notFace_of_selects (args := #[]) (mvT hZ229 (hw _ (List.mem_of_getElem? (i := 45) rfl)))) (mvT hZ229 (hw _ (List.mem_of_getElem? (i := 45) rfl))) (mvT hZ229 (hw _ (List.mem_of_getElem? (i := 44) rfl))) (by decide) (backOf (W := 0) (rmIt l Z a0 hw [] pa s1 T229.heap n0 Z233 F0229) hZ229 (hw _ (List.mem_of_getElem? (i := 46) rfl)) (hw _ (List.mem_of_getElem? (i := 24) rfl)) (by decide) (by decide)) q234a q234c (g := (mkF m 126 #[.val (.int p1), .val (.int p2), .val (.int p3), .val (.int p4), .val (.int (1 : Int32)), .val (.int cu), .val (.int cv), .val (.int cw), .val (.ref ca), .val (.ref cb), .val (.ref s1), .val (.ref s2), .val (.ref pa), .unset, .unset, .unset, .unset] [(.ref pa)])) rfl (by rw [hml]; rfl) (Steps.refl _) (argsL := []) (rest := []) (lenOf pd_22 rfl) rfl (by show 2 * 0 + _ ≤ _; exact Nat.le_of_eq rfl) (hb hby at_126) (fun _ _ => ⟨rfl, rfl, (by decide : 9 + 0 ≤ _), (by decide : 44 + 0 ≤ _)⟩)
    dsimp only [Pt.U, Pt.locs, Pt.cells, Pt.slots] at X234 l234 y234 z234 st234 hQ234
    rw [l234, y234, z234] at X234
    obtain ⟨hv234, N234q, e234⟩ := hQ234
    rw [hv234] at st234
    have N234 := Fr.app N229 N234q
    obtain ⟨cq235, kq235, q235a, q235b, q235c⟩ := isOf hZ229 e234 E229
    obtain ⟨_, _, ⟨T235, L235, k235, n235⟩, -, X235, ⟨Lc235, hQ235, l235, y235, z235⟩, st235⟩ := X234.virtualBack hx (y := (⟨"com/example/ledgerpost/ledgerpost/Payload", "text", "()Ljava/lang/String;"⟩ : MethodName)) (z := (⟨"com/example/ledgerpost/ledgerpost/Payload", "text", "()Ljava/lang/String;"⟩ : MethodName)) hown229 (mvT hZ229 (hw _ (List.mem_of_getElem? (i := 47) rfl))) (mvT hZ229 (hw _ (List.mem_of_getElem? (i := 48) rfl))) (notFace_of_selects (args := #[]) (mvT hZ229 (hw _ (List.mem_of_getElem? (i := 50) rfl)))) (mvT hZ229 (hw _ (List.mem_of_getElem? (i := 50) rfl))) (mvT hZ229 (hw _ (List.mem_of_getElem? (i := 49) rfl))) (by decide) (backOf (W := 0) (rmTx l Z a0 hw [] pa s1 T229.heap n0 Z233 F0229) hZ229 (hw _ (List.mem_of_getElem? (i := 51) rfl)) (hw _ (List.mem_of_getElem? (i := 24) rfl)) (by decide) (by decide)) q235a q235c (g := (mkF m 136 #[.val (.int p1), .val (.int p2), .val (.int p3), .val (.int p4), .val (.int (1 : Int32)), .val (.int cu), .val (.int cv), .val (.int cw), .val (.ref ca), .val (.ref cb), .val (.ref s1), .val (.ref s2), .val (.ref pa), .unset, .unset, .unset, .unset] [(.ref pa)])) rfl (by rw [hml]; rfl) (Steps.refl _) (argsL := []) (rest := []) (lenOf pd_23 rfl) rfl (by show 2 * 0 + _ ≤ _; exact Nat.le_of_eq rfl) (hb hby at_136) (fun _ _ => ⟨rfl, e234, (by decide : 9 + 0 ≤ _), (by decide : 44 + 0 ≤ _)⟩)
    dsimp only [Pt.U, Pt.locs, Pt.cells, Pt.slots] at X235 l235 y235 z235 st235 hQ235
    rw [l235, y235, z235] at X235
    obtain ⟨hv235, N235q, e235⟩ := hQ235
    rw [hv235] at st235
    have N235 := Fr.app N234 N235q
    obtain ⟨cq236, kq236, q236a, q236b, q236c⟩ := isOf hZ229 e235 L_231.1
    obtain ⟨_, _, ⟨T236, L236, k236, n236⟩, -, X236, ⟨Lc236, hQ236, l236, y236, z236⟩, st236⟩ := X235.virtualBack hx (y := (⟨"java/lang/String", "equals", "(Ljava/lang/Object;)Z"⟩ : MethodName)) (z := (⟨"java/lang/String", "equals", "(Ljava/lang/Object;)Z"⟩ : MethodName)) hown229 (mvT hZ229 (hw _ (List.mem_of_getElem? (i := 52) rfl))) (mvT hZ229 (hw _ (List.mem_of_getElem? (i := 53) rfl))) (notFace_of_selects (args := #[]) (mvT hZ229 (hw _ (List.mem_of_getElem? (i := 55) rfl)))) (mvT hZ229 (hw _ (List.mem_of_getElem? (i := 55) rfl))) (mvT hZ229 (hw _ (List.mem_of_getElem? (i := 54) rfl))) (by decide) (backOf (W := 0) (rmEs l Z a0 hw [] s1 s1 T229.heap n0 Z233 rfl) hZ229 (hw _ (List.mem_of_getElem? (i := 56) rfl)) (hw _ (List.mem_of_getElem? (i := 3) rfl)) (by decide) (by decide)) q236a q236c (g := (mkF m 150 #[.val (.int p1), .val (.int p2), .val (.int p3), .val (.int p4), .val (.int (1 : Int32)), .val (.int cu), .val (.int cv), .val (.int cw), .val (.ref ca), .val (.ref cb), .val (.ref s1), .val (.ref s2), .val (.ref pa), .val (.ref s1), .unset, .unset, .unset] [(.ref s1), (.ref s1)])) rfl (by rw [hml]; rfl) (Steps.refl _) (argsL := [(.ref s1)]) (rest := []) (lenOf pd_7 rfl) rfl (by show 2 * 0 + _ ≤ _; exact Nat.le_of_eq rfl) (hb hby at_150) (fun _ _ => ⟨rfl, e235, (by decide : 9 + 0 ≤ _), (by decide : 44 + 0 ≤ _)⟩)
    dsimp only [Pt.U, Pt.locs, Pt.cells, Pt.slots] at X236 l236 y236 z236 st236 hQ236
    rw [l236, y236, z236] at X236
    obtain ⟨hv236, N236q, e236⟩ := hQ236
    rw [hv236] at st236
    have N236 := Fr.app N235 N236q
    obtain ⟨cq237, kq237, q237a, q237b, q237c⟩ := isOf hZ229 e236 E229
    obtain ⟨_, _, ⟨T237, L237, k237, n237⟩, -, X237, ⟨Lc237, hQ237, l237, y237, z237⟩, st237⟩ := X236.virtualBack hx (y := (⟨"com/example/ledgerpost/ledgerpost/Payload", "length", "()J"⟩ : MethodName)) (z := (⟨"com/example/ledgerpost/ledgerpost/Payload", "length", "()J"⟩ : MethodName)) hown229 (mvT hZ229 (hw _ (List.mem_of_getElem? (i := 57) rfl))) (mvT hZ229 (hw _ (List.mem_of_getElem? (i := 58) rfl))) (notFace_of_selects (args := #[]) (mvT hZ229 (hw _ (List.mem_of_getElem? (i := 60) rfl)))) (mvT hZ229 (hw _ (List.mem_of_getElem? (i := 60) rfl))) (mvT hZ229 (hw _ (List.mem_of_getElem? (i := 59) rfl))) (by decide) (backOf (W := 0) (rmLg l Z a0 hw [] pa s1 t1 1 gg zc T229.heap n0 Z233 F0229 (by omega) L_231 (lat _) (S_c.ext O_230.2) hzc) hZ229 (hw _ (List.mem_of_getElem? (i := 61) rfl)) (hw _ (List.mem_of_getElem? (i := 24) rfl)) (by decide) (by decide)) q237a q237c (g := (mkF m 160 #[.val (.int p1), .val (.int p2), .val (.int p3), .val (.int p4), .val (.int (1 : Int32)), .val (.int cu), .val (.int cv), .val (.int cw), .val (.ref ca), .val (.ref cb), .val (.ref s1), .val (.ref s2), .val (.ref pa), .val (.ref s1), .unset, .unset, .unset] [(.ref pa)])) rfl (by rw [hml]; rfl) (Steps.refl _) (argsL := []) (rest := []) (lenOf pd_24 rfl) rfl (by show 2 * 0 + _ ≤ _; exact Nat.le_of_eq rfl) (hb hby at_160) (fun _ _ => ⟨rfl, e236, (by decide : 9 + 0 ≤ _), (by decide : 44 + 0 ≤ _)⟩)
    dsimp only [Pt.U, Pt.locs, Pt.cells, Pt.slots] at X237 l237 y237 z237 st237 hQ237
    rw [l237, y237, z237] at X237
    obtain ⟨hv237, N237q, e237⟩ := hQ237
    rw [hv237] at st237
    have N237 := Fr.app N236 N237q
    obtain ⟨cq238, kq238, q238a, q238b, q238c⟩ := isOf hZ229 e237 E229
    obtain ⟨_, _, ⟨T238, L238, k238, n238⟩, -, X238, ⟨Lc238, hQ238, l238, y238, z238⟩, st238⟩ := X237.virtualBack hx (y := (⟨"com/example/ledgerpost/ledgerpost/Payload", "bytes", "()[B"⟩ : MethodName)) (z := (⟨"com/example/ledgerpost/ledgerpost/Payload", "bytes", "()[B"⟩ : MethodName)) hown229 (mvT hZ229 (hw _ (List.mem_of_getElem? (i := 73) rfl))) (mvT hZ229 (hw _ (List.mem_of_getElem? (i := 74) rfl))) (notFace_of_selects (args := #[]) (mvT hZ229 (hw _ (List.mem_of_getElem? (i := 76) rfl)))) (mvT hZ229 (hw _ (List.mem_of_getElem? (i := 76) rfl))) (mvT hZ229 (hw _ (List.mem_of_getElem? (i := 75) rfl))) (by decide) (backOf (W := 0) (rmBy l Z a0 hw [] pa s1 uu t1 1 gg zc T229.heap n0 Z233 F0229 O_230 S_u S_i S_c hzc (by omega) (lat _) L_231) hZ229 (hw _ (List.mem_of_getElem? (i := 77) rfl)) (hw _ (List.mem_of_getElem? (i := 24) rfl)) (by decide) (by decide)) q238a q238c (g := (mkF m 174 #[.val (.int p1), .val (.int p2), .val (.int p3), .val (.int p4), .val (.int (1 : Int32)), .val (.int cu), .val (.int cv), .val (.int cw), .val (.ref ca), .val (.ref cb), .val (.ref s1), .val (.ref s2), .val (.ref pa), .val (.ref s1), .unset, .unset, .unset] [(.ref pa)])) rfl (by rw [hml]; rfl) (Steps.refl _) (argsL := []) (rest := []) (lenOf pd_25 rfl) rfl (by show 2 * 0 + _ ≤ _; exact Nat.le_of_eq rfl) (hb hby at_174) (fun _ _ => ⟨rfl, e237, (by decide : 9 + 2 ≤ _), (by decide : 44 + 24 ≤ _)⟩)
    dsimp only [Pt.U, Pt.locs, Pt.cells, Pt.slots] at X238 l238 y238 z238 st238 hQ238
    rw [l238, y238, z238] at X238
    obtain ⟨bb, db, hv238, N238q, K238, AB, B0⟩ := hQ238
    rw [hv238] at st238
    have N238 := Fr.app N237 N238q
    have O_239 := O_230.keep K238 all0
    have L_240 := own_Lk L_231 K238
    have L_241 := own_Lk L_232 K238
    have E_pa_242 := E229.keep K238
    have F0_pa_243 := F0229.keep K238 nin0
    have F1_pa_244 := F1229.keep K238 nin0
    have Z245 : n0 ≤ T238.heap.size := Nat.le_trans Z233 (K238.1)
    have hk246 := Nat.le_trans (Nat.le_refl _) (K238.1)
    obtain ⟨cl, Ar, Sz, Hs⟩ := id AB
    have ub := own_ulb gg 1
    have Sz2 : cl.slots.size = (Int32.ofNat (own_ul gg 1)).toNatClampNeg := by rw [Sz, own_ofc (by omega)]
    have pre247 : ∀ t_, Steps p.tables e below (T238.setTop (mkF m 184 #[.val (.int p1), .val (.int p2), .val (.int p3), .val (.int p4), .val (.int (1 : Int32)), .val (.int cu), .val (.int cv), .val (.int cw), .val (.ref ca), .val (.ref cb), .val (.ref s1), .val (.ref s2), .val (.ref pa), .val (.ref s1), .val (.ref bb), .val (.int (0 : Int32)), .unset] [(.int (1 : Int32))])) t_ → Steps p.tables e below (s₁.setTop (entryFrame m #[(.int p1), (.int p2), (.int p3), (.int p4)] maxLocals)) t_ := fun t_ k_ => pre220 _ (by
      show Steps p.tables e below (T212.setTop (mkF m 110 #[.val (.int p1), .val (.int p2), .val (.int p3), .val (.int p4), .val (.int (1 : Int32)), .val (.int cu), .val (.int cv), .val (.int cw), .val (.ref ca), .val (.ref cb), .val (.ref s1), .unset, .unset, .unset, .unset, .unset, .unset] [(.ref s2), (.ref s2)])) _
      refine XS.aload X212.here hx rfl (hb hby at_110) rfl rfl ?_
      show Steps p.tables e below (T212.setTop (mkF m 112 #[.val (.int p1), .val (.int p2), .val (.int p3), .val (.int p4), .val (.int (1 : Int32)), .val (.int cu), .val (.int cv), .val (.int cw), .val (.ref ca), .val (.ref cb), .val (.ref s1), .unset, .unset, .unset, .unset, .unset, .unset] [(.ref cb), (.ref s2), (.ref s2)])) _
      refine st221.trans ?_
      show Steps p.tables e below (T221.setTop (mkF m 115 #[.val (.int p1), .val (.int p2), .val (.int p3), .val (.int p4), .val (.int (1 : Int32)), .val (.int cu), .val (.int cv), .val (.int cw), .val (.ref ca), .val (.ref cb), .val (.ref s1), .unset, .unset, .unset, .unset, .unset, .unset] [(.ref s2)])) _
      refine XS.astore X221.here hx rfl (hb hby at_115) rfl rfl (l' := #[.val (.int p1), .val (.int p2), .val (.int p3), .val (.int p4), .val (.int (1 : Int32)), .val (.int cu), .val (.int cv), .val (.int cw), .val (.ref ca), .val (.ref cb), .val (.ref s1), .val (.ref s2), .unset, .unset, .unset, .unset, .unset]) rfl ?_
      show Steps p.tables e below (T221.setTop (mkF m 117 #[.val (.int p1), .val (.int p2), .val (.int p3), .val (.int p4), .val (.int (1 : Int32)), .val (.int cu), .val (.int cv), .val (.int cw), .val (.ref ca), .val (.ref cb), .val (.ref s1), .val (.ref s2), .unset, .unset, .unset, .unset, .unset] [])) _
      refine XS.aload X221.here hx rfl (hb hby at_117) rfl rfl ?_
      show Steps p.tables e below (T221.setTop (mkF m 119 #[.val (.int p1), .val (.int p2), .val (.int p3), .val (.int p4), .val (.int (1 : Int32)), .val (.int cu), .val (.int cv), .val (.int cw), .val (.ref ca), .val (.ref cb), .val (.ref s1), .val (.ref s2), .unset, .unset, .unset, .unset, .unset] [(.ref s1)])) _
      refine st229.trans ?_
      show Steps p.tables e below (T229.setTop (mkF m 122 #[.val (.int p1), .val (.int p2), .val (.int p3), .val (.int p4), .val (.int (1 : Int32)), .val (.int cu), .val (.int cv), .val (.int cw), .val (.ref ca), .val (.ref cb), .val (.ref s1), .val (.ref s2), .unset, .unset, .unset, .unset, .unset] [(.ref pa)])) _
      refine XS.astore X229'.here hx rfl (hb hby at_122) rfl rfl (l' := #[.val (.int p1), .val (.int p2), .val (.int p3), .val (.int p4), .val (.int (1 : Int32)), .val (.int cu), .val (.int cv), .val (.int cw), .val (.ref ca), .val (.ref cb), .val (.ref s1), .val (.ref s2), .val (.ref pa), .unset, .unset, .unset, .unset]) rfl ?_
      show Steps p.tables e below (T229.setTop (mkF m 124 #[.val (.int p1), .val (.int p2), .val (.int p3), .val (.int p4), .val (.int (1 : Int32)), .val (.int cu), .val (.int cv), .val (.int cw), .val (.ref ca), .val (.ref cb), .val (.ref s1), .val (.ref s2), .val (.ref pa), .unset, .unset, .unset, .unset] [])) _
      refine XS.aload X229'.here hx rfl (hb hby at_124) rfl rfl ?_
      show Steps p.tables e below (T229.setTop (mkF m 126 #[.val (.int p1), .val (.int p2), .val (.int p3), .val (.int p4), .val (.int (1 : Int32)), .val (.int cu), .val (.int cv), .val (.int cw), .val (.ref ca), .val (.ref cb), .val (.ref s1), .val (.ref s2), .val (.ref pa), .unset, .unset, .unset, .unset] [(.ref pa)])) _
      refine st234.trans ?_
      show Steps p.tables e below (T234.setTop (mkF m 129 #[.val (.int p1), .val (.int p2), .val (.int p3), .val (.int p4), .val (.int (1 : Int32)), .val (.int cu), .val (.int cv), .val (.int cw), .val (.ref ca), .val (.ref cb), .val (.ref s1), .val (.ref s2), .val (.ref pa), .unset, .unset, .unset, .unset] [(.int (1 : Int32))])) _
      refine XS.ifYes X234.here hx rfl (pc0 := 129) (pc' := 134) rfl (hb hby at_129) rfl ((if0 _ _).trans (feq (by decide : ¬ (1 : Int32) = 0)).2) (by decide) (by decide) ?_
      show Steps p.tables e below (T234.setTop (mkF m 134 #[.val (.int p1), .val (.int p2), .val (.int p3), .val (.int p4), .val (.int (1 : Int32)), .val (.int cu), .val (.int cv), .val (.int cw), .val (.ref ca), .val (.ref cb), .val (.ref s1), .val (.ref s2), .val (.ref pa), .unset, .unset, .unset, .unset] [])) _
      refine XS.aload X234.here hx rfl (hb hby at_134) rfl rfl ?_
      show Steps p.tables e below (T234.setTop (mkF m 136 #[.val (.int p1), .val (.int p2), .val (.int p3), .val (.int p4), .val (.int (1 : Int32)), .val (.int cu), .val (.int cv), .val (.int cw), .val (.ref ca), .val (.ref cb), .val (.ref s1), .val (.ref s2), .val (.ref pa), .unset, .unset, .unset, .unset] [(.ref pa)])) _
      refine st235.trans ?_
      show Steps p.tables e below (T235.setTop (mkF m 139 #[.val (.int p1), .val (.int p2), .val (.int p3), .val (.int p4), .val (.int (1 : Int32)), .val (.int cu), .val (.int cv), .val (.int cw), .val (.ref ca), .val (.ref cb), .val (.ref s1), .val (.ref s2), .val (.ref pa), .unset, .unset, .unset, .unset] [(.ref s1)])) _
      refine XS.astore X235.here hx rfl (hb hby at_139) rfl rfl (l' := #[.val (.int p1), .val (.int p2), .val (.int p3), .val (.int p4), .val (.int (1 : Int32)), .val (.int cu), .val (.int cv), .val (.int cw), .val (.ref ca), .val (.ref cb), .val (.ref s1), .val (.ref s2), .val (.ref pa), .val (.ref s1), .unset, .unset, .unset]) rfl ?_
      show Steps p.tables e below (T235.setTop (mkF m 141 #[.val (.int p1), .val (.int p2), .val (.int p3), .val (.int p4), .val (.int (1 : Int32)), .val (.int cu), .val (.int cv), .val (.int cw), .val (.ref ca), .val (.ref cb), .val (.ref s1), .val (.ref s2), .val (.ref pa), .val (.ref s1), .unset, .unset, .unset] [])) _
      refine XS.aload X235.here hx rfl (hb hby at_141) rfl rfl ?_
      show Steps p.tables e below (T235.setTop (mkF m 143 #[.val (.int p1), .val (.int p2), .val (.int p3), .val (.int p4), .val (.int (1 : Int32)), .val (.int cu), .val (.int cv), .val (.int cw), .val (.ref ca), .val (.ref cb), .val (.ref s1), .val (.ref s2), .val (.ref pa), .val (.ref s1), .unset, .unset, .unset] [(.ref s1)])) _
      refine XS.ifnullNo X235.here hx rfl (hb hby at_143) rfl ?_
      show Steps p.tables e below (T235.setTop (mkF m 146 #[.val (.int p1), .val (.int p2), .val (.int p3), .val (.int p4), .val (.int (1 : Int32)), .val (.int cu), .val (.int cv), .val (.int cw), .val (.ref ca), .val (.ref cb), .val (.ref s1), .val (.ref s2), .val (.ref pa), .val (.ref s1), .unset, .unset, .unset] [])) _
      refine XS.aload X235.here hx rfl (hb hby at_146) rfl rfl ?_
      show Steps p.tables e below (T235.setTop (mkF m 148 #[.val (.int p1), .val (.int p2), .val (.int p3), .val (.int p4), .val (.int (1 : Int32)), .val (.int cu), .val (.int cv), .val (.int cw), .val (.ref ca), .val (.ref cb), .val (.ref s1), .val (.ref s2), .val (.ref pa), .val (.ref s1), .unset, .unset, .unset] [(.ref s1)])) _
      refine XS.aload X235.here hx rfl (hb hby at_148) rfl rfl ?_
      show Steps p.tables e below (T235.setTop (mkF m 150 #[.val (.int p1), .val (.int p2), .val (.int p3), .val (.int p4), .val (.int (1 : Int32)), .val (.int cu), .val (.int cv), .val (.int cw), .val (.ref ca), .val (.ref cb), .val (.ref s1), .val (.ref s2), .val (.ref pa), .val (.ref s1), .unset, .unset, .unset] [(.ref s1), (.ref s1)])) _
      refine st236.trans ?_
      show Steps p.tables e below (T236.setTop (mkF m 153 #[.val (.int p1), .val (.int p2), .val (.int p3), .val (.int p4), .val (.int (1 : Int32)), .val (.int cu), .val (.int cv), .val (.int cw), .val (.ref ca), .val (.ref cb), .val (.ref s1), .val (.ref s2), .val (.ref pa), .val (.ref s1), .unset, .unset, .unset] [(.int (1 : Int32))])) _
      refine XS.ifYes X236.here hx rfl (pc0 := 153) (pc' := 158) rfl (hb hby at_153) rfl ((if0 _ _).trans (feq (by decide : ¬ (1 : Int32) = 0)).2) (by decide) (by decide) ?_
      show Steps p.tables e below (T236.setTop (mkF m 158 #[.val (.int p1), .val (.int p2), .val (.int p3), .val (.int p4), .val (.int (1 : Int32)), .val (.int cu), .val (.int cv), .val (.int cw), .val (.ref ca), .val (.ref cb), .val (.ref s1), .val (.ref s2), .val (.ref pa), .val (.ref s1), .unset, .unset, .unset] [])) _
      refine XS.aload X236.here hx rfl (hb hby at_158) rfl rfl ?_
      show Steps p.tables e below (T236.setTop (mkF m 160 #[.val (.int p1), .val (.int p2), .val (.int p3), .val (.int p4), .val (.int (1 : Int32)), .val (.int cu), .val (.int cv), .val (.int cw), .val (.ref ca), .val (.ref cb), .val (.ref s1), .val (.ref s2), .val (.ref pa), .val (.ref s1), .unset, .unset, .unset] [(.ref pa)])) _
      refine st237.trans ?_
      show Steps p.tables e below (T237.setTop (mkF m 163 #[.val (.int p1), .val (.int p2), .val (.int p3), .val (.int p4), .val (.int (1 : Int32)), .val (.int cu), .val (.int cv), .val (.int cw), .val (.ref ca), .val (.ref cb), .val (.ref s1), .val (.ref s2), .val (.ref pa), .val (.ref s1), .unset, .unset, .unset] [(.long ((Int32.ofNat 1).toInt64))])) _
      refine XS.iload X237.here hx rfl (hb hby at_163) rfl ?_
      show Steps p.tables e below (T237.setTop (mkF m 165 #[.val (.int p1), .val (.int p2), .val (.int p3), .val (.int p4), .val (.int (1 : Int32)), .val (.int cu), .val (.int cv), .val (.int cw), .val (.ref ca), .val (.ref cb), .val (.ref s1), .val (.ref s2), .val (.ref pa), .val (.ref s1), .unset, .unset, .unset] [(.int (1 : Int32)), (.long ((Int32.ofNat 1).toInt64))])) _
      refine XS.i2l X237.here hx rfl (hb hby at_165) rfl ?_
      show Steps p.tables e below (T237.setTop (mkF m 166 #[.val (.int p1), .val (.int p2), .val (.int p3), .val (.int p4), .val (.int (1 : Int32)), .val (.int cu), .val (.int cv), .val (.int cw), .val (.ref ca), .val (.ref cb), .val (.ref s1), .val (.ref s2), .val (.ref pa), .val (.ref s1), .unset, .unset, .unset] [(.long ((1 : Int32).toInt64)), (.long ((Int32.ofNat 1).toInt64))])) _
      refine XS.lcmp X237.here hx rfl (hb hby at_166) rfl ?_
      show Steps p.tables e below (T237.setTop (mkF m 167 #[.val (.int p1), .val (.int p2), .val (.int p3), .val (.int p4), .val (.int (1 : Int32)), .val (.int cu), .val (.int cv), .val (.int cw), .val (.ref ca), .val (.ref cb), .val (.ref s1), .val (.ref s2), .val (.ref pa), .val (.ref s1), .unset, .unset, .unset] [(.int (lcmpW ((Int32.ofNat 1).toInt64) ((1 : Int32).toInt64)))])) _
      refine XS.ifYes X237.here hx rfl (pc0 := 167) (pc' := 172) rfl (hb hby at_167) rfl ((if0 _ _).trans (teq ((lw_eq _ _).mpr rfl)).1) (by decide) (by decide) ?_
      show Steps p.tables e below (T237.setTop (mkF m 172 #[.val (.int p1), .val (.int p2), .val (.int p3), .val (.int p4), .val (.int (1 : Int32)), .val (.int cu), .val (.int cv), .val (.int cw), .val (.ref ca), .val (.ref cb), .val (.ref s1), .val (.ref s2), .val (.ref pa), .val (.ref s1), .unset, .unset, .unset] [])) _
      refine XS.aload X237.here hx rfl (hb hby at_172) rfl rfl ?_
      show Steps p.tables e below (T237.setTop (mkF m 174 #[.val (.int p1), .val (.int p2), .val (.int p3), .val (.int p4), .val (.int (1 : Int32)), .val (.int cu), .val (.int cv), .val (.int cw), .val (.ref ca), .val (.ref cb), .val (.ref s1), .val (.ref s2), .val (.ref pa), .val (.ref s1), .unset, .unset, .unset] [(.ref pa)])) _
      refine st238.trans ?_
      show Steps p.tables e below (T238.setTop (mkF m 177 #[.val (.int p1), .val (.int p2), .val (.int p3), .val (.int p4), .val (.int (1 : Int32)), .val (.int cu), .val (.int cv), .val (.int cw), .val (.ref ca), .val (.ref cb), .val (.ref s1), .val (.ref s2), .val (.ref pa), .val (.ref s1), .unset, .unset, .unset] [(.ref bb)])) _
      refine XS.astore X238.here hx rfl (hb hby at_177) rfl rfl (l' := #[.val (.int p1), .val (.int p2), .val (.int p3), .val (.int p4), .val (.int (1 : Int32)), .val (.int cu), .val (.int cv), .val (.int cw), .val (.ref ca), .val (.ref cb), .val (.ref s1), .val (.ref s2), .val (.ref pa), .val (.ref s1), .val (.ref bb), .unset, .unset]) rfl ?_
      show Steps p.tables e below (T238.setTop (mkF m 179 #[.val (.int p1), .val (.int p2), .val (.int p3), .val (.int p4), .val (.int (1 : Int32)), .val (.int cu), .val (.int cv), .val (.int cw), .val (.ref ca), .val (.ref cb), .val (.ref s1), .val (.ref s2), .val (.ref pa), .val (.ref s1), .val (.ref bb), .unset, .unset] [])) _
      refine XS.iconst X238.here hx rfl (hb hby at_179) ?_
      show Steps p.tables e below (T238.setTop (mkF m 180 #[.val (.int p1), .val (.int p2), .val (.int p3), .val (.int p4), .val (.int (1 : Int32)), .val (.int cu), .val (.int cv), .val (.int cw), .val (.ref ca), .val (.ref cb), .val (.ref s1), .val (.ref s2), .val (.ref pa), .val (.ref s1), .val (.ref bb), .unset, .unset] [(.int (0 : Int32))])) _
      refine XS.istore X238.here hx rfl (hb hby at_180) rfl (l' := #[.val (.int p1), .val (.int p2), .val (.int p3), .val (.int p4), .val (.int (1 : Int32)), .val (.int cu), .val (.int cv), .val (.int cw), .val (.ref ca), .val (.ref cb), .val (.ref s1), .val (.ref s2), .val (.ref pa), .val (.ref s1), .val (.ref bb), .val (.int (0 : Int32)), .unset]) rfl ?_
      show Steps p.tables e below (T238.setTop (mkF m 182 #[.val (.int p1), .val (.int p2), .val (.int p3), .val (.int p4), .val (.int (1 : Int32)), .val (.int cu), .val (.int cv), .val (.int cw), .val (.ref ca), .val (.ref cb), .val (.ref s1), .val (.ref s2), .val (.ref pa), .val (.ref s1), .val (.ref bb), .val (.int (0 : Int32)), .unset] [])) _
      refine XS.iload X238.here hx rfl (hb hby at_182) rfl ?_
      exact k_)
    obtain ⟨_, _, ⟨T248, L248, k248, n248⟩, -, X248, ⟨Lc248, hQ248, l248, y248, z248⟩, st248⟩ := Jvm.LawKit.callS X238 hx (y := (⟨"com/example/ledgerpost/ledgerpost/PayloadOfTextPinLaw", "utf8Len", "(C)I"⟩ : MethodName)) hown229 (mvT hZ229 (hw _ (List.mem_of_getElem? (i := 153) rfl))) (mvT hZ229 (hw _ (List.mem_of_getElem? (i := 154) rfl))) (mvT hZ229 (hw _ (List.mem_of_getElem? (i := 155) rfl))) (mvT hZ229 (hw _ (List.mem_of_getElem? (i := 156) rfl))) (by decide) (backOf (W := 1) (rmutf8Len l Z a0 hw [] cu T238.heap n0 Z245 ) hZ229 (hw _ (List.mem_of_getElem? (i := 156) rfl)) (hw _ (List.mem_of_getElem? (i := 155) rfl)) (by decide) (by decide)) (g := (mkF m 192 #[.val (.int p1), .val (.int p2), .val (.int p3), .val (.int p4), .val (.int (1 : Int32)), .val (.int cu), .val (.int cv), .val (.int cw), .val (.ref ca), .val (.ref cb), .val (.ref s1), .val (.ref s2), .val (.ref pa), .val (.ref s1), .val (.ref bb), .val (.int (0 : Int32)), .unset] [(.int cu), (.int (0 : Int32))])) rfl (by rw [hml]; rfl) (argsL := [(.int cu)]) (rest := [(.int (0 : Int32))]) (lenOf pd_26 rfl) rfl (by show 2 * 0 + _ ≤ _; exact Nat.le_of_eq rfl) (hb hby at_192) (fun _ _ => ⟨rfl, rfl, (by decide : 11 + 0 ≤ _), (by decide : 68 + 0 ≤ _)⟩)
    dsimp only [Pt.U, Pt.locs, Pt.cells, Pt.slots] at X248 l248 y248 z248 st248 hQ248
    rw [l248, y248, z248] at X248
    obtain ⟨hv248, N248q, e248⟩ := hQ248
    rw [hv248] at st248
    have N248 := Fr.app N238 N248q
    have hin0 : ¬ ((0 : Int32) < 0 ∨ cl.slots.size ≤ (0 : Int32).toNatClampNeg) := own_ofin (a := 0) Sz (by omega) (by omega)
    have hat0 : cl.slots[(0 : Int32).toNatClampNeg]? = some (.int (db 0)) := own_hat Hs (j := 0) (by omega) (by omega)
    obtain ⟨_, _, ⟨T249, L249, k249, n249⟩, -, X249, ⟨Lc249, hQ249, l249, y249, z249⟩, st249⟩ := Jvm.LawKit.callS X248 hx (y := (⟨"com/example/ledgerpost/ledgerpost/PayloadOfTextPinLaw", "firstByte", "(C)I"⟩ : MethodName)) hown229 (mvT hZ229 (hw _ (List.mem_of_getElem? (i := 157) rfl))) (mvT hZ229 (hw _ (List.mem_of_getElem? (i := 158) rfl))) (mvT hZ229 (hw _ (List.mem_of_getElem? (i := 155) rfl))) (mvT hZ229 (hw _ (List.mem_of_getElem? (i := 159) rfl))) (by decide) (backOf (W := 1) (rmfirstByte l Z a0 hw [] cu T238.heap n0 Z245 ) hZ229 (hw _ (List.mem_of_getElem? (i := 159) rfl)) (hw _ (List.mem_of_getElem? (i := 155) rfl)) (by decide) (by decide)) (g := (mkF m 256 #[.val (.int p1), .val (.int p2), .val (.int p3), .val (.int p4), .val (.int (1 : Int32)), .val (.int cu), .val (.int cv), .val (.int cw), .val (.ref ca), .val (.ref cb), .val (.ref s1), .val (.ref s2), .val (.ref pa), .val (.ref s1), .val (.ref bb), .val (.int ((0 : Int32) + (own_u1 cu))), .unset] [(.int cu), (.int ((db 0) &&& (255 : Int32)))])) rfl (by rw [hml]; rfl) (argsL := [(.int cu)]) (rest := [(.int ((db 0) &&& (255 : Int32)))]) (lenOf pd_26 rfl) rfl (by show 2 * 0 + _ ≤ _; exact Nat.le_of_eq rfl) (hb hby at_256) (fun _ _ => ⟨rfl, e248, (by decide : 11 + 0 ≤ _), (by decide : 68 + 0 ≤ _)⟩)
    dsimp only [Pt.U, Pt.locs, Pt.cells, Pt.slots] at X249 l249 y249 z249 st249 hQ249
    rw [l249, y249, z249] at X249
    obtain ⟨hv249, N249q, e249⟩ := hQ249
    rw [hv249] at st249
    have N249 := Fr.app N248 N249q
    have pre250 : ∀ t_, Steps p.tables e below (T249.setTop (mkF m 268 #[.val (.int p1), .val (.int p2), .val (.int p3), .val (.int p4), .val (.int (1 : Int32)), .val (.int cu), .val (.int cv), .val (.int cw), .val (.ref ca), .val (.ref cb), .val (.ref s1), .val (.ref s2), .val (.ref pa), .val (.ref s1), .val (.ref bb), .val (.int ((0 : Int32) + (own_u1 cu))), .unset] [(.ref s2), (.ref pa)])) t_ → Steps p.tables e below (s₁.setTop (entryFrame m #[(.int p1), (.int p2), (.int p3), (.int p4)] maxLocals)) t_ := fun t_ k_ => pre247 _ (by
      show Steps p.tables e below (T238.setTop (mkF m 184 #[.val (.int p1), .val (.int p2), .val (.int p3), .val (.int p4), .val (.int (1 : Int32)), .val (.int cu), .val (.int cv), .val (.int cw), .val (.ref ca), .val (.ref cb), .val (.ref s1), .val (.ref s2), .val (.ref pa), .val (.ref s1), .val (.ref bb), .val (.int (0 : Int32)), .unset] [(.int (1 : Int32))])) _
      refine XS.iconst X238.here hx rfl (hb hby at_184) ?_
      show Steps p.tables e below (T238.setTop (mkF m 185 #[.val (.int p1), .val (.int p2), .val (.int p3), .val (.int p4), .val (.int (1 : Int32)), .val (.int cu), .val (.int cv), .val (.int cw), .val (.ref ca), .val (.ref cb), .val (.ref s1), .val (.ref s2), .val (.ref pa), .val (.ref s1), .val (.ref bb), .val (.int (0 : Int32)), .unset] [(.int (1 : Int32)), (.int (1 : Int32))])) _
      refine XS.icmpNo X238.here hx rfl (hb hby at_185) rfl (flt (by decide)).1 ?_
      show Steps p.tables e below (T238.setTop (mkF m 188 #[.val (.int p1), .val (.int p2), .val (.int p3), .val (.int p4), .val (.int (1 : Int32)), .val (.int cu), .val (.int cv), .val (.int cw), .val (.ref ca), .val (.ref cb), .val (.ref s1), .val (.ref s2), .val (.ref pa), .val (.ref s1), .val (.ref bb), .val (.int (0 : Int32)), .unset] [])) _
      refine XS.iload X238.here hx rfl (hb hby at_188) rfl ?_
      show Steps p.tables e below (T238.setTop (mkF m 190 #[.val (.int p1), .val (.int p2), .val (.int p3), .val (.int p4), .val (.int (1 : Int32)), .val (.int cu), .val (.int cv), .val (.int cw), .val (.ref ca), .val (.ref cb), .val (.ref s1), .val (.ref s2), .val (.ref pa), .val (.ref s1), .val (.ref bb), .val (.int (0 : Int32)), .unset] [(.int (0 : Int32))])) _
      refine XS.iload X238.here hx rfl (hb hby at_190) rfl ?_
      show Steps p.tables e below (T238.setTop (mkF m 192 #[.val (.int p1), .val (.int p2), .val (.int p3), .val (.int p4), .val (.int (1 : Int32)), .val (.int cu), .val (.int cv), .val (.int cw), .val (.ref ca), .val (.ref cb), .val (.ref s1), .val (.ref s2), .val (.ref pa), .val (.ref s1), .val (.ref bb), .val (.int (0 : Int32)), .unset] [(.int cu), (.int (0 : Int32))])) _
      refine st248 _ ?_
      show Steps p.tables e below (T248.setTop (mkF m 195 #[.val (.int p1), .val (.int p2), .val (.int p3), .val (.int p4), .val (.int (1 : Int32)), .val (.int cu), .val (.int cv), .val (.int cw), .val (.ref ca), .val (.ref cb), .val (.ref s1), .val (.ref s2), .val (.ref pa), .val (.ref s1), .val (.ref bb), .val (.int (0 : Int32)), .unset] [(.int (own_u1 cu)), (.int (0 : Int32))])) _
      refine XS.iadd X248.here hx rfl (hb hby at_195) rfl ?_
      show Steps p.tables e below (T248.setTop (mkF m 196 #[.val (.int p1), .val (.int p2), .val (.int p3), .val (.int p4), .val (.int (1 : Int32)), .val (.int cu), .val (.int cv), .val (.int cw), .val (.ref ca), .val (.ref cb), .val (.ref s1), .val (.ref s2), .val (.ref pa), .val (.ref s1), .val (.ref bb), .val (.int (0 : Int32)), .unset] [(.int ((0 : Int32) + (own_u1 cu)))])) _
      refine XS.istore X248.here hx rfl (hb hby at_196) rfl (l' := #[.val (.int p1), .val (.int p2), .val (.int p3), .val (.int p4), .val (.int (1 : Int32)), .val (.int cu), .val (.int cv), .val (.int cw), .val (.ref ca), .val (.ref cb), .val (.ref s1), .val (.ref s2), .val (.ref pa), .val (.ref s1), .val (.ref bb), .val (.int ((0 : Int32) + (own_u1 cu))), .unset]) rfl ?_
      show Steps p.tables e below (T248.setTop (mkF m 198 #[.val (.int p1), .val (.int p2), .val (.int p3), .val (.int p4), .val (.int (1 : Int32)), .val (.int cu), .val (.int cv), .val (.int cw), .val (.ref ca), .val (.ref cb), .val (.ref s1), .val (.ref s2), .val (.ref pa), .val (.ref s1), .val (.ref bb), .val (.int ((0 : Int32) + (own_u1 cu))), .unset] [])) _
      refine XS.iload X248.here hx rfl (hb hby at_198) rfl ?_
      show Steps p.tables e below (T248.setTop (mkF m 200 #[.val (.int p1), .val (.int p2), .val (.int p3), .val (.int p4), .val (.int (1 : Int32)), .val (.int cu), .val (.int cv), .val (.int cw), .val (.ref ca), .val (.ref cb), .val (.ref s1), .val (.ref s2), .val (.ref pa), .val (.ref s1), .val (.ref bb), .val (.int ((0 : Int32) + (own_u1 cu))), .unset] [(.int (1 : Int32))])) _
      refine XS.iconst X248.here hx rfl (hb hby at_200) ?_
      show Steps p.tables e below (T248.setTop (mkF m 201 #[.val (.int p1), .val (.int p2), .val (.int p3), .val (.int p4), .val (.int (1 : Int32)), .val (.int cu), .val (.int cv), .val (.int cw), .val (.ref ca), .val (.ref cb), .val (.ref s1), .val (.ref s2), .val (.ref pa), .val (.ref s1), .val (.ref bb), .val (.int ((0 : Int32) + (own_u1 cu))), .unset] [(.int (2 : Int32)), (.int (1 : Int32))])) _
      refine XS.icmpYes X248.here hx rfl (pc0 := 201) (pc' := 214) rfl (hb hby at_201) rfl (tlt (by decide)).1 (by decide) (by decide) ?_
      show Steps p.tables e below (T248.setTop (mkF m 214 #[.val (.int p1), .val (.int p2), .val (.int p3), .val (.int p4), .val (.int (1 : Int32)), .val (.int cu), .val (.int cv), .val (.int cw), .val (.ref ca), .val (.ref cb), .val (.ref s1), .val (.ref s2), .val (.ref pa), .val (.ref s1), .val (.ref bb), .val (.int ((0 : Int32) + (own_u1 cu))), .unset] [])) _
      refine XS.iload X248.here hx rfl (hb hby at_214) rfl ?_
      show Steps p.tables e below (T248.setTop (mkF m 216 #[.val (.int p1), .val (.int p2), .val (.int p3), .val (.int p4), .val (.int (1 : Int32)), .val (.int cu), .val (.int cv), .val (.int cw), .val (.ref ca), .val (.ref cb), .val (.ref s1), .val (.ref s2), .val (.ref pa), .val (.ref s1), .val (.ref bb), .val (.int ((0 : Int32) + (own_u1 cu))), .unset] [(.int (1 : Int32))])) _
      refine XS.iconst X248.here hx rfl (hb hby at_216) ?_
      show Steps p.tables e below (T248.setTop (mkF m 217 #[.val (.int p1), .val (.int p2), .val (.int p3), .val (.int p4), .val (.int (1 : Int32)), .val (.int cu), .val (.int cv), .val (.int cw), .val (.ref ca), .val (.ref cb), .val (.ref s1), .val (.ref s2), .val (.ref pa), .val (.ref s1), .val (.ref bb), .val (.int ((0 : Int32) + (own_u1 cu))), .unset] [(.int (3 : Int32)), (.int (1 : Int32))])) _
      refine XS.icmpYes X248.here hx rfl (pc0 := 217) (pc' := 230) rfl (hb hby at_217) rfl (tlt (by decide)).1 (by decide) (by decide) ?_
      show Steps p.tables e below (T248.setTop (mkF m 230 #[.val (.int p1), .val (.int p2), .val (.int p3), .val (.int p4), .val (.int (1 : Int32)), .val (.int cu), .val (.int cv), .val (.int cw), .val (.ref ca), .val (.ref cb), .val (.ref s1), .val (.ref s2), .val (.ref pa), .val (.ref s1), .val (.ref bb), .val (.int ((0 : Int32) + (own_u1 cu))), .unset] [])) _
      refine XS.aload X248.here hx rfl (hb hby at_230) rfl rfl ?_
      show Steps p.tables e below (T248.setTop (mkF m 232 #[.val (.int p1), .val (.int p2), .val (.int p3), .val (.int p4), .val (.int (1 : Int32)), .val (.int cu), .val (.int cv), .val (.int cw), .val (.ref ca), .val (.ref cb), .val (.ref s1), .val (.ref s2), .val (.ref pa), .val (.ref s1), .val (.ref bb), .val (.int ((0 : Int32) + (own_u1 cu))), .unset] [(.ref bb)])) _
      refine X248.arraylength hx (by rw [e248]; exact Ar.1) (State.isArrayOf_alike hZ229.alike Ar.2.1) (g := (mkF m 232 #[.val (.int p1), .val (.int p2), .val (.int p3), .val (.int p4), .val (.int (1 : Int32)), .val (.int cu), .val (.int cv), .val (.int cw), .val (.ref ca), .val (.ref cb), .val (.ref s1), .val (.ref s2), .val (.ref pa), .val (.ref s1), .val (.ref bb), .val (.int ((0 : Int32) + (own_u1 cu))), .unset] [(.ref bb)])) rfl rfl (hb hby at_232) _ ?_
      rw [len_of Sz2 (own_ofn0 (a := own_ul gg 1) (by omega))]
      show Steps p.tables e below (T248.setTop (mkF m 233 #[.val (.int p1), .val (.int p2), .val (.int p3), .val (.int p4), .val (.int (1 : Int32)), .val (.int cu), .val (.int cv), .val (.int cw), .val (.ref ca), .val (.ref cb), .val (.ref s1), .val (.ref s2), .val (.ref pa), .val (.ref s1), .val (.ref bb), .val (.int ((0 : Int32) + (own_u1 cu))), .unset] [(.int (Int32.ofNat (own_ul gg 1)))])) _
      refine XS.iload X248.here hx rfl (hb hby at_233) rfl ?_
      show Steps p.tables e below (T248.setTop (mkF m 235 #[.val (.int p1), .val (.int p2), .val (.int p3), .val (.int p4), .val (.int (1 : Int32)), .val (.int cu), .val (.int cv), .val (.int cw), .val (.ref ca), .val (.ref cb), .val (.ref s1), .val (.ref s2), .val (.ref pa), .val (.ref s1), .val (.ref bb), .val (.int ((0 : Int32) + (own_u1 cu))), .unset] [(.int ((0 : Int32) + (own_u1 cu))), (.int (Int32.ofNat (own_ul gg 1)))])) _
      refine XS.icmpYes X248.here hx rfl (pc0 := 235) (pc' := 240) rfl (hb hby at_235) rfl (teq (by rw [own_sum1 gg, g0])).1 (by decide) (by decide) ?_
      show Steps p.tables e below (T248.setTop (mkF m 240 #[.val (.int p1), .val (.int p2), .val (.int p3), .val (.int p4), .val (.int (1 : Int32)), .val (.int cu), .val (.int cv), .val (.int cw), .val (.ref ca), .val (.ref cb), .val (.ref s1), .val (.ref s2), .val (.ref pa), .val (.ref s1), .val (.ref bb), .val (.int ((0 : Int32) + (own_u1 cu))), .unset] [])) _
      refine XS.iload X248.here hx rfl (hb hby at_240) rfl ?_
      show Steps p.tables e below (T248.setTop (mkF m 242 #[.val (.int p1), .val (.int p2), .val (.int p3), .val (.int p4), .val (.int (1 : Int32)), .val (.int cu), .val (.int cv), .val (.int cw), .val (.ref ca), .val (.ref cb), .val (.ref s1), .val (.ref s2), .val (.ref pa), .val (.ref s1), .val (.ref bb), .val (.int ((0 : Int32) + (own_u1 cu))), .unset] [(.int (1 : Int32))])) _
      refine XS.iconst X248.here hx rfl (hb hby at_242) ?_
      show Steps p.tables e below (T248.setTop (mkF m 243 #[.val (.int p1), .val (.int p2), .val (.int p3), .val (.int p4), .val (.int (1 : Int32)), .val (.int cu), .val (.int cv), .val (.int cw), .val (.ref ca), .val (.ref cb), .val (.ref s1), .val (.ref s2), .val (.ref pa), .val (.ref s1), .val (.ref bb), .val (.int ((0 : Int32) + (own_u1 cu))), .unset] [(.int (1 : Int32)), (.int (1 : Int32))])) _
      refine XS.icmpNo X248.here hx rfl (hb hby at_243) rfl (flt (by decide)).1 ?_
      show Steps p.tables e below (T248.setTop (mkF m 246 #[.val (.int p1), .val (.int p2), .val (.int p3), .val (.int p4), .val (.int (1 : Int32)), .val (.int cu), .val (.int cv), .val (.int cw), .val (.ref ca), .val (.ref cb), .val (.ref s1), .val (.ref s2), .val (.ref pa), .val (.ref s1), .val (.ref bb), .val (.int ((0 : Int32) + (own_u1 cu))), .unset] [])) _
      refine XS.aload X248.here hx rfl (hb hby at_246) rfl rfl ?_
      show Steps p.tables e below (T248.setTop (mkF m 248 #[.val (.int p1), .val (.int p2), .val (.int p3), .val (.int p4), .val (.int (1 : Int32)), .val (.int cu), .val (.int cv), .val (.int cw), .val (.ref ca), .val (.ref cb), .val (.ref s1), .val (.ref s2), .val (.ref pa), .val (.ref s1), .val (.ref bb), .val (.int ((0 : Int32) + (own_u1 cu))), .unset] [(.ref bb)])) _
      refine XS.iconst X248.here hx rfl (hb hby at_248) ?_
      show Steps p.tables e below (T248.setTop (mkF m 249 #[.val (.int p1), .val (.int p2), .val (.int p3), .val (.int p4), .val (.int (1 : Int32)), .val (.int cu), .val (.int cv), .val (.int cw), .val (.ref ca), .val (.ref cb), .val (.ref s1), .val (.ref s2), .val (.ref pa), .val (.ref s1), .val (.ref bb), .val (.int ((0 : Int32) + (own_u1 cu))), .unset] [(.int (0 : Int32)), (.ref bb)])) _
      refine X248.baloadBytes hx (j := (0 : Int32)) (v := (.int (db 0))) (by rw [e248]; exact Ar.1) (State.isArrayOf_alike hZ229.alike Ar.2.1) Ar.2.2 hin0 hat0 (g := (mkF m 249 #[.val (.int p1), .val (.int p2), .val (.int p3), .val (.int p4), .val (.int (1 : Int32)), .val (.int cu), .val (.int cv), .val (.int cw), .val (.ref ca), .val (.ref cb), .val (.ref s1), .val (.ref s2), .val (.ref pa), .val (.ref s1), .val (.ref bb), .val (.int ((0 : Int32) + (own_u1 cu))), .unset] [(.int (0 : Int32)), (.ref bb)])) rfl rfl (hb hby at_249) _ ?_
      show Steps p.tables e below (T248.setTop (mkF m 250 #[.val (.int p1), .val (.int p2), .val (.int p3), .val (.int p4), .val (.int (1 : Int32)), .val (.int cu), .val (.int cv), .val (.int cw), .val (.ref ca), .val (.ref cb), .val (.ref s1), .val (.ref s2), .val (.ref pa), .val (.ref s1), .val (.ref bb), .val (.int ((0 : Int32) + (own_u1 cu))), .unset] [(.int (db 0))])) _
      refine XS.sipush X248.here hx rfl (hb hby at_250) ?_
      show Steps p.tables e below (T248.setTop (mkF m 253 #[.val (.int p1), .val (.int p2), .val (.int p3), .val (.int p4), .val (.int (1 : Int32)), .val (.int cu), .val (.int cv), .val (.int cw), .val (.ref ca), .val (.ref cb), .val (.ref s1), .val (.ref s2), .val (.ref pa), .val (.ref s1), .val (.ref bb), .val (.int ((0 : Int32) + (own_u1 cu))), .unset] [(.int (255 : Int32)), (.int (db 0))])) _
      refine XS.iand X248.here hx rfl (hb hby at_253) rfl ?_
      show Steps p.tables e below (T248.setTop (mkF m 254 #[.val (.int p1), .val (.int p2), .val (.int p3), .val (.int p4), .val (.int (1 : Int32)), .val (.int cu), .val (.int cv), .val (.int cw), .val (.ref ca), .val (.ref cb), .val (.ref s1), .val (.ref s2), .val (.ref pa), .val (.ref s1), .val (.ref bb), .val (.int ((0 : Int32) + (own_u1 cu))), .unset] [(.int ((db 0) &&& (255 : Int32)))])) _
      refine XS.iload X248.here hx rfl (hb hby at_254) rfl ?_
      show Steps p.tables e below (T248.setTop (mkF m 256 #[.val (.int p1), .val (.int p2), .val (.int p3), .val (.int p4), .val (.int (1 : Int32)), .val (.int cu), .val (.int cv), .val (.int cw), .val (.ref ca), .val (.ref cb), .val (.ref s1), .val (.ref s2), .val (.ref pa), .val (.ref s1), .val (.ref bb), .val (.int ((0 : Int32) + (own_u1 cu))), .unset] [(.int cu), (.int ((db 0) &&& (255 : Int32)))])) _
      refine st249 _ ?_
      show Steps p.tables e below (T249.setTop (mkF m 259 #[.val (.int p1), .val (.int p2), .val (.int p3), .val (.int p4), .val (.int (1 : Int32)), .val (.int cu), .val (.int cv), .val (.int cw), .val (.ref ca), .val (.ref cb), .val (.ref s1), .val (.ref s2), .val (.ref pa), .val (.ref s1), .val (.ref bb), .val (.int ((0 : Int32) + (own_u1 cu))), .unset] [(.int (own_f1 cu)), (.int ((db 0) &&& (255 : Int32)))])) _
      refine XS.icmpYes X249.here hx rfl (pc0 := 259) (pc' := 264) rfl (hb hby at_259) rfl (teq (by rw [B0 (by omega), g0]; exact own_fbf b_cu.1 b_cu.2)).1 (by decide) (by decide) ?_
      show Steps p.tables e below (T249.setTop (mkF m 264 #[.val (.int p1), .val (.int p2), .val (.int p3), .val (.int p4), .val (.int (1 : Int32)), .val (.int cu), .val (.int cv), .val (.int cw), .val (.ref ca), .val (.ref cb), .val (.ref s1), .val (.ref s2), .val (.ref pa), .val (.ref s1), .val (.ref bb), .val (.int ((0 : Int32) + (own_u1 cu))), .unset] [])) _
      refine XS.aload X249.here hx rfl (hb hby at_264) rfl rfl ?_
      show Steps p.tables e below (T249.setTop (mkF m 266 #[.val (.int p1), .val (.int p2), .val (.int p3), .val (.int p4), .val (.int (1 : Int32)), .val (.int cu), .val (.int cv), .val (.int cw), .val (.ref ca), .val (.ref cb), .val (.ref s1), .val (.ref s2), .val (.ref pa), .val (.ref s1), .val (.ref bb), .val (.int ((0 : Int32) + (own_u1 cu))), .unset] [(.ref pa)])) _
      refine XS.aload X249.here hx rfl (hb hby at_266) rfl rfl ?_
      exact k_)
    obtain ⟨_, _, ⟨T251, L251, k251, n251⟩, -, X251, hS251, hle251, ⟨Lc251, hQ251, l251, y251, z251⟩, st251⟩ := callSS (s := (s.setVm T229.vm)) X249 hx (y := (⟨"com/example/ledgerpost/ledgerpost/Payload", "ofText", "(Ljava/lang/String;)Lcom/example/ledgerpost/ledgerpost/Payload;"⟩ : MethodName)) hown229 (mvT hZ229 (hw _ (List.mem_of_getElem? (i := 22) rfl))) (mvT hZ229 (hw _ (List.mem_of_getElem? (i := 23) rfl))) (mvT hZ229 (hw _ (List.mem_of_getElem? (i := 24) rfl))) (mvT hZ229 (hw _ (List.mem_of_getElem? (i := 25) rfl))) (by decide) (backOfS (W := 1) (rmO l Z a0 hw [] s2 T238.heap n0 Z245 L_241.1) hZ229 (hw _ (List.mem_of_getElem? (i := 25) rfl)) (hw _ (List.mem_of_getElem? (i := 24) rfl)) (by decide) (by decide)) (g := (mkF m 268 #[.val (.int p1), .val (.int p2), .val (.int p3), .val (.int p4), .val (.int (1 : Int32)), .val (.int cu), .val (.int cv), .val (.int cw), .val (.ref ca), .val (.ref cb), .val (.ref s1), .val (.ref s2), .val (.ref pa), .val (.ref s1), .val (.ref bb), .val (.int ((0 : Int32) + (own_u1 cu))), .unset] [(.ref s2), (.ref pa)])) rfl (by rw [hml]; rfl) (argsL := [(.ref s2)]) (rest := [(.ref pa)]) (lenOf pd_21 rfl) rfl (by show 2 * 0 + _ ≤ _; exact Nat.le_of_eq rfl) (hb hby at_268) (fun _ _ => ⟨rfl, e249, (by decide : 11 + 3 ≤ _), (by decide : 68 + 22 ≤ _)⟩)
    dsimp only [Pt.U, Pt.locs, Pt.cells, Pt.slots] at X251 l251 y251 z251 st251 hQ251 hS251 hle251
    rw [l251, y251, z251] at X251
    have hle251' : T238.heap.size ≤ T251.heap.size := by have q := hle251; rw [e249] at q; exact q
    obtain ⟨X251', hS251', hZ251, hown251⟩ := rebS (s := s) (vm0 := T229.vm) hS229' hk246 X251 hS251 hle251' hZ229 hown229
    obtain ⟨pb, hv251, N251q, K251, E251, F0251, F1251, lp251⟩ := hQ251
    rw [hv251] at st251
    have N251 := Fr.app N249 N251q
    have O_252 := O_239.keep K251 all0
    have L_253 := own_Lk L_240 K251
    have L_254 := own_Lk L_241 K251
    have E_pa_255 := E_pa_242.keep K251
    have F0_pa_256 := F0_pa_243.keep K251 nin0
    have F1_pa_257 := F1_pa_244.keep K251 nin0
    have Z258 : n0 ≤ T251.heap.size := Nat.le_trans Z245 (K251.1)
    obtain ⟨cq259, kq259, q259a, q259b, q259c⟩ := isOf hZ251 rfl E_pa_255
    obtain ⟨_, _, ⟨T259, L259, k259, n259⟩, -, X259, ⟨Lc259, hQ259, l259, y259, z259⟩, st259⟩ := X251'.virtualBack hx (y := (⟨"com/example/ledgerpost/ledgerpost/Payload", "equals", "(Ljava/lang/Object;)Z"⟩ : MethodName)) (z := (⟨"com/example/ledgerpost/ledgerpost/Payload", "equals", "(Ljava/lang/Object;)Z"⟩ : MethodName)) hown251 (mvT hZ251 (hw _ (List.mem_of_getElem? (i := 109) rfl))) (mvT hZ251 (hw _ (List.mem_of_getElem? (i := 110) rfl))) (notFace_of_selects (args := #[]) (mvT hZ251 (hw _ (List.mem_of_getElem? (i := 112) rfl)))) (mvT hZ251 (hw _ (List.mem_of_getElem? (i := 112) rfl))) (mvT hZ251 (hw _ (List.mem_of_getElem? (i := 111) rfl))) (by decide) (backOf (W := 0) (rmPE l Z a0 hw [] pa pb s1 s2 t1 t2 1 gg zc T251.heap n0 Z258 F0_pa_256 F0251 F1_pa_257 F1251 E251 (by omega) L_253 L_254 ne12 (S_c.ext O_252.2) hzc) hZ251 (hw _ (List.mem_of_getElem? (i := 113) rfl)) (hw _ (List.mem_of_getElem? (i := 24) rfl)) (by decide) (by decide)) q259a q259c (g := (mkF m 271 #[.val (.int p1), .val (.int p2), .val (.int p3), .val (.int p4), .val (.int (1 : Int32)), .val (.int cu), .val (.int cv), .val (.int cw), .val (.ref ca), .val (.ref cb), .val (.ref s1), .val (.ref s2), .val (.ref pa), .val (.ref s1), .val (.ref bb), .val (.int ((0 : Int32) + (own_u1 cu))), .unset] [(.ref pb), (.ref pa)])) rfl (by rw [hml]; rfl) (Steps.refl _) (argsL := [(.ref pb)]) (rest := []) (lenOf pd_7 rfl) rfl (by show 2 * 0 + _ ≤ _; exact Nat.le_of_eq rfl) (hb hby at_271) (fun _ _ => ⟨rfl, rfl, (by decide : 14 + 0 ≤ _), (by decide : 90 + 0 ≤ _)⟩)
    dsimp only [Pt.U, Pt.locs, Pt.cells, Pt.slots] at X259 l259 y259 z259 st259 hQ259
    rw [l259, y259, z259] at X259
    obtain ⟨hv259, N259q, e259⟩ := hQ259
    rw [hv259] at st259
    have N259 := Fr.app N251 N259q
    obtain ⟨cq260, kq260, q260a, q260b, q260c⟩ := isOf hZ251 e259 E_pa_255
    obtain ⟨_, _, ⟨T260, L260, k260, n260⟩, -, X260, ⟨Lc260, hQ260, l260, y260, z260⟩, st260⟩ := X259.virtualBack hx (y := (⟨"com/example/ledgerpost/ledgerpost/Payload", "toString", "()Ljava/lang/String;"⟩ : MethodName)) (z := (⟨"com/example/ledgerpost/ledgerpost/Payload", "toString", "()Ljava/lang/String;"⟩ : MethodName)) hown251 (mvT hZ251 (hw _ (List.mem_of_getElem? (i := 131) rfl))) (mvT hZ251 (hw _ (List.mem_of_getElem? (i := 132) rfl))) (notFace_of_selects (args := #[]) (mvT hZ251 (hw _ (List.mem_of_getElem? (i := 134) rfl)))) (mvT hZ251 (hw _ (List.mem_of_getElem? (i := 134) rfl))) (mvT hZ251 (hw _ (List.mem_of_getElem? (i := 133) rfl))) (by decide) (backOf (W := 0) (rmTs l Z a0 hw [] pa s1 T251.heap n0 Z258 F0_pa_256) hZ251 (hw _ (List.mem_of_getElem? (i := 135) rfl)) (hw _ (List.mem_of_getElem? (i := 24) rfl)) (by decide) (by decide)) q260a q260c (g := (mkF m 281 #[.val (.int p1), .val (.int p2), .val (.int p3), .val (.int p4), .val (.int (1 : Int32)), .val (.int cu), .val (.int cv), .val (.int cw), .val (.ref ca), .val (.ref cb), .val (.ref s1), .val (.ref s2), .val (.ref pa), .val (.ref s1), .val (.ref bb), .val (.int ((0 : Int32) + (own_u1 cu))), .unset] [(.ref pa)])) rfl (by rw [hml]; rfl) (Steps.refl _) (argsL := []) (rest := []) (lenOf pd_23 rfl) rfl (by show 2 * 0 + _ ≤ _; exact Nat.le_of_eq rfl) (hb hby at_281) (fun _ _ => ⟨rfl, e259, (by decide : 14 + 0 ≤ _), (by decide : 90 + 0 ≤ _)⟩)
    dsimp only [Pt.U, Pt.locs, Pt.cells, Pt.slots] at X260 l260 y260 z260 st260 hQ260
    rw [l260, y260, z260] at X260
    obtain ⟨hv260, N260q, e260⟩ := hQ260
    rw [hv260] at st260
    have N260 := Fr.app N259 N260q
    obtain ⟨cq261, kq261, q261a, q261b, q261c⟩ := isOf hZ251 e260 L_253.1
    obtain ⟨_, _, ⟨T261, L261, k261, n261⟩, -, X261, ⟨Lc261, hQ261, l261, y261, z261⟩, st261⟩ := X260.virtualBack hx (y := (⟨"java/lang/String", "equals", "(Ljava/lang/Object;)Z"⟩ : MethodName)) (z := (⟨"java/lang/String", "equals", "(Ljava/lang/Object;)Z"⟩ : MethodName)) hown251 (mvT hZ251 (hw _ (List.mem_of_getElem? (i := 52) rfl))) (mvT hZ251 (hw _ (List.mem_of_getElem? (i := 53) rfl))) (notFace_of_selects (args := #[]) (mvT hZ251 (hw _ (List.mem_of_getElem? (i := 55) rfl)))) (mvT hZ251 (hw _ (List.mem_of_getElem? (i := 55) rfl))) (mvT hZ251 (hw _ (List.mem_of_getElem? (i := 54) rfl))) (by decide) (backOf (W := 0) (rmEs l Z a0 hw [] s1 s1 T251.heap n0 Z258 rfl) hZ251 (hw _ (List.mem_of_getElem? (i := 56) rfl)) (hw _ (List.mem_of_getElem? (i := 3) rfl)) (by decide) (by decide)) q261a q261c (g := (mkF m 295 #[.val (.int p1), .val (.int p2), .val (.int p3), .val (.int p4), .val (.int (1 : Int32)), .val (.int cu), .val (.int cv), .val (.int cw), .val (.ref ca), .val (.ref cb), .val (.ref s1), .val (.ref s2), .val (.ref pa), .val (.ref s1), .val (.ref bb), .val (.int ((0 : Int32) + (own_u1 cu))), .val (.ref s1)] [(.ref s1), (.ref s1)])) rfl (by rw [hml]; rfl) (Steps.refl _) (argsL := [(.ref s1)]) (rest := []) (lenOf pd_7 rfl) rfl (by show 2 * 0 + _ ≤ _; exact Nat.le_of_eq rfl) (hb hby at_295) (fun _ _ => ⟨rfl, e260, (by decide : 14 + 0 ≤ _), (by decide : 90 + 0 ≤ _)⟩)
    dsimp only [Pt.U, Pt.locs, Pt.cells, Pt.slots] at X261 l261 y261 z261 st261 hQ261
    rw [l261, y261, z261] at X261
    obtain ⟨hv261, N261q, e261⟩ := hQ261
    rw [hv261] at st261
    have N261 := Fr.app N260 N261q
    have pre262 : ∀ t_, Steps p.tables e below (T261.setTop (mkF m 306 #[.val (.int p1), .val (.int p2), .val (.int p3), .val (.int p4), .val (.int (1 : Int32)), .val (.int cu), .val (.int cv), .val (.int cw), .val (.ref ca), .val (.ref cb), .val (.ref s1), .val (.ref s2), .val (.ref pa), .val (.ref s1), .val (.ref bb), .val (.int ((0 : Int32) + (own_u1 cu))), .val (.ref s1)] [(.int (1 : Int32))])) t_ → Steps p.tables e below (s₁.setTop (entryFrame m #[(.int p1), (.int p2), (.int p3), (.int p4)] maxLocals)) t_ := fun t_ k_ => pre250 _ (by
      show Steps p.tables e below (T249.setTop (mkF m 268 #[.val (.int p1), .val (.int p2), .val (.int p3), .val (.int p4), .val (.int (1 : Int32)), .val (.int cu), .val (.int cv), .val (.int cw), .val (.ref ca), .val (.ref cb), .val (.ref s1), .val (.ref s2), .val (.ref pa), .val (.ref s1), .val (.ref bb), .val (.int ((0 : Int32) + (own_u1 cu))), .unset] [(.ref s2), (.ref pa)])) _
      refine st251.trans ?_
      show Steps p.tables e below (T251.setTop (mkF m 271 #[.val (.int p1), .val (.int p2), .val (.int p3), .val (.int p4), .val (.int (1 : Int32)), .val (.int cu), .val (.int cv), .val (.int cw), .val (.ref ca), .val (.ref cb), .val (.ref s1), .val (.ref s2), .val (.ref pa), .val (.ref s1), .val (.ref bb), .val (.int ((0 : Int32) + (own_u1 cu))), .unset] [(.ref pb), (.ref pa)])) _
      refine st259.trans ?_
      show Steps p.tables e below (T259.setTop (mkF m 274 #[.val (.int p1), .val (.int p2), .val (.int p3), .val (.int p4), .val (.int (1 : Int32)), .val (.int cu), .val (.int cv), .val (.int cw), .val (.ref ca), .val (.ref cb), .val (.ref s1), .val (.ref s2), .val (.ref pa), .val (.ref s1), .val (.ref bb), .val (.int ((0 : Int32) + (own_u1 cu))), .unset] [(.int (1 : Int32))])) _
      refine XS.ifYes X259.here hx rfl (pc0 := 274) (pc' := 279) rfl (hb hby at_274) rfl ((if0 _ _).trans (feq (by decide : ¬ (1 : Int32) = 0)).2) (by decide) (by decide) ?_
      show Steps p.tables e below (T259.setTop (mkF m 279 #[.val (.int p1), .val (.int p2), .val (.int p3), .val (.int p4), .val (.int (1 : Int32)), .val (.int cu), .val (.int cv), .val (.int cw), .val (.ref ca), .val (.ref cb), .val (.ref s1), .val (.ref s2), .val (.ref pa), .val (.ref s1), .val (.ref bb), .val (.int ((0 : Int32) + (own_u1 cu))), .unset] [])) _
      refine XS.aload X259.here hx rfl (hb hby at_279) rfl rfl ?_
      show Steps p.tables e below (T259.setTop (mkF m 281 #[.val (.int p1), .val (.int p2), .val (.int p3), .val (.int p4), .val (.int (1 : Int32)), .val (.int cu), .val (.int cv), .val (.int cw), .val (.ref ca), .val (.ref cb), .val (.ref s1), .val (.ref s2), .val (.ref pa), .val (.ref s1), .val (.ref bb), .val (.int ((0 : Int32) + (own_u1 cu))), .unset] [(.ref pa)])) _
      refine st260.trans ?_
      show Steps p.tables e below (T260.setTop (mkF m 284 #[.val (.int p1), .val (.int p2), .val (.int p3), .val (.int p4), .val (.int (1 : Int32)), .val (.int cu), .val (.int cv), .val (.int cw), .val (.ref ca), .val (.ref cb), .val (.ref s1), .val (.ref s2), .val (.ref pa), .val (.ref s1), .val (.ref bb), .val (.int ((0 : Int32) + (own_u1 cu))), .unset] [(.ref s1)])) _
      refine XS.astore X260.here hx rfl (hb hby at_284) rfl rfl (l' := #[.val (.int p1), .val (.int p2), .val (.int p3), .val (.int p4), .val (.int (1 : Int32)), .val (.int cu), .val (.int cv), .val (.int cw), .val (.ref ca), .val (.ref cb), .val (.ref s1), .val (.ref s2), .val (.ref pa), .val (.ref s1), .val (.ref bb), .val (.int ((0 : Int32) + (own_u1 cu))), .val (.ref s1)]) rfl ?_
      show Steps p.tables e below (T260.setTop (mkF m 286 #[.val (.int p1), .val (.int p2), .val (.int p3), .val (.int p4), .val (.int (1 : Int32)), .val (.int cu), .val (.int cv), .val (.int cw), .val (.ref ca), .val (.ref cb), .val (.ref s1), .val (.ref s2), .val (.ref pa), .val (.ref s1), .val (.ref bb), .val (.int ((0 : Int32) + (own_u1 cu))), .val (.ref s1)] [])) _
      refine XS.aload X260.here hx rfl (hb hby at_286) rfl rfl ?_
      show Steps p.tables e below (T260.setTop (mkF m 288 #[.val (.int p1), .val (.int p2), .val (.int p3), .val (.int p4), .val (.int (1 : Int32)), .val (.int cu), .val (.int cv), .val (.int cw), .val (.ref ca), .val (.ref cb), .val (.ref s1), .val (.ref s2), .val (.ref pa), .val (.ref s1), .val (.ref bb), .val (.int ((0 : Int32) + (own_u1 cu))), .val (.ref s1)] [(.ref s1)])) _
      refine XS.ifnullNo X260.here hx rfl (hb hby at_288) rfl ?_
      show Steps p.tables e below (T260.setTop (mkF m 291 #[.val (.int p1), .val (.int p2), .val (.int p3), .val (.int p4), .val (.int (1 : Int32)), .val (.int cu), .val (.int cv), .val (.int cw), .val (.ref ca), .val (.ref cb), .val (.ref s1), .val (.ref s2), .val (.ref pa), .val (.ref s1), .val (.ref bb), .val (.int ((0 : Int32) + (own_u1 cu))), .val (.ref s1)] [])) _
      refine XS.aload X260.here hx rfl (hb hby at_291) rfl rfl ?_
      show Steps p.tables e below (T260.setTop (mkF m 293 #[.val (.int p1), .val (.int p2), .val (.int p3), .val (.int p4), .val (.int (1 : Int32)), .val (.int cu), .val (.int cv), .val (.int cw), .val (.ref ca), .val (.ref cb), .val (.ref s1), .val (.ref s2), .val (.ref pa), .val (.ref s1), .val (.ref bb), .val (.int ((0 : Int32) + (own_u1 cu))), .val (.ref s1)] [(.ref s1)])) _
      refine XS.aload X260.here hx rfl (hb hby at_293) rfl rfl ?_
      show Steps p.tables e below (T260.setTop (mkF m 295 #[.val (.int p1), .val (.int p2), .val (.int p3), .val (.int p4), .val (.int (1 : Int32)), .val (.int cu), .val (.int cv), .val (.int cw), .val (.ref ca), .val (.ref cb), .val (.ref s1), .val (.ref s2), .val (.ref pa), .val (.ref s1), .val (.ref bb), .val (.int ((0 : Int32) + (own_u1 cu))), .val (.ref s1)] [(.ref s1), (.ref s1)])) _
      refine st261.trans ?_
      show Steps p.tables e below (T261.setTop (mkF m 298 #[.val (.int p1), .val (.int p2), .val (.int p3), .val (.int p4), .val (.int (1 : Int32)), .val (.int cu), .val (.int cv), .val (.int cw), .val (.ref ca), .val (.ref cb), .val (.ref s1), .val (.ref s2), .val (.ref pa), .val (.ref s1), .val (.ref bb), .val (.int ((0 : Int32) + (own_u1 cu))), .val (.ref s1)] [(.int (1 : Int32))])) _
      refine XS.ifNo X261.here hx rfl (hb hby at_298) rfl ((if0 _ _).trans (feq (by decide : ¬ (1 : Int32) = 0)).1) ?_
      show Steps p.tables e below (T261.setTop (mkF m 301 #[.val (.int p1), .val (.int p2), .val (.int p3), .val (.int p4), .val (.int (1 : Int32)), .val (.int cu), .val (.int cv), .val (.int cw), .val (.ref ca), .val (.ref cb), .val (.ref s1), .val (.ref s2), .val (.ref pa), .val (.ref s1), .val (.ref bb), .val (.int ((0 : Int32) + (own_u1 cu))), .val (.ref s1)] [])) _
      refine XS.iconst X261.here hx rfl (hb hby at_301) ?_
      show Steps p.tables e below (T261.setTop (mkF m 302 #[.val (.int p1), .val (.int p2), .val (.int p3), .val (.int p4), .val (.int (1 : Int32)), .val (.int cu), .val (.int cv), .val (.int cw), .val (.ref ca), .val (.ref cb), .val (.ref s1), .val (.ref s2), .val (.ref pa), .val (.ref s1), .val (.ref bb), .val (.int ((0 : Int32) + (own_u1 cu))), .val (.ref s1)] [(.int (1 : Int32))])) _
      refine XS.goto X261.here hx rfl (pc0 := 302) (pc' := 306) rfl (hb hby at_302) (by decide) (by decide) ?_
      exact k_)
    obtain ⟨fs, hr, hrun, hended, hWr, hW1, hW2, hsame⟩ := Jvm.Stand.leaveW (s := s) X261 hS251' (by rw [e261]; exact (Nat.le_refl _)) (v := some (.int (1 : Int32))) (fun h => by rw [Bd.returns] at h; cases h)
    refine ⟨_, _, pre262 _ ?_, hrun, hended, _, _, rfl, ?_, hWr, hW1, hW2, hsame.mono (by decide) (by decide)⟩
    · show Steps p.tables e below (T261.setTop (mkF m 306 #[.val (.int p1), .val (.int p2), .val (.int p3), .val (.int p4), .val (.int (1 : Int32)), .val (.int cu), .val (.int cv), .val (.int cw), .val (.ref ca), .val (.ref cb), .val (.ref s1), .val (.ref s2), .val (.ref pa), .val (.ref s1), .val (.ref bb), .val (.int ((0 : Int32) + (own_u1 cu))), .val (.ref s1)] [(.int (1 : Int32))])) _
      exact retN X261 hx (t := .boolean) Bd.returns (by simp) (hb hby at_306) hr
    · show Qrm0 Z p1 p2 p3 p4 zc uu h0 n0 _ T261.heap _
      rw [e261]
      exact ⟨rfl, N261⟩
  · skip
    subst q
    obtain ⟨T263, h263, k_ca, X263, e263, Ext_ca, A_ca, st263⟩ := newP X0 hx hZ (hw _ (List.mem_of_getElem? (i := 0) rfl)) e0 (g := (mkF m 31 #[.val (.int p1), .val (.int p2), .val (.int p3), .val (.int p4), .val (.int (2 : Int32)), .val (.int cu), .val (.int cv), .val (.int cw), .unset, .unset, .unset, .unset, .unset, .unset, .unset, .unset, .unset] [(.int (2 : Int32))])) rfl (hb hby at_31) rfl (by decide) (cap := 2) (by decide) (by decide) (by decide) (by decide)
    obtain ⟨ca, eq_ca⟩ : ∃ z, z = h0.size := ⟨_, rfl⟩
    rw [← eq_ca] at A_ca st263
    have g_ca : n0 ≤ ca := Nat.le_trans Z0 (Nat.le_of_eq eq_ca.symm)
    have O_264 := O.ext Ext_ca
    have Z265 : n0 ≤ h263.size := Nat.le_trans Z0 (Ext_ca.1)
    have V_ca : Arv Z h263 ca k_ca .char (2 : Int32) [(.int (0 : Int32)), (.int (0 : Int32))] (.int (0 : Int32)) := (Arv.new A_ca (by decide)).pad (pad_rep [] (.int (0 : Int32)) 2)
    obtain ⟨T266, h266, k_cb, X266, e266, Ext_cb, A_cb, st266⟩ := newP X263 hx hZ (hw _ (List.mem_of_getElem? (i := 0) rfl)) e263 (g := (mkF m 37 #[.val (.int p1), .val (.int p2), .val (.int p3), .val (.int p4), .val (.int (2 : Int32)), .val (.int cu), .val (.int cv), .val (.int cw), .val (.ref ca), .unset, .unset, .unset, .unset, .unset, .unset, .unset, .unset] [(.int (2 : Int32))])) rfl (hb hby at_37) rfl (by decide) (cap := 2) (by decide) (by decide) (by decide) (by decide)
    obtain ⟨cb, eq_cb⟩ : ∃ z, z = h263.size := ⟨_, rfl⟩
    rw [← eq_cb] at A_cb st266
    have g_cb : n0 ≤ cb := Nat.le_trans Z265 (Nat.le_of_eq eq_cb.symm)
    have O_267 := O_264.ext Ext_cb
    have ne_ca_cb : ca ≠ cb := Nat.ne_of_lt (Nat.lt_of_lt_of_le V_ca.lt (Nat.le_of_eq eq_cb.symm))
    have V_ca_268 := V_ca.ext Ext_cb
    have Z269 : n0 ≤ h266.size := Nat.le_trans Z265 (Ext_cb.1)
    have V_cb : Arv Z h266 cb k_cb .char (2 : Int32) [(.int (0 : Int32)), (.int (0 : Int32))] (.int (0 : Int32)) := (Arv.new A_cb (by decide)).pad (pad_rep [] (.int (0 : Int32)) 2)
    obtain ⟨cl270, Ar270, qk270, Sz270, Ng270, Hs270, Gs270⟩ := V_ca_268
    have hin270 : ¬ ((0 : Int32) < 0 ∨ cl270.slots.size ≤ ((0 : Int32)).toNatClampNeg) := inb_of Sz270 ⟨by decide, by decide⟩
    obtain ⟨T271, h271, X271, e271, W271, st271⟩ := stC X266 hx hZ e266 Ar270 (j := (0 : Int32)) hin270 (g := (mkF m 52 #[.val (.int p1), .val (.int p2), .val (.int p3), .val (.int p4), .val (.int (2 : Int32)), .val (.int cu), .val (.int cv), .val (.int cw), .val (.ref ca), .val (.ref cb), .unset, .unset, .unset, .unset, .unset, .unset, .unset] [(.int cu), (.int (0 : Int32)), (.ref ca)])) rfl rfl (hb hby at_52)
    have O_272 := O_267.wr W271 g_ca
    have V_cb_274 := V_cb.other W271 (Ne.symm ne_ca_cb)
    have V_ca_271 : Arv Z h271 ca k_ca .char (2 : Int32) [(.int (nar .char cu)), (.int (0 : Int32))] (.int (0 : Int32)) := Arv.set Ar270 qk270 Sz270 Ng270 Hs270 Gs270 (fits_nar_char _) W271 0 rfl (Nat.le_of_ble_eq_true rfl)
    have N271 := Fr.snoc X271 N0 g_ca
    have Z275 : n0 ≤ h271.size := Nat.le_trans Z269 ((Keep.of_wr W271).1)
    obtain ⟨cl276, Ar276, qk276, Sz276, Ng276, Hs276, Gs276⟩ := V_cb_274
    have hin276 : ¬ ((0 : Int32) < 0 ∨ cl276.slots.size ≤ ((0 : Int32)).toNatClampNeg) := inb_of Sz276 ⟨by decide, by decide⟩
    obtain ⟨T277, h277, X277, e277, W277, st277⟩ := stC X271 hx hZ e271 Ar276 (j := (0 : Int32)) hin276 (g := (mkF m 58 #[.val (.int p1), .val (.int p2), .val (.int p3), .val (.int p4), .val (.int (2 : Int32)), .val (.int cu), .val (.int cv), .val (.int cw), .val (.ref ca), .val (.ref cb), .unset, .unset, .unset, .unset, .unset, .unset, .unset] [(.int cu), (.int (0 : Int32)), (.ref cb)])) rfl rfl (hb hby at_58)
    have O_278 := O_272.wr W277 g_cb
    have V_ca_279 := V_ca_271.other W277 ne_ca_cb
    have V_cb_277 : Arv Z h277 cb k_cb .char (2 : Int32) [(.int (nar .char cu)), (.int (0 : Int32))] (.int (0 : Int32)) := Arv.set Ar276 qk276 Sz276 Ng276 Hs276 Gs276 (fits_nar_char _) W277 0 rfl (Nat.le_of_ble_eq_true rfl)
    have N277 := Fr.snoc X277 N271 g_cb
    have Z281 : n0 ≤ h277.size := Nat.le_trans Z275 ((Keep.of_wr W277).1)
    obtain ⟨cl282, Ar282, qk282, Sz282, Ng282, Hs282, Gs282⟩ := V_ca_279
    have hin282 : ¬ ((1 : Int32) < 0 ∨ cl282.slots.size ≤ ((1 : Int32)).toNatClampNeg) := inb_of Sz282 ⟨by decide, by decide⟩
    obtain ⟨T283, h283, X283, e283, W283, st283⟩ := stC X277 hx hZ e277 Ar282 (j := (1 : Int32)) hin282 (g := (mkF m 70 #[.val (.int p1), .val (.int p2), .val (.int p3), .val (.int p4), .val (.int (2 : Int32)), .val (.int cu), .val (.int cv), .val (.int cw), .val (.ref ca), .val (.ref cb), .unset, .unset, .unset, .unset, .unset, .unset, .unset] [(.int cv), (.int (1 : Int32)), (.ref ca)])) rfl rfl (hb hby at_70)
    have O_284 := O_278.wr W283 g_ca
    have V_cb_286 := V_cb_277.other W283 (Ne.symm ne_ca_cb)
    have V_ca_283 : Arv Z h283 ca k_ca .char (2 : Int32) [(.int (nar .char cu)), (.int (nar .char cv))] (.int (0 : Int32)) := Arv.set Ar282 qk282 Sz282 Ng282 Hs282 Gs282 (fits_nar_char _) W283 1 rfl (Nat.le_of_ble_eq_true rfl)
    have N283 := Fr.snoc X283 N277 g_ca
    have Z287 : n0 ≤ h283.size := Nat.le_trans Z281 ((Keep.of_wr W283).1)
    obtain ⟨cl288, Ar288, qk288, Sz288, Ng288, Hs288, Gs288⟩ := V_cb_286
    have hin288 : ¬ ((1 : Int32) < 0 ∨ cl288.slots.size ≤ ((1 : Int32)).toNatClampNeg) := inb_of Sz288 ⟨by decide, by decide⟩
    obtain ⟨T289, h289, X289, e289, W289, st289⟩ := stC X283 hx hZ e283 Ar288 (j := (1 : Int32)) hin288 (g := (mkF m 76 #[.val (.int p1), .val (.int p2), .val (.int p3), .val (.int p4), .val (.int (2 : Int32)), .val (.int cu), .val (.int cv), .val (.int cw), .val (.ref ca), .val (.ref cb), .unset, .unset, .unset, .unset, .unset, .unset, .unset] [(.int cv), (.int (1 : Int32)), (.ref cb)])) rfl rfl (hb hby at_76)
    have O_290 := O_284.wr W289 g_cb
    have V_ca_291 := V_ca_283.other W289 ne_ca_cb
    have V_cb_289 : Arv Z h289 cb k_cb .char (2 : Int32) [(.int (nar .char cu)), (.int (nar .char cv))] (.int (0 : Int32)) := Arv.set Ar288 qk288 Sz288 Ng288 Hs288 Gs288 (fits_nar_char _) W289 1 rfl (Nat.le_of_ble_eq_true rfl)
    have N289 := Fr.snoc X289 N283 g_cb
    have Z293 : n0 ≤ h289.size := Nat.le_trans Z287 ((Keep.of_wr W289).1)
    have pre294 : ∀ t_, Steps p.tables e below (T289.setTop (mkF m 80 #[.val (.int p1), .val (.int p2), .val (.int p3), .val (.int p4), .val (.int (2 : Int32)), .val (.int cu), .val (.int cv), .val (.int cw), .val (.ref ca), .val (.ref cb), .unset, .unset, .unset, .unset, .unset, .unset, .unset] [(.int (3 : Int32)), (.int (2 : Int32))])) t_ → Steps p.tables e below (s₁.setTop (entryFrame m #[(.int p1), (.int p2), (.int p3), (.int p4)] maxLocals)) t_ := fun t_ k_ => pre104 _ (by
      show Steps p.tables e below (s₁.setTop (mkF m 29 #[.val (.int p1), .val (.int p2), .val (.int p3), .val (.int p4), .val (.int (2 : Int32)), .val (.int cu), .val (.int cv), .val (.int cw), .unset, .unset, .unset, .unset, .unset, .unset, .unset, .unset, .unset] [])) _
      refine XS.iload X0.here hx rfl (hb hby at_29) rfl ?_
      show Steps p.tables e below (s₁.setTop (mkF m 31 #[.val (.int p1), .val (.int p2), .val (.int p3), .val (.int p4), .val (.int (2 : Int32)), .val (.int cu), .val (.int cv), .val (.int cw), .unset, .unset, .unset, .unset, .unset, .unset, .unset, .unset, .unset] [(.int (2 : Int32))])) _
      refine st263 _ ?_
      show Steps p.tables e below (T263.setTop (mkF m 33 #[.val (.int p1), .val (.int p2), .val (.int p3), .val (.int p4), .val (.int (2 : Int32)), .val (.int cu), .val (.int cv), .val (.int cw), .unset, .unset, .unset, .unset, .unset, .unset, .unset, .unset, .unset] [(.ref ca)])) _
      refine XS.astore X263.here hx rfl (hb hby at_33) rfl rfl (l' := #[.val (.int p1), .val (.int p2), .val (.int p3), .val (.int p4), .val (.int (2 : Int32)), .val (.int cu), .val (.int cv), .val (.int cw), .val (.ref ca), .unset, .unset, .unset, .unset, .unset, .unset, .unset, .unset]) rfl ?_
      show Steps p.tables e below (T263.setTop (mkF m 35 #[.val (.int p1), .val (.int p2), .val (.int p3), .val (.int p4), .val (.int (2 : Int32)), .val (.int cu), .val (.int cv), .val (.int cw), .val (.ref ca), .unset, .unset, .unset, .unset, .unset, .unset, .unset, .unset] [])) _
      refine XS.iload X263.here hx rfl (hb hby at_35) rfl ?_
      show Steps p.tables e below (T263.setTop (mkF m 37 #[.val (.int p1), .val (.int p2), .val (.int p3), .val (.int p4), .val (.int (2 : Int32)), .val (.int cu), .val (.int cv), .val (.int cw), .val (.ref ca), .unset, .unset, .unset, .unset, .unset, .unset, .unset, .unset] [(.int (2 : Int32))])) _
      refine st266 _ ?_
      show Steps p.tables e below (T266.setTop (mkF m 39 #[.val (.int p1), .val (.int p2), .val (.int p3), .val (.int p4), .val (.int (2 : Int32)), .val (.int cu), .val (.int cv), .val (.int cw), .val (.ref ca), .unset, .unset, .unset, .unset, .unset, .unset, .unset, .unset] [(.ref cb)])) _
      refine XS.astore X266.here hx rfl (hb hby at_39) rfl rfl (l' := #[.val (.int p1), .val (.int p2), .val (.int p3), .val (.int p4), .val (.int (2 : Int32)), .val (.int cu), .val (.int cv), .val (.int cw), .val (.ref ca), .val (.ref cb), .unset, .unset, .unset, .unset, .unset, .unset, .unset]) rfl ?_
      show Steps p.tables e below (T266.setTop (mkF m 41 #[.val (.int p1), .val (.int p2), .val (.int p3), .val (.int p4), .val (.int (2 : Int32)), .val (.int cu), .val (.int cv), .val (.int cw), .val (.ref ca), .val (.ref cb), .unset, .unset, .unset, .unset, .unset, .unset, .unset] [])) _
      refine XS.iload X266.here hx rfl (hb hby at_41) rfl ?_
      show Steps p.tables e below (T266.setTop (mkF m 43 #[.val (.int p1), .val (.int p2), .val (.int p3), .val (.int p4), .val (.int (2 : Int32)), .val (.int cu), .val (.int cv), .val (.int cw), .val (.ref ca), .val (.ref cb), .unset, .unset, .unset, .unset, .unset, .unset, .unset] [(.int (2 : Int32))])) _
      refine XS.iconst X266.here hx rfl (hb hby at_43) ?_
      show Steps p.tables e below (T266.setTop (mkF m 44 #[.val (.int p1), .val (.int p2), .val (.int p3), .val (.int p4), .val (.int (2 : Int32)), .val (.int cu), .val (.int cv), .val (.int cw), .val (.ref ca), .val (.ref cb), .unset, .unset, .unset, .unset, .unset, .unset, .unset] [(.int (1 : Int32)), (.int (2 : Int32))])) _
      refine XS.icmpNo X266.here hx rfl (hb hby at_44) rfl (flt (by decide)).1 ?_
      show Steps p.tables e below (T266.setTop (mkF m 47 #[.val (.int p1), .val (.int p2), .val (.int p3), .val (.int p4), .val (.int (2 : Int32)), .val (.int cu), .val (.int cv), .val (.int cw), .val (.ref ca), .val (.ref cb), .unset, .unset, .unset, .unset, .unset, .unset, .unset] [])) _
      refine XS.aload X266.here hx rfl (hb hby at_47) rfl rfl ?_
      show Steps p.tables e below (T266.setTop (mkF m 49 #[.val (.int p1), .val (.int p2), .val (.int p3), .val (.int p4), .val (.int (2 : Int32)), .val (.int cu), .val (.int cv), .val (.int cw), .val (.ref ca), .val (.ref cb), .unset, .unset, .unset, .unset, .unset, .unset, .unset] [(.ref ca)])) _
      refine XS.iconst X266.here hx rfl (hb hby at_49) ?_
      show Steps p.tables e below (T266.setTop (mkF m 50 #[.val (.int p1), .val (.int p2), .val (.int p3), .val (.int p4), .val (.int (2 : Int32)), .val (.int cu), .val (.int cv), .val (.int cw), .val (.ref ca), .val (.ref cb), .unset, .unset, .unset, .unset, .unset, .unset, .unset] [(.int (0 : Int32)), (.ref ca)])) _
      refine XS.iload X266.here hx rfl (hb hby at_50) rfl ?_
      show Steps p.tables e below (T266.setTop (mkF m 52 #[.val (.int p1), .val (.int p2), .val (.int p3), .val (.int p4), .val (.int (2 : Int32)), .val (.int cu), .val (.int cv), .val (.int cw), .val (.ref ca), .val (.ref cb), .unset, .unset, .unset, .unset, .unset, .unset, .unset] [(.int cu), (.int (0 : Int32)), (.ref ca)])) _
      refine st271 _ ?_
      show Steps p.tables e below (T271.setTop (mkF m 53 #[.val (.int p1), .val (.int p2), .val (.int p3), .val (.int p4), .val (.int (2 : Int32)), .val (.int cu), .val (.int cv), .val (.int cw), .val (.ref ca), .val (.ref cb), .unset, .unset, .unset, .unset, .unset, .unset, .unset] [])) _
      refine XS.aload X271.here hx rfl (hb hby at_53) rfl rfl ?_
      show Steps p.tables e below (T271.setTop (mkF m 55 #[.val (.int p1), .val (.int p2), .val (.int p3), .val (.int p4), .val (.int (2 : Int32)), .val (.int cu), .val (.int cv), .val (.int cw), .val (.ref ca), .val (.ref cb), .unset, .unset, .unset, .unset, .unset, .unset, .unset] [(.ref cb)])) _
      refine XS.iconst X271.here hx rfl (hb hby at_55) ?_
      show Steps p.tables e below (T271.setTop (mkF m 56 #[.val (.int p1), .val (.int p2), .val (.int p3), .val (.int p4), .val (.int (2 : Int32)), .val (.int cu), .val (.int cv), .val (.int cw), .val (.ref ca), .val (.ref cb), .unset, .unset, .unset, .unset, .unset, .unset, .unset] [(.int (0 : Int32)), (.ref cb)])) _
      refine XS.iload X271.here hx rfl (hb hby at_56) rfl ?_
      show Steps p.tables e below (T271.setTop (mkF m 58 #[.val (.int p1), .val (.int p2), .val (.int p3), .val (.int p4), .val (.int (2 : Int32)), .val (.int cu), .val (.int cv), .val (.int cw), .val (.ref ca), .val (.ref cb), .unset, .unset, .unset, .unset, .unset, .unset, .unset] [(.int cu), (.int (0 : Int32)), (.ref cb)])) _
      refine st277 _ ?_
      show Steps p.tables e below (T277.setTop (mkF m 59 #[.val (.int p1), .val (.int p2), .val (.int p3), .val (.int p4), .val (.int (2 : Int32)), .val (.int cu), .val (.int cv), .val (.int cw), .val (.ref ca), .val (.ref cb), .unset, .unset, .unset, .unset, .unset, .unset, .unset] [])) _
      refine XS.iload X277.here hx rfl (hb hby at_59) rfl ?_
      show Steps p.tables e below (T277.setTop (mkF m 61 #[.val (.int p1), .val (.int p2), .val (.int p3), .val (.int p4), .val (.int (2 : Int32)), .val (.int cu), .val (.int cv), .val (.int cw), .val (.ref ca), .val (.ref cb), .unset, .unset, .unset, .unset, .unset, .unset, .unset] [(.int (2 : Int32))])) _
      refine XS.iconst X277.here hx rfl (hb hby at_61) ?_
      show Steps p.tables e below (T277.setTop (mkF m 62 #[.val (.int p1), .val (.int p2), .val (.int p3), .val (.int p4), .val (.int (2 : Int32)), .val (.int cu), .val (.int cv), .val (.int cw), .val (.ref ca), .val (.ref cb), .unset, .unset, .unset, .unset, .unset, .unset, .unset] [(.int (2 : Int32)), (.int (2 : Int32))])) _
      refine XS.icmpNo X277.here hx rfl (hb hby at_62) rfl (flt (by decide)).1 ?_
      show Steps p.tables e below (T277.setTop (mkF m 65 #[.val (.int p1), .val (.int p2), .val (.int p3), .val (.int p4), .val (.int (2 : Int32)), .val (.int cu), .val (.int cv), .val (.int cw), .val (.ref ca), .val (.ref cb), .unset, .unset, .unset, .unset, .unset, .unset, .unset] [])) _
      refine XS.aload X277.here hx rfl (hb hby at_65) rfl rfl ?_
      show Steps p.tables e below (T277.setTop (mkF m 67 #[.val (.int p1), .val (.int p2), .val (.int p3), .val (.int p4), .val (.int (2 : Int32)), .val (.int cu), .val (.int cv), .val (.int cw), .val (.ref ca), .val (.ref cb), .unset, .unset, .unset, .unset, .unset, .unset, .unset] [(.ref ca)])) _
      refine XS.iconst X277.here hx rfl (hb hby at_67) ?_
      show Steps p.tables e below (T277.setTop (mkF m 68 #[.val (.int p1), .val (.int p2), .val (.int p3), .val (.int p4), .val (.int (2 : Int32)), .val (.int cu), .val (.int cv), .val (.int cw), .val (.ref ca), .val (.ref cb), .unset, .unset, .unset, .unset, .unset, .unset, .unset] [(.int (1 : Int32)), (.ref ca)])) _
      refine XS.iload X277.here hx rfl (hb hby at_68) rfl ?_
      show Steps p.tables e below (T277.setTop (mkF m 70 #[.val (.int p1), .val (.int p2), .val (.int p3), .val (.int p4), .val (.int (2 : Int32)), .val (.int cu), .val (.int cv), .val (.int cw), .val (.ref ca), .val (.ref cb), .unset, .unset, .unset, .unset, .unset, .unset, .unset] [(.int cv), (.int (1 : Int32)), (.ref ca)])) _
      refine st283 _ ?_
      show Steps p.tables e below (T283.setTop (mkF m 71 #[.val (.int p1), .val (.int p2), .val (.int p3), .val (.int p4), .val (.int (2 : Int32)), .val (.int cu), .val (.int cv), .val (.int cw), .val (.ref ca), .val (.ref cb), .unset, .unset, .unset, .unset, .unset, .unset, .unset] [])) _
      refine XS.aload X283.here hx rfl (hb hby at_71) rfl rfl ?_
      show Steps p.tables e below (T283.setTop (mkF m 73 #[.val (.int p1), .val (.int p2), .val (.int p3), .val (.int p4), .val (.int (2 : Int32)), .val (.int cu), .val (.int cv), .val (.int cw), .val (.ref ca), .val (.ref cb), .unset, .unset, .unset, .unset, .unset, .unset, .unset] [(.ref cb)])) _
      refine XS.iconst X283.here hx rfl (hb hby at_73) ?_
      show Steps p.tables e below (T283.setTop (mkF m 74 #[.val (.int p1), .val (.int p2), .val (.int p3), .val (.int p4), .val (.int (2 : Int32)), .val (.int cu), .val (.int cv), .val (.int cw), .val (.ref ca), .val (.ref cb), .unset, .unset, .unset, .unset, .unset, .unset, .unset] [(.int (1 : Int32)), (.ref cb)])) _
      refine XS.iload X283.here hx rfl (hb hby at_74) rfl ?_
      show Steps p.tables e below (T283.setTop (mkF m 76 #[.val (.int p1), .val (.int p2), .val (.int p3), .val (.int p4), .val (.int (2 : Int32)), .val (.int cu), .val (.int cv), .val (.int cw), .val (.ref ca), .val (.ref cb), .unset, .unset, .unset, .unset, .unset, .unset, .unset] [(.int cv), (.int (1 : Int32)), (.ref cb)])) _
      refine st289 _ ?_
      show Steps p.tables e below (T289.setTop (mkF m 77 #[.val (.int p1), .val (.int p2), .val (.int p3), .val (.int p4), .val (.int (2 : Int32)), .val (.int cu), .val (.int cv), .val (.int cw), .val (.ref ca), .val (.ref cb), .unset, .unset, .unset, .unset, .unset, .unset, .unset] [])) _
      refine XS.iload X289.here hx rfl (hb hby at_77) rfl ?_
      show Steps p.tables e below (T289.setTop (mkF m 79 #[.val (.int p1), .val (.int p2), .val (.int p3), .val (.int p4), .val (.int (2 : Int32)), .val (.int cu), .val (.int cv), .val (.int cw), .val (.ref ca), .val (.ref cb), .unset, .unset, .unset, .unset, .unset, .unset, .unset] [(.int (2 : Int32))])) _
      refine XS.iconst X289.here hx rfl (hb hby at_79) ?_
      exact k_)
    obtain ⟨T295, h295, X295, e295, Ext_s1, E_s1, D_s1, -, st295⟩ := newO X289 hx hZ hown (hw _ (List.mem_of_getElem? (i := 1) rfl)) (hw _ (List.mem_of_getElem? (i := 2) rfl)) (hw _ (List.mem_of_getElem? (i := 3) rfl)) e289 (g := (mkF m 95 #[.val (.int p1), .val (.int p2), .val (.int p3), .val (.int p4), .val (.int (2 : Int32)), .val (.int cu), .val (.int cv), .val (.int cw), .val (.ref ca), .val (.ref cb), .unset, .unset, .unset, .unset, .unset, .unset, .unset] [])) rfl (hb hby at_95) (by decide) (by decide)
    obtain ⟨s1, eq_s1⟩ : ∃ z, z = h289.size := ⟨_, rfl⟩
    rw [← eq_s1] at E_s1 D_s1 st295
    have g_s1 : n0 ≤ s1 := Nat.le_trans Z293 (Nat.le_of_eq eq_s1.symm)
    have O_296 := O_290.ext Ext_s1
    have ne_ca_s1 : ca ≠ s1 := Nat.ne_of_lt (Nat.lt_of_lt_of_le V_ca_291.lt (Nat.le_of_eq eq_s1.symm))
    have V_ca_297 := V_ca_291.ext Ext_s1
    have ne_cb_s1 : cb ≠ s1 := Nat.ne_of_lt (Nat.lt_of_lt_of_le V_cb_289.lt (Nat.le_of_eq eq_s1.symm))
    have V_cb_299 := V_cb_289.ext Ext_s1
    have Z300 : n0 ≤ h295.size := Nat.le_trans Z293 (Ext_s1.1)
    have Fv_s1 : Fld Z h295 s1 "java/lang/String" "value" "[B" .null := D_s1 (Or.inr (hw _ (List.mem_of_getElem? (i := 16) rfl))) (ty := (.array .byte)) (by decide)
    have Fc_s1 : Fld Z h295 s1 "java/lang/String" "coder" "B" (.int (0 : Int32)) := D_s1 (Or.inr (hw _ (List.mem_of_getElem? (i := 17) rfl))) (ty := .byte) (by decide)
    have VC_s1 := V_ca_297
    rw [own_nc (own_r16 b_cu), own_nc (own_r16 b_cv)] at VC_s1
    have AC_s1 := own_AfA (n := 2) (g := gg) VC_s1 (by omega) (fun j hj => match j, hj with | 0, _ => congrArg Value.int g0.symm | 1, _ => congrArg Value.int g1.symm | (j + 2), h => absurd h (by omega))
    obtain ⟨_, _, ⟨T301, L301, k301, n301⟩, -, X301, ⟨Lc301, hQ301, l301, y301, z301⟩, st301⟩ := X295.specialBack hx (y := (⟨"java/lang/String", "<init>", "([C)V"⟩ : MethodName)) rfl hown (mvT hZ (hw _ (List.mem_of_getElem? (i := 4) rfl))) (mvT hZ (hw _ (List.mem_of_getElem? (i := 5) rfl))) (mvT hZ (hw _ (List.mem_of_getElem? (i := 6) rfl))) (by decide) (backOf (W := 1) (rmI1 l Z a0 hw [] s1 ca 2 gg zc h295 n0 Z300 E_s1 Fv_s1 Fc_s1 g_s1 O_296 S_c hzc (by omega) (by omega) (lat _) AC_s1) hZ (hw _ (List.mem_of_getElem? (i := 6) rfl)) (hw _ (List.mem_of_getElem? (i := 3) rfl)) (by decide) (by decide)) (g := (mkF m 101 #[.val (.int p1), .val (.int p2), .val (.int p3), .val (.int p4), .val (.int (2 : Int32)), .val (.int cu), .val (.int cv), .val (.int cw), .val (.ref ca), .val (.ref cb), .unset, .unset, .unset, .unset, .unset, .unset, .unset] [(.ref ca), (.ref s1), (.ref s1)])) rfl (by rw [hml]; rfl) (Steps.refl _) (a := s1) (argsL := [(.ref ca)]) (rest := [(.ref s1)]) (lenOf pd_20 rfl) rfl (by show 2 * 0 + _ ≤ _; exact Nat.le_of_eq rfl) (hb hby at_101) (fun _ _ => ⟨rfl, e295, (by decide : 3 + 1 ≤ _), (by decide : 8 + 6 ≤ _)⟩)
    dsimp only [Pt.U, Pt.locs, Pt.cells, Pt.slots] at X301 l301 y301 z301 st301 hQ301
    rw [l301, y301, z301] at X301
    obtain ⟨hv301, N301q, K301, t1, LL_s1⟩ := hQ301
    rw [hv301] at st301
    have N301 := Fr.app N289 N301q
    have O_302 := O_296.keep K301 (allS g_s1 all0)
    have V_cb_304 := V_cb_299.keep K301 (ninS ne_cb_s1 nin0)
    have Z307 : n0 ≤ T301.heap.size := Nat.le_trans Z300 (K301.1)
    have ltS := LL_s1.1.lt
    have ltT := LL_s1.2.2.2.2.lt
    obtain ⟨T308, h308, X308, e308, Ext_s2, E_s2, D_s2, -, st308⟩ := newO X301 hx hZ hown (hw _ (List.mem_of_getElem? (i := 1) rfl)) (hw _ (List.mem_of_getElem? (i := 2) rfl)) (hw _ (List.mem_of_getElem? (i := 3) rfl)) rfl (g := (mkF m 106 #[.val (.int p1), .val (.int p2), .val (.int p3), .val (.int p4), .val (.int (2 : Int32)), .val (.int cu), .val (.int cv), .val (.int cw), .val (.ref ca), .val (.ref cb), .val (.ref s1), .unset, .unset, .unset, .unset, .unset, .unset] [])) rfl (hb hby at_106) (by decide) (by decide)
    obtain ⟨s2, eq_s2⟩ : ∃ z, z = T301.heap.size := ⟨_, rfl⟩
    rw [← eq_s2] at E_s2 D_s2 st308
    have g_s2 : n0 ≤ s2 := Nat.le_trans Z307 (Nat.le_of_eq eq_s2.symm)
    have ne_cb_s2 : cb ≠ s2 := Nat.ne_of_lt (Nat.lt_of_lt_of_le V_cb_304.lt (Nat.le_of_eq eq_s2.symm))
    have V_cb_310 := V_cb_304.ext Ext_s2
    have O_313 := O_302.ext Ext_s2
    have Z314 : n0 ≤ h308.size := Nat.le_trans Z307 (Ext_s2.1)
    have L_315 := own_Lx LL_s1 Ext_s2
    have Fv_s2 : Fld Z h308 s2 "java/lang/String" "value" "[B" .null := D_s2 (Or.inr (hw _ (List.mem_of_getElem? (i := 16) rfl))) (ty := (.array .byte)) (by decide)
    have Fc_s2 : Fld Z h308 s2 "java/lang/String" "coder" "B" (.int (0 : Int32)) := D_s2 (Or.inr (hw _ (List.mem_of_getElem? (i := 17) rfl))) (ty := .byte) (by decide)
    have ne12 : s1 ≠ s2 := Nat.ne_of_lt (Nat.lt_of_lt_of_le ltS (Nat.le_of_eq eq_s2.symm))
    have net2 : t1 ≠ s2 := Nat.ne_of_lt (Nat.lt_of_lt_of_le ltT (Nat.le_of_eq eq_s2.symm))
    have VC_s2 := V_cb_310
    rw [own_nc (own_r16 b_cu), own_nc (own_r16 b_cv)] at VC_s2
    have AC_s2 := own_AfA (n := 2) (g := gg) VC_s2 (by omega) (fun j hj => match j, hj with | 0, _ => congrArg Value.int g0.symm | 1, _ => congrArg Value.int g1.symm | (j + 2), h => absurd h (by omega))
    obtain ⟨_, _, ⟨T316, L316, k316, n316⟩, -, X316, ⟨Lc316, hQ316, l316, y316, z316⟩, st316⟩ := X308.specialBack hx (y := (⟨"java/lang/String", "<init>", "([C)V"⟩ : MethodName)) rfl hown (mvT hZ (hw _ (List.mem_of_getElem? (i := 4) rfl))) (mvT hZ (hw _ (List.mem_of_getElem? (i := 5) rfl))) (mvT hZ (hw _ (List.mem_of_getElem? (i := 6) rfl))) (by decide) (backOf (W := 1) (rmI1 l Z a0 hw [] s2 cb 2 gg zc h308 n0 Z314 E_s2 Fv_s2 Fc_s2 g_s2 O_313 S_c hzc (by omega) (by omega) (lat _) AC_s2) hZ (hw _ (List.mem_of_getElem? (i := 6) rfl)) (hw _ (List.mem_of_getElem? (i := 3) rfl)) (by decide) (by decide)) (g := (mkF m 112 #[.val (.int p1), .val (.int p2), .val (.int p3), .val (.int p4), .val (.int (2 : Int32)), .val (.int cu), .val (.int cv), .val (.int cw), .val (.ref ca), .val (.ref cb), .val (.ref s1), .unset, .unset, .unset, .unset, .unset, .unset] [(.ref cb), (.ref s2), (.ref s2)])) rfl (by rw [hml]; rfl) (Steps.refl _) (a := s2) (argsL := [(.ref cb)]) (rest := [(.ref s2)]) (lenOf pd_20 rfl) rfl (by show 2 * 0 + _ ≤ _; exact Nat.le_of_eq rfl) (hb hby at_112) (fun _ _ => ⟨rfl, e308, (by decide : 5 + 1 ≤ _), (by decide : 18 + 6 ≤ _)⟩)
    dsimp only [Pt.U, Pt.locs, Pt.cells, Pt.slots] at X316 l316 y316 z316 st316 hQ316
    rw [l316, y316, z316] at X316
    obtain ⟨hv316, N316q, K316, t2, LL_s2⟩ := hQ316
    rw [hv316] at st316
    have N316 := Fr.app N301 N316q
    have O_317 := O_313.keep K316 (allS g_s2 all0)
    have L_318 := own_Lo L_315 K316 (ninS ne12 nin0) (ninS net2 nin0)
    have Z323 : n0 ≤ T316.heap.size := Nat.le_trans Z314 (K316.1)
    obtain ⟨_, _, ⟨T324, L324, k324, n324⟩, -, X324, hS324, hle324, ⟨Lc324, hQ324, l324, y324, z324⟩, st324⟩ := callSS (s := s) X316 hx (y := (⟨"com/example/ledgerpost/ledgerpost/Payload", "ofText", "(Ljava/lang/String;)Lcom/example/ledgerpost/ledgerpost/Payload;"⟩ : MethodName)) hown (mvT hZ (hw _ (List.mem_of_getElem? (i := 22) rfl))) (mvT hZ (hw _ (List.mem_of_getElem? (i := 23) rfl))) (mvT hZ (hw _ (List.mem_of_getElem? (i := 24) rfl))) (mvT hZ (hw _ (List.mem_of_getElem? (i := 25) rfl))) (by decide) (backOfS (W := 0) (rmO l Z a0 hw [] s1 T316.heap n0 Z323 L_318.1) hZ (hw _ (List.mem_of_getElem? (i := 25) rfl)) (hw _ (List.mem_of_getElem? (i := 24) rfl)) (by decide) (by decide)) (g := (mkF m 119 #[.val (.int p1), .val (.int p2), .val (.int p3), .val (.int p4), .val (.int (2 : Int32)), .val (.int cu), .val (.int cv), .val (.int cw), .val (.ref ca), .val (.ref cb), .val (.ref s1), .val (.ref s2), .unset, .unset, .unset, .unset, .unset] [(.ref s1)])) rfl (by rw [hml]; rfl) (argsL := [(.ref s1)]) (rest := []) (lenOf pd_21 rfl) rfl (by show 2 * 0 + _ ≤ _; exact Nat.le_of_eq rfl) (hb hby at_119) (fun _ _ => ⟨rfl, rfl, (by decide : 6 + 3 ≤ _), (by decide : 24 + 22 ≤ _)⟩)
    dsimp only [Pt.U, Pt.locs, Pt.cells, Pt.slots] at X324 l324 y324 z324 st324 hQ324 hS324 hle324
    rw [l324, y324, z324] at X324
    have hle324' := hle324
    obtain ⟨X324', hS324', hZ324, hown324⟩ := rebS (s := s) (vm0 := s.vm) ((State.WarmedH.refl s).since 0) (Nat.zero_le _) X324 hS324 hle324' hZ hown
    obtain ⟨pa, hv324, N324q, K324, E324, F0324, F1324, lp324⟩ := hQ324
    rw [hv324] at st324
    have N324 := Fr.app N316 N324q
    have O_325 := O_317.keep K324 all0
    have L_326 := own_Lk L_318 K324
    have L_327 := own_Lk LL_s2 K324
    have Z328 : n0 ≤ T324.heap.size := Nat.le_trans Z323 (K324.1)
    obtain ⟨cq329, kq329, q329a, q329b, q329c⟩ := isOf hZ324 rfl E324
    obtain ⟨_, _, ⟨T329, L329, k329, n329⟩, -, X329, ⟨Lc329, hQ329, l329, y329, z329⟩, st329⟩ := X324'.virtualBack hx (y := (⟨"com/example/ledgerpost/ledgerpost/Payload", "isText", "()Z"⟩ : MethodName)) (z := (⟨"com/example/ledgerpost/ledgerpost/Payload", "isText", "()Z"⟩ : MethodName)) hown324 (mvT hZ324 (hw _ (List.mem_of_getElem? (i := 42) rfl))) (mvT hZ324 (hw _ (List.mem_of_getElem? (i := 43) rfl))) (notFace_of_selects (args := #[]) (mvT hZ324 (hw _ (List.mem_of_getElem? (i := 45) rfl)))) (mvT hZ324 (hw _ (List.mem_of_getElem? (i := 45) rfl))) (mvT hZ324 (hw _ (List.mem_of_getElem? (i := 44) rfl))) (by decide) (backOf (W := 0) (rmIt l Z a0 hw [] pa s1 T324.heap n0 Z328 F0324) hZ324 (hw _ (List.mem_of_getElem? (i := 46) rfl)) (hw _ (List.mem_of_getElem? (i := 24) rfl)) (by decide) (by decide)) q329a q329c (g := (mkF m 126 #[.val (.int p1), .val (.int p2), .val (.int p3), .val (.int p4), .val (.int (2 : Int32)), .val (.int cu), .val (.int cv), .val (.int cw), .val (.ref ca), .val (.ref cb), .val (.ref s1), .val (.ref s2), .val (.ref pa), .unset, .unset, .unset, .unset] [(.ref pa)])) rfl (by rw [hml]; rfl) (Steps.refl _) (argsL := []) (rest := []) (lenOf pd_22 rfl) rfl (by show 2 * 0 + _ ≤ _; exact Nat.le_of_eq rfl) (hb hby at_126) (fun _ _ => ⟨rfl, rfl, (by decide : 9 + 0 ≤ _), (by decide : 46 + 0 ≤ _)⟩)
    dsimp only [Pt.U, Pt.locs, Pt.cells, Pt.slots] at X329 l329 y329 z329 st329 hQ329
    rw [l329, y329, z329] at X329
    obtain ⟨hv329, N329q, e329⟩ := hQ329
    rw [hv329] at st329
    have N329 := Fr.app N324 N329q
    obtain ⟨cq330, kq330, q330a, q330b, q330c⟩ := isOf hZ324 e329 E324
    obtain ⟨_, _, ⟨T330, L330, k330, n330⟩, -, X330, ⟨Lc330, hQ330, l330, y330, z330⟩, st330⟩ := X329.virtualBack hx (y := (⟨"com/example/ledgerpost/ledgerpost/Payload", "text", "()Ljava/lang/String;"⟩ : MethodName)) (z := (⟨"com/example/ledgerpost/ledgerpost/Payload", "text", "()Ljava/lang/String;"⟩ : MethodName)) hown324 (mvT hZ324 (hw _ (List.mem_of_getElem? (i := 47) rfl))) (mvT hZ324 (hw _ (List.mem_of_getElem? (i := 48) rfl))) (notFace_of_selects (args := #[]) (mvT hZ324 (hw _ (List.mem_of_getElem? (i := 50) rfl)))) (mvT hZ324 (hw _ (List.mem_of_getElem? (i := 50) rfl))) (mvT hZ324 (hw _ (List.mem_of_getElem? (i := 49) rfl))) (by decide) (backOf (W := 0) (rmTx l Z a0 hw [] pa s1 T324.heap n0 Z328 F0324) hZ324 (hw _ (List.mem_of_getElem? (i := 51) rfl)) (hw _ (List.mem_of_getElem? (i := 24) rfl)) (by decide) (by decide)) q330a q330c (g := (mkF m 136 #[.val (.int p1), .val (.int p2), .val (.int p3), .val (.int p4), .val (.int (2 : Int32)), .val (.int cu), .val (.int cv), .val (.int cw), .val (.ref ca), .val (.ref cb), .val (.ref s1), .val (.ref s2), .val (.ref pa), .unset, .unset, .unset, .unset] [(.ref pa)])) rfl (by rw [hml]; rfl) (Steps.refl _) (argsL := []) (rest := []) (lenOf pd_23 rfl) rfl (by show 2 * 0 + _ ≤ _; exact Nat.le_of_eq rfl) (hb hby at_136) (fun _ _ => ⟨rfl, e329, (by decide : 9 + 0 ≤ _), (by decide : 46 + 0 ≤ _)⟩)
    dsimp only [Pt.U, Pt.locs, Pt.cells, Pt.slots] at X330 l330 y330 z330 st330 hQ330
    rw [l330, y330, z330] at X330
    obtain ⟨hv330, N330q, e330⟩ := hQ330
    rw [hv330] at st330
    have N330 := Fr.app N329 N330q
    obtain ⟨cq331, kq331, q331a, q331b, q331c⟩ := isOf hZ324 e330 L_326.1
    obtain ⟨_, _, ⟨T331, L331, k331, n331⟩, -, X331, ⟨Lc331, hQ331, l331, y331, z331⟩, st331⟩ := X330.virtualBack hx (y := (⟨"java/lang/String", "equals", "(Ljava/lang/Object;)Z"⟩ : MethodName)) (z := (⟨"java/lang/String", "equals", "(Ljava/lang/Object;)Z"⟩ : MethodName)) hown324 (mvT hZ324 (hw _ (List.mem_of_getElem? (i := 52) rfl))) (mvT hZ324 (hw _ (List.mem_of_getElem? (i := 53) rfl))) (notFace_of_selects (args := #[]) (mvT hZ324 (hw _ (List.mem_of_getElem? (i := 55) rfl)))) (mvT hZ324 (hw _ (List.mem_of_getElem? (i := 55) rfl))) (mvT hZ324 (hw _ (List.mem_of_getElem? (i := 54) rfl))) (by decide) (backOf (W := 0) (rmEs l Z a0 hw [] s1 s1 T324.heap n0 Z328 rfl) hZ324 (hw _ (List.mem_of_getElem? (i := 56) rfl)) (hw _ (List.mem_of_getElem? (i := 3) rfl)) (by decide) (by decide)) q331a q331c (g := (mkF m 150 #[.val (.int p1), .val (.int p2), .val (.int p3), .val (.int p4), .val (.int (2 : Int32)), .val (.int cu), .val (.int cv), .val (.int cw), .val (.ref ca), .val (.ref cb), .val (.ref s1), .val (.ref s2), .val (.ref pa), .val (.ref s1), .unset, .unset, .unset] [(.ref s1), (.ref s1)])) rfl (by rw [hml]; rfl) (Steps.refl _) (argsL := [(.ref s1)]) (rest := []) (lenOf pd_7 rfl) rfl (by show 2 * 0 + _ ≤ _; exact Nat.le_of_eq rfl) (hb hby at_150) (fun _ _ => ⟨rfl, e330, (by decide : 9 + 0 ≤ _), (by decide : 46 + 0 ≤ _)⟩)
    dsimp only [Pt.U, Pt.locs, Pt.cells, Pt.slots] at X331 l331 y331 z331 st331 hQ331
    rw [l331, y331, z331] at X331
    obtain ⟨hv331, N331q, e331⟩ := hQ331
    rw [hv331] at st331
    have N331 := Fr.app N330 N331q
    obtain ⟨cq332, kq332, q332a, q332b, q332c⟩ := isOf hZ324 e331 E324
    obtain ⟨_, _, ⟨T332, L332, k332, n332⟩, -, X332, ⟨Lc332, hQ332, l332, y332, z332⟩, st332⟩ := X331.virtualBack hx (y := (⟨"com/example/ledgerpost/ledgerpost/Payload", "length", "()J"⟩ : MethodName)) (z := (⟨"com/example/ledgerpost/ledgerpost/Payload", "length", "()J"⟩ : MethodName)) hown324 (mvT hZ324 (hw _ (List.mem_of_getElem? (i := 57) rfl))) (mvT hZ324 (hw _ (List.mem_of_getElem? (i := 58) rfl))) (notFace_of_selects (args := #[]) (mvT hZ324 (hw _ (List.mem_of_getElem? (i := 60) rfl)))) (mvT hZ324 (hw _ (List.mem_of_getElem? (i := 60) rfl))) (mvT hZ324 (hw _ (List.mem_of_getElem? (i := 59) rfl))) (by decide) (backOf (W := 0) (rmLg l Z a0 hw [] pa s1 t1 2 gg zc T324.heap n0 Z328 F0324 (by omega) L_326 (lat _) (S_c.ext O_325.2) hzc) hZ324 (hw _ (List.mem_of_getElem? (i := 61) rfl)) (hw _ (List.mem_of_getElem? (i := 24) rfl)) (by decide) (by decide)) q332a q332c (g := (mkF m 160 #[.val (.int p1), .val (.int p2), .val (.int p3), .val (.int p4), .val (.int (2 : Int32)), .val (.int cu), .val (.int cv), .val (.int cw), .val (.ref ca), .val (.ref cb), .val (.ref s1), .val (.ref s2), .val (.ref pa), .val (.ref s1), .unset, .unset, .unset] [(.ref pa)])) rfl (by rw [hml]; rfl) (Steps.refl _) (argsL := []) (rest := []) (lenOf pd_24 rfl) rfl (by show 2 * 0 + _ ≤ _; exact Nat.le_of_eq rfl) (hb hby at_160) (fun _ _ => ⟨rfl, e331, (by decide : 9 + 0 ≤ _), (by decide : 46 + 0 ≤ _)⟩)
    dsimp only [Pt.U, Pt.locs, Pt.cells, Pt.slots] at X332 l332 y332 z332 st332 hQ332
    rw [l332, y332, z332] at X332
    obtain ⟨hv332, N332q, e332⟩ := hQ332
    rw [hv332] at st332
    have N332 := Fr.app N331 N332q
    have pre333 : ∀ t_, Steps p.tables e below (T332.setTop (mkF m 166 #[.val (.int p1), .val (.int p2), .val (.int p3), .val (.int p4), .val (.int (2 : Int32)), .val (.int cu), .val (.int cv), .val (.int cw), .val (.ref ca), .val (.ref cb), .val (.ref s1), .val (.ref s2), .val (.ref pa), .val (.ref s1), .unset, .unset, .unset] [(.long ((2 : Int32).toInt64)), (.long ((Int32.ofNat 2).toInt64))])) t_ → Steps p.tables e below (s₁.setTop (entryFrame m #[(.int p1), (.int p2), (.int p3), (.int p4)] maxLocals)) t_ := fun t_ k_ => pre294 _ (by
      show Steps p.tables e below (T289.setTop (mkF m 80 #[.val (.int p1), .val (.int p2), .val (.int p3), .val (.int p4), .val (.int (2 : Int32)), .val (.int cu), .val (.int cv), .val (.int cw), .val (.ref ca), .val (.ref cb), .unset, .unset, .unset, .unset, .unset, .unset, .unset] [(.int (3 : Int32)), (.int (2 : Int32))])) _
      refine XS.icmpYes X289.here hx rfl (pc0 := 80) (pc' := 95) rfl (hb hby at_80) rfl (tlt (by decide)).1 (by decide) (by decide) ?_
      show Steps p.tables e below (T289.setTop (mkF m 95 #[.val (.int p1), .val (.int p2), .val (.int p3), .val (.int p4), .val (.int (2 : Int32)), .val (.int cu), .val (.int cv), .val (.int cw), .val (.ref ca), .val (.ref cb), .unset, .unset, .unset, .unset, .unset, .unset, .unset] [])) _
      refine st295 _ ?_
      show Steps p.tables e below (T295.setTop (mkF m 98 #[.val (.int p1), .val (.int p2), .val (.int p3), .val (.int p4), .val (.int (2 : Int32)), .val (.int cu), .val (.int cv), .val (.int cw), .val (.ref ca), .val (.ref cb), .unset, .unset, .unset, .unset, .unset, .unset, .unset] [(.ref s1)])) _
      refine XS.dup X295.here hx rfl (hb hby at_98) rfl rfl ?_
      show Steps p.tables e below (T295.setTop (mkF m 99 #[.val (.int p1), .val (.int p2), .val (.int p3), .val (.int p4), .val (.int (2 : Int32)), .val (.int cu), .val (.int cv), .val (.int cw), .val (.ref ca), .val (.ref cb), .unset, .unset, .unset, .unset, .unset, .unset, .unset] [(.ref s1), (.ref s1)])) _
      refine XS.aload X295.here hx rfl (hb hby at_99) rfl rfl ?_
      show Steps p.tables e below (T295.setTop (mkF m 101 #[.val (.int p1), .val (.int p2), .val (.int p3), .val (.int p4), .val (.int (2 : Int32)), .val (.int cu), .val (.int cv), .val (.int cw), .val (.ref ca), .val (.ref cb), .unset, .unset, .unset, .unset, .unset, .unset, .unset] [(.ref ca), (.ref s1), (.ref s1)])) _
      refine st301.trans ?_
      show Steps p.tables e below (T301.setTop (mkF m 104 #[.val (.int p1), .val (.int p2), .val (.int p3), .val (.int p4), .val (.int (2 : Int32)), .val (.int cu), .val (.int cv), .val (.int cw), .val (.ref ca), .val (.ref cb), .unset, .unset, .unset, .unset, .unset, .unset, .unset] [(.ref s1)])) _
      refine XS.astore X301.here hx rfl (hb hby at_104) rfl rfl (l' := #[.val (.int p1), .val (.int p2), .val (.int p3), .val (.int p4), .val (.int (2 : Int32)), .val (.int cu), .val (.int cv), .val (.int cw), .val (.ref ca), .val (.ref cb), .val (.ref s1), .unset, .unset, .unset, .unset, .unset, .unset]) rfl ?_
      show Steps p.tables e below (T301.setTop (mkF m 106 #[.val (.int p1), .val (.int p2), .val (.int p3), .val (.int p4), .val (.int (2 : Int32)), .val (.int cu), .val (.int cv), .val (.int cw), .val (.ref ca), .val (.ref cb), .val (.ref s1), .unset, .unset, .unset, .unset, .unset, .unset] [])) _
      refine st308 _ ?_
      show Steps p.tables e below (T308.setTop (mkF m 109 #[.val (.int p1), .val (.int p2), .val (.int p3), .val (.int p4), .val (.int (2 : Int32)), .val (.int cu), .val (.int cv), .val (.int cw), .val (.ref ca), .val (.ref cb), .val (.ref s1), .unset, .unset, .unset, .unset, .unset, .unset] [(.ref s2)])) _
      refine XS.dup X308.here hx rfl (hb hby at_109) rfl rfl ?_
      show Steps p.tables e below (T308.setTop (mkF m 110 #[.val (.int p1), .val (.int p2), .val (.int p3), .val (.int p4), .val (.int (2 : Int32)), .val (.int cu), .val (.int cv), .val (.int cw), .val (.ref ca), .val (.ref cb), .val (.ref s1), .unset, .unset, .unset, .unset, .unset, .unset] [(.ref s2), (.ref s2)])) _
      refine XS.aload X308.here hx rfl (hb hby at_110) rfl rfl ?_
      show Steps p.tables e below (T308.setTop (mkF m 112 #[.val (.int p1), .val (.int p2), .val (.int p3), .val (.int p4), .val (.int (2 : Int32)), .val (.int cu), .val (.int cv), .val (.int cw), .val (.ref ca), .val (.ref cb), .val (.ref s1), .unset, .unset, .unset, .unset, .unset, .unset] [(.ref cb), (.ref s2), (.ref s2)])) _
      refine st316.trans ?_
      show Steps p.tables e below (T316.setTop (mkF m 115 #[.val (.int p1), .val (.int p2), .val (.int p3), .val (.int p4), .val (.int (2 : Int32)), .val (.int cu), .val (.int cv), .val (.int cw), .val (.ref ca), .val (.ref cb), .val (.ref s1), .unset, .unset, .unset, .unset, .unset, .unset] [(.ref s2)])) _
      refine XS.astore X316.here hx rfl (hb hby at_115) rfl rfl (l' := #[.val (.int p1), .val (.int p2), .val (.int p3), .val (.int p4), .val (.int (2 : Int32)), .val (.int cu), .val (.int cv), .val (.int cw), .val (.ref ca), .val (.ref cb), .val (.ref s1), .val (.ref s2), .unset, .unset, .unset, .unset, .unset]) rfl ?_
      show Steps p.tables e below (T316.setTop (mkF m 117 #[.val (.int p1), .val (.int p2), .val (.int p3), .val (.int p4), .val (.int (2 : Int32)), .val (.int cu), .val (.int cv), .val (.int cw), .val (.ref ca), .val (.ref cb), .val (.ref s1), .val (.ref s2), .unset, .unset, .unset, .unset, .unset] [])) _
      refine XS.aload X316.here hx rfl (hb hby at_117) rfl rfl ?_
      show Steps p.tables e below (T316.setTop (mkF m 119 #[.val (.int p1), .val (.int p2), .val (.int p3), .val (.int p4), .val (.int (2 : Int32)), .val (.int cu), .val (.int cv), .val (.int cw), .val (.ref ca), .val (.ref cb), .val (.ref s1), .val (.ref s2), .unset, .unset, .unset, .unset, .unset] [(.ref s1)])) _
      refine st324.trans ?_
      show Steps p.tables e below (T324.setTop (mkF m 122 #[.val (.int p1), .val (.int p2), .val (.int p3), .val (.int p4), .val (.int (2 : Int32)), .val (.int cu), .val (.int cv), .val (.int cw), .val (.ref ca), .val (.ref cb), .val (.ref s1), .val (.ref s2), .unset, .unset, .unset, .unset, .unset] [(.ref pa)])) _
      refine XS.astore X324'.here hx rfl (hb hby at_122) rfl rfl (l' := #[.val (.int p1), .val (.int p2), .val (.int p3), .val (.int p4), .val (.int (2 : Int32)), .val (.int cu), .val (.int cv), .val (.int cw), .val (.ref ca), .val (.ref cb), .val (.ref s1), .val (.ref s2), .val (.ref pa), .unset, .unset, .unset, .unset]) rfl ?_
      show Steps p.tables e below (T324.setTop (mkF m 124 #[.val (.int p1), .val (.int p2), .val (.int p3), .val (.int p4), .val (.int (2 : Int32)), .val (.int cu), .val (.int cv), .val (.int cw), .val (.ref ca), .val (.ref cb), .val (.ref s1), .val (.ref s2), .val (.ref pa), .unset, .unset, .unset, .unset] [])) _
      refine XS.aload X324'.here hx rfl (hb hby at_124) rfl rfl ?_
      show Steps p.tables e below (T324.setTop (mkF m 126 #[.val (.int p1), .val (.int p2), .val (.int p3), .val (.int p4), .val (.int (2 : Int32)), .val (.int cu), .val (.int cv), .val (.int cw), .val (.ref ca), .val (.ref cb), .val (.ref s1), .val (.ref s2), .val (.ref pa), .unset, .unset, .unset, .unset] [(.ref pa)])) _
      refine st329.trans ?_
      show Steps p.tables e below (T329.setTop (mkF m 129 #[.val (.int p1), .val (.int p2), .val (.int p3), .val (.int p4), .val (.int (2 : Int32)), .val (.int cu), .val (.int cv), .val (.int cw), .val (.ref ca), .val (.ref cb), .val (.ref s1), .val (.ref s2), .val (.ref pa), .unset, .unset, .unset, .unset] [(.int (1 : Int32))])) _
      refine XS.ifYes X329.here hx rfl (pc0 := 129) (pc' := 134) rfl (hb hby at_129) rfl ((if0 _ _).trans (feq (by decide : ¬ (1 : Int32) = 0)).2) (by decide) (by decide) ?_
      show Steps p.tables e below (T329.setTop (mkF m 134 #[.val (.int p1), .val (.int p2), .val (.int p3), .val (.int p4), .val (.int (2 : Int32)), .val (.int cu), .val (.int cv), .val (.int cw), .val (.ref ca), .val (.ref cb), .val (.ref s1), .val (.ref s2), .val (.ref pa), .unset, .unset, .unset, .unset] [])) _
      refine XS.aload X329.here hx rfl (hb hby at_134) rfl rfl ?_
      show Steps p.tables e below (T329.setTop (mkF m 136 #[.val (.int p1), .val (.int p2), .val (.int p3), .val (.int p4), .val (.int (2 : Int32)), .val (.int cu), .val (.int cv), .val (.int cw), .val (.ref ca), .val (.ref cb), .val (.ref s1), .val (.ref s2), .val (.ref pa), .unset, .unset, .unset, .unset] [(.ref pa)])) _
      refine st330.trans ?_
      show Steps p.tables e below (T330.setTop (mkF m 139 #[.val (.int p1), .val (.int p2), .val (.int p3), .val (.int p4), .val (.int (2 : Int32)), .val (.int cu), .val (.int cv), .val (.int cw), .val (.ref ca), .val (.ref cb), .val (.ref s1), .val (.ref s2), .val (.ref pa), .unset, .unset, .unset, .unset] [(.ref s1)])) _
      refine XS.astore X330.here hx rfl (hb hby at_139) rfl rfl (l' := #[.val (.int p1), .val (.int p2), .val (.int p3), .val (.int p4), .val (.int (2 : Int32)), .val (.int cu), .val (.int cv), .val (.int cw), .val (.ref ca), .val (.ref cb), .val (.ref s1), .val (.ref s2), .val (.ref pa), .val (.ref s1), .unset, .unset, .unset]) rfl ?_
      show Steps p.tables e below (T330.setTop (mkF m 141 #[.val (.int p1), .val (.int p2), .val (.int p3), .val (.int p4), .val (.int (2 : Int32)), .val (.int cu), .val (.int cv), .val (.int cw), .val (.ref ca), .val (.ref cb), .val (.ref s1), .val (.ref s2), .val (.ref pa), .val (.ref s1), .unset, .unset, .unset] [])) _
      refine XS.aload X330.here hx rfl (hb hby at_141) rfl rfl ?_
      show Steps p.tables e below (T330.setTop (mkF m 143 #[.val (.int p1), .val (.int p2), .val (.int p3), .val (.int p4), .val (.int (2 : Int32)), .val (.int cu), .val (.int cv), .val (.int cw), .val (.ref ca), .val (.ref cb), .val (.ref s1), .val (.ref s2), .val (.ref pa), .val (.ref s1), .unset, .unset, .unset] [(.ref s1)])) _
      refine XS.ifnullNo X330.here hx rfl (hb hby at_143) rfl ?_
      show Steps p.tables e below (T330.setTop (mkF m 146 #[.val (.int p1), .val (.int p2), .val (.int p3), .val (.int p4), .val (.int (2 : Int32)), .val (.int cu), .val (.int cv), .val (.int cw), .val (.ref ca), .val (.ref cb), .val (.ref s1), .val (.ref s2), .val (.ref pa), .val (.ref s1), .unset, .unset, .unset] [])) _
      refine XS.aload X330.here hx rfl (hb hby at_146) rfl rfl ?_
      show Steps p.tables e below (T330.setTop (mkF m 148 #[.val (.int p1), .val (.int p2), .val (.int p3), .val (.int p4), .val (.int (2 : Int32)), .val (.int cu), .val (.int cv), .val (.int cw), .val (.ref ca), .val (.ref cb), .val (.ref s1), .val (.ref s2), .val (.ref pa), .val (.ref s1), .unset, .unset, .unset] [(.ref s1)])) _
      refine XS.aload X330.here hx rfl (hb hby at_148) rfl rfl ?_
      show Steps p.tables e below (T330.setTop (mkF m 150 #[.val (.int p1), .val (.int p2), .val (.int p3), .val (.int p4), .val (.int (2 : Int32)), .val (.int cu), .val (.int cv), .val (.int cw), .val (.ref ca), .val (.ref cb), .val (.ref s1), .val (.ref s2), .val (.ref pa), .val (.ref s1), .unset, .unset, .unset] [(.ref s1), (.ref s1)])) _
      refine st331.trans ?_
      show Steps p.tables e below (T331.setTop (mkF m 153 #[.val (.int p1), .val (.int p2), .val (.int p3), .val (.int p4), .val (.int (2 : Int32)), .val (.int cu), .val (.int cv), .val (.int cw), .val (.ref ca), .val (.ref cb), .val (.ref s1), .val (.ref s2), .val (.ref pa), .val (.ref s1), .unset, .unset, .unset] [(.int (1 : Int32))])) _
      refine XS.ifYes X331.here hx rfl (pc0 := 153) (pc' := 158) rfl (hb hby at_153) rfl ((if0 _ _).trans (feq (by decide : ¬ (1 : Int32) = 0)).2) (by decide) (by decide) ?_
      show Steps p.tables e below (T331.setTop (mkF m 158 #[.val (.int p1), .val (.int p2), .val (.int p3), .val (.int p4), .val (.int (2 : Int32)), .val (.int cu), .val (.int cv), .val (.int cw), .val (.ref ca), .val (.ref cb), .val (.ref s1), .val (.ref s2), .val (.ref pa), .val (.ref s1), .unset, .unset, .unset] [])) _
      refine XS.aload X331.here hx rfl (hb hby at_158) rfl rfl ?_
      show Steps p.tables e below (T331.setTop (mkF m 160 #[.val (.int p1), .val (.int p2), .val (.int p3), .val (.int p4), .val (.int (2 : Int32)), .val (.int cu), .val (.int cv), .val (.int cw), .val (.ref ca), .val (.ref cb), .val (.ref s1), .val (.ref s2), .val (.ref pa), .val (.ref s1), .unset, .unset, .unset] [(.ref pa)])) _
      refine st332.trans ?_
      show Steps p.tables e below (T332.setTop (mkF m 163 #[.val (.int p1), .val (.int p2), .val (.int p3), .val (.int p4), .val (.int (2 : Int32)), .val (.int cu), .val (.int cv), .val (.int cw), .val (.ref ca), .val (.ref cb), .val (.ref s1), .val (.ref s2), .val (.ref pa), .val (.ref s1), .unset, .unset, .unset] [(.long ((Int32.ofNat 2).toInt64))])) _
      refine XS.iload X332.here hx rfl (hb hby at_163) rfl ?_
      show Steps p.tables e below (T332.setTop (mkF m 165 #[.val (.int p1), .val (.int p2), .val (.int p3), .val (.int p4), .val (.int (2 : Int32)), .val (.int cu), .val (.int cv), .val (.int cw), .val (.ref ca), .val (.ref cb), .val (.ref s1), .val (.ref s2), .val (.ref pa), .val (.ref s1), .unset, .unset, .unset] [(.int (2 : Int32)), (.long ((Int32.ofNat 2).toInt64))])) _
      refine XS.i2l X332.here hx rfl (hb hby at_165) rfl ?_
      exact k_)
    obtain ⟨cq334, kq334, q334a, q334b, q334c⟩ := isOf hZ324 e332 E324
    obtain ⟨_, _, ⟨T334, L334, k334, n334⟩, -, X334, ⟨Lc334, hQ334, l334, y334, z334⟩, st334⟩ := X332.virtualBack hx (y := (⟨"com/example/ledgerpost/ledgerpost/Payload", "bytes", "()[B"⟩ : MethodName)) (z := (⟨"com/example/ledgerpost/ledgerpost/Payload", "bytes", "()[B"⟩ : MethodName)) hown324 (mvT hZ324 (hw _ (List.mem_of_getElem? (i := 73) rfl))) (mvT hZ324 (hw _ (List.mem_of_getElem? (i := 74) rfl))) (notFace_of_selects (args := #[]) (mvT hZ324 (hw _ (List.mem_of_getElem? (i := 76) rfl)))) (mvT hZ324 (hw _ (List.mem_of_getElem? (i := 76) rfl))) (mvT hZ324 (hw _ (List.mem_of_getElem? (i := 75) rfl))) (by decide) (backOf (W := 0) (rmBy l Z a0 hw [] pa s1 uu t1 2 gg zc T324.heap n0 Z328 F0324 O_325 S_u S_i S_c hzc (by omega) (lat _) L_326) hZ324 (hw _ (List.mem_of_getElem? (i := 77) rfl)) (hw _ (List.mem_of_getElem? (i := 24) rfl)) (by decide) (by decide)) q334a q334c (g := (mkF m 174 #[.val (.int p1), .val (.int p2), .val (.int p3), .val (.int p4), .val (.int (2 : Int32)), .val (.int cu), .val (.int cv), .val (.int cw), .val (.ref ca), .val (.ref cb), .val (.ref s1), .val (.ref s2), .val (.ref pa), .val (.ref s1), .unset, .unset, .unset] [(.ref pa)])) rfl (by rw [hml]; rfl) (Steps.refl _) (argsL := []) (rest := []) (lenOf pd_25 rfl) rfl (by show 2 * 0 + _ ≤ _; exact Nat.le_of_eq rfl) (hb hby at_174) (fun _ _ => ⟨rfl, e332, (by decide : 9 + 2 ≤ _), (by decide : 46 + 24 ≤ _)⟩)
    dsimp only [Pt.U, Pt.locs, Pt.cells, Pt.slots] at X334 l334 y334 z334 st334 hQ334
    rw [l334, y334, z334] at X334
    obtain ⟨bb, db, hv334, N334q, K334, AB, B0⟩ := hQ334
    rw [hv334] at st334
    have N334 := Fr.app N332 N334q
    have O_335 := O_325.keep K334 all0
    have L_336 := own_Lk L_326 K334
    have L_337 := own_Lk L_327 K334
    have E_pa_338 := E324.keep K334
    have F0_pa_339 := F0324.keep K334 nin0
    have F1_pa_340 := F1324.keep K334 nin0
    have Z341 : n0 ≤ T334.heap.size := Nat.le_trans Z328 (K334.1)
    have hk342 := Nat.le_trans (Nat.le_refl _) (K334.1)
    obtain ⟨cl, Ar, Sz, Hs⟩ := id AB
    have ub := own_ulb gg 2
    have Sz2 : cl.slots.size = (Int32.ofNat (own_ul gg 2)).toNatClampNeg := by rw [Sz, own_ofc (by omega)]
    obtain ⟨_, _, ⟨T343, L343, k343, n343⟩, -, X343, ⟨Lc343, hQ343, l343, y343, z343⟩, st343⟩ := Jvm.LawKit.callS X334 hx (y := (⟨"com/example/ledgerpost/ledgerpost/PayloadOfTextPinLaw", "utf8Len", "(C)I"⟩ : MethodName)) hown324 (mvT hZ324 (hw _ (List.mem_of_getElem? (i := 153) rfl))) (mvT hZ324 (hw _ (List.mem_of_getElem? (i := 154) rfl))) (mvT hZ324 (hw _ (List.mem_of_getElem? (i := 155) rfl))) (mvT hZ324 (hw _ (List.mem_of_getElem? (i := 156) rfl))) (by decide) (backOf (W := 1) (rmutf8Len l Z a0 hw [] cu T334.heap n0 Z341 ) hZ324 (hw _ (List.mem_of_getElem? (i := 156) rfl)) (hw _ (List.mem_of_getElem? (i := 155) rfl)) (by decide) (by decide)) (g := (mkF m 192 #[.val (.int p1), .val (.int p2), .val (.int p3), .val (.int p4), .val (.int (2 : Int32)), .val (.int cu), .val (.int cv), .val (.int cw), .val (.ref ca), .val (.ref cb), .val (.ref s1), .val (.ref s2), .val (.ref pa), .val (.ref s1), .val (.ref bb), .val (.int (0 : Int32)), .unset] [(.int cu), (.int (0 : Int32))])) rfl (by rw [hml]; rfl) (argsL := [(.int cu)]) (rest := [(.int (0 : Int32))]) (lenOf pd_26 rfl) rfl (by show 2 * 0 + _ ≤ _; exact Nat.le_of_eq rfl) (hb hby at_192) (fun _ _ => ⟨rfl, rfl, (by decide : 11 + 0 ≤ _), (by decide : 70 + 0 ≤ _)⟩)
    dsimp only [Pt.U, Pt.locs, Pt.cells, Pt.slots] at X343 l343 y343 z343 st343 hQ343
    rw [l343, y343, z343] at X343
    obtain ⟨hv343, N343q, e343⟩ := hQ343
    rw [hv343] at st343
    have N343 := Fr.app N334 N343q
    obtain ⟨_, _, ⟨T344, L344, k344, n344⟩, -, X344, ⟨Lc344, hQ344, l344, y344, z344⟩, st344⟩ := Jvm.LawKit.callS X343 hx (y := (⟨"com/example/ledgerpost/ledgerpost/PayloadOfTextPinLaw", "utf8Len", "(C)I"⟩ : MethodName)) hown324 (mvT hZ324 (hw _ (List.mem_of_getElem? (i := 153) rfl))) (mvT hZ324 (hw _ (List.mem_of_getElem? (i := 154) rfl))) (mvT hZ324 (hw _ (List.mem_of_getElem? (i := 155) rfl))) (mvT hZ324 (hw _ (List.mem_of_getElem? (i := 156) rfl))) (by decide) (backOf (W := 1) (rmutf8Len l Z a0 hw [] cv T334.heap n0 Z341 ) hZ324 (hw _ (List.mem_of_getElem? (i := 156) rfl)) (hw _ (List.mem_of_getElem? (i := 155) rfl)) (by decide) (by decide)) (g := (mkF m 208 #[.val (.int p1), .val (.int p2), .val (.int p3), .val (.int p4), .val (.int (2 : Int32)), .val (.int cu), .val (.int cv), .val (.int cw), .val (.ref ca), .val (.ref cb), .val (.ref s1), .val (.ref s2), .val (.ref pa), .val (.ref s1), .val (.ref bb), .val (.int ((0 : Int32) + (own_u1 cu))), .unset] [(.int cv), (.int ((0 : Int32) + (own_u1 cu)))])) rfl (by rw [hml]; rfl) (argsL := [(.int cv)]) (rest := [(.int ((0 : Int32) + (own_u1 cu)))]) (lenOf pd_26 rfl) rfl (by show 2 * 0 + _ ≤ _; exact Nat.le_of_eq rfl) (hb hby at_208) (fun _ _ => ⟨rfl, e343, (by decide : 11 + 0 ≤ _), (by decide : 70 + 0 ≤ _)⟩)
    dsimp only [Pt.U, Pt.locs, Pt.cells, Pt.slots] at X344 l344 y344 z344 st344 hQ344
    rw [l344, y344, z344] at X344
    obtain ⟨hv344, N344q, e344⟩ := hQ344
    rw [hv344] at st344
    have N344 := Fr.app N343 N344q
    have pre345 : ∀ t_, Steps p.tables e below (T344.setTop (mkF m 240 #[.val (.int p1), .val (.int p2), .val (.int p3), .val (.int p4), .val (.int (2 : Int32)), .val (.int cu), .val (.int cv), .val (.int cw), .val (.ref ca), .val (.ref cb), .val (.ref s1), .val (.ref s2), .val (.ref pa), .val (.ref s1), .val (.ref bb), .val (.int (((0 : Int32) + (own_u1 cu)) + (own_u1 cv))), .unset] [])) t_ → Steps p.tables e below (s₁.setTop (entryFrame m #[(.int p1), (.int p2), (.int p3), (.int p4)] maxLocals)) t_ := fun t_ k_ => pre333 _ (by
      show Steps p.tables e below (T332.setTop (mkF m 166 #[.val (.int p1), .val (.int p2), .val (.int p3), .val (.int p4), .val (.int (2 : Int32)), .val (.int cu), .val (.int cv), .val (.int cw), .val (.ref ca), .val (.ref cb), .val (.ref s1), .val (.ref s2), .val (.ref pa), .val (.ref s1), .unset, .unset, .unset] [(.long ((2 : Int32).toInt64)), (.long ((Int32.ofNat 2).toInt64))])) _
      refine XS.lcmp X332.here hx rfl (hb hby at_166) rfl ?_
      show Steps p.tables e below (T332.setTop (mkF m 167 #[.val (.int p1), .val (.int p2), .val (.int p3), .val (.int p4), .val (.int (2 : Int32)), .val (.int cu), .val (.int cv), .val (.int cw), .val (.ref ca), .val (.ref cb), .val (.ref s1), .val (.ref s2), .val (.ref pa), .val (.ref s1), .unset, .unset, .unset] [(.int (lcmpW ((Int32.ofNat 2).toInt64) ((2 : Int32).toInt64)))])) _
      refine XS.ifYes X332.here hx rfl (pc0 := 167) (pc' := 172) rfl (hb hby at_167) rfl ((if0 _ _).trans (teq ((lw_eq _ _).mpr rfl)).1) (by decide) (by decide) ?_
      show Steps p.tables e below (T332.setTop (mkF m 172 #[.val (.int p1), .val (.int p2), .val (.int p3), .val (.int p4), .val (.int (2 : Int32)), .val (.int cu), .val (.int cv), .val (.int cw), .val (.ref ca), .val (.ref cb), .val (.ref s1), .val (.ref s2), .val (.ref pa), .val (.ref s1), .unset, .unset, .unset] [])) _
      refine XS.aload X332.here hx rfl (hb hby at_172) rfl rfl ?_
      show Steps p.tables e below (T332.setTop (mkF m 174 #[.val (.int p1), .val (.int p2), .val (.int p3), .val (.int p4), .val (.int (2 : Int32)), .val (.int cu), .val (.int cv), .val (.int cw), .val (.ref ca), .val (.ref cb), .val (.ref s1), .val (.ref s2), .val (.ref pa), .val (.ref s1), .unset, .unset, .unset] [(.ref pa)])) _
      refine st334.trans ?_
      show Steps p.tables e below (T334.setTop (mkF m 177 #[.val (.int p1), .val (.int p2), .val (.int p3), .val (.int p4), .val (.int (2 : Int32)), .val (.int cu), .val (.int cv), .val (.int cw), .val (.ref ca), .val (.ref cb), .val (.ref s1), .val (.ref s2), .val (.ref pa), .val (.ref s1), .unset, .unset, .unset] [(.ref bb)])) _
      refine XS.astore X334.here hx rfl (hb hby at_177) rfl rfl (l' := #[.val (.int p1), .val (.int p2), .val (.int p3), .val (.int p4), .val (.int (2 : Int32)), .val (.int cu), .val (.int cv), .val (.int cw), .val (.ref ca), .val (.ref cb), .val (.ref s1), .val (.ref s2), .val (.ref pa), .val (.ref s1), .val (.ref bb), .unset, .unset]) rfl ?_
      show Steps p.tables e below (T334.setTop (mkF m 179 #[.val (.int p1), .val (.int p2), .val (.int p3), .val (.int p4), .val (.int (2 : Int32)), .val (.int cu), .val (.int cv), .val (.int cw), .val (.ref ca), .val (.ref cb), .val (.ref s1), .val (.ref s2), .val (.ref pa), .val (.ref s1), .val (.ref bb), .unset, .unset] [])) _
      refine XS.iconst X334.here hx rfl (hb hby at_179) ?_
      show Steps p.tables e below (T334.setTop (mkF m 180 #[.val (.int p1), .val (.int p2), .val (.int p3), .val (.int p4), .val (.int (2 : Int32)), .val (.int cu), .val (.int cv), .val (.int cw), .val (.ref ca), .val (.ref cb), .val (.ref s1), .val (.ref s2), .val (.ref pa), .val (.ref s1), .val (.ref bb), .unset, .unset] [(.int (0 : Int32))])) _
      refine XS.istore X334.here hx rfl (hb hby at_180) rfl (l' := #[.val (.int p1), .val (.int p2), .val (.int p3), .val (.int p4), .val (.int (2 : Int32)), .val (.int cu), .val (.int cv), .val (.int cw), .val (.ref ca), .val (.ref cb), .val (.ref s1), .val (.ref s2), .val (.ref pa), .val (.ref s1), .val (.ref bb), .val (.int (0 : Int32)), .unset]) rfl ?_
      show Steps p.tables e below (T334.setTop (mkF m 182 #[.val (.int p1), .val (.int p2), .val (.int p3), .val (.int p4), .val (.int (2 : Int32)), .val (.int cu), .val (.int cv), .val (.int cw), .val (.ref ca), .val (.ref cb), .val (.ref s1), .val (.ref s2), .val (.ref pa), .val (.ref s1), .val (.ref bb), .val (.int (0 : Int32)), .unset] [])) _
      refine XS.iload X334.here hx rfl (hb hby at_182) rfl ?_
      show Steps p.tables e below (T334.setTop (mkF m 184 #[.val (.int p1), .val (.int p2), .val (.int p3), .val (.int p4), .val (.int (2 : Int32)), .val (.int cu), .val (.int cv), .val (.int cw), .val (.ref ca), .val (.ref cb), .val (.ref s1), .val (.ref s2), .val (.ref pa), .val (.ref s1), .val (.ref bb), .val (.int (0 : Int32)), .unset] [(.int (2 : Int32))])) _
      refine XS.iconst X334.here hx rfl (hb hby at_184) ?_
      show Steps p.tables e below (T334.setTop (mkF m 185 #[.val (.int p1), .val (.int p2), .val (.int p3), .val (.int p4), .val (.int (2 : Int32)), .val (.int cu), .val (.int cv), .val (.int cw), .val (.ref ca), .val (.ref cb), .val (.ref s1), .val (.ref s2), .val (.ref pa), .val (.ref s1), .val (.ref bb), .val (.int (0 : Int32)), .unset] [(.int (1 : Int32)), (.int (2 : Int32))])) _
      refine XS.icmpNo X334.here hx rfl (hb hby at_185) rfl (flt (by decide)).1 ?_
      show Steps p.tables e below (T334.setTop (mkF m 188 #[.val (.int p1), .val (.int p2), .val (.int p3), .val (.int p4), .val (.int (2 : Int32)), .val (.int cu), .val (.int cv), .val (.int cw), .val (.ref ca), .val (.ref cb), .val (.ref s1), .val (.ref s2), .val (.ref pa), .val (.ref s1), .val (.ref bb), .val (.int (0 : Int32)), .unset] [])) _
      refine XS.iload X334.here hx rfl (hb hby at_188) rfl ?_
      show Steps p.tables e below (T334.setTop (mkF m 190 #[.val (.int p1), .val (.int p2), .val (.int p3), .val (.int p4), .val (.int (2 : Int32)), .val (.int cu), .val (.int cv), .val (.int cw), .val (.ref ca), .val (.ref cb), .val (.ref s1), .val (.ref s2), .val (.ref pa), .val (.ref s1), .val (.ref bb), .val (.int (0 : Int32)), .unset] [(.int (0 : Int32))])) _
      refine XS.iload X334.here hx rfl (hb hby at_190) rfl ?_
      show Steps p.tables e below (T334.setTop (mkF m 192 #[.val (.int p1), .val (.int p2), .val (.int p3), .val (.int p4), .val (.int (2 : Int32)), .val (.int cu), .val (.int cv), .val (.int cw), .val (.ref ca), .val (.ref cb), .val (.ref s1), .val (.ref s2), .val (.ref pa), .val (.ref s1), .val (.ref bb), .val (.int (0 : Int32)), .unset] [(.int cu), (.int (0 : Int32))])) _
      refine st343 _ ?_
      show Steps p.tables e below (T343.setTop (mkF m 195 #[.val (.int p1), .val (.int p2), .val (.int p3), .val (.int p4), .val (.int (2 : Int32)), .val (.int cu), .val (.int cv), .val (.int cw), .val (.ref ca), .val (.ref cb), .val (.ref s1), .val (.ref s2), .val (.ref pa), .val (.ref s1), .val (.ref bb), .val (.int (0 : Int32)), .unset] [(.int (own_u1 cu)), (.int (0 : Int32))])) _
      refine XS.iadd X343.here hx rfl (hb hby at_195) rfl ?_
      show Steps p.tables e below (T343.setTop (mkF m 196 #[.val (.int p1), .val (.int p2), .val (.int p3), .val (.int p4), .val (.int (2 : Int32)), .val (.int cu), .val (.int cv), .val (.int cw), .val (.ref ca), .val (.ref cb), .val (.ref s1), .val (.ref s2), .val (.ref pa), .val (.ref s1), .val (.ref bb), .val (.int (0 : Int32)), .unset] [(.int ((0 : Int32) + (own_u1 cu)))])) _
      refine XS.istore X343.here hx rfl (hb hby at_196) rfl (l' := #[.val (.int p1), .val (.int p2), .val (.int p3), .val (.int p4), .val (.int (2 : Int32)), .val (.int cu), .val (.int cv), .val (.int cw), .val (.ref ca), .val (.ref cb), .val (.ref s1), .val (.ref s2), .val (.ref pa), .val (.ref s1), .val (.ref bb), .val (.int ((0 : Int32) + (own_u1 cu))), .unset]) rfl ?_
      show Steps p.tables e below (T343.setTop (mkF m 198 #[.val (.int p1), .val (.int p2), .val (.int p3), .val (.int p4), .val (.int (2 : Int32)), .val (.int cu), .val (.int cv), .val (.int cw), .val (.ref ca), .val (.ref cb), .val (.ref s1), .val (.ref s2), .val (.ref pa), .val (.ref s1), .val (.ref bb), .val (.int ((0 : Int32) + (own_u1 cu))), .unset] [])) _
      refine XS.iload X343.here hx rfl (hb hby at_198) rfl ?_
      show Steps p.tables e below (T343.setTop (mkF m 200 #[.val (.int p1), .val (.int p2), .val (.int p3), .val (.int p4), .val (.int (2 : Int32)), .val (.int cu), .val (.int cv), .val (.int cw), .val (.ref ca), .val (.ref cb), .val (.ref s1), .val (.ref s2), .val (.ref pa), .val (.ref s1), .val (.ref bb), .val (.int ((0 : Int32) + (own_u1 cu))), .unset] [(.int (2 : Int32))])) _
      refine XS.iconst X343.here hx rfl (hb hby at_200) ?_
      show Steps p.tables e below (T343.setTop (mkF m 201 #[.val (.int p1), .val (.int p2), .val (.int p3), .val (.int p4), .val (.int (2 : Int32)), .val (.int cu), .val (.int cv), .val (.int cw), .val (.ref ca), .val (.ref cb), .val (.ref s1), .val (.ref s2), .val (.ref pa), .val (.ref s1), .val (.ref bb), .val (.int ((0 : Int32) + (own_u1 cu))), .unset] [(.int (2 : Int32)), (.int (2 : Int32))])) _
      refine XS.icmpNo X343.here hx rfl (hb hby at_201) rfl (flt (by decide)).1 ?_
      show Steps p.tables e below (T343.setTop (mkF m 204 #[.val (.int p1), .val (.int p2), .val (.int p3), .val (.int p4), .val (.int (2 : Int32)), .val (.int cu), .val (.int cv), .val (.int cw), .val (.ref ca), .val (.ref cb), .val (.ref s1), .val (.ref s2), .val (.ref pa), .val (.ref s1), .val (.ref bb), .val (.int ((0 : Int32) + (own_u1 cu))), .unset] [])) _
      refine XS.iload X343.here hx rfl (hb hby at_204) rfl ?_
      show Steps p.tables e below (T343.setTop (mkF m 206 #[.val (.int p1), .val (.int p2), .val (.int p3), .val (.int p4), .val (.int (2 : Int32)), .val (.int cu), .val (.int cv), .val (.int cw), .val (.ref ca), .val (.ref cb), .val (.ref s1), .val (.ref s2), .val (.ref pa), .val (.ref s1), .val (.ref bb), .val (.int ((0 : Int32) + (own_u1 cu))), .unset] [(.int ((0 : Int32) + (own_u1 cu)))])) _
      refine XS.iload X343.here hx rfl (hb hby at_206) rfl ?_
      show Steps p.tables e below (T343.setTop (mkF m 208 #[.val (.int p1), .val (.int p2), .val (.int p3), .val (.int p4), .val (.int (2 : Int32)), .val (.int cu), .val (.int cv), .val (.int cw), .val (.ref ca), .val (.ref cb), .val (.ref s1), .val (.ref s2), .val (.ref pa), .val (.ref s1), .val (.ref bb), .val (.int ((0 : Int32) + (own_u1 cu))), .unset] [(.int cv), (.int ((0 : Int32) + (own_u1 cu)))])) _
      refine st344 _ ?_
      show Steps p.tables e below (T344.setTop (mkF m 211 #[.val (.int p1), .val (.int p2), .val (.int p3), .val (.int p4), .val (.int (2 : Int32)), .val (.int cu), .val (.int cv), .val (.int cw), .val (.ref ca), .val (.ref cb), .val (.ref s1), .val (.ref s2), .val (.ref pa), .val (.ref s1), .val (.ref bb), .val (.int ((0 : Int32) + (own_u1 cu))), .unset] [(.int (own_u1 cv)), (.int ((0 : Int32) + (own_u1 cu)))])) _
      refine XS.iadd X344.here hx rfl (hb hby at_211) rfl ?_
      show Steps p.tables e below (T344.setTop (mkF m 212 #[.val (.int p1), .val (.int p2), .val (.int p3), .val (.int p4), .val (.int (2 : Int32)), .val (.int cu), .val (.int cv), .val (.int cw), .val (.ref ca), .val (.ref cb), .val (.ref s1), .val (.ref s2), .val (.ref pa), .val (.ref s1), .val (.ref bb), .val (.int ((0 : Int32) + (own_u1 cu))), .unset] [(.int (((0 : Int32) + (own_u1 cu)) + (own_u1 cv)))])) _
      refine XS.istore X344.here hx rfl (hb hby at_212) rfl (l' := #[.val (.int p1), .val (.int p2), .val (.int p3), .val (.int p4), .val (.int (2 : Int32)), .val (.int cu), .val (.int cv), .val (.int cw), .val (.ref ca), .val (.ref cb), .val (.ref s1), .val (.ref s2), .val (.ref pa), .val (.ref s1), .val (.ref bb), .val (.int (((0 : Int32) + (own_u1 cu)) + (own_u1 cv))), .unset]) rfl ?_
      show Steps p.tables e below (T344.setTop (mkF m 214 #[.val (.int p1), .val (.int p2), .val (.int p3), .val (.int p4), .val (.int (2 : Int32)), .val (.int cu), .val (.int cv), .val (.int cw), .val (.ref ca), .val (.ref cb), .val (.ref s1), .val (.ref s2), .val (.ref pa), .val (.ref s1), .val (.ref bb), .val (.int (((0 : Int32) + (own_u1 cu)) + (own_u1 cv))), .unset] [])) _
      refine XS.iload X344.here hx rfl (hb hby at_214) rfl ?_
      show Steps p.tables e below (T344.setTop (mkF m 216 #[.val (.int p1), .val (.int p2), .val (.int p3), .val (.int p4), .val (.int (2 : Int32)), .val (.int cu), .val (.int cv), .val (.int cw), .val (.ref ca), .val (.ref cb), .val (.ref s1), .val (.ref s2), .val (.ref pa), .val (.ref s1), .val (.ref bb), .val (.int (((0 : Int32) + (own_u1 cu)) + (own_u1 cv))), .unset] [(.int (2 : Int32))])) _
      refine XS.iconst X344.here hx rfl (hb hby at_216) ?_
      show Steps p.tables e below (T344.setTop (mkF m 217 #[.val (.int p1), .val (.int p2), .val (.int p3), .val (.int p4), .val (.int (2 : Int32)), .val (.int cu), .val (.int cv), .val (.int cw), .val (.ref ca), .val (.ref cb), .val (.ref s1), .val (.ref s2), .val (.ref pa), .val (.ref s1), .val (.ref bb), .val (.int (((0 : Int32) + (own_u1 cu)) + (own_u1 cv))), .unset] [(.int (3 : Int32)), (.int (2 : Int32))])) _
      refine XS.icmpYes X344.here hx rfl (pc0 := 217) (pc' := 230) rfl (hb hby at_217) rfl (tlt (by decide)).1 (by decide) (by decide) ?_
      show Steps p.tables e below (T344.setTop (mkF m 230 #[.val (.int p1), .val (.int p2), .val (.int p3), .val (.int p4), .val (.int (2 : Int32)), .val (.int cu), .val (.int cv), .val (.int cw), .val (.ref ca), .val (.ref cb), .val (.ref s1), .val (.ref s2), .val (.ref pa), .val (.ref s1), .val (.ref bb), .val (.int (((0 : Int32) + (own_u1 cu)) + (own_u1 cv))), .unset] [])) _
      refine XS.aload X344.here hx rfl (hb hby at_230) rfl rfl ?_
      show Steps p.tables e below (T344.setTop (mkF m 232 #[.val (.int p1), .val (.int p2), .val (.int p3), .val (.int p4), .val (.int (2 : Int32)), .val (.int cu), .val (.int cv), .val (.int cw), .val (.ref ca), .val (.ref cb), .val (.ref s1), .val (.ref s2), .val (.ref pa), .val (.ref s1), .val (.ref bb), .val (.int (((0 : Int32) + (own_u1 cu)) + (own_u1 cv))), .unset] [(.ref bb)])) _
      refine X344.arraylength hx (by rw [e344]; exact Ar.1) (State.isArrayOf_alike hZ324.alike Ar.2.1) (g := (mkF m 232 #[.val (.int p1), .val (.int p2), .val (.int p3), .val (.int p4), .val (.int (2 : Int32)), .val (.int cu), .val (.int cv), .val (.int cw), .val (.ref ca), .val (.ref cb), .val (.ref s1), .val (.ref s2), .val (.ref pa), .val (.ref s1), .val (.ref bb), .val (.int (((0 : Int32) + (own_u1 cu)) + (own_u1 cv))), .unset] [(.ref bb)])) rfl rfl (hb hby at_232) _ ?_
      rw [len_of Sz2 (own_ofn0 (a := own_ul gg 2) (by omega))]
      show Steps p.tables e below (T344.setTop (mkF m 233 #[.val (.int p1), .val (.int p2), .val (.int p3), .val (.int p4), .val (.int (2 : Int32)), .val (.int cu), .val (.int cv), .val (.int cw), .val (.ref ca), .val (.ref cb), .val (.ref s1), .val (.ref s2), .val (.ref pa), .val (.ref s1), .val (.ref bb), .val (.int (((0 : Int32) + (own_u1 cu)) + (own_u1 cv))), .unset] [(.int (Int32.ofNat (own_ul gg 2)))])) _
      refine XS.iload X344.here hx rfl (hb hby at_233) rfl ?_
      show Steps p.tables e below (T344.setTop (mkF m 235 #[.val (.int p1), .val (.int p2), .val (.int p3), .val (.int p4), .val (.int (2 : Int32)), .val (.int cu), .val (.int cv), .val (.int cw), .val (.ref ca), .val (.ref cb), .val (.ref s1), .val (.ref s2), .val (.ref pa), .val (.ref s1), .val (.ref bb), .val (.int (((0 : Int32) + (own_u1 cu)) + (own_u1 cv))), .unset] [(.int (((0 : Int32) + (own_u1 cu)) + (own_u1 cv))), (.int (Int32.ofNat (own_ul gg 2)))])) _
      refine XS.icmpYes X344.here hx rfl (pc0 := 235) (pc' := 240) rfl (hb hby at_235) rfl (teq (by rw [own_sum2 gg, g0, g1])).1 (by decide) (by decide) ?_
      exact k_)
    have hin0 : ¬ ((0 : Int32) < 0 ∨ cl.slots.size ≤ (0 : Int32).toNatClampNeg) := own_ofin (a := 0) Sz (by omega) (by omega)
    have hat0 : cl.slots[(0 : Int32).toNatClampNeg]? = some (.int (db 0)) := own_hat Hs (j := 0) (by omega) (by omega)
    obtain ⟨_, _, ⟨T346, L346, k346, n346⟩, -, X346, ⟨Lc346, hQ346, l346, y346, z346⟩, st346⟩ := Jvm.LawKit.callS X344 hx (y := (⟨"com/example/ledgerpost/ledgerpost/PayloadOfTextPinLaw", "firstByte", "(C)I"⟩ : MethodName)) hown324 (mvT hZ324 (hw _ (List.mem_of_getElem? (i := 157) rfl))) (mvT hZ324 (hw _ (List.mem_of_getElem? (i := 158) rfl))) (mvT hZ324 (hw _ (List.mem_of_getElem? (i := 155) rfl))) (mvT hZ324 (hw _ (List.mem_of_getElem? (i := 159) rfl))) (by decide) (backOf (W := 1) (rmfirstByte l Z a0 hw [] cu T334.heap n0 Z341 ) hZ324 (hw _ (List.mem_of_getElem? (i := 159) rfl)) (hw _ (List.mem_of_getElem? (i := 155) rfl)) (by decide) (by decide)) (g := (mkF m 256 #[.val (.int p1), .val (.int p2), .val (.int p3), .val (.int p4), .val (.int (2 : Int32)), .val (.int cu), .val (.int cv), .val (.int cw), .val (.ref ca), .val (.ref cb), .val (.ref s1), .val (.ref s2), .val (.ref pa), .val (.ref s1), .val (.ref bb), .val (.int (((0 : Int32) + (own_u1 cu)) + (own_u1 cv))), .unset] [(.int cu), (.int ((db 0) &&& (255 : Int32)))])) rfl (by rw [hml]; rfl) (argsL := [(.int cu)]) (rest := [(.int ((db 0) &&& (255 : Int32)))]) (lenOf pd_26 rfl) rfl (by show 2 * 0 + _ ≤ _; exact Nat.le_of_eq rfl) (hb hby at_256) (fun _ _ => ⟨rfl, e344, (by decide : 11 + 0 ≤ _), (by decide : 70 + 0 ≤ _)⟩)
    dsimp only [Pt.U, Pt.locs, Pt.cells, Pt.slots] at X346 l346 y346 z346 st346 hQ346
    rw [l346, y346, z346] at X346
    obtain ⟨hv346, N346q, e346⟩ := hQ346
    rw [hv346] at st346
    have N346 := Fr.app N344 N346q
    obtain ⟨_, _, ⟨T347, L347, k347, n347⟩, -, X347, hS347, hle347, ⟨Lc347, hQ347, l347, y347, z347⟩, st347⟩ := callSS (s := (s.setVm T324.vm)) X346 hx (y := (⟨"com/example/ledgerpost/ledgerpost/Payload", "ofText", "(Ljava/lang/String;)Lcom/example/ledgerpost/ledgerpost/Payload;"⟩ : MethodName)) hown324 (mvT hZ324 (hw _ (List.mem_of_getElem? (i := 22) rfl))) (mvT hZ324 (hw _ (List.mem_of_getElem? (i := 23) rfl))) (mvT hZ324 (hw _ (List.mem_of_getElem? (i := 24) rfl))) (mvT hZ324 (hw _ (List.mem_of_getElem? (i := 25) rfl))) (by decide) (backOfS (W := 1) (rmO l Z a0 hw [] s2 T334.heap n0 Z341 L_337.1) hZ324 (hw _ (List.mem_of_getElem? (i := 25) rfl)) (hw _ (List.mem_of_getElem? (i := 24) rfl)) (by decide) (by decide)) (g := (mkF m 268 #[.val (.int p1), .val (.int p2), .val (.int p3), .val (.int p4), .val (.int (2 : Int32)), .val (.int cu), .val (.int cv), .val (.int cw), .val (.ref ca), .val (.ref cb), .val (.ref s1), .val (.ref s2), .val (.ref pa), .val (.ref s1), .val (.ref bb), .val (.int (((0 : Int32) + (own_u1 cu)) + (own_u1 cv))), .unset] [(.ref s2), (.ref pa)])) rfl (by rw [hml]; rfl) (argsL := [(.ref s2)]) (rest := [(.ref pa)]) (lenOf pd_21 rfl) rfl (by show 2 * 0 + _ ≤ _; exact Nat.le_of_eq rfl) (hb hby at_268) (fun _ _ => ⟨rfl, e346, (by decide : 11 + 3 ≤ _), (by decide : 70 + 22 ≤ _)⟩)
    dsimp only [Pt.U, Pt.locs, Pt.cells, Pt.slots] at X347 l347 y347 z347 st347 hQ347 hS347 hle347
    rw [l347, y347, z347] at X347
    have hle347' : T334.heap.size ≤ T347.heap.size := by have q := hle347; rw [e346] at q; exact q
    obtain ⟨X347', hS347', hZ347, hown347⟩ := rebS (s := s) (vm0 := T324.vm) hS324' hk342 X347 hS347 hle347' hZ324 hown324
    obtain ⟨pb, hv347, N347q, K347, E347, F0347, F1347, lp347⟩ := hQ347
    rw [hv347] at st347
    have N347 := Fr.app N346 N347q
    have O_348 := O_335.keep K347 all0
    have L_349 := own_Lk L_336 K347
    have L_350 := own_Lk L_337 K347
    have E_pa_351 := E_pa_338.keep K347
    have F0_pa_352 := F0_pa_339.keep K347 nin0
    have F1_pa_353 := F1_pa_340.keep K347 nin0
    have Z354 : n0 ≤ T347.heap.size := Nat.le_trans Z341 (K347.1)
    obtain ⟨cq355, kq355, q355a, q355b, q355c⟩ := isOf hZ347 rfl E_pa_351
    obtain ⟨_, _, ⟨T355, L355, k355, n355⟩, -, X355, ⟨Lc355, hQ355, l355, y355, z355⟩, st355⟩ := X347'.virtualBack hx (y := (⟨"com/example/ledgerpost/ledgerpost/Payload", "equals", "(Ljava/lang/Object;)Z"⟩ : MethodName)) (z := (⟨"com/example/ledgerpost/ledgerpost/Payload", "equals", "(Ljava/lang/Object;)Z"⟩ : MethodName)) hown347 (mvT hZ347 (hw _ (List.mem_of_getElem? (i := 109) rfl))) (mvT hZ347 (hw _ (List.mem_of_getElem? (i := 110) rfl))) (notFace_of_selects (args := #[]) (mvT hZ347 (hw _ (List.mem_of_getElem? (i := 112) rfl)))) (mvT hZ347 (hw _ (List.mem_of_getElem? (i := 112) rfl))) (mvT hZ347 (hw _ (List.mem_of_getElem? (i := 111) rfl))) (by decide) (backOf (W := 0) (rmPE l Z a0 hw [] pa pb s1 s2 t1 t2 2 gg zc T347.heap n0 Z354 F0_pa_352 F0347 F1_pa_353 F1347 E347 (by omega) L_349 L_350 ne12 (S_c.ext O_348.2) hzc) hZ347 (hw _ (List.mem_of_getElem? (i := 113) rfl)) (hw _ (List.mem_of_getElem? (i := 24) rfl)) (by decide) (by decide)) q355a q355c (g := (mkF m 271 #[.val (.int p1), .val (.int p2), .val (.int p3), .val (.int p4), .val (.int (2 : Int32)), .val (.int cu), .val (.int cv), .val (.int cw), .val (.ref ca), .val (.ref cb), .val (.ref s1), .val (.ref s2), .val (.ref pa), .val (.ref s1), .val (.ref bb), .val (.int (((0 : Int32) + (own_u1 cu)) + (own_u1 cv))), .unset] [(.ref pb), (.ref pa)])) rfl (by rw [hml]; rfl) (Steps.refl _) (argsL := [(.ref pb)]) (rest := []) (lenOf pd_7 rfl) rfl (by show 2 * 0 + _ ≤ _; exact Nat.le_of_eq rfl) (hb hby at_271) (fun _ _ => ⟨rfl, rfl, (by decide : 14 + 0 ≤ _), (by decide : 92 + 0 ≤ _)⟩)
    dsimp only [Pt.U, Pt.locs, Pt.cells, Pt.slots] at X355 l355 y355 z355 st355 hQ355
    rw [l355, y355, z355] at X355
    obtain ⟨hv355, N355q, e355⟩ := hQ355
    rw [hv355] at st355
    have N355 := Fr.app N347 N355q
    obtain ⟨cq356, kq356, q356a, q356b, q356c⟩ := isOf hZ347 e355 E_pa_351
    obtain ⟨_, _, ⟨T356, L356, k356, n356⟩, -, X356, ⟨Lc356, hQ356, l356, y356, z356⟩, st356⟩ := X355.virtualBack hx (y := (⟨"com/example/ledgerpost/ledgerpost/Payload", "toString", "()Ljava/lang/String;"⟩ : MethodName)) (z := (⟨"com/example/ledgerpost/ledgerpost/Payload", "toString", "()Ljava/lang/String;"⟩ : MethodName)) hown347 (mvT hZ347 (hw _ (List.mem_of_getElem? (i := 131) rfl))) (mvT hZ347 (hw _ (List.mem_of_getElem? (i := 132) rfl))) (notFace_of_selects (args := #[]) (mvT hZ347 (hw _ (List.mem_of_getElem? (i := 134) rfl)))) (mvT hZ347 (hw _ (List.mem_of_getElem? (i := 134) rfl))) (mvT hZ347 (hw _ (List.mem_of_getElem? (i := 133) rfl))) (by decide) (backOf (W := 0) (rmTs l Z a0 hw [] pa s1 T347.heap n0 Z354 F0_pa_352) hZ347 (hw _ (List.mem_of_getElem? (i := 135) rfl)) (hw _ (List.mem_of_getElem? (i := 24) rfl)) (by decide) (by decide)) q356a q356c (g := (mkF m 281 #[.val (.int p1), .val (.int p2), .val (.int p3), .val (.int p4), .val (.int (2 : Int32)), .val (.int cu), .val (.int cv), .val (.int cw), .val (.ref ca), .val (.ref cb), .val (.ref s1), .val (.ref s2), .val (.ref pa), .val (.ref s1), .val (.ref bb), .val (.int (((0 : Int32) + (own_u1 cu)) + (own_u1 cv))), .unset] [(.ref pa)])) rfl (by rw [hml]; rfl) (Steps.refl _) (argsL := []) (rest := []) (lenOf pd_23 rfl) rfl (by show 2 * 0 + _ ≤ _; exact Nat.le_of_eq rfl) (hb hby at_281) (fun _ _ => ⟨rfl, e355, (by decide : 14 + 0 ≤ _), (by decide : 92 + 0 ≤ _)⟩)
    dsimp only [Pt.U, Pt.locs, Pt.cells, Pt.slots] at X356 l356 y356 z356 st356 hQ356
    rw [l356, y356, z356] at X356
    obtain ⟨hv356, N356q, e356⟩ := hQ356
    rw [hv356] at st356
    have N356 := Fr.app N355 N356q
    obtain ⟨cq357, kq357, q357a, q357b, q357c⟩ := isOf hZ347 e356 L_349.1
    obtain ⟨_, _, ⟨T357, L357, k357, n357⟩, -, X357, ⟨Lc357, hQ357, l357, y357, z357⟩, st357⟩ := X356.virtualBack hx (y := (⟨"java/lang/String", "equals", "(Ljava/lang/Object;)Z"⟩ : MethodName)) (z := (⟨"java/lang/String", "equals", "(Ljava/lang/Object;)Z"⟩ : MethodName)) hown347 (mvT hZ347 (hw _ (List.mem_of_getElem? (i := 52) rfl))) (mvT hZ347 (hw _ (List.mem_of_getElem? (i := 53) rfl))) (notFace_of_selects (args := #[]) (mvT hZ347 (hw _ (List.mem_of_getElem? (i := 55) rfl)))) (mvT hZ347 (hw _ (List.mem_of_getElem? (i := 55) rfl))) (mvT hZ347 (hw _ (List.mem_of_getElem? (i := 54) rfl))) (by decide) (backOf (W := 0) (rmEs l Z a0 hw [] s1 s1 T347.heap n0 Z354 rfl) hZ347 (hw _ (List.mem_of_getElem? (i := 56) rfl)) (hw _ (List.mem_of_getElem? (i := 3) rfl)) (by decide) (by decide)) q357a q357c (g := (mkF m 295 #[.val (.int p1), .val (.int p2), .val (.int p3), .val (.int p4), .val (.int (2 : Int32)), .val (.int cu), .val (.int cv), .val (.int cw), .val (.ref ca), .val (.ref cb), .val (.ref s1), .val (.ref s2), .val (.ref pa), .val (.ref s1), .val (.ref bb), .val (.int (((0 : Int32) + (own_u1 cu)) + (own_u1 cv))), .val (.ref s1)] [(.ref s1), (.ref s1)])) rfl (by rw [hml]; rfl) (Steps.refl _) (argsL := [(.ref s1)]) (rest := []) (lenOf pd_7 rfl) rfl (by show 2 * 0 + _ ≤ _; exact Nat.le_of_eq rfl) (hb hby at_295) (fun _ _ => ⟨rfl, e356, (by decide : 14 + 0 ≤ _), (by decide : 92 + 0 ≤ _)⟩)
    dsimp only [Pt.U, Pt.locs, Pt.cells, Pt.slots] at X357 l357 y357 z357 st357 hQ357
    rw [l357, y357, z357] at X357
    obtain ⟨hv357, N357q, e357⟩ := hQ357
    rw [hv357] at st357
    have N357 := Fr.app N356 N357q
    have pre358 : ∀ t_, Steps p.tables e below (T357.setTop (mkF m 306 #[.val (.int p1), .val (.int p2), .val (.int p3), .val (.int p4), .val (.int (2 : Int32)), .val (.int cu), .val (.int cv), .val (.int cw), .val (.ref ca), .val (.ref cb), .val (.ref s1), .val (.ref s2), .val (.ref pa), .val (.ref s1), .val (.ref bb), .val (.int (((0 : Int32) + (own_u1 cu)) + (own_u1 cv))), .val (.ref s1)] [(.int (1 : Int32))])) t_ → Steps p.tables e below (s₁.setTop (entryFrame m #[(.int p1), (.int p2), (.int p3), (.int p4)] maxLocals)) t_ := fun t_ k_ => pre345 _ (by
      show Steps p.tables e below (T344.setTop (mkF m 240 #[.val (.int p1), .val (.int p2), .val (.int p3), .val (.int p4), .val (.int (2 : Int32)), .val (.int cu), .val (.int cv), .val (.int cw), .val (.ref ca), .val (.ref cb), .val (.ref s1), .val (.ref s2), .val (.ref pa), .val (.ref s1), .val (.ref bb), .val (.int (((0 : Int32) + (own_u1 cu)) + (own_u1 cv))), .unset] [])) _
      refine XS.iload X344.here hx rfl (hb hby at_240) rfl ?_
      show Steps p.tables e below (T344.setTop (mkF m 242 #[.val (.int p1), .val (.int p2), .val (.int p3), .val (.int p4), .val (.int (2 : Int32)), .val (.int cu), .val (.int cv), .val (.int cw), .val (.ref ca), .val (.ref cb), .val (.ref s1), .val (.ref s2), .val (.ref pa), .val (.ref s1), .val (.ref bb), .val (.int (((0 : Int32) + (own_u1 cu)) + (own_u1 cv))), .unset] [(.int (2 : Int32))])) _
      refine XS.iconst X344.here hx rfl (hb hby at_242) ?_
      show Steps p.tables e below (T344.setTop (mkF m 243 #[.val (.int p1), .val (.int p2), .val (.int p3), .val (.int p4), .val (.int (2 : Int32)), .val (.int cu), .val (.int cv), .val (.int cw), .val (.ref ca), .val (.ref cb), .val (.ref s1), .val (.ref s2), .val (.ref pa), .val (.ref s1), .val (.ref bb), .val (.int (((0 : Int32) + (own_u1 cu)) + (own_u1 cv))), .unset] [(.int (1 : Int32)), (.int (2 : Int32))])) _
      refine XS.icmpNo X344.here hx rfl (hb hby at_243) rfl (flt (by decide)).1 ?_
      show Steps p.tables e below (T344.setTop (mkF m 246 #[.val (.int p1), .val (.int p2), .val (.int p3), .val (.int p4), .val (.int (2 : Int32)), .val (.int cu), .val (.int cv), .val (.int cw), .val (.ref ca), .val (.ref cb), .val (.ref s1), .val (.ref s2), .val (.ref pa), .val (.ref s1), .val (.ref bb), .val (.int (((0 : Int32) + (own_u1 cu)) + (own_u1 cv))), .unset] [])) _
      refine XS.aload X344.here hx rfl (hb hby at_246) rfl rfl ?_
      show Steps p.tables e below (T344.setTop (mkF m 248 #[.val (.int p1), .val (.int p2), .val (.int p3), .val (.int p4), .val (.int (2 : Int32)), .val (.int cu), .val (.int cv), .val (.int cw), .val (.ref ca), .val (.ref cb), .val (.ref s1), .val (.ref s2), .val (.ref pa), .val (.ref s1), .val (.ref bb), .val (.int (((0 : Int32) + (own_u1 cu)) + (own_u1 cv))), .unset] [(.ref bb)])) _
      refine XS.iconst X344.here hx rfl (hb hby at_248) ?_
      show Steps p.tables e below (T344.setTop (mkF m 249 #[.val (.int p1), .val (.int p2), .val (.int p3), .val (.int p4), .val (.int (2 : Int32)), .val (.int cu), .val (.int cv), .val (.int cw), .val (.ref ca), .val (.ref cb), .val (.ref s1), .val (.ref s2), .val (.ref pa), .val (.ref s1), .val (.ref bb), .val (.int (((0 : Int32) + (own_u1 cu)) + (own_u1 cv))), .unset] [(.int (0 : Int32)), (.ref bb)])) _
      refine X344.baloadBytes hx (j := (0 : Int32)) (v := (.int (db 0))) (by rw [e344]; exact Ar.1) (State.isArrayOf_alike hZ324.alike Ar.2.1) Ar.2.2 hin0 hat0 (g := (mkF m 249 #[.val (.int p1), .val (.int p2), .val (.int p3), .val (.int p4), .val (.int (2 : Int32)), .val (.int cu), .val (.int cv), .val (.int cw), .val (.ref ca), .val (.ref cb), .val (.ref s1), .val (.ref s2), .val (.ref pa), .val (.ref s1), .val (.ref bb), .val (.int (((0 : Int32) + (own_u1 cu)) + (own_u1 cv))), .unset] [(.int (0 : Int32)), (.ref bb)])) rfl rfl (hb hby at_249) _ ?_
      show Steps p.tables e below (T344.setTop (mkF m 250 #[.val (.int p1), .val (.int p2), .val (.int p3), .val (.int p4), .val (.int (2 : Int32)), .val (.int cu), .val (.int cv), .val (.int cw), .val (.ref ca), .val (.ref cb), .val (.ref s1), .val (.ref s2), .val (.ref pa), .val (.ref s1), .val (.ref bb), .val (.int (((0 : Int32) + (own_u1 cu)) + (own_u1 cv))), .unset] [(.int (db 0))])) _
      refine XS.sipush X344.here hx rfl (hb hby at_250) ?_
      show Steps p.tables e below (T344.setTop (mkF m 253 #[.val (.int p1), .val (.int p2), .val (.int p3), .val (.int p4), .val (.int (2 : Int32)), .val (.int cu), .val (.int cv), .val (.int cw), .val (.ref ca), .val (.ref cb), .val (.ref s1), .val (.ref s2), .val (.ref pa), .val (.ref s1), .val (.ref bb), .val (.int (((0 : Int32) + (own_u1 cu)) + (own_u1 cv))), .unset] [(.int (255 : Int32)), (.int (db 0))])) _
      refine XS.iand X344.here hx rfl (hb hby at_253) rfl ?_
      show Steps p.tables e below (T344.setTop (mkF m 254 #[.val (.int p1), .val (.int p2), .val (.int p3), .val (.int p4), .val (.int (2 : Int32)), .val (.int cu), .val (.int cv), .val (.int cw), .val (.ref ca), .val (.ref cb), .val (.ref s1), .val (.ref s2), .val (.ref pa), .val (.ref s1), .val (.ref bb), .val (.int (((0 : Int32) + (own_u1 cu)) + (own_u1 cv))), .unset] [(.int ((db 0) &&& (255 : Int32)))])) _
      refine XS.iload X344.here hx rfl (hb hby at_254) rfl ?_
      show Steps p.tables e below (T344.setTop (mkF m 256 #[.val (.int p1), .val (.int p2), .val (.int p3), .val (.int p4), .val (.int (2 : Int32)), .val (.int cu), .val (.int cv), .val (.int cw), .val (.ref ca), .val (.ref cb), .val (.ref s1), .val (.ref s2), .val (.ref pa), .val (.ref s1), .val (.ref bb), .val (.int (((0 : Int32) + (own_u1 cu)) + (own_u1 cv))), .unset] [(.int cu), (.int ((db 0) &&& (255 : Int32)))])) _
      refine st346 _ ?_
      show Steps p.tables e below (T346.setTop (mkF m 259 #[.val (.int p1), .val (.int p2), .val (.int p3), .val (.int p4), .val (.int (2 : Int32)), .val (.int cu), .val (.int cv), .val (.int cw), .val (.ref ca), .val (.ref cb), .val (.ref s1), .val (.ref s2), .val (.ref pa), .val (.ref s1), .val (.ref bb), .val (.int (((0 : Int32) + (own_u1 cu)) + (own_u1 cv))), .unset] [(.int (own_f1 cu)), (.int ((db 0) &&& (255 : Int32)))])) _
      refine XS.icmpYes X346.here hx rfl (pc0 := 259) (pc' := 264) rfl (hb hby at_259) rfl (teq (by rw [B0 (by omega), g0]; exact own_fbf b_cu.1 b_cu.2)).1 (by decide) (by decide) ?_
      show Steps p.tables e below (T346.setTop (mkF m 264 #[.val (.int p1), .val (.int p2), .val (.int p3), .val (.int p4), .val (.int (2 : Int32)), .val (.int cu), .val (.int cv), .val (.int cw), .val (.ref ca), .val (.ref cb), .val (.ref s1), .val (.ref s2), .val (.ref pa), .val (.ref s1), .val (.ref bb), .val (.int (((0 : Int32) + (own_u1 cu)) + (own_u1 cv))), .unset] [])) _
      refine XS.aload X346.here hx rfl (hb hby at_264) rfl rfl ?_
      show Steps p.tables e below (T346.setTop (mkF m 266 #[.val (.int p1), .val (.int p2), .val (.int p3), .val (.int p4), .val (.int (2 : Int32)), .val (.int cu), .val (.int cv), .val (.int cw), .val (.ref ca), .val (.ref cb), .val (.ref s1), .val (.ref s2), .val (.ref pa), .val (.ref s1), .val (.ref bb), .val (.int (((0 : Int32) + (own_u1 cu)) + (own_u1 cv))), .unset] [(.ref pa)])) _
      refine XS.aload X346.here hx rfl (hb hby at_266) rfl rfl ?_
      show Steps p.tables e below (T346.setTop (mkF m 268 #[.val (.int p1), .val (.int p2), .val (.int p3), .val (.int p4), .val (.int (2 : Int32)), .val (.int cu), .val (.int cv), .val (.int cw), .val (.ref ca), .val (.ref cb), .val (.ref s1), .val (.ref s2), .val (.ref pa), .val (.ref s1), .val (.ref bb), .val (.int (((0 : Int32) + (own_u1 cu)) + (own_u1 cv))), .unset] [(.ref s2), (.ref pa)])) _
      refine st347.trans ?_
      show Steps p.tables e below (T347.setTop (mkF m 271 #[.val (.int p1), .val (.int p2), .val (.int p3), .val (.int p4), .val (.int (2 : Int32)), .val (.int cu), .val (.int cv), .val (.int cw), .val (.ref ca), .val (.ref cb), .val (.ref s1), .val (.ref s2), .val (.ref pa), .val (.ref s1), .val (.ref bb), .val (.int (((0 : Int32) + (own_u1 cu)) + (own_u1 cv))), .unset] [(.ref pb), (.ref pa)])) _
      refine st355.trans ?_
      show Steps p.tables e below (T355.setTop (mkF m 274 #[.val (.int p1), .val (.int p2), .val (.int p3), .val (.int p4), .val (.int (2 : Int32)), .val (.int cu), .val (.int cv), .val (.int cw), .val (.ref ca), .val (.ref cb), .val (.ref s1), .val (.ref s2), .val (.ref pa), .val (.ref s1), .val (.ref bb), .val (.int (((0 : Int32) + (own_u1 cu)) + (own_u1 cv))), .unset] [(.int (1 : Int32))])) _
      refine XS.ifYes X355.here hx rfl (pc0 := 274) (pc' := 279) rfl (hb hby at_274) rfl ((if0 _ _).trans (feq (by decide : ¬ (1 : Int32) = 0)).2) (by decide) (by decide) ?_
      show Steps p.tables e below (T355.setTop (mkF m 279 #[.val (.int p1), .val (.int p2), .val (.int p3), .val (.int p4), .val (.int (2 : Int32)), .val (.int cu), .val (.int cv), .val (.int cw), .val (.ref ca), .val (.ref cb), .val (.ref s1), .val (.ref s2), .val (.ref pa), .val (.ref s1), .val (.ref bb), .val (.int (((0 : Int32) + (own_u1 cu)) + (own_u1 cv))), .unset] [])) _
      refine XS.aload X355.here hx rfl (hb hby at_279) rfl rfl ?_
      show Steps p.tables e below (T355.setTop (mkF m 281 #[.val (.int p1), .val (.int p2), .val (.int p3), .val (.int p4), .val (.int (2 : Int32)), .val (.int cu), .val (.int cv), .val (.int cw), .val (.ref ca), .val (.ref cb), .val (.ref s1), .val (.ref s2), .val (.ref pa), .val (.ref s1), .val (.ref bb), .val (.int (((0 : Int32) + (own_u1 cu)) + (own_u1 cv))), .unset] [(.ref pa)])) _
      refine st356.trans ?_
      show Steps p.tables e below (T356.setTop (mkF m 284 #[.val (.int p1), .val (.int p2), .val (.int p3), .val (.int p4), .val (.int (2 : Int32)), .val (.int cu), .val (.int cv), .val (.int cw), .val (.ref ca), .val (.ref cb), .val (.ref s1), .val (.ref s2), .val (.ref pa), .val (.ref s1), .val (.ref bb), .val (.int (((0 : Int32) + (own_u1 cu)) + (own_u1 cv))), .unset] [(.ref s1)])) _
      refine XS.astore X356.here hx rfl (hb hby at_284) rfl rfl (l' := #[.val (.int p1), .val (.int p2), .val (.int p3), .val (.int p4), .val (.int (2 : Int32)), .val (.int cu), .val (.int cv), .val (.int cw), .val (.ref ca), .val (.ref cb), .val (.ref s1), .val (.ref s2), .val (.ref pa), .val (.ref s1), .val (.ref bb), .val (.int (((0 : Int32) + (own_u1 cu)) + (own_u1 cv))), .val (.ref s1)]) rfl ?_
      show Steps p.tables e below (T356.setTop (mkF m 286 #[.val (.int p1), .val (.int p2), .val (.int p3), .val (.int p4), .val (.int (2 : Int32)), .val (.int cu), .val (.int cv), .val (.int cw), .val (.ref ca), .val (.ref cb), .val (.ref s1), .val (.ref s2), .val (.ref pa), .val (.ref s1), .val (.ref bb), .val (.int (((0 : Int32) + (own_u1 cu)) + (own_u1 cv))), .val (.ref s1)] [])) _
      refine XS.aload X356.here hx rfl (hb hby at_286) rfl rfl ?_
      show Steps p.tables e below (T356.setTop (mkF m 288 #[.val (.int p1), .val (.int p2), .val (.int p3), .val (.int p4), .val (.int (2 : Int32)), .val (.int cu), .val (.int cv), .val (.int cw), .val (.ref ca), .val (.ref cb), .val (.ref s1), .val (.ref s2), .val (.ref pa), .val (.ref s1), .val (.ref bb), .val (.int (((0 : Int32) + (own_u1 cu)) + (own_u1 cv))), .val (.ref s1)] [(.ref s1)])) _
      refine XS.ifnullNo X356.here hx rfl (hb hby at_288) rfl ?_
      show Steps p.tables e below (T356.setTop (mkF m 291 #[.val (.int p1), .val (.int p2), .val (.int p3), .val (.int p4), .val (.int (2 : Int32)), .val (.int cu), .val (.int cv), .val (.int cw), .val (.ref ca), .val (.ref cb), .val (.ref s1), .val (.ref s2), .val (.ref pa), .val (.ref s1), .val (.ref bb), .val (.int (((0 : Int32) + (own_u1 cu)) + (own_u1 cv))), .val (.ref s1)] [])) _
      refine XS.aload X356.here hx rfl (hb hby at_291) rfl rfl ?_
      show Steps p.tables e below (T356.setTop (mkF m 293 #[.val (.int p1), .val (.int p2), .val (.int p3), .val (.int p4), .val (.int (2 : Int32)), .val (.int cu), .val (.int cv), .val (.int cw), .val (.ref ca), .val (.ref cb), .val (.ref s1), .val (.ref s2), .val (.ref pa), .val (.ref s1), .val (.ref bb), .val (.int (((0 : Int32) + (own_u1 cu)) + (own_u1 cv))), .val (.ref s1)] [(.ref s1)])) _
      refine XS.aload X356.here hx rfl (hb hby at_293) rfl rfl ?_
      show Steps p.tables e below (T356.setTop (mkF m 295 #[.val (.int p1), .val (.int p2), .val (.int p3), .val (.int p4), .val (.int (2 : Int32)), .val (.int cu), .val (.int cv), .val (.int cw), .val (.ref ca), .val (.ref cb), .val (.ref s1), .val (.ref s2), .val (.ref pa), .val (.ref s1), .val (.ref bb), .val (.int (((0 : Int32) + (own_u1 cu)) + (own_u1 cv))), .val (.ref s1)] [(.ref s1), (.ref s1)])) _
      refine st357.trans ?_
      show Steps p.tables e below (T357.setTop (mkF m 298 #[.val (.int p1), .val (.int p2), .val (.int p3), .val (.int p4), .val (.int (2 : Int32)), .val (.int cu), .val (.int cv), .val (.int cw), .val (.ref ca), .val (.ref cb), .val (.ref s1), .val (.ref s2), .val (.ref pa), .val (.ref s1), .val (.ref bb), .val (.int (((0 : Int32) + (own_u1 cu)) + (own_u1 cv))), .val (.ref s1)] [(.int (1 : Int32))])) _
      refine XS.ifNo X357.here hx rfl (hb hby at_298) rfl ((if0 _ _).trans (feq (by decide : ¬ (1 : Int32) = 0)).1) ?_
      show Steps p.tables e below (T357.setTop (mkF m 301 #[.val (.int p1), .val (.int p2), .val (.int p3), .val (.int p4), .val (.int (2 : Int32)), .val (.int cu), .val (.int cv), .val (.int cw), .val (.ref ca), .val (.ref cb), .val (.ref s1), .val (.ref s2), .val (.ref pa), .val (.ref s1), .val (.ref bb), .val (.int (((0 : Int32) + (own_u1 cu)) + (own_u1 cv))), .val (.ref s1)] [])) _
      refine XS.iconst X357.here hx rfl (hb hby at_301) ?_
      show Steps p.tables e below (T357.setTop (mkF m 302 #[.val (.int p1), .val (.int p2), .val (.int p3), .val (.int p4), .val (.int (2 : Int32)), .val (.int cu), .val (.int cv), .val (.int cw), .val (.ref ca), .val (.ref cb), .val (.ref s1), .val (.ref s2), .val (.ref pa), .val (.ref s1), .val (.ref bb), .val (.int (((0 : Int32) + (own_u1 cu)) + (own_u1 cv))), .val (.ref s1)] [(.int (1 : Int32))])) _
      refine XS.goto X357.here hx rfl (pc0 := 302) (pc' := 306) rfl (hb hby at_302) (by decide) (by decide) ?_
      exact k_)
    obtain ⟨fs, hr, hrun, hended, hWr, hW1, hW2, hsame⟩ := Jvm.Stand.leaveW (s := s) X357 hS347' (by rw [e357]; exact (Nat.le_refl _)) (v := some (.int (1 : Int32))) (fun h => by rw [Bd.returns] at h; cases h)
    refine ⟨_, _, pre358 _ ?_, hrun, hended, _, _, rfl, ?_, hWr, hW1, hW2, hsame.mono (by decide) (by decide)⟩
    · show Steps p.tables e below (T357.setTop (mkF m 306 #[.val (.int p1), .val (.int p2), .val (.int p3), .val (.int p4), .val (.int (2 : Int32)), .val (.int cu), .val (.int cv), .val (.int cw), .val (.ref ca), .val (.ref cb), .val (.ref s1), .val (.ref s2), .val (.ref pa), .val (.ref s1), .val (.ref bb), .val (.int (((0 : Int32) + (own_u1 cu)) + (own_u1 cv))), .val (.ref s1)] [(.int (1 : Int32))])) _
      exact retN X357 hx (t := .boolean) Bd.returns (by simp) (hb hby at_306) hr
    · show Qrm0 Z p1 p2 p3 p4 zc uu h0 n0 _ T357.heap _
      rw [e357]
      exact ⟨rfl, N357⟩
  · skip
    subst q
    obtain ⟨T359, h359, k_ca, X359, e359, Ext_ca, A_ca, st359⟩ := newP X0 hx hZ (hw _ (List.mem_of_getElem? (i := 0) rfl)) e0 (g := (mkF m 31 #[.val (.int p1), .val (.int p2), .val (.int p3), .val (.int p4), .val (.int (3 : Int32)), .val (.int cu), .val (.int cv), .val (.int cw), .unset, .unset, .unset, .unset, .unset, .unset, .unset, .unset, .unset] [(.int (3 : Int32))])) rfl (hb hby at_31) rfl (by decide) (cap := 3) (by decide) (by decide) (by decide) (by decide)
    obtain ⟨ca, eq_ca⟩ : ∃ z, z = h0.size := ⟨_, rfl⟩
    rw [← eq_ca] at A_ca st359
    have g_ca : n0 ≤ ca := Nat.le_trans Z0 (Nat.le_of_eq eq_ca.symm)
    have O_360 := O.ext Ext_ca
    have Z361 : n0 ≤ h359.size := Nat.le_trans Z0 (Ext_ca.1)
    have V_ca : Arv Z h359 ca k_ca .char (3 : Int32) [(.int (0 : Int32)), (.int (0 : Int32)), (.int (0 : Int32))] (.int (0 : Int32)) := (Arv.new A_ca (by decide)).pad (pad_rep [] (.int (0 : Int32)) 3)
    obtain ⟨T362, h362, k_cb, X362, e362, Ext_cb, A_cb, st362⟩ := newP X359 hx hZ (hw _ (List.mem_of_getElem? (i := 0) rfl)) e359 (g := (mkF m 37 #[.val (.int p1), .val (.int p2), .val (.int p3), .val (.int p4), .val (.int (3 : Int32)), .val (.int cu), .val (.int cv), .val (.int cw), .val (.ref ca), .unset, .unset, .unset, .unset, .unset, .unset, .unset, .unset] [(.int (3 : Int32))])) rfl (hb hby at_37) rfl (by decide) (cap := 3) (by decide) (by decide) (by decide) (by decide)
    obtain ⟨cb, eq_cb⟩ : ∃ z, z = h359.size := ⟨_, rfl⟩
    rw [← eq_cb] at A_cb st362
    have g_cb : n0 ≤ cb := Nat.le_trans Z361 (Nat.le_of_eq eq_cb.symm)
    have O_363 := O_360.ext Ext_cb
    have ne_ca_cb : ca ≠ cb := Nat.ne_of_lt (Nat.lt_of_lt_of_le V_ca.lt (Nat.le_of_eq eq_cb.symm))
    have V_ca_364 := V_ca.ext Ext_cb
    have Z365 : n0 ≤ h362.size := Nat.le_trans Z361 (Ext_cb.1)
    have V_cb : Arv Z h362 cb k_cb .char (3 : Int32) [(.int (0 : Int32)), (.int (0 : Int32)), (.int (0 : Int32))] (.int (0 : Int32)) := (Arv.new A_cb (by decide)).pad (pad_rep [] (.int (0 : Int32)) 3)
    obtain ⟨cl366, Ar366, qk366, Sz366, Ng366, Hs366, Gs366⟩ := V_ca_364
    have hin366 : ¬ ((0 : Int32) < 0 ∨ cl366.slots.size ≤ ((0 : Int32)).toNatClampNeg) := inb_of Sz366 ⟨by decide, by decide⟩
    obtain ⟨T367, h367, X367, e367, W367, st367⟩ := stC X362 hx hZ e362 Ar366 (j := (0 : Int32)) hin366 (g := (mkF m 52 #[.val (.int p1), .val (.int p2), .val (.int p3), .val (.int p4), .val (.int (3 : Int32)), .val (.int cu), .val (.int cv), .val (.int cw), .val (.ref ca), .val (.ref cb), .unset, .unset, .unset, .unset, .unset, .unset, .unset] [(.int cu), (.int (0 : Int32)), (.ref ca)])) rfl rfl (hb hby at_52)
    have O_368 := O_363.wr W367 g_ca
    have V_cb_370 := V_cb.other W367 (Ne.symm ne_ca_cb)
    have V_ca_367 : Arv Z h367 ca k_ca .char (3 : Int32) [(.int (nar .char cu)), (.int (0 : Int32)), (.int (0 : Int32))] (.int (0 : Int32)) := Arv.set Ar366 qk366 Sz366 Ng366 Hs366 Gs366 (fits_nar_char _) W367 0 rfl (Nat.le_of_ble_eq_true rfl)
    have N367 := Fr.snoc X367 N0 g_ca
    have Z371 : n0 ≤ h367.size := Nat.le_trans Z365 ((Keep.of_wr W367).1)
    obtain ⟨cl372, Ar372, qk372, Sz372, Ng372, Hs372, Gs372⟩ := V_cb_370
    have hin372 : ¬ ((0 : Int32) < 0 ∨ cl372.slots.size ≤ ((0 : Int32)).toNatClampNeg) := inb_of Sz372 ⟨by decide, by decide⟩
    obtain ⟨T373, h373, X373, e373, W373, st373⟩ := stC X367 hx hZ e367 Ar372 (j := (0 : Int32)) hin372 (g := (mkF m 58 #[.val (.int p1), .val (.int p2), .val (.int p3), .val (.int p4), .val (.int (3 : Int32)), .val (.int cu), .val (.int cv), .val (.int cw), .val (.ref ca), .val (.ref cb), .unset, .unset, .unset, .unset, .unset, .unset, .unset] [(.int cu), (.int (0 : Int32)), (.ref cb)])) rfl rfl (hb hby at_58)
    have O_374 := O_368.wr W373 g_cb
    have V_ca_375 := V_ca_367.other W373 ne_ca_cb
    have V_cb_373 : Arv Z h373 cb k_cb .char (3 : Int32) [(.int (nar .char cu)), (.int (0 : Int32)), (.int (0 : Int32))] (.int (0 : Int32)) := Arv.set Ar372 qk372 Sz372 Ng372 Hs372 Gs372 (fits_nar_char _) W373 0 rfl (Nat.le_of_ble_eq_true rfl)
    have N373 := Fr.snoc X373 N367 g_cb
    have Z377 : n0 ≤ h373.size := Nat.le_trans Z371 ((Keep.of_wr W373).1)
    obtain ⟨cl378, Ar378, qk378, Sz378, Ng378, Hs378, Gs378⟩ := V_ca_375
    have hin378 : ¬ ((1 : Int32) < 0 ∨ cl378.slots.size ≤ ((1 : Int32)).toNatClampNeg) := inb_of Sz378 ⟨by decide, by decide⟩
    obtain ⟨T379, h379, X379, e379, W379, st379⟩ := stC X373 hx hZ e373 Ar378 (j := (1 : Int32)) hin378 (g := (mkF m 70 #[.val (.int p1), .val (.int p2), .val (.int p3), .val (.int p4), .val (.int (3 : Int32)), .val (.int cu), .val (.int cv), .val (.int cw), .val (.ref ca), .val (.ref cb), .unset, .unset, .unset, .unset, .unset, .unset, .unset] [(.int cv), (.int (1 : Int32)), (.ref ca)])) rfl rfl (hb hby at_70)
    have O_380 := O_374.wr W379 g_ca
    have V_cb_382 := V_cb_373.other W379 (Ne.symm ne_ca_cb)
    have V_ca_379 : Arv Z h379 ca k_ca .char (3 : Int32) [(.int (nar .char cu)), (.int (nar .char cv)), (.int (0 : Int32))] (.int (0 : Int32)) := Arv.set Ar378 qk378 Sz378 Ng378 Hs378 Gs378 (fits_nar_char _) W379 1 rfl (Nat.le_of_ble_eq_true rfl)
    have N379 := Fr.snoc X379 N373 g_ca
    have Z383 : n0 ≤ h379.size := Nat.le_trans Z377 ((Keep.of_wr W379).1)
    obtain ⟨cl384, Ar384, qk384, Sz384, Ng384, Hs384, Gs384⟩ := V_cb_382
    have hin384 : ¬ ((1 : Int32) < 0 ∨ cl384.slots.size ≤ ((1 : Int32)).toNatClampNeg) := inb_of Sz384 ⟨by decide, by decide⟩
    obtain ⟨T385, h385, X385, e385, W385, st385⟩ := stC X379 hx hZ e379 Ar384 (j := (1 : Int32)) hin384 (g := (mkF m 76 #[.val (.int p1), .val (.int p2), .val (.int p3), .val (.int p4), .val (.int (3 : Int32)), .val (.int cu), .val (.int cv), .val (.int cw), .val (.ref ca), .val (.ref cb), .unset, .unset, .unset, .unset, .unset, .unset, .unset] [(.int cv), (.int (1 : Int32)), (.ref cb)])) rfl rfl (hb hby at_76)
    have O_386 := O_380.wr W385 g_cb
    have V_ca_387 := V_ca_379.other W385 ne_ca_cb
    have V_cb_385 : Arv Z h385 cb k_cb .char (3 : Int32) [(.int (nar .char cu)), (.int (nar .char cv)), (.int (0 : Int32))] (.int (0 : Int32)) := Arv.set Ar384 qk384 Sz384 Ng384 Hs384 Gs384 (fits_nar_char _) W385 1 rfl (Nat.le_of_ble_eq_true rfl)
    have N385 := Fr.snoc X385 N379 g_cb
    have Z389 : n0 ≤ h385.size := Nat.le_trans Z383 ((Keep.of_wr W385).1)
    have pre390 : ∀ t_, Steps p.tables e below (T385.setTop (mkF m 80 #[.val (.int p1), .val (.int p2), .val (.int p3), .val (.int p4), .val (.int (3 : Int32)), .val (.int cu), .val (.int cv), .val (.int cw), .val (.ref ca), .val (.ref cb), .unset, .unset, .unset, .unset, .unset, .unset, .unset] [(.int (3 : Int32)), (.int (3 : Int32))])) t_ → Steps p.tables e below (s₁.setTop (entryFrame m #[(.int p1), (.int p2), (.int p3), (.int p4)] maxLocals)) t_ := fun t_ k_ => pre104 _ (by
      show Steps p.tables e below (s₁.setTop (mkF m 29 #[.val (.int p1), .val (.int p2), .val (.int p3), .val (.int p4), .val (.int (3 : Int32)), .val (.int cu), .val (.int cv), .val (.int cw), .unset, .unset, .unset, .unset, .unset, .unset, .unset, .unset, .unset] [])) _
      refine XS.iload X0.here hx rfl (hb hby at_29) rfl ?_
      show Steps p.tables e below (s₁.setTop (mkF m 31 #[.val (.int p1), .val (.int p2), .val (.int p3), .val (.int p4), .val (.int (3 : Int32)), .val (.int cu), .val (.int cv), .val (.int cw), .unset, .unset, .unset, .unset, .unset, .unset, .unset, .unset, .unset] [(.int (3 : Int32))])) _
      refine st359 _ ?_
      show Steps p.tables e below (T359.setTop (mkF m 33 #[.val (.int p1), .val (.int p2), .val (.int p3), .val (.int p4), .val (.int (3 : Int32)), .val (.int cu), .val (.int cv), .val (.int cw), .unset, .unset, .unset, .unset, .unset, .unset, .unset, .unset, .unset] [(.ref ca)])) _
      refine XS.astore X359.here hx rfl (hb hby at_33) rfl rfl (l' := #[.val (.int p1), .val (.int p2), .val (.int p3), .val (.int p4), .val (.int (3 : Int32)), .val (.int cu), .val (.int cv), .val (.int cw), .val (.ref ca), .unset, .unset, .unset, .unset, .unset, .unset, .unset, .unset]) rfl ?_
      show Steps p.tables e below (T359.setTop (mkF m 35 #[.val (.int p1), .val (.int p2), .val (.int p3), .val (.int p4), .val (.int (3 : Int32)), .val (.int cu), .val (.int cv), .val (.int cw), .val (.ref ca), .unset, .unset, .unset, .unset, .unset, .unset, .unset, .unset] [])) _
      refine XS.iload X359.here hx rfl (hb hby at_35) rfl ?_
      show Steps p.tables e below (T359.setTop (mkF m 37 #[.val (.int p1), .val (.int p2), .val (.int p3), .val (.int p4), .val (.int (3 : Int32)), .val (.int cu), .val (.int cv), .val (.int cw), .val (.ref ca), .unset, .unset, .unset, .unset, .unset, .unset, .unset, .unset] [(.int (3 : Int32))])) _
      refine st362 _ ?_
      show Steps p.tables e below (T362.setTop (mkF m 39 #[.val (.int p1), .val (.int p2), .val (.int p3), .val (.int p4), .val (.int (3 : Int32)), .val (.int cu), .val (.int cv), .val (.int cw), .val (.ref ca), .unset, .unset, .unset, .unset, .unset, .unset, .unset, .unset] [(.ref cb)])) _
      refine XS.astore X362.here hx rfl (hb hby at_39) rfl rfl (l' := #[.val (.int p1), .val (.int p2), .val (.int p3), .val (.int p4), .val (.int (3 : Int32)), .val (.int cu), .val (.int cv), .val (.int cw), .val (.ref ca), .val (.ref cb), .unset, .unset, .unset, .unset, .unset, .unset, .unset]) rfl ?_
      show Steps p.tables e below (T362.setTop (mkF m 41 #[.val (.int p1), .val (.int p2), .val (.int p3), .val (.int p4), .val (.int (3 : Int32)), .val (.int cu), .val (.int cv), .val (.int cw), .val (.ref ca), .val (.ref cb), .unset, .unset, .unset, .unset, .unset, .unset, .unset] [])) _
      refine XS.iload X362.here hx rfl (hb hby at_41) rfl ?_
      show Steps p.tables e below (T362.setTop (mkF m 43 #[.val (.int p1), .val (.int p2), .val (.int p3), .val (.int p4), .val (.int (3 : Int32)), .val (.int cu), .val (.int cv), .val (.int cw), .val (.ref ca), .val (.ref cb), .unset, .unset, .unset, .unset, .unset, .unset, .unset] [(.int (3 : Int32))])) _
      refine XS.iconst X362.here hx rfl (hb hby at_43) ?_
      show Steps p.tables e below (T362.setTop (mkF m 44 #[.val (.int p1), .val (.int p2), .val (.int p3), .val (.int p4), .val (.int (3 : Int32)), .val (.int cu), .val (.int cv), .val (.int cw), .val (.ref ca), .val (.ref cb), .unset, .unset, .unset, .unset, .unset, .unset, .unset] [(.int (1 : Int32)), (.int (3 : Int32))])) _
      refine XS.icmpNo X362.here hx rfl (hb hby at_44) rfl (flt (by decide)).1 ?_
      show Steps p.tables e below (T362.setTop (mkF m 47 #[.val (.int p1), .val (.int p2), .val (.int p3), .val (.int p4), .val (.int (3 : Int32)), .val (.int cu), .val (.int cv), .val (.int cw), .val (.ref ca), .val (.ref cb), .unset, .unset, .unset, .unset, .unset, .unset, .unset] [])) _
      refine XS.aload X362.here hx rfl (hb hby at_47) rfl rfl ?_
      show Steps p.tables e below (T362.setTop (mkF m 49 #[.val (.int p1), .val (.int p2), .val (.int p3), .val (.int p4), .val (.int (3 : Int32)), .val (.int cu), .val (.int cv), .val (.int cw), .val (.ref ca), .val (.ref cb), .unset, .unset, .unset, .unset, .unset, .unset, .unset] [(.ref ca)])) _
      refine XS.iconst X362.here hx rfl (hb hby at_49) ?_
      show Steps p.tables e below (T362.setTop (mkF m 50 #[.val (.int p1), .val (.int p2), .val (.int p3), .val (.int p4), .val (.int (3 : Int32)), .val (.int cu), .val (.int cv), .val (.int cw), .val (.ref ca), .val (.ref cb), .unset, .unset, .unset, .unset, .unset, .unset, .unset] [(.int (0 : Int32)), (.ref ca)])) _
      refine XS.iload X362.here hx rfl (hb hby at_50) rfl ?_
      show Steps p.tables e below (T362.setTop (mkF m 52 #[.val (.int p1), .val (.int p2), .val (.int p3), .val (.int p4), .val (.int (3 : Int32)), .val (.int cu), .val (.int cv), .val (.int cw), .val (.ref ca), .val (.ref cb), .unset, .unset, .unset, .unset, .unset, .unset, .unset] [(.int cu), (.int (0 : Int32)), (.ref ca)])) _
      refine st367 _ ?_
      show Steps p.tables e below (T367.setTop (mkF m 53 #[.val (.int p1), .val (.int p2), .val (.int p3), .val (.int p4), .val (.int (3 : Int32)), .val (.int cu), .val (.int cv), .val (.int cw), .val (.ref ca), .val (.ref cb), .unset, .unset, .unset, .unset, .unset, .unset, .unset] [])) _
      refine XS.aload X367.here hx rfl (hb hby at_53) rfl rfl ?_
      show Steps p.tables e below (T367.setTop (mkF m 55 #[.val (.int p1), .val (.int p2), .val (.int p3), .val (.int p4), .val (.int (3 : Int32)), .val (.int cu), .val (.int cv), .val (.int cw), .val (.ref ca), .val (.ref cb), .unset, .unset, .unset, .unset, .unset, .unset, .unset] [(.ref cb)])) _
      refine XS.iconst X367.here hx rfl (hb hby at_55) ?_
      show Steps p.tables e below (T367.setTop (mkF m 56 #[.val (.int p1), .val (.int p2), .val (.int p3), .val (.int p4), .val (.int (3 : Int32)), .val (.int cu), .val (.int cv), .val (.int cw), .val (.ref ca), .val (.ref cb), .unset, .unset, .unset, .unset, .unset, .unset, .unset] [(.int (0 : Int32)), (.ref cb)])) _
      refine XS.iload X367.here hx rfl (hb hby at_56) rfl ?_
      show Steps p.tables e below (T367.setTop (mkF m 58 #[.val (.int p1), .val (.int p2), .val (.int p3), .val (.int p4), .val (.int (3 : Int32)), .val (.int cu), .val (.int cv), .val (.int cw), .val (.ref ca), .val (.ref cb), .unset, .unset, .unset, .unset, .unset, .unset, .unset] [(.int cu), (.int (0 : Int32)), (.ref cb)])) _
      refine st373 _ ?_
      show Steps p.tables e below (T373.setTop (mkF m 59 #[.val (.int p1), .val (.int p2), .val (.int p3), .val (.int p4), .val (.int (3 : Int32)), .val (.int cu), .val (.int cv), .val (.int cw), .val (.ref ca), .val (.ref cb), .unset, .unset, .unset, .unset, .unset, .unset, .unset] [])) _
      refine XS.iload X373.here hx rfl (hb hby at_59) rfl ?_
      show Steps p.tables e below (T373.setTop (mkF m 61 #[.val (.int p1), .val (.int p2), .val (.int p3), .val (.int p4), .val (.int (3 : Int32)), .val (.int cu), .val (.int cv), .val (.int cw), .val (.ref ca), .val (.ref cb), .unset, .unset, .unset, .unset, .unset, .unset, .unset] [(.int (3 : Int32))])) _
      refine XS.iconst X373.here hx rfl (hb hby at_61) ?_
      show Steps p.tables e below (T373.setTop (mkF m 62 #[.val (.int p1), .val (.int p2), .val (.int p3), .val (.int p4), .val (.int (3 : Int32)), .val (.int cu), .val (.int cv), .val (.int cw), .val (.ref ca), .val (.ref cb), .unset, .unset, .unset, .unset, .unset, .unset, .unset] [(.int (2 : Int32)), (.int (3 : Int32))])) _
      refine XS.icmpNo X373.here hx rfl (hb hby at_62) rfl (flt (by decide)).1 ?_
      show Steps p.tables e below (T373.setTop (mkF m 65 #[.val (.int p1), .val (.int p2), .val (.int p3), .val (.int p4), .val (.int (3 : Int32)), .val (.int cu), .val (.int cv), .val (.int cw), .val (.ref ca), .val (.ref cb), .unset, .unset, .unset, .unset, .unset, .unset, .unset] [])) _
      refine XS.aload X373.here hx rfl (hb hby at_65) rfl rfl ?_
      show Steps p.tables e below (T373.setTop (mkF m 67 #[.val (.int p1), .val (.int p2), .val (.int p3), .val (.int p4), .val (.int (3 : Int32)), .val (.int cu), .val (.int cv), .val (.int cw), .val (.ref ca), .val (.ref cb), .unset, .unset, .unset, .unset, .unset, .unset, .unset] [(.ref ca)])) _
      refine XS.iconst X373.here hx rfl (hb hby at_67) ?_
      show Steps p.tables e below (T373.setTop (mkF m 68 #[.val (.int p1), .val (.int p2), .val (.int p3), .val (.int p4), .val (.int (3 : Int32)), .val (.int cu), .val (.int cv), .val (.int cw), .val (.ref ca), .val (.ref cb), .unset, .unset, .unset, .unset, .unset, .unset, .unset] [(.int (1 : Int32)), (.ref ca)])) _
      refine XS.iload X373.here hx rfl (hb hby at_68) rfl ?_
      show Steps p.tables e below (T373.setTop (mkF m 70 #[.val (.int p1), .val (.int p2), .val (.int p3), .val (.int p4), .val (.int (3 : Int32)), .val (.int cu), .val (.int cv), .val (.int cw), .val (.ref ca), .val (.ref cb), .unset, .unset, .unset, .unset, .unset, .unset, .unset] [(.int cv), (.int (1 : Int32)), (.ref ca)])) _
      refine st379 _ ?_
      show Steps p.tables e below (T379.setTop (mkF m 71 #[.val (.int p1), .val (.int p2), .val (.int p3), .val (.int p4), .val (.int (3 : Int32)), .val (.int cu), .val (.int cv), .val (.int cw), .val (.ref ca), .val (.ref cb), .unset, .unset, .unset, .unset, .unset, .unset, .unset] [])) _
      refine XS.aload X379.here hx rfl (hb hby at_71) rfl rfl ?_
      show Steps p.tables e below (T379.setTop (mkF m 73 #[.val (.int p1), .val (.int p2), .val (.int p3), .val (.int p4), .val (.int (3 : Int32)), .val (.int cu), .val (.int cv), .val (.int cw), .val (.ref ca), .val (.ref cb), .unset, .unset, .unset, .unset, .unset, .unset, .unset] [(.ref cb)])) _
      refine XS.iconst X379.here hx rfl (hb hby at_73) ?_
      show Steps p.tables e below (T379.setTop (mkF m 74 #[.val (.int p1), .val (.int p2), .val (.int p3), .val (.int p4), .val (.int (3 : Int32)), .val (.int cu), .val (.int cv), .val (.int cw), .val (.ref ca), .val (.ref cb), .unset, .unset, .unset, .unset, .unset, .unset, .unset] [(.int (1 : Int32)), (.ref cb)])) _
      refine XS.iload X379.here hx rfl (hb hby at_74) rfl ?_
      show Steps p.tables e below (T379.setTop (mkF m 76 #[.val (.int p1), .val (.int p2), .val (.int p3), .val (.int p4), .val (.int (3 : Int32)), .val (.int cu), .val (.int cv), .val (.int cw), .val (.ref ca), .val (.ref cb), .unset, .unset, .unset, .unset, .unset, .unset, .unset] [(.int cv), (.int (1 : Int32)), (.ref cb)])) _
      refine st385 _ ?_
      show Steps p.tables e below (T385.setTop (mkF m 77 #[.val (.int p1), .val (.int p2), .val (.int p3), .val (.int p4), .val (.int (3 : Int32)), .val (.int cu), .val (.int cv), .val (.int cw), .val (.ref ca), .val (.ref cb), .unset, .unset, .unset, .unset, .unset, .unset, .unset] [])) _
      refine XS.iload X385.here hx rfl (hb hby at_77) rfl ?_
      show Steps p.tables e below (T385.setTop (mkF m 79 #[.val (.int p1), .val (.int p2), .val (.int p3), .val (.int p4), .val (.int (3 : Int32)), .val (.int cu), .val (.int cv), .val (.int cw), .val (.ref ca), .val (.ref cb), .unset, .unset, .unset, .unset, .unset, .unset, .unset] [(.int (3 : Int32))])) _
      refine XS.iconst X385.here hx rfl (hb hby at_79) ?_
      exact k_)
    obtain ⟨cl391, Ar391, qk391, Sz391, Ng391, Hs391, Gs391⟩ := V_ca_387
    have hin391 : ¬ ((2 : Int32) < 0 ∨ cl391.slots.size ≤ ((2 : Int32)).toNatClampNeg) := inb_of Sz391 ⟨by decide, by decide⟩
    obtain ⟨T392, h392, X392, e392, W392, st392⟩ := stC X385 hx hZ e385 Ar391 (j := (2 : Int32)) hin391 (g := (mkF m 88 #[.val (.int p1), .val (.int p2), .val (.int p3), .val (.int p4), .val (.int (3 : Int32)), .val (.int cu), .val (.int cv), .val (.int cw), .val (.ref ca), .val (.ref cb), .unset, .unset, .unset, .unset, .unset, .unset, .unset] [(.int cw), (.int (2 : Int32)), (.ref ca)])) rfl rfl (hb hby at_88)
    have O_393 := O_386.wr W392 g_ca
    have V_cb_395 := V_cb_385.other W392 (Ne.symm ne_ca_cb)
    have V_ca_392 : Arv Z h392 ca k_ca .char (3 : Int32) [(.int (nar .char cu)), (.int (nar .char cv)), (.int (nar .char cw))] (.int (0 : Int32)) := Arv.set Ar391 qk391 Sz391 Ng391 Hs391 Gs391 (fits_nar_char _) W392 2 rfl (Nat.le_of_ble_eq_true rfl)
    have N392 := Fr.snoc X392 N385 g_ca
    have Z396 : n0 ≤ h392.size := Nat.le_trans Z389 ((Keep.of_wr W392).1)
    obtain ⟨cl397, Ar397, qk397, Sz397, Ng397, Hs397, Gs397⟩ := V_cb_395
    have hin397 : ¬ ((2 : Int32) < 0 ∨ cl397.slots.size ≤ ((2 : Int32)).toNatClampNeg) := inb_of Sz397 ⟨by decide, by decide⟩
    obtain ⟨T398, h398, X398, e398, W398, st398⟩ := stC X392 hx hZ e392 Ar397 (j := (2 : Int32)) hin397 (g := (mkF m 94 #[.val (.int p1), .val (.int p2), .val (.int p3), .val (.int p4), .val (.int (3 : Int32)), .val (.int cu), .val (.int cv), .val (.int cw), .val (.ref ca), .val (.ref cb), .unset, .unset, .unset, .unset, .unset, .unset, .unset] [(.int cw), (.int (2 : Int32)), (.ref cb)])) rfl rfl (hb hby at_94)
    have O_399 := O_393.wr W398 g_cb
    have V_ca_400 := V_ca_392.other W398 ne_ca_cb
    have V_cb_398 : Arv Z h398 cb k_cb .char (3 : Int32) [(.int (nar .char cu)), (.int (nar .char cv)), (.int (nar .char cw))] (.int (0 : Int32)) := Arv.set Ar397 qk397 Sz397 Ng397 Hs397 Gs397 (fits_nar_char _) W398 2 rfl (Nat.le_of_ble_eq_true rfl)
    have N398 := Fr.snoc X398 N392 g_cb
    have Z402 : n0 ≤ h398.size := Nat.le_trans Z396 ((Keep.of_wr W398).1)
    obtain ⟨T403, h403, X403, e403, Ext_s1, E_s1, D_s1, -, st403⟩ := newO X398 hx hZ hown (hw _ (List.mem_of_getElem? (i := 1) rfl)) (hw _ (List.mem_of_getElem? (i := 2) rfl)) (hw _ (List.mem_of_getElem? (i := 3) rfl)) e398 (g := (mkF m 95 #[.val (.int p1), .val (.int p2), .val (.int p3), .val (.int p4), .val (.int (3 : Int32)), .val (.int cu), .val (.int cv), .val (.int cw), .val (.ref ca), .val (.ref cb), .unset, .unset, .unset, .unset, .unset, .unset, .unset] [])) rfl (hb hby at_95) (by decide) (by decide)
    obtain ⟨s1, eq_s1⟩ : ∃ z, z = h398.size := ⟨_, rfl⟩
    rw [← eq_s1] at E_s1 D_s1 st403
    have g_s1 : n0 ≤ s1 := Nat.le_trans Z402 (Nat.le_of_eq eq_s1.symm)
    have O_404 := O_399.ext Ext_s1
    have ne_ca_s1 : ca ≠ s1 := Nat.ne_of_lt (Nat.lt_of_lt_of_le V_ca_400.lt (Nat.le_of_eq eq_s1.symm))
    have V_ca_405 := V_ca_400.ext Ext_s1
    have ne_cb_s1 : cb ≠ s1 := Nat.ne_of_lt (Nat.lt_of_lt_of_le V_cb_398.lt (Nat.le_of_eq eq_s1.symm))
    have V_cb_407 := V_cb_398.ext Ext_s1
    have Z408 : n0 ≤ h403.size := Nat.le_trans Z402 (Ext_s1.1)
    have Fv_s1 : Fld Z h403 s1 "java/lang/String" "value" "[B" .null := D_s1 (Or.inr (hw _ (List.mem_of_getElem? (i := 16) rfl))) (ty := (.array .byte)) (by decide)
    have Fc_s1 : Fld Z h403 s1 "java/lang/String" "coder" "B" (.int (0 : Int32)) := D_s1 (Or.inr (hw _ (List.mem_of_getElem? (i := 17) rfl))) (ty := .byte) (by decide)
    have VC_s1 := V_ca_405
    rw [own_nc (own_r16 b_cu), own_nc (own_r16 b_cv), own_nc (own_r16 b_cw)] at VC_s1
    have AC_s1 := own_AfA (n := 3) (g := gg) VC_s1 (by omega) (fun j hj => match j, hj with | 0, _ => congrArg Value.int g0.symm | 1, _ => congrArg Value.int g1.symm | 2, _ => congrArg Value.int g2.symm | (j + 3), h => absurd h (by omega))
    obtain ⟨_, _, ⟨T409, L409, k409, n409⟩, -, X409, ⟨Lc409, hQ409, l409, y409, z409⟩, st409⟩ := X403.specialBack hx (y := (⟨"java/lang/String", "<init>", "([C)V"⟩ : MethodName)) rfl hown (mvT hZ (hw _ (List.mem_of_getElem? (i := 4) rfl))) (mvT hZ (hw _ (List.mem_of_getElem? (i := 5) rfl))) (mvT hZ (hw _ (List.mem_of_getElem? (i := 6) rfl))) (by decide) (backOf (W := 1) (rmI1 l Z a0 hw [] s1 ca 3 gg zc h403 n0 Z408 E_s1 Fv_s1 Fc_s1 g_s1 O_404 S_c hzc (by omega) (by omega) (lat _) AC_s1) hZ (hw _ (List.mem_of_getElem? (i := 6) rfl)) (hw _ (List.mem_of_getElem? (i := 3) rfl)) (by decide) (by decide)) (g := (mkF m 101 #[.val (.int p1), .val (.int p2), .val (.int p3), .val (.int p4), .val (.int (3 : Int32)), .val (.int cu), .val (.int cv), .val (.int cw), .val (.ref ca), .val (.ref cb), .unset, .unset, .unset, .unset, .unset, .unset, .unset] [(.ref ca), (.ref s1), (.ref s1)])) rfl (by rw [hml]; rfl) (Steps.refl _) (a := s1) (argsL := [(.ref ca)]) (rest := [(.ref s1)]) (lenOf pd_20 rfl) rfl (by show 2 * 0 + _ ≤ _; exact Nat.le_of_eq rfl) (hb hby at_101) (fun _ _ => ⟨rfl, e403, (by decide : 3 + 1 ≤ _), (by decide : 10 + 6 ≤ _)⟩)
    dsimp only [Pt.U, Pt.locs, Pt.cells, Pt.slots] at X409 l409 y409 z409 st409 hQ409
    rw [l409, y409, z409] at X409
    obtain ⟨hv409, N409q, K409, t1, LL_s1⟩ := hQ409
    rw [hv409] at st409
    have N409 := Fr.app N398 N409q
    have O_410 := O_404.keep K409 (allS g_s1 all0)
    have V_cb_412 := V_cb_407.keep K409 (ninS ne_cb_s1 nin0)
    have Z415 : n0 ≤ T409.heap.size := Nat.le_trans Z408 (K409.1)
    have ltS := LL_s1.1.lt
    have ltT := LL_s1.2.2.2.2.lt
    obtain ⟨T416, h416, X416, e416, Ext_s2, E_s2, D_s2, -, st416⟩ := newO X409 hx hZ hown (hw _ (List.mem_of_getElem? (i := 1) rfl)) (hw _ (List.mem_of_getElem? (i := 2) rfl)) (hw _ (List.mem_of_getElem? (i := 3) rfl)) rfl (g := (mkF m 106 #[.val (.int p1), .val (.int p2), .val (.int p3), .val (.int p4), .val (.int (3 : Int32)), .val (.int cu), .val (.int cv), .val (.int cw), .val (.ref ca), .val (.ref cb), .val (.ref s1), .unset, .unset, .unset, .unset, .unset, .unset] [])) rfl (hb hby at_106) (by decide) (by decide)
    obtain ⟨s2, eq_s2⟩ : ∃ z, z = T409.heap.size := ⟨_, rfl⟩
    rw [← eq_s2] at E_s2 D_s2 st416
    have g_s2 : n0 ≤ s2 := Nat.le_trans Z415 (Nat.le_of_eq eq_s2.symm)
    have ne_cb_s2 : cb ≠ s2 := Nat.ne_of_lt (Nat.lt_of_lt_of_le V_cb_412.lt (Nat.le_of_eq eq_s2.symm))
    have V_cb_418 := V_cb_412.ext Ext_s2
    have O_421 := O_410.ext Ext_s2
    have Z422 : n0 ≤ h416.size := Nat.le_trans Z415 (Ext_s2.1)
    have L_423 := own_Lx LL_s1 Ext_s2
    have Fv_s2 : Fld Z h416 s2 "java/lang/String" "value" "[B" .null := D_s2 (Or.inr (hw _ (List.mem_of_getElem? (i := 16) rfl))) (ty := (.array .byte)) (by decide)
    have Fc_s2 : Fld Z h416 s2 "java/lang/String" "coder" "B" (.int (0 : Int32)) := D_s2 (Or.inr (hw _ (List.mem_of_getElem? (i := 17) rfl))) (ty := .byte) (by decide)
    have ne12 : s1 ≠ s2 := Nat.ne_of_lt (Nat.lt_of_lt_of_le ltS (Nat.le_of_eq eq_s2.symm))
    have net2 : t1 ≠ s2 := Nat.ne_of_lt (Nat.lt_of_lt_of_le ltT (Nat.le_of_eq eq_s2.symm))
    have VC_s2 := V_cb_418
    rw [own_nc (own_r16 b_cu), own_nc (own_r16 b_cv), own_nc (own_r16 b_cw)] at VC_s2
    have AC_s2 := own_AfA (n := 3) (g := gg) VC_s2 (by omega) (fun j hj => match j, hj with | 0, _ => congrArg Value.int g0.symm | 1, _ => congrArg Value.int g1.symm | 2, _ => congrArg Value.int g2.symm | (j + 3), h => absurd h (by omega))
    obtain ⟨_, _, ⟨T424, L424, k424, n424⟩, -, X424, ⟨Lc424, hQ424, l424, y424, z424⟩, st424⟩ := X416.specialBack hx (y := (⟨"java/lang/String", "<init>", "([C)V"⟩ : MethodName)) rfl hown (mvT hZ (hw _ (List.mem_of_getElem? (i := 4) rfl))) (mvT hZ (hw _ (List.mem_of_getElem? (i := 5) rfl))) (mvT hZ (hw _ (List.mem_of_getElem? (i := 6) rfl))) (by decide) (backOf (W := 1) (rmI1 l Z a0 hw [] s2 cb 3 gg zc h416 n0 Z422 E_s2 Fv_s2 Fc_s2 g_s2 O_421 S_c hzc (by omega) (by omega) (lat _) AC_s2) hZ (hw _ (List.mem_of_getElem? (i := 6) rfl)) (hw _ (List.mem_of_getElem? (i := 3) rfl)) (by decide) (by decide)) (g := (mkF m 112 #[.val (.int p1), .val (.int p2), .val (.int p3), .val (.int p4), .val (.int (3 : Int32)), .val (.int cu), .val (.int cv), .val (.int cw), .val (.ref ca), .val (.ref cb), .val (.ref s1), .unset, .unset, .unset, .unset, .unset, .unset] [(.ref cb), (.ref s2), (.ref s2)])) rfl (by rw [hml]; rfl) (Steps.refl _) (a := s2) (argsL := [(.ref cb)]) (rest := [(.ref s2)]) (lenOf pd_20 rfl) rfl (by show 2 * 0 + _ ≤ _; exact Nat.le_of_eq rfl) (hb hby at_112) (fun _ _ => ⟨rfl, e416, (by decide : 5 + 1 ≤ _), (by decide : 20 + 6 ≤ _)⟩)
    dsimp only [Pt.U, Pt.locs, Pt.cells, Pt.slots] at X424 l424 y424 z424 st424 hQ424
    rw [l424, y424, z424] at X424
    obtain ⟨hv424, N424q, K424, t2, LL_s2⟩ := hQ424
    rw [hv424] at st424
    have N424 := Fr.app N409 N424q
    have O_425 := O_421.keep K424 (allS g_s2 all0)
    have L_426 := own_Lo L_423 K424 (ninS ne12 nin0) (ninS net2 nin0)
    have Z431 : n0 ≤ T424.heap.size := Nat.le_trans Z422 (K424.1)
    obtain ⟨_, _, ⟨T432, L432, k432, n432⟩, -, X432, hS432, hle432, ⟨Lc432, hQ432, l432, y432, z432⟩, st432⟩ := callSS (s := s) X424 hx (y := (⟨"com/example/ledgerpost/ledgerpost/Payload", "ofText", "(Ljava/lang/String;)Lcom/example/ledgerpost/ledgerpost/Payload;"⟩ : MethodName)) hown (mvT hZ (hw _ (List.mem_of_getElem? (i := 22) rfl))) (mvT hZ (hw _ (List.mem_of_getElem? (i := 23) rfl))) (mvT hZ (hw _ (List.mem_of_getElem? (i := 24) rfl))) (mvT hZ (hw _ (List.mem_of_getElem? (i := 25) rfl))) (by decide) (backOfS (W := 0) (rmO l Z a0 hw [] s1 T424.heap n0 Z431 L_426.1) hZ (hw _ (List.mem_of_getElem? (i := 25) rfl)) (hw _ (List.mem_of_getElem? (i := 24) rfl)) (by decide) (by decide)) (g := (mkF m 119 #[.val (.int p1), .val (.int p2), .val (.int p3), .val (.int p4), .val (.int (3 : Int32)), .val (.int cu), .val (.int cv), .val (.int cw), .val (.ref ca), .val (.ref cb), .val (.ref s1), .val (.ref s2), .unset, .unset, .unset, .unset, .unset] [(.ref s1)])) rfl (by rw [hml]; rfl) (argsL := [(.ref s1)]) (rest := []) (lenOf pd_21 rfl) rfl (by show 2 * 0 + _ ≤ _; exact Nat.le_of_eq rfl) (hb hby at_119) (fun _ _ => ⟨rfl, rfl, (by decide : 6 + 3 ≤ _), (by decide : 26 + 22 ≤ _)⟩)
    dsimp only [Pt.U, Pt.locs, Pt.cells, Pt.slots] at X432 l432 y432 z432 st432 hQ432 hS432 hle432
    rw [l432, y432, z432] at X432
    have hle432' := hle432
    obtain ⟨X432', hS432', hZ432, hown432⟩ := rebS (s := s) (vm0 := s.vm) ((State.WarmedH.refl s).since 0) (Nat.zero_le _) X432 hS432 hle432' hZ hown
    obtain ⟨pa, hv432, N432q, K432, E432, F0432, F1432, lp432⟩ := hQ432
    rw [hv432] at st432
    have N432 := Fr.app N424 N432q
    have O_433 := O_425.keep K432 all0
    have L_434 := own_Lk L_426 K432
    have L_435 := own_Lk LL_s2 K432
    have Z436 : n0 ≤ T432.heap.size := Nat.le_trans Z431 (K432.1)
    obtain ⟨cq437, kq437, q437a, q437b, q437c⟩ := isOf hZ432 rfl E432
    obtain ⟨_, _, ⟨T437, L437, k437, n437⟩, -, X437, ⟨Lc437, hQ437, l437, y437, z437⟩, st437⟩ := X432'.virtualBack hx (y := (⟨"com/example/ledgerpost/ledgerpost/Payload", "isText", "()Z"⟩ : MethodName)) (z := (⟨"com/example/ledgerpost/ledgerpost/Payload", "isText", "()Z"⟩ : MethodName)) hown432 (mvT hZ432 (hw _ (List.mem_of_getElem? (i := 42) rfl))) (mvT hZ432 (hw _ (List.mem_of_getElem? (i := 43) rfl))) (notFace_of_selects (args := #[]) (mvT hZ432 (hw _ (List.mem_of_getElem? (i := 45) rfl)))) (mvT hZ432 (hw _ (List.mem_of_getElem? (i := 45) rfl))) (mvT hZ432 (hw _ (List.mem_of_getElem? (i := 44) rfl))) (by decide) (backOf (W := 0) (rmIt l Z a0 hw [] pa s1 T432.heap n0 Z436 F0432) hZ432 (hw _ (List.mem_of_getElem? (i := 46) rfl)) (hw _ (List.mem_of_getElem? (i := 24) rfl)) (by decide) (by decide)) q437a q437c (g := (mkF m 126 #[.val (.int p1), .val (.int p2), .val (.int p3), .val (.int p4), .val (.int (3 : Int32)), .val (.int cu), .val (.int cv), .val (.int cw), .val (.ref ca), .val (.ref cb), .val (.ref s1), .val (.ref s2), .val (.ref pa), .unset, .unset, .unset, .unset] [(.ref pa)])) rfl (by rw [hml]; rfl) (Steps.refl _) (argsL := []) (rest := []) (lenOf pd_22 rfl) rfl (by show 2 * 0 + _ ≤ _; exact Nat.le_of_eq rfl) (hb hby at_126) (fun _ _ => ⟨rfl, rfl, (by decide : 9 + 0 ≤ _), (by decide : 48 + 0 ≤ _)⟩)
    dsimp only [Pt.U, Pt.locs, Pt.cells, Pt.slots] at X437 l437 y437 z437 st437 hQ437
    rw [l437, y437, z437] at X437
    obtain ⟨hv437, N437q, e437⟩ := hQ437
    rw [hv437] at st437
    have N437 := Fr.app N432 N437q
    obtain ⟨cq438, kq438, q438a, q438b, q438c⟩ := isOf hZ432 e437 E432
    obtain ⟨_, _, ⟨T438, L438, k438, n438⟩, -, X438, ⟨Lc438, hQ438, l438, y438, z438⟩, st438⟩ := X437.virtualBack hx (y := (⟨"com/example/ledgerpost/ledgerpost/Payload", "text", "()Ljava/lang/String;"⟩ : MethodName)) (z := (⟨"com/example/ledgerpost/ledgerpost/Payload", "text", "()Ljava/lang/String;"⟩ : MethodName)) hown432 (mvT hZ432 (hw _ (List.mem_of_getElem? (i := 47) rfl))) (mvT hZ432 (hw _ (List.mem_of_getElem? (i := 48) rfl))) (notFace_of_selects (args := #[]) (mvT hZ432 (hw _ (List.mem_of_getElem? (i := 50) rfl)))) (mvT hZ432 (hw _ (List.mem_of_getElem? (i := 50) rfl))) (mvT hZ432 (hw _ (List.mem_of_getElem? (i := 49) rfl))) (by decide) (backOf (W := 0) (rmTx l Z a0 hw [] pa s1 T432.heap n0 Z436 F0432) hZ432 (hw _ (List.mem_of_getElem? (i := 51) rfl)) (hw _ (List.mem_of_getElem? (i := 24) rfl)) (by decide) (by decide)) q438a q438c (g := (mkF m 136 #[.val (.int p1), .val (.int p2), .val (.int p3), .val (.int p4), .val (.int (3 : Int32)), .val (.int cu), .val (.int cv), .val (.int cw), .val (.ref ca), .val (.ref cb), .val (.ref s1), .val (.ref s2), .val (.ref pa), .unset, .unset, .unset, .unset] [(.ref pa)])) rfl (by rw [hml]; rfl) (Steps.refl _) (argsL := []) (rest := []) (lenOf pd_23 rfl) rfl (by show 2 * 0 + _ ≤ _; exact Nat.le_of_eq rfl) (hb hby at_136) (fun _ _ => ⟨rfl, e437, (by decide : 9 + 0 ≤ _), (by decide : 48 + 0 ≤ _)⟩)
    dsimp only [Pt.U, Pt.locs, Pt.cells, Pt.slots] at X438 l438 y438 z438 st438 hQ438
    rw [l438, y438, z438] at X438
    obtain ⟨hv438, N438q, e438⟩ := hQ438
    rw [hv438] at st438
    have N438 := Fr.app N437 N438q
    have pre439 : ∀ t_, Steps p.tables e below (T438.setTop (mkF m 146 #[.val (.int p1), .val (.int p2), .val (.int p3), .val (.int p4), .val (.int (3 : Int32)), .val (.int cu), .val (.int cv), .val (.int cw), .val (.ref ca), .val (.ref cb), .val (.ref s1), .val (.ref s2), .val (.ref pa), .val (.ref s1), .unset, .unset, .unset] [])) t_ → Steps p.tables e below (s₁.setTop (entryFrame m #[(.int p1), (.int p2), (.int p3), (.int p4)] maxLocals)) t_ := fun t_ k_ => pre390 _ (by
      show Steps p.tables e below (T385.setTop (mkF m 80 #[.val (.int p1), .val (.int p2), .val (.int p3), .val (.int p4), .val (.int (3 : Int32)), .val (.int cu), .val (.int cv), .val (.int cw), .val (.ref ca), .val (.ref cb), .unset, .unset, .unset, .unset, .unset, .unset, .unset] [(.int (3 : Int32)), (.int (3 : Int32))])) _
      refine XS.icmpNo X385.here hx rfl (hb hby at_80) rfl (flt (by decide)).1 ?_
      show Steps p.tables e below (T385.setTop (mkF m 83 #[.val (.int p1), .val (.int p2), .val (.int p3), .val (.int p4), .val (.int (3 : Int32)), .val (.int cu), .val (.int cv), .val (.int cw), .val (.ref ca), .val (.ref cb), .unset, .unset, .unset, .unset, .unset, .unset, .unset] [])) _
      refine XS.aload X385.here hx rfl (hb hby at_83) rfl rfl ?_
      show Steps p.tables e below (T385.setTop (mkF m 85 #[.val (.int p1), .val (.int p2), .val (.int p3), .val (.int p4), .val (.int (3 : Int32)), .val (.int cu), .val (.int cv), .val (.int cw), .val (.ref ca), .val (.ref cb), .unset, .unset, .unset, .unset, .unset, .unset, .unset] [(.ref ca)])) _
      refine XS.iconst X385.here hx rfl (hb hby at_85) ?_
      show Steps p.tables e below (T385.setTop (mkF m 86 #[.val (.int p1), .val (.int p2), .val (.int p3), .val (.int p4), .val (.int (3 : Int32)), .val (.int cu), .val (.int cv), .val (.int cw), .val (.ref ca), .val (.ref cb), .unset, .unset, .unset, .unset, .unset, .unset, .unset] [(.int (2 : Int32)), (.ref ca)])) _
      refine XS.iload X385.here hx rfl (hb hby at_86) rfl ?_
      show Steps p.tables e below (T385.setTop (mkF m 88 #[.val (.int p1), .val (.int p2), .val (.int p3), .val (.int p4), .val (.int (3 : Int32)), .val (.int cu), .val (.int cv), .val (.int cw), .val (.ref ca), .val (.ref cb), .unset, .unset, .unset, .unset, .unset, .unset, .unset] [(.int cw), (.int (2 : Int32)), (.ref ca)])) _
      refine st392 _ ?_
      show Steps p.tables e below (T392.setTop (mkF m 89 #[.val (.int p1), .val (.int p2), .val (.int p3), .val (.int p4), .val (.int (3 : Int32)), .val (.int cu), .val (.int cv), .val (.int cw), .val (.ref ca), .val (.ref cb), .unset, .unset, .unset, .unset, .unset, .unset, .unset] [])) _
      refine XS.aload X392.here hx rfl (hb hby at_89) rfl rfl ?_
      show Steps p.tables e below (T392.setTop (mkF m 91 #[.val (.int p1), .val (.int p2), .val (.int p3), .val (.int p4), .val (.int (3 : Int32)), .val (.int cu), .val (.int cv), .val (.int cw), .val (.ref ca), .val (.ref cb), .unset, .unset, .unset, .unset, .unset, .unset, .unset] [(.ref cb)])) _
      refine XS.iconst X392.here hx rfl (hb hby at_91) ?_
      show Steps p.tables e below (T392.setTop (mkF m 92 #[.val (.int p1), .val (.int p2), .val (.int p3), .val (.int p4), .val (.int (3 : Int32)), .val (.int cu), .val (.int cv), .val (.int cw), .val (.ref ca), .val (.ref cb), .unset, .unset, .unset, .unset, .unset, .unset, .unset] [(.int (2 : Int32)), (.ref cb)])) _
      refine XS.iload X392.here hx rfl (hb hby at_92) rfl ?_
      show Steps p.tables e below (T392.setTop (mkF m 94 #[.val (.int p1), .val (.int p2), .val (.int p3), .val (.int p4), .val (.int (3 : Int32)), .val (.int cu), .val (.int cv), .val (.int cw), .val (.ref ca), .val (.ref cb), .unset, .unset, .unset, .unset, .unset, .unset, .unset] [(.int cw), (.int (2 : Int32)), (.ref cb)])) _
      refine st398 _ ?_
      show Steps p.tables e below (T398.setTop (mkF m 95 #[.val (.int p1), .val (.int p2), .val (.int p3), .val (.int p4), .val (.int (3 : Int32)), .val (.int cu), .val (.int cv), .val (.int cw), .val (.ref ca), .val (.ref cb), .unset, .unset, .unset, .unset, .unset, .unset, .unset] [])) _
      refine st403 _ ?_
      show Steps p.tables e below (T403.setTop (mkF m 98 #[.val (.int p1), .val (.int p2), .val (.int p3), .val (.int p4), .val (.int (3 : Int32)), .val (.int cu), .val (.int cv), .val (.int cw), .val (.ref ca), .val (.ref cb), .unset, .unset, .unset, .unset, .unset, .unset, .unset] [(.ref s1)])) _
      refine XS.dup X403.here hx rfl (hb hby at_98) rfl rfl ?_
      show Steps p.tables e below (T403.setTop (mkF m 99 #[.val (.int p1), .val (.int p2), .val (.int p3), .val (.int p4), .val (.int (3 : Int32)), .val (.int cu), .val (.int cv), .val (.int cw), .val (.ref ca), .val (.ref cb), .unset, .unset, .unset, .unset, .unset, .unset, .unset] [(.ref s1), (.ref s1)])) _
      refine XS.aload X403.here hx rfl (hb hby at_99) rfl rfl ?_
      show Steps p.tables e below (T403.setTop (mkF m 101 #[.val (.int p1), .val (.int p2), .val (.int p3), .val (.int p4), .val (.int (3 : Int32)), .val (.int cu), .val (.int cv), .val (.int cw), .val (.ref ca), .val (.ref cb), .unset, .unset, .unset, .unset, .unset, .unset, .unset] [(.ref ca), (.ref s1), (.ref s1)])) _
      refine st409.trans ?_
      show Steps p.tables e below (T409.setTop (mkF m 104 #[.val (.int p1), .val (.int p2), .val (.int p3), .val (.int p4), .val (.int (3 : Int32)), .val (.int cu), .val (.int cv), .val (.int cw), .val (.ref ca), .val (.ref cb), .unset, .unset, .unset, .unset, .unset, .unset, .unset] [(.ref s1)])) _
      refine XS.astore X409.here hx rfl (hb hby at_104) rfl rfl (l' := #[.val (.int p1), .val (.int p2), .val (.int p3), .val (.int p4), .val (.int (3 : Int32)), .val (.int cu), .val (.int cv), .val (.int cw), .val (.ref ca), .val (.ref cb), .val (.ref s1), .unset, .unset, .unset, .unset, .unset, .unset]) rfl ?_
      show Steps p.tables e below (T409.setTop (mkF m 106 #[.val (.int p1), .val (.int p2), .val (.int p3), .val (.int p4), .val (.int (3 : Int32)), .val (.int cu), .val (.int cv), .val (.int cw), .val (.ref ca), .val (.ref cb), .val (.ref s1), .unset, .unset, .unset, .unset, .unset, .unset] [])) _
      refine st416 _ ?_
      show Steps p.tables e below (T416.setTop (mkF m 109 #[.val (.int p1), .val (.int p2), .val (.int p3), .val (.int p4), .val (.int (3 : Int32)), .val (.int cu), .val (.int cv), .val (.int cw), .val (.ref ca), .val (.ref cb), .val (.ref s1), .unset, .unset, .unset, .unset, .unset, .unset] [(.ref s2)])) _
      refine XS.dup X416.here hx rfl (hb hby at_109) rfl rfl ?_
      show Steps p.tables e below (T416.setTop (mkF m 110 #[.val (.int p1), .val (.int p2), .val (.int p3), .val (.int p4), .val (.int (3 : Int32)), .val (.int cu), .val (.int cv), .val (.int cw), .val (.ref ca), .val (.ref cb), .val (.ref s1), .unset, .unset, .unset, .unset, .unset, .unset] [(.ref s2), (.ref s2)])) _
      refine XS.aload X416.here hx rfl (hb hby at_110) rfl rfl ?_
      show Steps p.tables e below (T416.setTop (mkF m 112 #[.val (.int p1), .val (.int p2), .val (.int p3), .val (.int p4), .val (.int (3 : Int32)), .val (.int cu), .val (.int cv), .val (.int cw), .val (.ref ca), .val (.ref cb), .val (.ref s1), .unset, .unset, .unset, .unset, .unset, .unset] [(.ref cb), (.ref s2), (.ref s2)])) _
      refine st424.trans ?_
      show Steps p.tables e below (T424.setTop (mkF m 115 #[.val (.int p1), .val (.int p2), .val (.int p3), .val (.int p4), .val (.int (3 : Int32)), .val (.int cu), .val (.int cv), .val (.int cw), .val (.ref ca), .val (.ref cb), .val (.ref s1), .unset, .unset, .unset, .unset, .unset, .unset] [(.ref s2)])) _
      refine XS.astore X424.here hx rfl (hb hby at_115) rfl rfl (l' := #[.val (.int p1), .val (.int p2), .val (.int p3), .val (.int p4), .val (.int (3 : Int32)), .val (.int cu), .val (.int cv), .val (.int cw), .val (.ref ca), .val (.ref cb), .val (.ref s1), .val (.ref s2), .unset, .unset, .unset, .unset, .unset]) rfl ?_
      show Steps p.tables e below (T424.setTop (mkF m 117 #[.val (.int p1), .val (.int p2), .val (.int p3), .val (.int p4), .val (.int (3 : Int32)), .val (.int cu), .val (.int cv), .val (.int cw), .val (.ref ca), .val (.ref cb), .val (.ref s1), .val (.ref s2), .unset, .unset, .unset, .unset, .unset] [])) _
      refine XS.aload X424.here hx rfl (hb hby at_117) rfl rfl ?_
      show Steps p.tables e below (T424.setTop (mkF m 119 #[.val (.int p1), .val (.int p2), .val (.int p3), .val (.int p4), .val (.int (3 : Int32)), .val (.int cu), .val (.int cv), .val (.int cw), .val (.ref ca), .val (.ref cb), .val (.ref s1), .val (.ref s2), .unset, .unset, .unset, .unset, .unset] [(.ref s1)])) _
      refine st432.trans ?_
      show Steps p.tables e below (T432.setTop (mkF m 122 #[.val (.int p1), .val (.int p2), .val (.int p3), .val (.int p4), .val (.int (3 : Int32)), .val (.int cu), .val (.int cv), .val (.int cw), .val (.ref ca), .val (.ref cb), .val (.ref s1), .val (.ref s2), .unset, .unset, .unset, .unset, .unset] [(.ref pa)])) _
      refine XS.astore X432'.here hx rfl (hb hby at_122) rfl rfl (l' := #[.val (.int p1), .val (.int p2), .val (.int p3), .val (.int p4), .val (.int (3 : Int32)), .val (.int cu), .val (.int cv), .val (.int cw), .val (.ref ca), .val (.ref cb), .val (.ref s1), .val (.ref s2), .val (.ref pa), .unset, .unset, .unset, .unset]) rfl ?_
      show Steps p.tables e below (T432.setTop (mkF m 124 #[.val (.int p1), .val (.int p2), .val (.int p3), .val (.int p4), .val (.int (3 : Int32)), .val (.int cu), .val (.int cv), .val (.int cw), .val (.ref ca), .val (.ref cb), .val (.ref s1), .val (.ref s2), .val (.ref pa), .unset, .unset, .unset, .unset] [])) _
      refine XS.aload X432'.here hx rfl (hb hby at_124) rfl rfl ?_
      show Steps p.tables e below (T432.setTop (mkF m 126 #[.val (.int p1), .val (.int p2), .val (.int p3), .val (.int p4), .val (.int (3 : Int32)), .val (.int cu), .val (.int cv), .val (.int cw), .val (.ref ca), .val (.ref cb), .val (.ref s1), .val (.ref s2), .val (.ref pa), .unset, .unset, .unset, .unset] [(.ref pa)])) _
      refine st437.trans ?_
      show Steps p.tables e below (T437.setTop (mkF m 129 #[.val (.int p1), .val (.int p2), .val (.int p3), .val (.int p4), .val (.int (3 : Int32)), .val (.int cu), .val (.int cv), .val (.int cw), .val (.ref ca), .val (.ref cb), .val (.ref s1), .val (.ref s2), .val (.ref pa), .unset, .unset, .unset, .unset] [(.int (1 : Int32))])) _
      refine XS.ifYes X437.here hx rfl (pc0 := 129) (pc' := 134) rfl (hb hby at_129) rfl ((if0 _ _).trans (feq (by decide : ¬ (1 : Int32) = 0)).2) (by decide) (by decide) ?_
      show Steps p.tables e below (T437.setTop (mkF m 134 #[.val (.int p1), .val (.int p2), .val (.int p3), .val (.int p4), .val (.int (3 : Int32)), .val (.int cu), .val (.int cv), .val (.int cw), .val (.ref ca), .val (.ref cb), .val (.ref s1), .val (.ref s2), .val (.ref pa), .unset, .unset, .unset, .unset] [])) _
      refine XS.aload X437.here hx rfl (hb hby at_134) rfl rfl ?_
      show Steps p.tables e below (T437.setTop (mkF m 136 #[.val (.int p1), .val (.int p2), .val (.int p3), .val (.int p4), .val (.int (3 : Int32)), .val (.int cu), .val (.int cv), .val (.int cw), .val (.ref ca), .val (.ref cb), .val (.ref s1), .val (.ref s2), .val (.ref pa), .unset, .unset, .unset, .unset] [(.ref pa)])) _
      refine st438.trans ?_
      show Steps p.tables e below (T438.setTop (mkF m 139 #[.val (.int p1), .val (.int p2), .val (.int p3), .val (.int p4), .val (.int (3 : Int32)), .val (.int cu), .val (.int cv), .val (.int cw), .val (.ref ca), .val (.ref cb), .val (.ref s1), .val (.ref s2), .val (.ref pa), .unset, .unset, .unset, .unset] [(.ref s1)])) _
      refine XS.astore X438.here hx rfl (hb hby at_139) rfl rfl (l' := #[.val (.int p1), .val (.int p2), .val (.int p3), .val (.int p4), .val (.int (3 : Int32)), .val (.int cu), .val (.int cv), .val (.int cw), .val (.ref ca), .val (.ref cb), .val (.ref s1), .val (.ref s2), .val (.ref pa), .val (.ref s1), .unset, .unset, .unset]) rfl ?_
      show Steps p.tables e below (T438.setTop (mkF m 141 #[.val (.int p1), .val (.int p2), .val (.int p3), .val (.int p4), .val (.int (3 : Int32)), .val (.int cu), .val (.int cv), .val (.int cw), .val (.ref ca), .val (.ref cb), .val (.ref s1), .val (.ref s2), .val (.ref pa), .val (.ref s1), .unset, .unset, .unset] [])) _
      refine XS.aload X438.here hx rfl (hb hby at_141) rfl rfl ?_
      show Steps p.tables e below (T438.setTop (mkF m 143 #[.val (.int p1), .val (.int p2), .val (.int p3), .val (.int p4), .val (.int (3 : Int32)), .val (.int cu), .val (.int cv), .val (.int cw), .val (.ref ca), .val (.ref cb), .val (.ref s1), .val (.ref s2), .val (.ref pa), .val (.ref s1), .unset, .unset, .unset] [(.ref s1)])) _
      refine XS.ifnullNo X438.here hx rfl (hb hby at_143) rfl ?_
      exact k_)
    obtain ⟨cq440, kq440, q440a, q440b, q440c⟩ := isOf hZ432 e438 L_434.1
    obtain ⟨_, _, ⟨T440, L440, k440, n440⟩, -, X440, ⟨Lc440, hQ440, l440, y440, z440⟩, st440⟩ := X438.virtualBack hx (y := (⟨"java/lang/String", "equals", "(Ljava/lang/Object;)Z"⟩ : MethodName)) (z := (⟨"java/lang/String", "equals", "(Ljava/lang/Object;)Z"⟩ : MethodName)) hown432 (mvT hZ432 (hw _ (List.mem_of_getElem? (i := 52) rfl))) (mvT hZ432 (hw _ (List.mem_of_getElem? (i := 53) rfl))) (notFace_of_selects (args := #[]) (mvT hZ432 (hw _ (List.mem_of_getElem? (i := 55) rfl)))) (mvT hZ432 (hw _ (List.mem_of_getElem? (i := 55) rfl))) (mvT hZ432 (hw _ (List.mem_of_getElem? (i := 54) rfl))) (by decide) (backOf (W := 0) (rmEs l Z a0 hw [] s1 s1 T432.heap n0 Z436 rfl) hZ432 (hw _ (List.mem_of_getElem? (i := 56) rfl)) (hw _ (List.mem_of_getElem? (i := 3) rfl)) (by decide) (by decide)) q440a q440c (g := (mkF m 150 #[.val (.int p1), .val (.int p2), .val (.int p3), .val (.int p4), .val (.int (3 : Int32)), .val (.int cu), .val (.int cv), .val (.int cw), .val (.ref ca), .val (.ref cb), .val (.ref s1), .val (.ref s2), .val (.ref pa), .val (.ref s1), .unset, .unset, .unset] [(.ref s1), (.ref s1)])) rfl (by rw [hml]; rfl) (Steps.refl _) (argsL := [(.ref s1)]) (rest := []) (lenOf pd_7 rfl) rfl (by show 2 * 0 + _ ≤ _; exact Nat.le_of_eq rfl) (hb hby at_150) (fun _ _ => ⟨rfl, e438, (by decide : 9 + 0 ≤ _), (by decide : 48 + 0 ≤ _)⟩)
    dsimp only [Pt.U, Pt.locs, Pt.cells, Pt.slots] at X440 l440 y440 z440 st440 hQ440
    rw [l440, y440, z440] at X440
    obtain ⟨hv440, N440q, e440⟩ := hQ440
    rw [hv440] at st440
    have N440 := Fr.app N438 N440q
    obtain ⟨cq441, kq441, q441a, q441b, q441c⟩ := isOf hZ432 e440 E432
    obtain ⟨_, _, ⟨T441, L441, k441, n441⟩, -, X441, ⟨Lc441, hQ441, l441, y441, z441⟩, st441⟩ := X440.virtualBack hx (y := (⟨"com/example/ledgerpost/ledgerpost/Payload", "length", "()J"⟩ : MethodName)) (z := (⟨"com/example/ledgerpost/ledgerpost/Payload", "length", "()J"⟩ : MethodName)) hown432 (mvT hZ432 (hw _ (List.mem_of_getElem? (i := 57) rfl))) (mvT hZ432 (hw _ (List.mem_of_getElem? (i := 58) rfl))) (notFace_of_selects (args := #[]) (mvT hZ432 (hw _ (List.mem_of_getElem? (i := 60) rfl)))) (mvT hZ432 (hw _ (List.mem_of_getElem? (i := 60) rfl))) (mvT hZ432 (hw _ (List.mem_of_getElem? (i := 59) rfl))) (by decide) (backOf (W := 0) (rmLg l Z a0 hw [] pa s1 t1 3 gg zc T432.heap n0 Z436 F0432 (by omega) L_434 (lat _) (S_c.ext O_433.2) hzc) hZ432 (hw _ (List.mem_of_getElem? (i := 61) rfl)) (hw _ (List.mem_of_getElem? (i := 24) rfl)) (by decide) (by decide)) q441a q441c (g := (mkF m 160 #[.val (.int p1), .val (.int p2), .val (.int p3), .val (.int p4), .val (.int (3 : Int32)), .val (.int cu), .val (.int cv), .val (.int cw), .val (.ref ca), .val (.ref cb), .val (.ref s1), .val (.ref s2), .val (.ref pa), .val (.ref s1), .unset, .unset, .unset] [(.ref pa)])) rfl (by rw [hml]; rfl) (Steps.refl _) (argsL := []) (rest := []) (lenOf pd_24 rfl) rfl (by show 2 * 0 + _ ≤ _; exact Nat.le_of_eq rfl) (hb hby at_160) (fun _ _ => ⟨rfl, e440, (by decide : 9 + 0 ≤ _), (by decide : 48 + 0 ≤ _)⟩)
    dsimp only [Pt.U, Pt.locs, Pt.cells, Pt.slots] at X441 l441 y441 z441 st441 hQ441
    rw [l441, y441, z441] at X441
    obtain ⟨hv441, N441q, e441⟩ := hQ441
    rw [hv441] at st441
    have N441 := Fr.app N440 N441q
    obtain ⟨cq442, kq442, q442a, q442b, q442c⟩ := isOf hZ432 e441 E432
    obtain ⟨_, _, ⟨T442, L442, k442, n442⟩, -, X442, ⟨Lc442, hQ442, l442, y442, z442⟩, st442⟩ := X441.virtualBack hx (y := (⟨"com/example/ledgerpost/ledgerpost/Payload", "bytes", "()[B"⟩ : MethodName)) (z := (⟨"com/example/ledgerpost/ledgerpost/Payload", "bytes", "()[B"⟩ : MethodName)) hown432 (mvT hZ432 (hw _ (List.mem_of_getElem? (i := 73) rfl))) (mvT hZ432 (hw _ (List.mem_of_getElem? (i := 74) rfl))) (notFace_of_selects (args := #[]) (mvT hZ432 (hw _ (List.mem_of_getElem? (i := 76) rfl)))) (mvT hZ432 (hw _ (List.mem_of_getElem? (i := 76) rfl))) (mvT hZ432 (hw _ (List.mem_of_getElem? (i := 75) rfl))) (by decide) (backOf (W := 0) (rmBy l Z a0 hw [] pa s1 uu t1 3 gg zc T432.heap n0 Z436 F0432 O_433 S_u S_i S_c hzc (by omega) (lat _) L_434) hZ432 (hw _ (List.mem_of_getElem? (i := 77) rfl)) (hw _ (List.mem_of_getElem? (i := 24) rfl)) (by decide) (by decide)) q442a q442c (g := (mkF m 174 #[.val (.int p1), .val (.int p2), .val (.int p3), .val (.int p4), .val (.int (3 : Int32)), .val (.int cu), .val (.int cv), .val (.int cw), .val (.ref ca), .val (.ref cb), .val (.ref s1), .val (.ref s2), .val (.ref pa), .val (.ref s1), .unset, .unset, .unset] [(.ref pa)])) rfl (by rw [hml]; rfl) (Steps.refl _) (argsL := []) (rest := []) (lenOf pd_25 rfl) rfl (by show 2 * 0 + _ ≤ _; exact Nat.le_of_eq rfl) (hb hby at_174) (fun _ _ => ⟨rfl, e441, (by decide : 9 + 2 ≤ _), (by decide : 48 + 24 ≤ _)⟩)
    dsimp only [Pt.U, Pt.locs, Pt.cells, Pt.slots] at X442 l442 y442 z442 st442 hQ442
    rw [l442, y442, z442] at X442
    obtain ⟨bb, db, hv442, N442q, K442, AB, B0⟩ := hQ442
    rw [hv442] at st442
    have N442 := Fr.app N441 N442q
    have O_443 := O_433.keep K442 all0
    have L_444 := own_Lk L_434 K442
    have L_445 := own_Lk L_435 K442
    have E_pa_446 := E432.keep K442
    have F0_pa_447 := F0432.keep K442 nin0
    have F1_pa_448 := F1432.keep K442 nin0
    have Z449 : n0 ≤ T442.heap.size := Nat.le_trans Z436 (K442.1)
    have hk450 := Nat.le_trans (Nat.le_refl _) (K442.1)
    obtain ⟨cl, Ar, Sz, Hs⟩ := id AB
    have ub := own_ulb gg 3
    have Sz2 : cl.slots.size = (Int32.ofNat (own_ul gg 3)).toNatClampNeg := by rw [Sz, own_ofc (by omega)]
    obtain ⟨_, _, ⟨T451, L451, k451, n451⟩, -, X451, ⟨Lc451, hQ451, l451, y451, z451⟩, st451⟩ := Jvm.LawKit.callS X442 hx (y := (⟨"com/example/ledgerpost/ledgerpost/PayloadOfTextPinLaw", "utf8Len", "(C)I"⟩ : MethodName)) hown432 (mvT hZ432 (hw _ (List.mem_of_getElem? (i := 153) rfl))) (mvT hZ432 (hw _ (List.mem_of_getElem? (i := 154) rfl))) (mvT hZ432 (hw _ (List.mem_of_getElem? (i := 155) rfl))) (mvT hZ432 (hw _ (List.mem_of_getElem? (i := 156) rfl))) (by decide) (backOf (W := 1) (rmutf8Len l Z a0 hw [] cu T442.heap n0 Z449 ) hZ432 (hw _ (List.mem_of_getElem? (i := 156) rfl)) (hw _ (List.mem_of_getElem? (i := 155) rfl)) (by decide) (by decide)) (g := (mkF m 192 #[.val (.int p1), .val (.int p2), .val (.int p3), .val (.int p4), .val (.int (3 : Int32)), .val (.int cu), .val (.int cv), .val (.int cw), .val (.ref ca), .val (.ref cb), .val (.ref s1), .val (.ref s2), .val (.ref pa), .val (.ref s1), .val (.ref bb), .val (.int (0 : Int32)), .unset] [(.int cu), (.int (0 : Int32))])) rfl (by rw [hml]; rfl) (argsL := [(.int cu)]) (rest := [(.int (0 : Int32))]) (lenOf pd_26 rfl) rfl (by show 2 * 0 + _ ≤ _; exact Nat.le_of_eq rfl) (hb hby at_192) (fun _ _ => ⟨rfl, rfl, (by decide : 11 + 0 ≤ _), (by decide : 72 + 0 ≤ _)⟩)
    dsimp only [Pt.U, Pt.locs, Pt.cells, Pt.slots] at X451 l451 y451 z451 st451 hQ451
    rw [l451, y451, z451] at X451
    obtain ⟨hv451, N451q, e451⟩ := hQ451
    rw [hv451] at st451
    have N451 := Fr.app N442 N451q
    obtain ⟨_, _, ⟨T452, L452, k452, n452⟩, -, X452, ⟨Lc452, hQ452, l452, y452, z452⟩, st452⟩ := Jvm.LawKit.callS X451 hx (y := (⟨"com/example/ledgerpost/ledgerpost/PayloadOfTextPinLaw", "utf8Len", "(C)I"⟩ : MethodName)) hown432 (mvT hZ432 (hw _ (List.mem_of_getElem? (i := 153) rfl))) (mvT hZ432 (hw _ (List.mem_of_getElem? (i := 154) rfl))) (mvT hZ432 (hw _ (List.mem_of_getElem? (i := 155) rfl))) (mvT hZ432 (hw _ (List.mem_of_getElem? (i := 156) rfl))) (by decide) (backOf (W := 1) (rmutf8Len l Z a0 hw [] cv T442.heap n0 Z449 ) hZ432 (hw _ (List.mem_of_getElem? (i := 156) rfl)) (hw _ (List.mem_of_getElem? (i := 155) rfl)) (by decide) (by decide)) (g := (mkF m 208 #[.val (.int p1), .val (.int p2), .val (.int p3), .val (.int p4), .val (.int (3 : Int32)), .val (.int cu), .val (.int cv), .val (.int cw), .val (.ref ca), .val (.ref cb), .val (.ref s1), .val (.ref s2), .val (.ref pa), .val (.ref s1), .val (.ref bb), .val (.int ((0 : Int32) + (own_u1 cu))), .unset] [(.int cv), (.int ((0 : Int32) + (own_u1 cu)))])) rfl (by rw [hml]; rfl) (argsL := [(.int cv)]) (rest := [(.int ((0 : Int32) + (own_u1 cu)))]) (lenOf pd_26 rfl) rfl (by show 2 * 0 + _ ≤ _; exact Nat.le_of_eq rfl) (hb hby at_208) (fun _ _ => ⟨rfl, e451, (by decide : 11 + 0 ≤ _), (by decide : 72 + 0 ≤ _)⟩)
    dsimp only [Pt.U, Pt.locs, Pt.cells, Pt.slots] at X452 l452 y452 z452 st452 hQ452
    rw [l452, y452, z452] at X452
    obtain ⟨hv452, N452q, e452⟩ := hQ452
    rw [hv452] at st452
    have N452 := Fr.app N451 N452q
    have pre453 : ∀ t_, Steps p.tables e below (T452.setTop (mkF m 212 #[.val (.int p1), .val (.int p2), .val (.int p3), .val (.int p4), .val (.int (3 : Int32)), .val (.int cu), .val (.int cv), .val (.int cw), .val (.ref ca), .val (.ref cb), .val (.ref s1), .val (.ref s2), .val (.ref pa), .val (.ref s1), .val (.ref bb), .val (.int ((0 : Int32) + (own_u1 cu))), .unset] [(.int (((0 : Int32) + (own_u1 cu)) + (own_u1 cv)))])) t_ → Steps p.tables e below (s₁.setTop (entryFrame m #[(.int p1), (.int p2), (.int p3), (.int p4)] maxLocals)) t_ := fun t_ k_ => pre439 _ (by
      show Steps p.tables e below (T438.setTop (mkF m 146 #[.val (.int p1), .val (.int p2), .val (.int p3), .val (.int p4), .val (.int (3 : Int32)), .val (.int cu), .val (.int cv), .val (.int cw), .val (.ref ca), .val (.ref cb), .val (.ref s1), .val (.ref s2), .val (.ref pa), .val (.ref s1), .unset, .unset, .unset] [])) _
      refine XS.aload X438.here hx rfl (hb hby at_146) rfl rfl ?_
      show Steps p.tables e below (T438.setTop (mkF m 148 #[.val (.int p1), .val (.int p2), .val (.int p3), .val (.int p4), .val (.int (3 : Int32)), .val (.int cu), .val (.int cv), .val (.int cw), .val (.ref ca), .val (.ref cb), .val (.ref s1), .val (.ref s2), .val (.ref pa), .val (.ref s1), .unset, .unset, .unset] [(.ref s1)])) _
      refine XS.aload X438.here hx rfl (hb hby at_148) rfl rfl ?_
      show Steps p.tables e below (T438.setTop (mkF m 150 #[.val (.int p1), .val (.int p2), .val (.int p3), .val (.int p4), .val (.int (3 : Int32)), .val (.int cu), .val (.int cv), .val (.int cw), .val (.ref ca), .val (.ref cb), .val (.ref s1), .val (.ref s2), .val (.ref pa), .val (.ref s1), .unset, .unset, .unset] [(.ref s1), (.ref s1)])) _
      refine st440.trans ?_
      show Steps p.tables e below (T440.setTop (mkF m 153 #[.val (.int p1), .val (.int p2), .val (.int p3), .val (.int p4), .val (.int (3 : Int32)), .val (.int cu), .val (.int cv), .val (.int cw), .val (.ref ca), .val (.ref cb), .val (.ref s1), .val (.ref s2), .val (.ref pa), .val (.ref s1), .unset, .unset, .unset] [(.int (1 : Int32))])) _
      refine XS.ifYes X440.here hx rfl (pc0 := 153) (pc' := 158) rfl (hb hby at_153) rfl ((if0 _ _).trans (feq (by decide : ¬ (1 : Int32) = 0)).2) (by decide) (by decide) ?_
      show Steps p.tables e below (T440.setTop (mkF m 158 #[.val (.int p1), .val (.int p2), .val (.int p3), .val (.int p4), .val (.int (3 : Int32)), .val (.int cu), .val (.int cv), .val (.int cw), .val (.ref ca), .val (.ref cb), .val (.ref s1), .val (.ref s2), .val (.ref pa), .val (.ref s1), .unset, .unset, .unset] [])) _
      refine XS.aload X440.here hx rfl (hb hby at_158) rfl rfl ?_
      show Steps p.tables e below (T440.setTop (mkF m 160 #[.val (.int p1), .val (.int p2), .val (.int p3), .val (.int p4), .val (.int (3 : Int32)), .val (.int cu), .val (.int cv), .val (.int cw), .val (.ref ca), .val (.ref cb), .val (.ref s1), .val (.ref s2), .val (.ref pa), .val (.ref s1), .unset, .unset, .unset] [(.ref pa)])) _
      refine st441.trans ?_
      show Steps p.tables e below (T441.setTop (mkF m 163 #[.val (.int p1), .val (.int p2), .val (.int p3), .val (.int p4), .val (.int (3 : Int32)), .val (.int cu), .val (.int cv), .val (.int cw), .val (.ref ca), .val (.ref cb), .val (.ref s1), .val (.ref s2), .val (.ref pa), .val (.ref s1), .unset, .unset, .unset] [(.long ((Int32.ofNat 3).toInt64))])) _
      refine XS.iload X441.here hx rfl (hb hby at_163) rfl ?_
      show Steps p.tables e below (T441.setTop (mkF m 165 #[.val (.int p1), .val (.int p2), .val (.int p3), .val (.int p4), .val (.int (3 : Int32)), .val (.int cu), .val (.int cv), .val (.int cw), .val (.ref ca), .val (.ref cb), .val (.ref s1), .val (.ref s2), .val (.ref pa), .val (.ref s1), .unset, .unset, .unset] [(.int (3 : Int32)), (.long ((Int32.ofNat 3).toInt64))])) _
      refine XS.i2l X441.here hx rfl (hb hby at_165) rfl ?_
      show Steps p.tables e below (T441.setTop (mkF m 166 #[.val (.int p1), .val (.int p2), .val (.int p3), .val (.int p4), .val (.int (3 : Int32)), .val (.int cu), .val (.int cv), .val (.int cw), .val (.ref ca), .val (.ref cb), .val (.ref s1), .val (.ref s2), .val (.ref pa), .val (.ref s1), .unset, .unset, .unset] [(.long ((3 : Int32).toInt64)), (.long ((Int32.ofNat 3).toInt64))])) _
      refine XS.lcmp X441.here hx rfl (hb hby at_166) rfl ?_
      show Steps p.tables e below (T441.setTop (mkF m 167 #[.val (.int p1), .val (.int p2), .val (.int p3), .val (.int p4), .val (.int (3 : Int32)), .val (.int cu), .val (.int cv), .val (.int cw), .val (.ref ca), .val (.ref cb), .val (.ref s1), .val (.ref s2), .val (.ref pa), .val (.ref s1), .unset, .unset, .unset] [(.int (lcmpW ((Int32.ofNat 3).toInt64) ((3 : Int32).toInt64)))])) _
      refine XS.ifYes X441.here hx rfl (pc0 := 167) (pc' := 172) rfl (hb hby at_167) rfl ((if0 _ _).trans (teq ((lw_eq _ _).mpr rfl)).1) (by decide) (by decide) ?_
      show Steps p.tables e below (T441.setTop (mkF m 172 #[.val (.int p1), .val (.int p2), .val (.int p3), .val (.int p4), .val (.int (3 : Int32)), .val (.int cu), .val (.int cv), .val (.int cw), .val (.ref ca), .val (.ref cb), .val (.ref s1), .val (.ref s2), .val (.ref pa), .val (.ref s1), .unset, .unset, .unset] [])) _
      refine XS.aload X441.here hx rfl (hb hby at_172) rfl rfl ?_
      show Steps p.tables e below (T441.setTop (mkF m 174 #[.val (.int p1), .val (.int p2), .val (.int p3), .val (.int p4), .val (.int (3 : Int32)), .val (.int cu), .val (.int cv), .val (.int cw), .val (.ref ca), .val (.ref cb), .val (.ref s1), .val (.ref s2), .val (.ref pa), .val (.ref s1), .unset, .unset, .unset] [(.ref pa)])) _
      refine st442.trans ?_
      show Steps p.tables e below (T442.setTop (mkF m 177 #[.val (.int p1), .val (.int p2), .val (.int p3), .val (.int p4), .val (.int (3 : Int32)), .val (.int cu), .val (.int cv), .val (.int cw), .val (.ref ca), .val (.ref cb), .val (.ref s1), .val (.ref s2), .val (.ref pa), .val (.ref s1), .unset, .unset, .unset] [(.ref bb)])) _
      refine XS.astore X442.here hx rfl (hb hby at_177) rfl rfl (l' := #[.val (.int p1), .val (.int p2), .val (.int p3), .val (.int p4), .val (.int (3 : Int32)), .val (.int cu), .val (.int cv), .val (.int cw), .val (.ref ca), .val (.ref cb), .val (.ref s1), .val (.ref s2), .val (.ref pa), .val (.ref s1), .val (.ref bb), .unset, .unset]) rfl ?_
      show Steps p.tables e below (T442.setTop (mkF m 179 #[.val (.int p1), .val (.int p2), .val (.int p3), .val (.int p4), .val (.int (3 : Int32)), .val (.int cu), .val (.int cv), .val (.int cw), .val (.ref ca), .val (.ref cb), .val (.ref s1), .val (.ref s2), .val (.ref pa), .val (.ref s1), .val (.ref bb), .unset, .unset] [])) _
      refine XS.iconst X442.here hx rfl (hb hby at_179) ?_
      show Steps p.tables e below (T442.setTop (mkF m 180 #[.val (.int p1), .val (.int p2), .val (.int p3), .val (.int p4), .val (.int (3 : Int32)), .val (.int cu), .val (.int cv), .val (.int cw), .val (.ref ca), .val (.ref cb), .val (.ref s1), .val (.ref s2), .val (.ref pa), .val (.ref s1), .val (.ref bb), .unset, .unset] [(.int (0 : Int32))])) _
      refine XS.istore X442.here hx rfl (hb hby at_180) rfl (l' := #[.val (.int p1), .val (.int p2), .val (.int p3), .val (.int p4), .val (.int (3 : Int32)), .val (.int cu), .val (.int cv), .val (.int cw), .val (.ref ca), .val (.ref cb), .val (.ref s1), .val (.ref s2), .val (.ref pa), .val (.ref s1), .val (.ref bb), .val (.int (0 : Int32)), .unset]) rfl ?_
      show Steps p.tables e below (T442.setTop (mkF m 182 #[.val (.int p1), .val (.int p2), .val (.int p3), .val (.int p4), .val (.int (3 : Int32)), .val (.int cu), .val (.int cv), .val (.int cw), .val (.ref ca), .val (.ref cb), .val (.ref s1), .val (.ref s2), .val (.ref pa), .val (.ref s1), .val (.ref bb), .val (.int (0 : Int32)), .unset] [])) _
      refine XS.iload X442.here hx rfl (hb hby at_182) rfl ?_
      show Steps p.tables e below (T442.setTop (mkF m 184 #[.val (.int p1), .val (.int p2), .val (.int p3), .val (.int p4), .val (.int (3 : Int32)), .val (.int cu), .val (.int cv), .val (.int cw), .val (.ref ca), .val (.ref cb), .val (.ref s1), .val (.ref s2), .val (.ref pa), .val (.ref s1), .val (.ref bb), .val (.int (0 : Int32)), .unset] [(.int (3 : Int32))])) _
      refine XS.iconst X442.here hx rfl (hb hby at_184) ?_
      show Steps p.tables e below (T442.setTop (mkF m 185 #[.val (.int p1), .val (.int p2), .val (.int p3), .val (.int p4), .val (.int (3 : Int32)), .val (.int cu), .val (.int cv), .val (.int cw), .val (.ref ca), .val (.ref cb), .val (.ref s1), .val (.ref s2), .val (.ref pa), .val (.ref s1), .val (.ref bb), .val (.int (0 : Int32)), .unset] [(.int (1 : Int32)), (.int (3 : Int32))])) _
      refine XS.icmpNo X442.here hx rfl (hb hby at_185) rfl (flt (by decide)).1 ?_
      show Steps p.tables e below (T442.setTop (mkF m 188 #[.val (.int p1), .val (.int p2), .val (.int p3), .val (.int p4), .val (.int (3 : Int32)), .val (.int cu), .val (.int cv), .val (.int cw), .val (.ref ca), .val (.ref cb), .val (.ref s1), .val (.ref s2), .val (.ref pa), .val (.ref s1), .val (.ref bb), .val (.int (0 : Int32)), .unset] [])) _
      refine XS.iload X442.here hx rfl (hb hby at_188) rfl ?_
      show Steps p.tables e below (T442.setTop (mkF m 190 #[.val (.int p1), .val (.int p2), .val (.int p3), .val (.int p4), .val (.int (3 : Int32)), .val (.int cu), .val (.int cv), .val (.int cw), .val (.ref ca), .val (.ref cb), .val (.ref s1), .val (.ref s2), .val (.ref pa), .val (.ref s1), .val (.ref bb), .val (.int (0 : Int32)), .unset] [(.int (0 : Int32))])) _
      refine XS.iload X442.here hx rfl (hb hby at_190) rfl ?_
      show Steps p.tables e below (T442.setTop (mkF m 192 #[.val (.int p1), .val (.int p2), .val (.int p3), .val (.int p4), .val (.int (3 : Int32)), .val (.int cu), .val (.int cv), .val (.int cw), .val (.ref ca), .val (.ref cb), .val (.ref s1), .val (.ref s2), .val (.ref pa), .val (.ref s1), .val (.ref bb), .val (.int (0 : Int32)), .unset] [(.int cu), (.int (0 : Int32))])) _
      refine st451 _ ?_
      show Steps p.tables e below (T451.setTop (mkF m 195 #[.val (.int p1), .val (.int p2), .val (.int p3), .val (.int p4), .val (.int (3 : Int32)), .val (.int cu), .val (.int cv), .val (.int cw), .val (.ref ca), .val (.ref cb), .val (.ref s1), .val (.ref s2), .val (.ref pa), .val (.ref s1), .val (.ref bb), .val (.int (0 : Int32)), .unset] [(.int (own_u1 cu)), (.int (0 : Int32))])) _
      refine XS.iadd X451.here hx rfl (hb hby at_195) rfl ?_
      show Steps p.tables e below (T451.setTop (mkF m 196 #[.val (.int p1), .val (.int p2), .val (.int p3), .val (.int p4), .val (.int (3 : Int32)), .val (.int cu), .val (.int cv), .val (.int cw), .val (.ref ca), .val (.ref cb), .val (.ref s1), .val (.ref s2), .val (.ref pa), .val (.ref s1), .val (.ref bb), .val (.int (0 : Int32)), .unset] [(.int ((0 : Int32) + (own_u1 cu)))])) _
      refine XS.istore X451.here hx rfl (hb hby at_196) rfl (l' := #[.val (.int p1), .val (.int p2), .val (.int p3), .val (.int p4), .val (.int (3 : Int32)), .val (.int cu), .val (.int cv), .val (.int cw), .val (.ref ca), .val (.ref cb), .val (.ref s1), .val (.ref s2), .val (.ref pa), .val (.ref s1), .val (.ref bb), .val (.int ((0 : Int32) + (own_u1 cu))), .unset]) rfl ?_
      show Steps p.tables e below (T451.setTop (mkF m 198 #[.val (.int p1), .val (.int p2), .val (.int p3), .val (.int p4), .val (.int (3 : Int32)), .val (.int cu), .val (.int cv), .val (.int cw), .val (.ref ca), .val (.ref cb), .val (.ref s1), .val (.ref s2), .val (.ref pa), .val (.ref s1), .val (.ref bb), .val (.int ((0 : Int32) + (own_u1 cu))), .unset] [])) _
      refine XS.iload X451.here hx rfl (hb hby at_198) rfl ?_
      show Steps p.tables e below (T451.setTop (mkF m 200 #[.val (.int p1), .val (.int p2), .val (.int p3), .val (.int p4), .val (.int (3 : Int32)), .val (.int cu), .val (.int cv), .val (.int cw), .val (.ref ca), .val (.ref cb), .val (.ref s1), .val (.ref s2), .val (.ref pa), .val (.ref s1), .val (.ref bb), .val (.int ((0 : Int32) + (own_u1 cu))), .unset] [(.int (3 : Int32))])) _
      refine XS.iconst X451.here hx rfl (hb hby at_200) ?_
      show Steps p.tables e below (T451.setTop (mkF m 201 #[.val (.int p1), .val (.int p2), .val (.int p3), .val (.int p4), .val (.int (3 : Int32)), .val (.int cu), .val (.int cv), .val (.int cw), .val (.ref ca), .val (.ref cb), .val (.ref s1), .val (.ref s2), .val (.ref pa), .val (.ref s1), .val (.ref bb), .val (.int ((0 : Int32) + (own_u1 cu))), .unset] [(.int (2 : Int32)), (.int (3 : Int32))])) _
      refine XS.icmpNo X451.here hx rfl (hb hby at_201) rfl (flt (by decide)).1 ?_
      show Steps p.tables e below (T451.setTop (mkF m 204 #[.val (.int p1), .val (.int p2), .val (.int p3), .val (.int p4), .val (.int (3 : Int32)), .val (.int cu), .val (.int cv), .val (.int cw), .val (.ref ca), .val (.ref cb), .val (.ref s1), .val (.ref s2), .val (.ref pa), .val (.ref s1), .val (.ref bb), .val (.int ((0 : Int32) + (own_u1 cu))), .unset] [])) _
      refine XS.iload X451.here hx rfl (hb hby at_204) rfl ?_
      show Steps p.tables e below (T451.setTop (mkF m 206 #[.val (.int p1), .val (.int p2), .val (.int p3), .val (.int p4), .val (.int (3 : Int32)), .val (.int cu), .val (.int cv), .val (.int cw), .val (.ref ca), .val (.ref cb), .val (.ref s1), .val (.ref s2), .val (.ref pa), .val (.ref s1), .val (.ref bb), .val (.int ((0 : Int32) + (own_u1 cu))), .unset] [(.int ((0 : Int32) + (own_u1 cu)))])) _
      refine XS.iload X451.here hx rfl (hb hby at_206) rfl ?_
      show Steps p.tables e below (T451.setTop (mkF m 208 #[.val (.int p1), .val (.int p2), .val (.int p3), .val (.int p4), .val (.int (3 : Int32)), .val (.int cu), .val (.int cv), .val (.int cw), .val (.ref ca), .val (.ref cb), .val (.ref s1), .val (.ref s2), .val (.ref pa), .val (.ref s1), .val (.ref bb), .val (.int ((0 : Int32) + (own_u1 cu))), .unset] [(.int cv), (.int ((0 : Int32) + (own_u1 cu)))])) _
      refine st452 _ ?_
      show Steps p.tables e below (T452.setTop (mkF m 211 #[.val (.int p1), .val (.int p2), .val (.int p3), .val (.int p4), .val (.int (3 : Int32)), .val (.int cu), .val (.int cv), .val (.int cw), .val (.ref ca), .val (.ref cb), .val (.ref s1), .val (.ref s2), .val (.ref pa), .val (.ref s1), .val (.ref bb), .val (.int ((0 : Int32) + (own_u1 cu))), .unset] [(.int (own_u1 cv)), (.int ((0 : Int32) + (own_u1 cu)))])) _
      refine XS.iadd X452.here hx rfl (hb hby at_211) rfl ?_
      exact k_)
    obtain ⟨_, _, ⟨T454, L454, k454, n454⟩, -, X454, ⟨Lc454, hQ454, l454, y454, z454⟩, st454⟩ := Jvm.LawKit.callS X452 hx (y := (⟨"com/example/ledgerpost/ledgerpost/PayloadOfTextPinLaw", "utf8Len", "(C)I"⟩ : MethodName)) hown432 (mvT hZ432 (hw _ (List.mem_of_getElem? (i := 153) rfl))) (mvT hZ432 (hw _ (List.mem_of_getElem? (i := 154) rfl))) (mvT hZ432 (hw _ (List.mem_of_getElem? (i := 155) rfl))) (mvT hZ432 (hw _ (List.mem_of_getElem? (i := 156) rfl))) (by decide) (backOf (W := 1) (rmutf8Len l Z a0 hw [] cw T442.heap n0 Z449 ) hZ432 (hw _ (List.mem_of_getElem? (i := 156) rfl)) (hw _ (List.mem_of_getElem? (i := 155) rfl)) (by decide) (by decide)) (g := (mkF m 224 #[.val (.int p1), .val (.int p2), .val (.int p3), .val (.int p4), .val (.int (3 : Int32)), .val (.int cu), .val (.int cv), .val (.int cw), .val (.ref ca), .val (.ref cb), .val (.ref s1), .val (.ref s2), .val (.ref pa), .val (.ref s1), .val (.ref bb), .val (.int (((0 : Int32) + (own_u1 cu)) + (own_u1 cv))), .unset] [(.int cw), (.int (((0 : Int32) + (own_u1 cu)) + (own_u1 cv)))])) rfl (by rw [hml]; rfl) (argsL := [(.int cw)]) (rest := [(.int (((0 : Int32) + (own_u1 cu)) + (own_u1 cv)))]) (lenOf pd_26 rfl) rfl (by show 2 * 0 + _ ≤ _; exact Nat.le_of_eq rfl) (hb hby at_224) (fun _ _ => ⟨rfl, e452, (by decide : 11 + 0 ≤ _), (by decide : 72 + 0 ≤ _)⟩)
    dsimp only [Pt.U, Pt.locs, Pt.cells, Pt.slots] at X454 l454 y454 z454 st454 hQ454
    rw [l454, y454, z454] at X454
    obtain ⟨hv454, N454q, e454⟩ := hQ454
    rw [hv454] at st454
    have N454 := Fr.app N452 N454q
    have hin0 : ¬ ((0 : Int32) < 0 ∨ cl.slots.size ≤ (0 : Int32).toNatClampNeg) := own_ofin (a := 0) Sz (by omega) (by omega)
    have hat0 : cl.slots[(0 : Int32).toNatClampNeg]? = some (.int (db 0)) := own_hat Hs (j := 0) (by omega) (by omega)
    obtain ⟨_, _, ⟨T455, L455, k455, n455⟩, -, X455, ⟨Lc455, hQ455, l455, y455, z455⟩, st455⟩ := Jvm.LawKit.callS X454 hx (y := (⟨"com/example/ledgerpost/ledgerpost/PayloadOfTextPinLaw", "firstByte", "(C)I"⟩ : MethodName)) hown432 (mvT hZ432 (hw _ (List.mem_of_getElem? (i := 157) rfl))) (mvT hZ432 (hw _ (List.mem_of_getElem? (i := 158) rfl))) (mvT hZ432 (hw _ (List.mem_of_getElem? (i := 155) rfl))) (mvT hZ432 (hw _ (List.mem_of_getElem? (i := 159) rfl))) (by decide) (backOf (W := 1) (rmfirstByte l Z a0 hw [] cu T442.heap n0 Z449 ) hZ432 (hw _ (List.mem_of_getElem? (i := 159) rfl)) (hw _ (List.mem_of_getElem? (i := 155) rfl)) (by decide) (by decide)) (g := (mkF m 256 #[.val (.int p1), .val (.int p2), .val (.int p3), .val (.int p4), .val (.int (3 : Int32)), .val (.int cu), .val (.int cv), .val (.int cw), .val (.ref ca), .val (.ref cb), .val (.ref s1), .val (.ref s2), .val (.ref pa), .val (.ref s1), .val (.ref bb), .val (.int ((((0 : Int32) + (own_u1 cu)) + (own_u1 cv)) + (own_u1 cw))), .unset] [(.int cu), (.int ((db 0) &&& (255 : Int32)))])) rfl (by rw [hml]; rfl) (argsL := [(.int cu)]) (rest := [(.int ((db 0) &&& (255 : Int32)))]) (lenOf pd_26 rfl) rfl (by show 2 * 0 + _ ≤ _; exact Nat.le_of_eq rfl) (hb hby at_256) (fun _ _ => ⟨rfl, e454, (by decide : 11 + 0 ≤ _), (by decide : 72 + 0 ≤ _)⟩)
    dsimp only [Pt.U, Pt.locs, Pt.cells, Pt.slots] at X455 l455 y455 z455 st455 hQ455
    rw [l455, y455, z455] at X455
    obtain ⟨hv455, N455q, e455⟩ := hQ455
    rw [hv455] at st455
    have N455 := Fr.app N454 N455q
    obtain ⟨_, _, ⟨T456, L456, k456, n456⟩, -, X456, hS456, hle456, ⟨Lc456, hQ456, l456, y456, z456⟩, st456⟩ := callSS (s := (s.setVm T432.vm)) X455 hx (y := (⟨"com/example/ledgerpost/ledgerpost/Payload", "ofText", "(Ljava/lang/String;)Lcom/example/ledgerpost/ledgerpost/Payload;"⟩ : MethodName)) hown432 (mvT hZ432 (hw _ (List.mem_of_getElem? (i := 22) rfl))) (mvT hZ432 (hw _ (List.mem_of_getElem? (i := 23) rfl))) (mvT hZ432 (hw _ (List.mem_of_getElem? (i := 24) rfl))) (mvT hZ432 (hw _ (List.mem_of_getElem? (i := 25) rfl))) (by decide) (backOfS (W := 1) (rmO l Z a0 hw [] s2 T442.heap n0 Z449 L_445.1) hZ432 (hw _ (List.mem_of_getElem? (i := 25) rfl)) (hw _ (List.mem_of_getElem? (i := 24) rfl)) (by decide) (by decide)) (g := (mkF m 268 #[.val (.int p1), .val (.int p2), .val (.int p3), .val (.int p4), .val (.int (3 : Int32)), .val (.int cu), .val (.int cv), .val (.int cw), .val (.ref ca), .val (.ref cb), .val (.ref s1), .val (.ref s2), .val (.ref pa), .val (.ref s1), .val (.ref bb), .val (.int ((((0 : Int32) + (own_u1 cu)) + (own_u1 cv)) + (own_u1 cw))), .unset] [(.ref s2), (.ref pa)])) rfl (by rw [hml]; rfl) (argsL := [(.ref s2)]) (rest := [(.ref pa)]) (lenOf pd_21 rfl) rfl (by show 2 * 0 + _ ≤ _; exact Nat.le_of_eq rfl) (hb hby at_268) (fun _ _ => ⟨rfl, e455, (by decide : 11 + 3 ≤ _), (by decide : 72 + 22 ≤ _)⟩)
    dsimp only [Pt.U, Pt.locs, Pt.cells, Pt.slots] at X456 l456 y456 z456 st456 hQ456 hS456 hle456
    rw [l456, y456, z456] at X456
    have hle456' : T442.heap.size ≤ T456.heap.size := by have q := hle456; rw [e455] at q; exact q
    obtain ⟨X456', hS456', hZ456, hown456⟩ := rebS (s := s) (vm0 := T432.vm) hS432' hk450 X456 hS456 hle456' hZ432 hown432
    obtain ⟨pb, hv456, N456q, K456, E456, F0456, F1456, lp456⟩ := hQ456
    rw [hv456] at st456
    have N456 := Fr.app N455 N456q
    have O_457 := O_443.keep K456 all0
    have L_458 := own_Lk L_444 K456
    have L_459 := own_Lk L_445 K456
    have E_pa_460 := E_pa_446.keep K456
    have F0_pa_461 := F0_pa_447.keep K456 nin0
    have F1_pa_462 := F1_pa_448.keep K456 nin0
    have Z463 : n0 ≤ T456.heap.size := Nat.le_trans Z449 (K456.1)
    obtain ⟨cq464, kq464, q464a, q464b, q464c⟩ := isOf hZ456 rfl E_pa_460
    obtain ⟨_, _, ⟨T464, L464, k464, n464⟩, -, X464, ⟨Lc464, hQ464, l464, y464, z464⟩, st464⟩ := X456'.virtualBack hx (y := (⟨"com/example/ledgerpost/ledgerpost/Payload", "equals", "(Ljava/lang/Object;)Z"⟩ : MethodName)) (z := (⟨"com/example/ledgerpost/ledgerpost/Payload", "equals", "(Ljava/lang/Object;)Z"⟩ : MethodName)) hown456 (mvT hZ456 (hw _ (List.mem_of_getElem? (i := 109) rfl))) (mvT hZ456 (hw _ (List.mem_of_getElem? (i := 110) rfl))) (notFace_of_selects (args := #[]) (mvT hZ456 (hw _ (List.mem_of_getElem? (i := 112) rfl)))) (mvT hZ456 (hw _ (List.mem_of_getElem? (i := 112) rfl))) (mvT hZ456 (hw _ (List.mem_of_getElem? (i := 111) rfl))) (by decide) (backOf (W := 0) (rmPE l Z a0 hw [] pa pb s1 s2 t1 t2 3 gg zc T456.heap n0 Z463 F0_pa_461 F0456 F1_pa_462 F1456 E456 (by omega) L_458 L_459 ne12 (S_c.ext O_457.2) hzc) hZ456 (hw _ (List.mem_of_getElem? (i := 113) rfl)) (hw _ (List.mem_of_getElem? (i := 24) rfl)) (by decide) (by decide)) q464a q464c (g := (mkF m 271 #[.val (.int p1), .val (.int p2), .val (.int p3), .val (.int p4), .val (.int (3 : Int32)), .val (.int cu), .val (.int cv), .val (.int cw), .val (.ref ca), .val (.ref cb), .val (.ref s1), .val (.ref s2), .val (.ref pa), .val (.ref s1), .val (.ref bb), .val (.int ((((0 : Int32) + (own_u1 cu)) + (own_u1 cv)) + (own_u1 cw))), .unset] [(.ref pb), (.ref pa)])) rfl (by rw [hml]; rfl) (Steps.refl _) (argsL := [(.ref pb)]) (rest := []) (lenOf pd_7 rfl) rfl (by show 2 * 0 + _ ≤ _; exact Nat.le_of_eq rfl) (hb hby at_271) (fun _ _ => ⟨rfl, rfl, (by decide : 14 + 0 ≤ _), (by decide : 94 + 0 ≤ _)⟩)
    dsimp only [Pt.U, Pt.locs, Pt.cells, Pt.slots] at X464 l464 y464 z464 st464 hQ464
    rw [l464, y464, z464] at X464
    obtain ⟨hv464, N464q, e464⟩ := hQ464
    rw [hv464] at st464
    have N464 := Fr.app N456 N464q
    have pre465 : ∀ t_, Steps p.tables e below (T464.setTop (mkF m 281 #[.val (.int p1), .val (.int p2), .val (.int p3), .val (.int p4), .val (.int (3 : Int32)), .val (.int cu), .val (.int cv), .val (.int cw), .val (.ref ca), .val (.ref cb), .val (.ref s1), .val (.ref s2), .val (.ref pa), .val (.ref s1), .val (.ref bb), .val (.int ((((0 : Int32) + (own_u1 cu)) + (own_u1 cv)) + (own_u1 cw))), .unset] [(.ref pa)])) t_ → Steps p.tables e below (s₁.setTop (entryFrame m #[(.int p1), (.int p2), (.int p3), (.int p4)] maxLocals)) t_ := fun t_ k_ => pre453 _ (by
      show Steps p.tables e below (T452.setTop (mkF m 212 #[.val (.int p1), .val (.int p2), .val (.int p3), .val (.int p4), .val (.int (3 : Int32)), .val (.int cu), .val (.int cv), .val (.int cw), .val (.ref ca), .val (.ref cb), .val (.ref s1), .val (.ref s2), .val (.ref pa), .val (.ref s1), .val (.ref bb), .val (.int ((0 : Int32) + (own_u1 cu))), .unset] [(.int (((0 : Int32) + (own_u1 cu)) + (own_u1 cv)))])) _
      refine XS.istore X452.here hx rfl (hb hby at_212) rfl (l' := #[.val (.int p1), .val (.int p2), .val (.int p3), .val (.int p4), .val (.int (3 : Int32)), .val (.int cu), .val (.int cv), .val (.int cw), .val (.ref ca), .val (.ref cb), .val (.ref s1), .val (.ref s2), .val (.ref pa), .val (.ref s1), .val (.ref bb), .val (.int (((0 : Int32) + (own_u1 cu)) + (own_u1 cv))), .unset]) rfl ?_
      show Steps p.tables e below (T452.setTop (mkF m 214 #[.val (.int p1), .val (.int p2), .val (.int p3), .val (.int p4), .val (.int (3 : Int32)), .val (.int cu), .val (.int cv), .val (.int cw), .val (.ref ca), .val (.ref cb), .val (.ref s1), .val (.ref s2), .val (.ref pa), .val (.ref s1), .val (.ref bb), .val (.int (((0 : Int32) + (own_u1 cu)) + (own_u1 cv))), .unset] [])) _
      refine XS.iload X452.here hx rfl (hb hby at_214) rfl ?_
      show Steps p.tables e below (T452.setTop (mkF m 216 #[.val (.int p1), .val (.int p2), .val (.int p3), .val (.int p4), .val (.int (3 : Int32)), .val (.int cu), .val (.int cv), .val (.int cw), .val (.ref ca), .val (.ref cb), .val (.ref s1), .val (.ref s2), .val (.ref pa), .val (.ref s1), .val (.ref bb), .val (.int (((0 : Int32) + (own_u1 cu)) + (own_u1 cv))), .unset] [(.int (3 : Int32))])) _
      refine XS.iconst X452.here hx rfl (hb hby at_216) ?_
      show Steps p.tables e below (T452.setTop (mkF m 217 #[.val (.int p1), .val (.int p2), .val (.int p3), .val (.int p4), .val (.int (3 : Int32)), .val (.int cu), .val (.int cv), .val (.int cw), .val (.ref ca), .val (.ref cb), .val (.ref s1), .val (.ref s2), .val (.ref pa), .val (.ref s1), .val (.ref bb), .val (.int (((0 : Int32) + (own_u1 cu)) + (own_u1 cv))), .unset] [(.int (3 : Int32)), (.int (3 : Int32))])) _
      refine XS.icmpNo X452.here hx rfl (hb hby at_217) rfl (flt (by decide)).1 ?_
      show Steps p.tables e below (T452.setTop (mkF m 220 #[.val (.int p1), .val (.int p2), .val (.int p3), .val (.int p4), .val (.int (3 : Int32)), .val (.int cu), .val (.int cv), .val (.int cw), .val (.ref ca), .val (.ref cb), .val (.ref s1), .val (.ref s2), .val (.ref pa), .val (.ref s1), .val (.ref bb), .val (.int (((0 : Int32) + (own_u1 cu)) + (own_u1 cv))), .unset] [])) _
      refine XS.iload X452.here hx rfl (hb hby at_220) rfl ?_
      show Steps p.tables e below (T452.setTop (mkF m 222 #[.val (.int p1), .val (.int p2), .val (.int p3), .val (.int p4), .val (.int (3 : Int32)), .val (.int cu), .val (.int cv), .val (.int cw), .val (.ref ca), .val (.ref cb), .val (.ref s1), .val (.ref s2), .val (.ref pa), .val (.ref s1), .val (.ref bb), .val (.int (((0 : Int32) + (own_u1 cu)) + (own_u1 cv))), .unset] [(.int (((0 : Int32) + (own_u1 cu)) + (own_u1 cv)))])) _
      refine XS.iload X452.here hx rfl (hb hby at_222) rfl ?_
      show Steps p.tables e below (T452.setTop (mkF m 224 #[.val (.int p1), .val (.int p2), .val (.int p3), .val (.int p4), .val (.int (3 : Int32)), .val (.int cu), .val (.int cv), .val (.int cw), .val (.ref ca), .val (.ref cb), .val (.ref s1), .val (.ref s2), .val (.ref pa), .val (.ref s1), .val (.ref bb), .val (.int (((0 : Int32) + (own_u1 cu)) + (own_u1 cv))), .unset] [(.int cw), (.int (((0 : Int32) + (own_u1 cu)) + (own_u1 cv)))])) _
      refine st454 _ ?_
      show Steps p.tables e below (T454.setTop (mkF m 227 #[.val (.int p1), .val (.int p2), .val (.int p3), .val (.int p4), .val (.int (3 : Int32)), .val (.int cu), .val (.int cv), .val (.int cw), .val (.ref ca), .val (.ref cb), .val (.ref s1), .val (.ref s2), .val (.ref pa), .val (.ref s1), .val (.ref bb), .val (.int (((0 : Int32) + (own_u1 cu)) + (own_u1 cv))), .unset] [(.int (own_u1 cw)), (.int (((0 : Int32) + (own_u1 cu)) + (own_u1 cv)))])) _
      refine XS.iadd X454.here hx rfl (hb hby at_227) rfl ?_
      show Steps p.tables e below (T454.setTop (mkF m 228 #[.val (.int p1), .val (.int p2), .val (.int p3), .val (.int p4), .val (.int (3 : Int32)), .val (.int cu), .val (.int cv), .val (.int cw), .val (.ref ca), .val (.ref cb), .val (.ref s1), .val (.ref s2), .val (.ref pa), .val (.ref s1), .val (.ref bb), .val (.int (((0 : Int32) + (own_u1 cu)) + (own_u1 cv))), .unset] [(.int ((((0 : Int32) + (own_u1 cu)) + (own_u1 cv)) + (own_u1 cw)))])) _
      refine XS.istore X454.here hx rfl (hb hby at_228) rfl (l' := #[.val (.int p1), .val (.int p2), .val (.int p3), .val (.int p4), .val (.int (3 : Int32)), .val (.int cu), .val (.int cv), .val (.int cw), .val (.ref ca), .val (.ref cb), .val (.ref s1), .val (.ref s2), .val (.ref pa), .val (.ref s1), .val (.ref bb), .val (.int ((((0 : Int32) + (own_u1 cu)) + (own_u1 cv)) + (own_u1 cw))), .unset]) rfl ?_
      show Steps p.tables e below (T454.setTop (mkF m 230 #[.val (.int p1), .val (.int p2), .val (.int p3), .val (.int p4), .val (.int (3 : Int32)), .val (.int cu), .val (.int cv), .val (.int cw), .val (.ref ca), .val (.ref cb), .val (.ref s1), .val (.ref s2), .val (.ref pa), .val (.ref s1), .val (.ref bb), .val (.int ((((0 : Int32) + (own_u1 cu)) + (own_u1 cv)) + (own_u1 cw))), .unset] [])) _
      refine XS.aload X454.here hx rfl (hb hby at_230) rfl rfl ?_
      show Steps p.tables e below (T454.setTop (mkF m 232 #[.val (.int p1), .val (.int p2), .val (.int p3), .val (.int p4), .val (.int (3 : Int32)), .val (.int cu), .val (.int cv), .val (.int cw), .val (.ref ca), .val (.ref cb), .val (.ref s1), .val (.ref s2), .val (.ref pa), .val (.ref s1), .val (.ref bb), .val (.int ((((0 : Int32) + (own_u1 cu)) + (own_u1 cv)) + (own_u1 cw))), .unset] [(.ref bb)])) _
      refine X454.arraylength hx (by rw [e454]; exact Ar.1) (State.isArrayOf_alike hZ432.alike Ar.2.1) (g := (mkF m 232 #[.val (.int p1), .val (.int p2), .val (.int p3), .val (.int p4), .val (.int (3 : Int32)), .val (.int cu), .val (.int cv), .val (.int cw), .val (.ref ca), .val (.ref cb), .val (.ref s1), .val (.ref s2), .val (.ref pa), .val (.ref s1), .val (.ref bb), .val (.int ((((0 : Int32) + (own_u1 cu)) + (own_u1 cv)) + (own_u1 cw))), .unset] [(.ref bb)])) rfl rfl (hb hby at_232) _ ?_
      rw [len_of Sz2 (own_ofn0 (a := own_ul gg 3) (by omega))]
      show Steps p.tables e below (T454.setTop (mkF m 233 #[.val (.int p1), .val (.int p2), .val (.int p3), .val (.int p4), .val (.int (3 : Int32)), .val (.int cu), .val (.int cv), .val (.int cw), .val (.ref ca), .val (.ref cb), .val (.ref s1), .val (.ref s2), .val (.ref pa), .val (.ref s1), .val (.ref bb), .val (.int ((((0 : Int32) + (own_u1 cu)) + (own_u1 cv)) + (own_u1 cw))), .unset] [(.int (Int32.ofNat (own_ul gg 3)))])) _
      refine XS.iload X454.here hx rfl (hb hby at_233) rfl ?_
      show Steps p.tables e below (T454.setTop (mkF m 235 #[.val (.int p1), .val (.int p2), .val (.int p3), .val (.int p4), .val (.int (3 : Int32)), .val (.int cu), .val (.int cv), .val (.int cw), .val (.ref ca), .val (.ref cb), .val (.ref s1), .val (.ref s2), .val (.ref pa), .val (.ref s1), .val (.ref bb), .val (.int ((((0 : Int32) + (own_u1 cu)) + (own_u1 cv)) + (own_u1 cw))), .unset] [(.int ((((0 : Int32) + (own_u1 cu)) + (own_u1 cv)) + (own_u1 cw))), (.int (Int32.ofNat (own_ul gg 3)))])) _
      refine XS.icmpYes X454.here hx rfl (pc0 := 235) (pc' := 240) rfl (hb hby at_235) rfl (teq (by rw [own_sum3 gg, g0, g1, g2])).1 (by decide) (by decide) ?_
      show Steps p.tables e below (T454.setTop (mkF m 240 #[.val (.int p1), .val (.int p2), .val (.int p3), .val (.int p4), .val (.int (3 : Int32)), .val (.int cu), .val (.int cv), .val (.int cw), .val (.ref ca), .val (.ref cb), .val (.ref s1), .val (.ref s2), .val (.ref pa), .val (.ref s1), .val (.ref bb), .val (.int ((((0 : Int32) + (own_u1 cu)) + (own_u1 cv)) + (own_u1 cw))), .unset] [])) _
      refine XS.iload X454.here hx rfl (hb hby at_240) rfl ?_
      show Steps p.tables e below (T454.setTop (mkF m 242 #[.val (.int p1), .val (.int p2), .val (.int p3), .val (.int p4), .val (.int (3 : Int32)), .val (.int cu), .val (.int cv), .val (.int cw), .val (.ref ca), .val (.ref cb), .val (.ref s1), .val (.ref s2), .val (.ref pa), .val (.ref s1), .val (.ref bb), .val (.int ((((0 : Int32) + (own_u1 cu)) + (own_u1 cv)) + (own_u1 cw))), .unset] [(.int (3 : Int32))])) _
      refine XS.iconst X454.here hx rfl (hb hby at_242) ?_
      show Steps p.tables e below (T454.setTop (mkF m 243 #[.val (.int p1), .val (.int p2), .val (.int p3), .val (.int p4), .val (.int (3 : Int32)), .val (.int cu), .val (.int cv), .val (.int cw), .val (.ref ca), .val (.ref cb), .val (.ref s1), .val (.ref s2), .val (.ref pa), .val (.ref s1), .val (.ref bb), .val (.int ((((0 : Int32) + (own_u1 cu)) + (own_u1 cv)) + (own_u1 cw))), .unset] [(.int (1 : Int32)), (.int (3 : Int32))])) _
      refine XS.icmpNo X454.here hx rfl (hb hby at_243) rfl (flt (by decide)).1 ?_
      show Steps p.tables e below (T454.setTop (mkF m 246 #[.val (.int p1), .val (.int p2), .val (.int p3), .val (.int p4), .val (.int (3 : Int32)), .val (.int cu), .val (.int cv), .val (.int cw), .val (.ref ca), .val (.ref cb), .val (.ref s1), .val (.ref s2), .val (.ref pa), .val (.ref s1), .val (.ref bb), .val (.int ((((0 : Int32) + (own_u1 cu)) + (own_u1 cv)) + (own_u1 cw))), .unset] [])) _
      refine XS.aload X454.here hx rfl (hb hby at_246) rfl rfl ?_
      show Steps p.tables e below (T454.setTop (mkF m 248 #[.val (.int p1), .val (.int p2), .val (.int p3), .val (.int p4), .val (.int (3 : Int32)), .val (.int cu), .val (.int cv), .val (.int cw), .val (.ref ca), .val (.ref cb), .val (.ref s1), .val (.ref s2), .val (.ref pa), .val (.ref s1), .val (.ref bb), .val (.int ((((0 : Int32) + (own_u1 cu)) + (own_u1 cv)) + (own_u1 cw))), .unset] [(.ref bb)])) _
      refine XS.iconst X454.here hx rfl (hb hby at_248) ?_
      show Steps p.tables e below (T454.setTop (mkF m 249 #[.val (.int p1), .val (.int p2), .val (.int p3), .val (.int p4), .val (.int (3 : Int32)), .val (.int cu), .val (.int cv), .val (.int cw), .val (.ref ca), .val (.ref cb), .val (.ref s1), .val (.ref s2), .val (.ref pa), .val (.ref s1), .val (.ref bb), .val (.int ((((0 : Int32) + (own_u1 cu)) + (own_u1 cv)) + (own_u1 cw))), .unset] [(.int (0 : Int32)), (.ref bb)])) _
      refine X454.baloadBytes hx (j := (0 : Int32)) (v := (.int (db 0))) (by rw [e454]; exact Ar.1) (State.isArrayOf_alike hZ432.alike Ar.2.1) Ar.2.2 hin0 hat0 (g := (mkF m 249 #[.val (.int p1), .val (.int p2), .val (.int p3), .val (.int p4), .val (.int (3 : Int32)), .val (.int cu), .val (.int cv), .val (.int cw), .val (.ref ca), .val (.ref cb), .val (.ref s1), .val (.ref s2), .val (.ref pa), .val (.ref s1), .val (.ref bb), .val (.int ((((0 : Int32) + (own_u1 cu)) + (own_u1 cv)) + (own_u1 cw))), .unset] [(.int (0 : Int32)), (.ref bb)])) rfl rfl (hb hby at_249) _ ?_
      show Steps p.tables e below (T454.setTop (mkF m 250 #[.val (.int p1), .val (.int p2), .val (.int p3), .val (.int p4), .val (.int (3 : Int32)), .val (.int cu), .val (.int cv), .val (.int cw), .val (.ref ca), .val (.ref cb), .val (.ref s1), .val (.ref s2), .val (.ref pa), .val (.ref s1), .val (.ref bb), .val (.int ((((0 : Int32) + (own_u1 cu)) + (own_u1 cv)) + (own_u1 cw))), .unset] [(.int (db 0))])) _
      refine XS.sipush X454.here hx rfl (hb hby at_250) ?_
      show Steps p.tables e below (T454.setTop (mkF m 253 #[.val (.int p1), .val (.int p2), .val (.int p3), .val (.int p4), .val (.int (3 : Int32)), .val (.int cu), .val (.int cv), .val (.int cw), .val (.ref ca), .val (.ref cb), .val (.ref s1), .val (.ref s2), .val (.ref pa), .val (.ref s1), .val (.ref bb), .val (.int ((((0 : Int32) + (own_u1 cu)) + (own_u1 cv)) + (own_u1 cw))), .unset] [(.int (255 : Int32)), (.int (db 0))])) _
      refine XS.iand X454.here hx rfl (hb hby at_253) rfl ?_
      show Steps p.tables e below (T454.setTop (mkF m 254 #[.val (.int p1), .val (.int p2), .val (.int p3), .val (.int p4), .val (.int (3 : Int32)), .val (.int cu), .val (.int cv), .val (.int cw), .val (.ref ca), .val (.ref cb), .val (.ref s1), .val (.ref s2), .val (.ref pa), .val (.ref s1), .val (.ref bb), .val (.int ((((0 : Int32) + (own_u1 cu)) + (own_u1 cv)) + (own_u1 cw))), .unset] [(.int ((db 0) &&& (255 : Int32)))])) _
      refine XS.iload X454.here hx rfl (hb hby at_254) rfl ?_
      show Steps p.tables e below (T454.setTop (mkF m 256 #[.val (.int p1), .val (.int p2), .val (.int p3), .val (.int p4), .val (.int (3 : Int32)), .val (.int cu), .val (.int cv), .val (.int cw), .val (.ref ca), .val (.ref cb), .val (.ref s1), .val (.ref s2), .val (.ref pa), .val (.ref s1), .val (.ref bb), .val (.int ((((0 : Int32) + (own_u1 cu)) + (own_u1 cv)) + (own_u1 cw))), .unset] [(.int cu), (.int ((db 0) &&& (255 : Int32)))])) _
      refine st455 _ ?_
      show Steps p.tables e below (T455.setTop (mkF m 259 #[.val (.int p1), .val (.int p2), .val (.int p3), .val (.int p4), .val (.int (3 : Int32)), .val (.int cu), .val (.int cv), .val (.int cw), .val (.ref ca), .val (.ref cb), .val (.ref s1), .val (.ref s2), .val (.ref pa), .val (.ref s1), .val (.ref bb), .val (.int ((((0 : Int32) + (own_u1 cu)) + (own_u1 cv)) + (own_u1 cw))), .unset] [(.int (own_f1 cu)), (.int ((db 0) &&& (255 : Int32)))])) _
      refine XS.icmpYes X455.here hx rfl (pc0 := 259) (pc' := 264) rfl (hb hby at_259) rfl (teq (by rw [B0 (by omega), g0]; exact own_fbf b_cu.1 b_cu.2)).1 (by decide) (by decide) ?_
      show Steps p.tables e below (T455.setTop (mkF m 264 #[.val (.int p1), .val (.int p2), .val (.int p3), .val (.int p4), .val (.int (3 : Int32)), .val (.int cu), .val (.int cv), .val (.int cw), .val (.ref ca), .val (.ref cb), .val (.ref s1), .val (.ref s2), .val (.ref pa), .val (.ref s1), .val (.ref bb), .val (.int ((((0 : Int32) + (own_u1 cu)) + (own_u1 cv)) + (own_u1 cw))), .unset] [])) _
      refine XS.aload X455.here hx rfl (hb hby at_264) rfl rfl ?_
      show Steps p.tables e below (T455.setTop (mkF m 266 #[.val (.int p1), .val (.int p2), .val (.int p3), .val (.int p4), .val (.int (3 : Int32)), .val (.int cu), .val (.int cv), .val (.int cw), .val (.ref ca), .val (.ref cb), .val (.ref s1), .val (.ref s2), .val (.ref pa), .val (.ref s1), .val (.ref bb), .val (.int ((((0 : Int32) + (own_u1 cu)) + (own_u1 cv)) + (own_u1 cw))), .unset] [(.ref pa)])) _
      refine XS.aload X455.here hx rfl (hb hby at_266) rfl rfl ?_
      show Steps p.tables e below (T455.setTop (mkF m 268 #[.val (.int p1), .val (.int p2), .val (.int p3), .val (.int p4), .val (.int (3 : Int32)), .val (.int cu), .val (.int cv), .val (.int cw), .val (.ref ca), .val (.ref cb), .val (.ref s1), .val (.ref s2), .val (.ref pa), .val (.ref s1), .val (.ref bb), .val (.int ((((0 : Int32) + (own_u1 cu)) + (own_u1 cv)) + (own_u1 cw))), .unset] [(.ref s2), (.ref pa)])) _
      refine st456.trans ?_
      show Steps p.tables e below (T456.setTop (mkF m 271 #[.val (.int p1), .val (.int p2), .val (.int p3), .val (.int p4), .val (.int (3 : Int32)), .val (.int cu), .val (.int cv), .val (.int cw), .val (.ref ca), .val (.ref cb), .val (.ref s1), .val (.ref s2), .val (.ref pa), .val (.ref s1), .val (.ref bb), .val (.int ((((0 : Int32) + (own_u1 cu)) + (own_u1 cv)) + (own_u1 cw))), .unset] [(.ref pb), (.ref pa)])) _
      refine st464.trans ?_
      show Steps p.tables e below (T464.setTop (mkF m 274 #[.val (.int p1), .val (.int p2), .val (.int p3), .val (.int p4), .val (.int (3 : Int32)), .val (.int cu), .val (.int cv), .val (.int cw), .val (.ref ca), .val (.ref cb), .val (.ref s1), .val (.ref s2), .val (.ref pa), .val (.ref s1), .val (.ref bb), .val (.int ((((0 : Int32) + (own_u1 cu)) + (own_u1 cv)) + (own_u1 cw))), .unset] [(.int (1 : Int32))])) _
      refine XS.ifYes X464.here hx rfl (pc0 := 274) (pc' := 279) rfl (hb hby at_274) rfl ((if0 _ _).trans (feq (by decide : ¬ (1 : Int32) = 0)).2) (by decide) (by decide) ?_
      show Steps p.tables e below (T464.setTop (mkF m 279 #[.val (.int p1), .val (.int p2), .val (.int p3), .val (.int p4), .val (.int (3 : Int32)), .val (.int cu), .val (.int cv), .val (.int cw), .val (.ref ca), .val (.ref cb), .val (.ref s1), .val (.ref s2), .val (.ref pa), .val (.ref s1), .val (.ref bb), .val (.int ((((0 : Int32) + (own_u1 cu)) + (own_u1 cv)) + (own_u1 cw))), .unset] [])) _
      refine XS.aload X464.here hx rfl (hb hby at_279) rfl rfl ?_
      exact k_)
    obtain ⟨cq466, kq466, q466a, q466b, q466c⟩ := isOf hZ456 e464 E_pa_460
    obtain ⟨_, _, ⟨T466, L466, k466, n466⟩, -, X466, ⟨Lc466, hQ466, l466, y466, z466⟩, st466⟩ := X464.virtualBack hx (y := (⟨"com/example/ledgerpost/ledgerpost/Payload", "toString", "()Ljava/lang/String;"⟩ : MethodName)) (z := (⟨"com/example/ledgerpost/ledgerpost/Payload", "toString", "()Ljava/lang/String;"⟩ : MethodName)) hown456 (mvT hZ456 (hw _ (List.mem_of_getElem? (i := 131) rfl))) (mvT hZ456 (hw _ (List.mem_of_getElem? (i := 132) rfl))) (notFace_of_selects (args := #[]) (mvT hZ456 (hw _ (List.mem_of_getElem? (i := 134) rfl)))) (mvT hZ456 (hw _ (List.mem_of_getElem? (i := 134) rfl))) (mvT hZ456 (hw _ (List.mem_of_getElem? (i := 133) rfl))) (by decide) (backOf (W := 0) (rmTs l Z a0 hw [] pa s1 T456.heap n0 Z463 F0_pa_461) hZ456 (hw _ (List.mem_of_getElem? (i := 135) rfl)) (hw _ (List.mem_of_getElem? (i := 24) rfl)) (by decide) (by decide)) q466a q466c (g := (mkF m 281 #[.val (.int p1), .val (.int p2), .val (.int p3), .val (.int p4), .val (.int (3 : Int32)), .val (.int cu), .val (.int cv), .val (.int cw), .val (.ref ca), .val (.ref cb), .val (.ref s1), .val (.ref s2), .val (.ref pa), .val (.ref s1), .val (.ref bb), .val (.int ((((0 : Int32) + (own_u1 cu)) + (own_u1 cv)) + (own_u1 cw))), .unset] [(.ref pa)])) rfl (by rw [hml]; rfl) (Steps.refl _) (argsL := []) (rest := []) (lenOf pd_23 rfl) rfl (by show 2 * 0 + _ ≤ _; exact Nat.le_of_eq rfl) (hb hby at_281) (fun _ _ => ⟨rfl, e464, (by decide : 14 + 0 ≤ _), (by decide : 94 + 0 ≤ _)⟩)
    dsimp only [Pt.U, Pt.locs, Pt.cells, Pt.slots] at X466 l466 y466 z466 st466 hQ466
    rw [l466, y466, z466] at X466
    obtain ⟨hv466, N466q, e466⟩ := hQ466
    rw [hv466] at st466
    have N466 := Fr.app N464 N466q
    obtain ⟨cq467, kq467, q467a, q467b, q467c⟩ := isOf hZ456 e466 L_458.1
    obtain ⟨_, _, ⟨T467, L467, k467, n467⟩, -, X467, ⟨Lc467, hQ467, l467, y467, z467⟩, st467⟩ := X466.virtualBack hx (y := (⟨"java/lang/String", "equals", "(Ljava/lang/Object;)Z"⟩ : MethodName)) (z := (⟨"java/lang/String", "equals", "(Ljava/lang/Object;)Z"⟩ : MethodName)) hown456 (mvT hZ456 (hw _ (List.mem_of_getElem? (i := 52) rfl))) (mvT hZ456 (hw _ (List.mem_of_getElem? (i := 53) rfl))) (notFace_of_selects (args := #[]) (mvT hZ456 (hw _ (List.mem_of_getElem? (i := 55) rfl)))) (mvT hZ456 (hw _ (List.mem_of_getElem? (i := 55) rfl))) (mvT hZ456 (hw _ (List.mem_of_getElem? (i := 54) rfl))) (by decide) (backOf (W := 0) (rmEs l Z a0 hw [] s1 s1 T456.heap n0 Z463 rfl) hZ456 (hw _ (List.mem_of_getElem? (i := 56) rfl)) (hw _ (List.mem_of_getElem? (i := 3) rfl)) (by decide) (by decide)) q467a q467c (g := (mkF m 295 #[.val (.int p1), .val (.int p2), .val (.int p3), .val (.int p4), .val (.int (3 : Int32)), .val (.int cu), .val (.int cv), .val (.int cw), .val (.ref ca), .val (.ref cb), .val (.ref s1), .val (.ref s2), .val (.ref pa), .val (.ref s1), .val (.ref bb), .val (.int ((((0 : Int32) + (own_u1 cu)) + (own_u1 cv)) + (own_u1 cw))), .val (.ref s1)] [(.ref s1), (.ref s1)])) rfl (by rw [hml]; rfl) (Steps.refl _) (argsL := [(.ref s1)]) (rest := []) (lenOf pd_7 rfl) rfl (by show 2 * 0 + _ ≤ _; exact Nat.le_of_eq rfl) (hb hby at_295) (fun _ _ => ⟨rfl, e466, (by decide : 14 + 0 ≤ _), (by decide : 94 + 0 ≤ _)⟩)
    dsimp only [Pt.U, Pt.locs, Pt.cells, Pt.slots] at X467 l467 y467 z467 st467 hQ467
    rw [l467, y467, z467] at X467
    obtain ⟨hv467, N467q, e467⟩ := hQ467
    rw [hv467] at st467
    have N467 := Fr.app N466 N467q
    have pre468 : ∀ t_, Steps p.tables e below (T467.setTop (mkF m 306 #[.val (.int p1), .val (.int p2), .val (.int p3), .val (.int p4), .val (.int (3 : Int32)), .val (.int cu), .val (.int cv), .val (.int cw), .val (.ref ca), .val (.ref cb), .val (.ref s1), .val (.ref s2), .val (.ref pa), .val (.ref s1), .val (.ref bb), .val (.int ((((0 : Int32) + (own_u1 cu)) + (own_u1 cv)) + (own_u1 cw))), .val (.ref s1)] [(.int (1 : Int32))])) t_ → Steps p.tables e below (s₁.setTop (entryFrame m #[(.int p1), (.int p2), (.int p3), (.int p4)] maxLocals)) t_ := fun t_ k_ => pre465 _ (by
      show Steps p.tables e below (T464.setTop (mkF m 281 #[.val (.int p1), .val (.int p2), .val (.int p3), .val (.int p4), .val (.int (3 : Int32)), .val (.int cu), .val (.int cv), .val (.int cw), .val (.ref ca), .val (.ref cb), .val (.ref s1), .val (.ref s2), .val (.ref pa), .val (.ref s1), .val (.ref bb), .val (.int ((((0 : Int32) + (own_u1 cu)) + (own_u1 cv)) + (own_u1 cw))), .unset] [(.ref pa)])) _
      refine st466.trans ?_
      show Steps p.tables e below (T466.setTop (mkF m 284 #[.val (.int p1), .val (.int p2), .val (.int p3), .val (.int p4), .val (.int (3 : Int32)), .val (.int cu), .val (.int cv), .val (.int cw), .val (.ref ca), .val (.ref cb), .val (.ref s1), .val (.ref s2), .val (.ref pa), .val (.ref s1), .val (.ref bb), .val (.int ((((0 : Int32) + (own_u1 cu)) + (own_u1 cv)) + (own_u1 cw))), .unset] [(.ref s1)])) _
      refine XS.astore X466.here hx rfl (hb hby at_284) rfl rfl (l' := #[.val (.int p1), .val (.int p2), .val (.int p3), .val (.int p4), .val (.int (3 : Int32)), .val (.int cu), .val (.int cv), .val (.int cw), .val (.ref ca), .val (.ref cb), .val (.ref s1), .val (.ref s2), .val (.ref pa), .val (.ref s1), .val (.ref bb), .val (.int ((((0 : Int32) + (own_u1 cu)) + (own_u1 cv)) + (own_u1 cw))), .val (.ref s1)]) rfl ?_
      show Steps p.tables e below (T466.setTop (mkF m 286 #[.val (.int p1), .val (.int p2), .val (.int p3), .val (.int p4), .val (.int (3 : Int32)), .val (.int cu), .val (.int cv), .val (.int cw), .val (.ref ca), .val (.ref cb), .val (.ref s1), .val (.ref s2), .val (.ref pa), .val (.ref s1), .val (.ref bb), .val (.int ((((0 : Int32) + (own_u1 cu)) + (own_u1 cv)) + (own_u1 cw))), .val (.ref s1)] [])) _
      refine XS.aload X466.here hx rfl (hb hby at_286) rfl rfl ?_
      show Steps p.tables e below (T466.setTop (mkF m 288 #[.val (.int p1), .val (.int p2), .val (.int p3), .val (.int p4), .val (.int (3 : Int32)), .val (.int cu), .val (.int cv), .val (.int cw), .val (.ref ca), .val (.ref cb), .val (.ref s1), .val (.ref s2), .val (.ref pa), .val (.ref s1), .val (.ref bb), .val (.int ((((0 : Int32) + (own_u1 cu)) + (own_u1 cv)) + (own_u1 cw))), .val (.ref s1)] [(.ref s1)])) _
      refine XS.ifnullNo X466.here hx rfl (hb hby at_288) rfl ?_
      show Steps p.tables e below (T466.setTop (mkF m 291 #[.val (.int p1), .val (.int p2), .val (.int p3), .val (.int p4), .val (.int (3 : Int32)), .val (.int cu), .val (.int cv), .val (.int cw), .val (.ref ca), .val (.ref cb), .val (.ref s1), .val (.ref s2), .val (.ref pa), .val (.ref s1), .val (.ref bb), .val (.int ((((0 : Int32) + (own_u1 cu)) + (own_u1 cv)) + (own_u1 cw))), .val (.ref s1)] [])) _
      refine XS.aload X466.here hx rfl (hb hby at_291) rfl rfl ?_
      show Steps p.tables e below (T466.setTop (mkF m 293 #[.val (.int p1), .val (.int p2), .val (.int p3), .val (.int p4), .val (.int (3 : Int32)), .val (.int cu), .val (.int cv), .val (.int cw), .val (.ref ca), .val (.ref cb), .val (.ref s1), .val (.ref s2), .val (.ref pa), .val (.ref s1), .val (.ref bb), .val (.int ((((0 : Int32) + (own_u1 cu)) + (own_u1 cv)) + (own_u1 cw))), .val (.ref s1)] [(.ref s1)])) _
      refine XS.aload X466.here hx rfl (hb hby at_293) rfl rfl ?_
      show Steps p.tables e below (T466.setTop (mkF m 295 #[.val (.int p1), .val (.int p2), .val (.int p3), .val (.int p4), .val (.int (3 : Int32)), .val (.int cu), .val (.int cv), .val (.int cw), .val (.ref ca), .val (.ref cb), .val (.ref s1), .val (.ref s2), .val (.ref pa), .val (.ref s1), .val (.ref bb), .val (.int ((((0 : Int32) + (own_u1 cu)) + (own_u1 cv)) + (own_u1 cw))), .val (.ref s1)] [(.ref s1), (.ref s1)])) _
      refine st467.trans ?_
      show Steps p.tables e below (T467.setTop (mkF m 298 #[.val (.int p1), .val (.int p2), .val (.int p3), .val (.int p4), .val (.int (3 : Int32)), .val (.int cu), .val (.int cv), .val (.int cw), .val (.ref ca), .val (.ref cb), .val (.ref s1), .val (.ref s2), .val (.ref pa), .val (.ref s1), .val (.ref bb), .val (.int ((((0 : Int32) + (own_u1 cu)) + (own_u1 cv)) + (own_u1 cw))), .val (.ref s1)] [(.int (1 : Int32))])) _
      refine XS.ifNo X467.here hx rfl (hb hby at_298) rfl ((if0 _ _).trans (feq (by decide : ¬ (1 : Int32) = 0)).1) ?_
      show Steps p.tables e below (T467.setTop (mkF m 301 #[.val (.int p1), .val (.int p2), .val (.int p3), .val (.int p4), .val (.int (3 : Int32)), .val (.int cu), .val (.int cv), .val (.int cw), .val (.ref ca), .val (.ref cb), .val (.ref s1), .val (.ref s2), .val (.ref pa), .val (.ref s1), .val (.ref bb), .val (.int ((((0 : Int32) + (own_u1 cu)) + (own_u1 cv)) + (own_u1 cw))), .val (.ref s1)] [])) _
      refine XS.iconst X467.here hx rfl (hb hby at_301) ?_
      show Steps p.tables e below (T467.setTop (mkF m 302 #[.val (.int p1), .val (.int p2), .val (.int p3), .val (.int p4), .val (.int (3 : Int32)), .val (.int cu), .val (.int cv), .val (.int cw), .val (.ref ca), .val (.ref cb), .val (.ref s1), .val (.ref s2), .val (.ref pa), .val (.ref s1), .val (.ref bb), .val (.int ((((0 : Int32) + (own_u1 cu)) + (own_u1 cv)) + (own_u1 cw))), .val (.ref s1)] [(.int (1 : Int32))])) _
      refine XS.goto X467.here hx rfl (pc0 := 302) (pc' := 306) rfl (hb hby at_302) (by decide) (by decide) ?_
      exact k_)
    obtain ⟨fs, hr, hrun, hended, hWr, hW1, hW2, hsame⟩ := Jvm.Stand.leaveW (s := s) X467 hS456' (by rw [e467]; exact (Nat.le_refl _)) (v := some (.int (1 : Int32))) (fun h => by rw [Bd.returns] at h; cases h)
    refine ⟨_, _, pre468 _ ?_, hrun, hended, _, _, rfl, ?_, hWr, hW1, hW2, hsame.mono (by decide) (by decide)⟩
    · show Steps p.tables e below (T467.setTop (mkF m 306 #[.val (.int p1), .val (.int p2), .val (.int p3), .val (.int p4), .val (.int (3 : Int32)), .val (.int cu), .val (.int cv), .val (.int cw), .val (.ref ca), .val (.ref cb), .val (.ref s1), .val (.ref s2), .val (.ref pa), .val (.ref s1), .val (.ref bb), .val (.int ((((0 : Int32) + (own_u1 cu)) + (own_u1 cv)) + (own_u1 cw))), .val (.ref s1)] [(.int (1 : Int32))])) _
      exact retN X467 hx (t := .boolean) Bd.returns (by simp) (hb hby at_306) hr
    · show Qrm0 Z p1 p2 p3 p4 zc uu h0 n0 _ T467.heap _
      rw [e467]
      exact ⟨rfl, N467⟩
set_option maxRecDepth 65536 in
set_option maxHeartbeats 40000000 in
theorem comes_1 {Post : Tables → Env → Array Value → State → Outcome → State → Prop} (hpost : ∀ tb e args s v u, (limb_1_1.after args s (.returned v) u = true ∧ limb_1_2.after args s (.returned v) u = true ∧ True) → ReturnedEndW s (.returned v) u (Jvm.fieldLocs frame_1_writes args s ++ Jvm.arrayLocs frame_1_arrays args s ++ Jvm.staticLocs frame_1_statics s) 32 2240 → Post tb e args s (.returned v) u) :
    ArmFor flags0 classFile x code maxLocals ret World_1 tables_1 room_1 Calls_1 rest_1 Pre_1 Post := by
  intro l hfl _ _ p e ha hc hk s m args below hf hA hF happ hP
  obtain ⟨hcalls, hrest, hpre⟩ := hP
  obtain ⟨-, -, -, hnamed, -, -, -, hat⟩ := (Spec.applies_iff hf).mp happ
  obtain ⟨hg, hn⟩ := and_e (Cond.before_iff.mp (show (Jvm.Cond.and given_1 narrow_1).before args s = true from hpre))
  obtain ⟨gg1, gg2⟩ := and_e hg
  obtain ⟨gg3, gg4⟩ := and_e gg2
  obtain ⟨gg5, gg6⟩ := and_e gg4
  obtain ⟨gg7, gg8⟩ := and_e gg6
  obtain ⟨w0, w1, w2, w3, rfl⟩ : ∃ w0 w1 w2 w3 : Value, args = #[w0, w1, w2, w3] := by
    have hs : args.size = 4 := by simpa [Cond.value, given_1] using gg1
    obtain ⟨L⟩ := args
    match L, hs with
    | [w0, w1, w2, w3], _ => exact ⟨w0, w1, w2, w3, rfl⟩
  have hw := fun d (hd : d ∈ tables_1) => atoms_spec (ws := Jvm.Cond.code x code maxLocals ret :: tables_1) hat d (List.mem_cons_of_mem _ hd)
  have hfit : Fit s := fun {y c} hc i hi => by
    obtain ⟨ha, rfl⟩ := Array.getElem?_eq_some_iff.mp hc
    have q := List.all_eq_true.mp ((Array.all_eq_true_iff_forall_mem.mp hF) _ (Array.getElem_mem ha)) i (List.mem_range.mpr hi)
    simpa [Array.getElem?_eq_getElem hi] using q
  obtain ⟨i0, ei0⟩ := is_v gg3
  obtain rfl : w0 = (.int i0) := Option.some.inj ei0
  obtain ⟨i1, ei1⟩ := is_v gg5
  obtain rfl : w1 = (.int i1) := Option.some.inj ei1
  obtain ⟨i2, ei2⟩ := is_v gg7
  obtain rfl : w2 = (.int i2) := Option.some.inj ei2
  obtain ⟨i3, ei3⟩ := is_v gg8
  obtain rfl : w3 = (.int i3) := Option.some.inj ei3
  obtain ⟨hsets, hown0⟩ := atoms_of _ (rest_1_c_eq ▸ (show rest_1_c.before _ s = true from hrest))
  obtain ⟨zc, ezc⟩ := is_v (Cond.before_iff.mp (hsets _ (List.mem_of_getElem? (i := 1) rfl)))
  have S_c := Sta.start ezc (Or.inl (hsets _ (List.mem_of_getElem? (i := 0) rfl)))
  have hzc : ¬ zc = 0 := gotF (Cond.eq_ints ezc (Term.int_eval 0)) (not_v (Cond.before_iff.mp (hsets _ (List.mem_of_getElem? (i := 2) rfl))))
  have hCH : CHv s own_EL s.vm s.heap := CHv.start (a0 := _) (own_EW hw) (fun p hp => hcalls.1 p hp) (hsets _ (List.mem_of_getElem? (i := 2) rfl)) (hw _ (List.mem_of_getElem? (i := 15) rfl)) (hw _ (List.mem_of_getElem? (i := 2) rfl))
  obtain ⟨uu, euu⟩ := exa_v (Cond.before_iff.mp (hsets _ (List.mem_of_getElem? (i := 17) rfl)))
  have S_i := Sta.start euu (Or.inl (hsets _ (List.mem_of_getElem? (i := 16) rfl)))
  have S_u := Sta.start (Cond.eq_refs (hsets _ (List.mem_of_getElem? (i := 13) rfl)) euu rfl) (Or.inl (hsets _ (List.mem_of_getElem? (i := 10) rfl)))
  obtain ⟨n, o, h1, h2, h3, _, L, rfl, ⟨rfl, N⟩, hq⟩ := rm0 l s _ hw tables_1 i0 i1 i2 i3 zc uu s.heap s.heap.size (Nat.le_refl _) (Old.start s) S_c hzc S_u S_i p e ha hc hk s m _ below hf ((Spec.applies_iff_loose hf).mp happ).1 ⟨rfl, State.Warmed39.refl s, rfl, hCH⟩ trivial
  refine ⟨n, _, h1, h2, h3, hpost _ _ _ _ _ _ ⟨Cond.after_iff.mpr rfl, Cond.after_iff.mpr (eq_i res_at (Term.int_eval (1)) rfl), trivial⟩ ⟨hq.1, hq.2.1, hq.2.2.1, (hq.2.2.2.sift fun y hy => Or.inr (N y hy)).mono (by decide) (by decide)⟩⟩
theorem main_1_1 : Claimed_1_1 := comes_1 fun _ _ _ _ _ _ h hF => ⟨h.1, hF⟩
theorem main_1_2 : Claimed_1_2 := comes_1 fun _ _ _ _ _ _ h hF => ⟨h.2.1, hF⟩
end Jvm.Pilot.@@N@@
namespace Jvm.Pilot.@@N@@
open Jvm Jvm.ClassFile Sem Op Lib Jvm.Free Jvm.Stand Jvm.Pilot.@@N@@.Jvm.D
/-! MADE BY PROGRAM (witnessworld.py) out of the Statement's table words and the real class files: 30 classes; the members and pool entries that the words name. The judged class is class 1, her method 3. -/
namespace start1
open Jvm.ClassFile
def u (s : String) : CpInfo := .utf8 (stringToUtf16 s)
/-- a pool by its gaps: so many unusable entries, then the entry; so many at the end -/
def gap : Nat → List CpInfo → List CpInfo
  | 0, r => r
  | n + 1, r => .unusable :: gap n r
def poolList (es : List (Nat × CpInfo)) (last : Nat) : List CpInfo := es.foldr (fun e r => gap e.1 (e.2 :: r)) (gap last [])
def pool (es : List (Nat × CpInfo)) (last : Nat) : Array CpInfo := ⟨poolList es last⟩
def fileOf (pool : Array CpInfo) (this : Nat) (attrs : Array Attribute := #[]) (ms : Array MethodInfo := #[]) (fl : Nat := 33) (sup : Nat := 0) (ifs : Array Nat := #[]) (fds : Array FieldInfo := #[]) : ClassFile where
  minorVersion := 0
  majorVersion := 65
  constantPool := pool
  accessFlags := fl
  thisClass := this
  superClass := sup
  interfaces := ifs
  fields := fds
  methods := ms
  attributes := attrs
def plain (name : String) (sup : Option ClassId) : Class where
  name := name
  kind := .ordinary
  loader := none
  accessFlags := 33
  super := sup
  interfaces := #[]
  cf := none
  fields := #[]
  methods := #[]
  instanceTypes := #[]
  staticTypes := #[]
  resolved := #[]
  callSites := []
  init := .initialized
  statics := none
  mirror := none

def pool0 : Array CpInfo := pool [(5, u "<init>"), (0, u "()V"), (1, .class_ 10), (1, u "java/lang/Object"), (81, u "equals"), (0, u "(Ljava/lang/Object;)Z"), (2, u "clone"), (0, u "()Ljava/lang/Object;")] 26

def k0c0 : Code := { maxStack := 0, maxLocals := 1, code := object_method_1_code, exceptionTable := #[], attributes := #[] }
def k0m0 : Method := { name := "<init>", desc := "()V", sig := { parameters := [], returnType := none }, accessFlags := 1, code := some k0c0 }
def k0c1 : Code := { maxStack := 2, maxLocals := 2, code := ⟨#[0x2a, 0x2b, 0xa6, 0x00, 0x07, 0x04, 0xa7, 0x00, 0x04, 0x03, 0xac]⟩, exceptionTable := #[], attributes := #[] }
def k0m1 : Method := { name := "equals", desc := "(Ljava/lang/Object;)Z", sig := { parameters := [(.object "java/lang/Object")], returnType := some .boolean }, accessFlags := 1, code := some k0c1 }
def k0m2 : Method := { name := "clone", desc := "()Ljava/lang/Object;", sig := { parameters := [], returnType := some (.object "java/lang/Object") }, accessFlags := 260, code := none }
/-- java/lang/Object -/
def k0 : Class := { plain "java/lang/Object" none with
  accessFlags := 33
  interfaces := #[]
  cf := some (fileOf pool0 8 #[] #[{ accessFlags := 1, nameIndex := 5, descriptorIndex := 6, attributes := #[] }, { accessFlags := 1, nameIndex := 92, descriptorIndex := 93, attributes := #[] }, { accessFlags := 260, nameIndex := 96, descriptorIndex := 97, attributes := #[] }] 33 0 #[] #[])
  fields := #[]
  methods := #[k0m0, k0m1, k0m2]
  instanceTypes := #[]
  staticTypes := #[]
  resolved := Array.replicate 124 none
  statics := none }

def pool1 : Array CpInfo := pool [(2, .class_ 4), (1, u "java/lang/Object"), (0, u "<init>"), (0, u "()V"), (0, .class_ 8), (0, u "java/lang/String"), (0, .methodref 7 10), (0, .nameAndType 5 11), (0, u "([C)V"), (0, .methodref 13 14), (0, .class_ 15), (0, .nameAndType 16 17), (0, u "com/example/ledgerpost/ledgerpost/Payload"), (0, u "ofText"), (0, u "(Ljava/lang/String;)Lcom/example/ledgerpost/ledgerpost/Payload;"), (0, .methodref 13 19), (0, .nameAndType 20 21), (0, u "isText"), (0, u "()Z"), (0, .methodref 13 23), (0, .nameAndType 24 25), (0, u "text"), (0, u "()Ljava/lang/String;"), (0, .methodref 7 27), (0, .nameAndType 28 29), (0, u "equals"), (0, u "(Ljava/lang/Object;)Z"), (0, .methodref 13 31), (0, .nameAndType 32 33), (0, u "length"), (0, u "()J"), (0, .methodref 13 35), (0, .nameAndType 36 37), (0, u "bytes"), (0, u "()[B"), (0, .methodref 39 40), (0, .class_ 41), (0, .nameAndType 42 43), (0, u "com/example/ledgerpost/ledgerpost/PayloadOfTextPinLaw"), (0, u "utf8Len"), (0, u "(C)I"), (0, .methodref 39 45), (0, .nameAndType 46 43), (0, u "firstByte"), (0, .methodref 13 27), (0, .methodref 13 49), (0, .nameAndType 50 25), (0, u "toString"), (3, u "law"), (0, u "(IIII)Z")] 6

def k1m0 : Method := { name := "<init>", desc := "()V", sig := { parameters := [], returnType := none }, accessFlags := 1, code := none }
def k1c1 : Code := { maxStack := 2, maxLocals := 1, code := method_2_code, exceptionTable := #[], attributes := #[] }
def k1m1 : Method := { name := "utf8Len", desc := "(C)I", sig := { parameters := [.char], returnType := some .int }, accessFlags := 10, code := some k1c1 }
def k1c2 : Code := { maxStack := 3, maxLocals := 1, code := method_3_code, exceptionTable := #[], attributes := #[] }
def k1m2 : Method := { name := "firstByte", desc := "(C)I", sig := { parameters := [.char], returnType := some .int }, accessFlags := 10, code := some k1c2 }
def k1c3 : Code := { maxStack := 4, maxLocals := 17, code := code, exceptionTable := #[], attributes := #[] }
def k1m3 : Method := { name := "law", desc := "(IIII)Z", sig := { parameters := [.int, .int, .int, .int], returnType := some .boolean }, accessFlags := 9, code := some k1c3 }
/-- com/example/ledgerpost/ledgerpost/PayloadOfTextPinLaw -/
def k1 : Class := { plain "com/example/ledgerpost/ledgerpost/PayloadOfTextPinLaw" (some 0) with
  accessFlags := 49
  interfaces := #[]
  cf := some (fileOf pool1 39 #[] #[{ accessFlags := 1, nameIndex := 5, descriptorIndex := 6, attributes := #[] }, { accessFlags := 10, nameIndex := 42, descriptorIndex := 43, attributes := #[] }, { accessFlags := 10, nameIndex := 46, descriptorIndex := 43, attributes := #[] }, { accessFlags := 9, nameIndex := 54, descriptorIndex := 55, attributes := #[] }] 49 2 #[] #[])
  fields := #[]
  methods := #[k1m0, k1m1, k1m2, k1m3]
  instanceTypes := #[]
  staticTypes := #[]
  resolved := Array.replicate 62 none
  statics := none }

def pool2 : Array CpInfo := pool [(1, .class_ 2), (0, u "java/io/Serializable"), (0, .class_ 4), (0, u "java/lang/Object")] 2

/-- java/io/Serializable -/
def k2 : Class := { plain "java/io/Serializable" (some 0) with
  accessFlags := 1537
  interfaces := #[]
  cf := some (fileOf pool2 1 #[] #[] 1537 3 #[] #[])
  fields := #[]
  methods := #[]
  instanceTypes := #[]
  staticTypes := #[]
  resolved := Array.replicate 7 none
  statics := none }

def pool3 : Array CpInfo := pool [(1, .class_ 2), (0, u "java/lang/Comparable"), (0, .class_ 4), (0, u "java/lang/Object")] 7

/-- java/lang/Comparable -/
def k3 : Class := { plain "java/lang/Comparable" (some 0) with
  accessFlags := 1537
  interfaces := #[]
  cf := some (fileOf pool3 1 #[] #[] 1537 3 #[] #[])
  fields := #[]
  methods := #[]
  instanceTypes := #[]
  staticTypes := #[]
  resolved := Array.replicate 12 none
  statics := none }

def pool4 : Array CpInfo := pool [(2, .class_ 4), (1, u "java/lang/CharSequence"), (42, .class_ 48), (0, u "java/lang/CharSequence$1CodePointIterator"), (10, .class_ 60), (0, u "java/lang/CharSequence$1CharIterator"), (5, .class_ 67), (0, u "java/lang/Object")] 63

/-- java/lang/CharSequence -/
def k4 : Class := { plain "java/lang/CharSequence" (some 0) with
  accessFlags := 1537
  interfaces := #[]
  cf := some (fileOf pool4 2 #[.nestMembers #[47, 59]] #[] 1537 66 #[] #[])
  fields := #[]
  methods := #[]
  instanceTypes := #[]
  staticTypes := #[]
  resolved := Array.replicate 131 none
  statics := none }

def pool5 : Array CpInfo := pool [(1, .class_ 2), (0, u "java/lang/constant/Constable"), (0, .class_ 4), (0, u "java/lang/Object")] 6

/-- java/lang/constant/Constable -/
def k5 : Class := { plain "java/lang/constant/Constable" (some 0) with
  accessFlags := 1537
  interfaces := #[]
  cf := some (fileOf pool5 1 #[] #[] 1537 3 #[] #[])
  fields := #[]
  methods := #[]
  instanceTypes := #[]
  staticTypes := #[]
  resolved := Array.replicate 11 none
  statics := none }

def pool6 : Array CpInfo := pool [(1, .class_ 2), (0, u "java/lang/constant/ConstantDesc"), (0, .class_ 4), (0, u "java/lang/Object")] 32

/-- java/lang/constant/ConstantDesc -/
def k6 : Class := { plain "java/lang/constant/ConstantDesc" (some 0) with
  accessFlags := 1537
  interfaces := #[]
  cf := some (fileOf pool6 1 #[] #[] 1537 3 #[] #[])
  fields := #[]
  methods := #[]
  instanceTypes := #[]
  staticTypes := #[]
  resolved := Array.replicate 37 none
  statics := none }

def pool7 : Array CpInfo := pool [(1, .methodref 2 3), (0, .class_ 4), (0, .nameAndType 5 6), (0, u "java/lang/Object"), (0, u "<init>"), (0, u "()V"), (0, .string 8), (0, u ""), (0, .fieldref 10 11), (0, .class_ 12), (0, .nameAndType 13 14), (0, u "java/lang/String"), (0, u "value"), (0, u "[B"), (0, .fieldref 10 16), (0, .nameAndType 17 18), (0, u "coder"), (0, u "B"), (2, u "hash"), (0, u "I"), (2, u "hashIsZero"), (0, u "Z"), (0, .methodref 10 28), (0, .nameAndType 5 29), (0, u "([CIILjava/lang/Void;)V"), (8, .fieldref 10 39), (0, .nameAndType 40 26), (0, u "COMPACT_STRINGS"), (1, .class_ 44), (1, u "java/lang/StringUTF16"), (0, u "compress"), (1, .methodref 42 48), (0, .nameAndType 49 50), (0, u "coderFromArrayLen"), (0, u "([BI)B"), (4, .class_ 57), (1, u "java/util/Arrays"), (2, .methodref 42 61), (0, .nameAndType 62 63), (0, u "newBytesFor"), (0, u "(I)[B"), (22, .fieldref 87 88), (0, .class_ 89), (0, .nameAndType 90 91), (0, u "sun/nio/cs/UTF_8"), (0, u "INSTANCE"), (0, u "Lsun/nio/cs/UTF_8;"), (1, .class_ 95), (1, u "java/lang/StringCoding"), (6, .methodref 55 103), (0, .nameAndType 104 105), (0, u "copyOf"), (0, u "([BI)[B"), (1, .class_ 109), (1, u "java/lang/StringLatin1"), (18, .methodref 93 129), (0, .nameAndType 130 131), (0, u "hasNegatives"), (0, u "([BII)Z"), (45, .methodref 42 178), (0, .nameAndType 45 179), (0, u "([CII)[B"), (72, .methodref 10 253), (0, .nameAndType 254 255), (0, u "encodeUTF8"), (0, u "(B[BZ)[B"), (23, .methodref 280 281), (0, .class_ 14), (0, .nameAndType 282 283), (0, u "clone"), (0, u "()Ljava/lang/Object;"), (33, u "encode"), (16, u "()I"), (0, .methodref 10 336), (0, .nameAndType 17 337), (0, u "()B"), (169, u "length"), (24, u "getBytes"), (2, .methodref 10 536), (0, .nameAndType 317 537), (0, u "(Ljava/nio/charset/Charset;B[B)[B"), (3, .methodref 107 542), (0, .nameAndType 543 544), (0, u "equals"), (0, u "([B[B)Z"), (28, u "(Ljava/lang/Object;)Z"), (1, .class_ 576), (0, u "java/lang/CharSequence"), (22, u "CASE_INSENSITIVE_ORDER"), (0, u "Ljava/util/Comparator;"), (409, u "([C)V"), (90, u "serialPersistentFields"), (0, u "[Ljava/io/ObjectStreamField;"), (0, .class_ 1104), (0, u "java/lang/String$CaseInsensitiveComparator"), (1, .class_ 1107), (0, u "java/io/Serializable"), (0, .class_ 1109), (0, u "java/lang/Comparable"), (0, .class_ 1111), (0, u "java/lang/constant/Constable"), (0, .class_ 1113), (0, u "java/lang/constant/ConstantDesc"), (2, u "serialVersionUID"), (0, u "J"), (3, u "REPL"), (0, u "C"), (2, u "LATIN1"), (1, u "UTF16"), (117, u "(Ljava/nio/charset/Charset;)[B")] 205

def k7m0 : Method := { name := "<init>", desc := "()V", sig := { parameters := [], returnType := none }, accessFlags := 1, code := none }
def k7c1 : Code := { maxStack := 5, maxLocals := 2, code := jdk_42_method_3_code, exceptionTable := #[], attributes := #[] }
def k7m1 : Method := { name := "<init>", desc := "([C)V", sig := { parameters := [(.array .char)], returnType := none }, accessFlags := 1, code := some k7c1 }
def k7c2 : Code := { maxStack := 4, maxLocals := 3, code := jdk_42_method_18_code, exceptionTable := #[], attributes := #[] }
def k7m2 : Method := { name := "encode", desc := "(Ljava/nio/charset/Charset;B[B)[B", sig := { parameters := [(.object "java/nio/charset/Charset"), .byte, (.array .byte)], returnType := some (.array .byte) }, accessFlags := 10, code := some k7c2 }
def k7c3 : Code := { maxStack := 5, maxLocals := 9, code := jdk_42_method_46_code, exceptionTable := #[], attributes := #[] }
def k7m3 : Method := { name := "encodeUTF8", desc := "(B[BZ)[B", sig := { parameters := [.byte, (.array .byte), .boolean], returnType := some (.array .byte) }, accessFlags := 10, code := some k7c3 }
def k7c4 : Code := { maxStack := 2, maxLocals := 1, code := jdk_42_method_54_code, exceptionTable := #[], attributes := #[] }
def k7m4 : Method := { name := "length", desc := "()I", sig := { parameters := [], returnType := some .int }, accessFlags := 1, code := some k7c4 }
def k7c5 : Code := { maxStack := 3, maxLocals := 2, code := jdk_42_method_64_code, exceptionTable := #[], attributes := #[] }
def k7m5 : Method := { name := "getBytes", desc := "(Ljava/nio/charset/Charset;)[B", sig := { parameters := [(.object "java/nio/charset/Charset")], returnType := some (.array .byte) }, accessFlags := 1, code := some k7c5 }
def k7c6 : Code := { maxStack := 2, maxLocals := 3, code := jdk_42_method_66_code, exceptionTable := #[], attributes := #[] }
def k7m6 : Method := { name := "equals", desc := "(Ljava/lang/Object;)Z", sig := { parameters := [(.object "java/lang/Object")], returnType := some .boolean }, accessFlags := 1, code := some k7c6 }
def k7c7 : Code := { maxStack := 4, maxLocals := 6, code := jdk_42_method_149_code, exceptionTable := #[], attributes := #[] }
def k7m7 : Method := { name := "<init>", desc := "([CIILjava/lang/Void;)V", sig := { parameters := [(.array .char), .int, .int, (.object "java/lang/Void")], returnType := none }, accessFlags := 2, code := some k7c7 }
def k7c8 : Code := { maxStack := 1, maxLocals := 1, code := jdk_42_method_152_code, exceptionTable := #[], attributes := #[] }
def k7m8 : Method := { name := "coder", desc := "()B", sig := { parameters := [], returnType := some .byte }, accessFlags := 0, code := some k7c8 }
/-- java/lang/String -/
def k7 : Class := { plain "java/lang/String" (some 0) with
  accessFlags := 49
  interfaces := #[2, 3, 4, 5, 6]
  cf := some (fileOf pool7 10 #[.nestMembers #[1103]] #[{ accessFlags := 1, nameIndex := 5, descriptorIndex := 6, attributes := #[] }, { accessFlags := 1, nameIndex := 5, descriptorIndex := 1010, attributes := #[] }, { accessFlags := 10, nameIndex := 317, descriptorIndex := 537, attributes := #[] }, { accessFlags := 10, nameIndex := 254, descriptorIndex := 255, attributes := #[] }, { accessFlags := 1, nameIndex := 507, descriptorIndex := 334, attributes := #[] }, { accessFlags := 1, nameIndex := 532, descriptorIndex := 1245, attributes := #[] }, { accessFlags := 1, nameIndex := 543, descriptorIndex := 573, attributes := #[] }, { accessFlags := 2, nameIndex := 5, descriptorIndex := 29, attributes := #[] }, { accessFlags := 0, nameIndex := 17, descriptorIndex := 337, attributes := #[] }] 49 2 #[1106, 1108, 575, 1110, 1112] #[{ accessFlags := 18, nameIndex := 13, descriptorIndex := 14, attributes := #[] }, { accessFlags := 18, nameIndex := 17, descriptorIndex := 18, attributes := #[] }, { accessFlags := 2, nameIndex := 21, descriptorIndex := 22, attributes := #[] }, { accessFlags := 2, nameIndex := 25, descriptorIndex := 26, attributes := #[] }, { accessFlags := 26, nameIndex := 1116, descriptorIndex := 1117, attributes := #[] }, { accessFlags := 24, nameIndex := 40, descriptorIndex := 26, attributes := #[] }, { accessFlags := 26, nameIndex := 1101, descriptorIndex := 1102, attributes := #[] }, { accessFlags := 26, nameIndex := 1121, descriptorIndex := 1122, attributes := #[] }, { accessFlags := 25, nameIndex := 599, descriptorIndex := 600, attributes := #[] }, { accessFlags := 24, nameIndex := 1125, descriptorIndex := 18, attributes := #[] }, { accessFlags := 24, nameIndex := 1127, descriptorIndex := 18, attributes := #[] }])
  fields := #[{ name := "value", type := (.array .byte), accessFlags := 18, slot := 0, constantValue := 0 }, { name := "coder", type := .byte, accessFlags := 18, slot := 1, constantValue := 0 }, { name := "hash", type := .int, accessFlags := 2, slot := 2, constantValue := 0 }, { name := "hashIsZero", type := .boolean, accessFlags := 2, slot := 3, constantValue := 0 }, { name := "serialVersionUID", type := .long, accessFlags := 26, slot := 0, constantValue := 0 }, { name := "COMPACT_STRINGS", type := .boolean, accessFlags := 24, slot := 1, constantValue := 0 }, { name := "serialPersistentFields", type := (.array (.object "java/io/ObjectStreamField")), accessFlags := 26, slot := 2, constantValue := 0 }, { name := "REPL", type := .char, accessFlags := 26, slot := 3, constantValue := 0 }, { name := "CASE_INSENSITIVE_ORDER", type := (.object "java/util/Comparator"), accessFlags := 25, slot := 4, constantValue := 0 }, { name := "LATIN1", type := .byte, accessFlags := 24, slot := 5, constantValue := 0 }, { name := "UTF16", type := .byte, accessFlags := 24, slot := 6, constantValue := 0 }]
  methods := #[k7m0, k7m1, k7m2, k7m3, k7m4, k7m5, k7m6, k7m7, k7m8]
  instanceTypes := #[(.array .byte), .byte, .int, .boolean]
  staticTypes := #[.long, .boolean, (.array (.object "java/io/ObjectStreamField")), .char, (.object "java/util/Comparator"), .byte, .byte]
  resolved := Array.replicate 1451 none
  statics := some 0 }

def pool8 : Array CpInfo := pool [(1, .methodref 2 3), (0, .class_ 4), (0, .nameAndType 5 6), (0, u "java/lang/Object"), (0, u "<init>"), (0, u "()V"), (0, .fieldref 8 9), (0, .class_ 10), (0, .nameAndType 11 12), (0, u "com/example/ledgerpost/ledgerpost/Payload"), (0, u "text"), (0, u "Ljava/lang/String;"), (0, .fieldref 8 14), (0, .nameAndType 15 16), (0, u "bytes"), (0, u "[B"), (0, .string 11), (0, .methodref 19 20), (0, .class_ 21), (0, .nameAndType 22 23), (0, u "java/util/Objects"), (0, u "requireNonNull"), (0, u "(Ljava/lang/Object;Ljava/lang/String;)Ljava/lang/Object;"), (0, .class_ 25), (0, u "java/lang/String"), (0, .methodref 8 27), (0, .nameAndType 5 28), (0, u "(Ljava/lang/String;[B)V"), (6, .fieldref 36 37), (0, .class_ 38), (0, .nameAndType 39 40), (0, u "java/nio/charset/StandardCharsets"), (0, u "UTF_8"), (0, u "Ljava/nio/charset/Charset;"), (0, .methodref 24 42), (0, .nameAndType 43 44), (0, u "getBytes"), (0, u "(Ljava/nio/charset/Charset;)[B"), (0, .methodref 24 46), (0, .nameAndType 47 48), (0, u "length"), (0, u "()I"), (0, .methodref 19 50), (0, .nameAndType 51 52), (0, u "equals"), (0, u "(Ljava/lang/Object;Ljava/lang/Object;)Z"), (0, .methodref 54 55), (0, .class_ 56), (0, .nameAndType 51 57), (0, u "java/util/Arrays"), (0, u "([B[B)Z"), (12, u "ofText"), (0, u "(Ljava/lang/String;)Lcom/example/ledgerpost/ledgerpost/Payload;"), (2, u "isText"), (0, u "()Z"), (1, u "()Ljava/lang/String;"), (0, u "()[B"), (0, u "()J"), (0, u "(Ljava/lang/Object;)Z"), (0, u "toString")] 17

def k8c0 : Code := { maxStack := 2, maxLocals := 3, code := prog_22_method_1_code, exceptionTable := #[], attributes := #[] }
def k8m0 : Method := { name := "<init>", desc := "(Ljava/lang/String;[B)V", sig := { parameters := [(.object "java/lang/String"), (.array .byte)], returnType := none }, accessFlags := 2, code := some k8c0 }
def k8c1 : Code := { maxStack := 4, maxLocals := 1, code := prog_22_method_2_code, exceptionTable := #[], attributes := #[] }
def k8m1 : Method := { name := "ofText", desc := "(Ljava/lang/String;)Lcom/example/ledgerpost/ledgerpost/Payload;", sig := { parameters := [(.object "java/lang/String")], returnType := some (.object "com/example/ledgerpost/ledgerpost/Payload") }, accessFlags := 9, code := some k8c1 }
def k8c2 : Code := { maxStack := 1, maxLocals := 1, code := prog_22_method_4_code, exceptionTable := #[], attributes := #[] }
def k8m2 : Method := { name := "isText", desc := "()Z", sig := { parameters := [], returnType := some .boolean }, accessFlags := 1, code := some k8c2 }
def k8c3 : Code := { maxStack := 1, maxLocals := 1, code := prog_22_method_5_code, exceptionTable := #[], attributes := #[] }
def k8m3 : Method := { name := "text", desc := "()Ljava/lang/String;", sig := { parameters := [], returnType := some (.object "java/lang/String") }, accessFlags := 1, code := some k8c3 }
def k8c4 : Code := { maxStack := 2, maxLocals := 1, code := prog_22_method_6_code, exceptionTable := #[], attributes := #[] }
def k8m4 : Method := { name := "bytes", desc := "()[B", sig := { parameters := [], returnType := some (.array .byte) }, accessFlags := 1, code := some k8c4 }
def k8c5 : Code := { maxStack := 2, maxLocals := 1, code := prog_22_method_7_code, exceptionTable := #[], attributes := #[] }
def k8m5 : Method := { name := "length", desc := "()J", sig := { parameters := [], returnType := some .long }, accessFlags := 0, code := some k8c5 }
def k8c6 : Code := { maxStack := 2, maxLocals := 3, code := prog_22_method_8_code, exceptionTable := #[], attributes := #[] }
def k8m6 : Method := { name := "equals", desc := "(Ljava/lang/Object;)Z", sig := { parameters := [(.object "java/lang/Object")], returnType := some .boolean }, accessFlags := 1, code := some k8c6 }
def k8c7 : Code := { maxStack := 1, maxLocals := 1, code := prog_22_method_10_code, exceptionTable := #[], attributes := #[] }
def k8m7 : Method := { name := "toString", desc := "()Ljava/lang/String;", sig := { parameters := [], returnType := some (.object "java/lang/String") }, accessFlags := 1, code := some k8c7 }
/-- com/example/ledgerpost/ledgerpost/Payload -/
def k8 : Class := { plain "com/example/ledgerpost/ledgerpost/Payload" (some 0) with
  accessFlags := 49
  interfaces := #[]
  cf := some (fileOf pool8 8 #[] #[{ accessFlags := 2, nameIndex := 5, descriptorIndex := 28, attributes := #[] }, { accessFlags := 9, nameIndex := 70, descriptorIndex := 71, attributes := #[] }, { accessFlags := 1, nameIndex := 74, descriptorIndex := 75, attributes := #[] }, { accessFlags := 1, nameIndex := 11, descriptorIndex := 77, attributes := #[] }, { accessFlags := 1, nameIndex := 15, descriptorIndex := 78, attributes := #[] }, { accessFlags := 0, nameIndex := 47, descriptorIndex := 79, attributes := #[] }, { accessFlags := 1, nameIndex := 51, descriptorIndex := 80, attributes := #[] }, { accessFlags := 1, nameIndex := 81, descriptorIndex := 77, attributes := #[] }] 49 2 #[] #[{ accessFlags := 18, nameIndex := 11, descriptorIndex := 12, attributes := #[] }, { accessFlags := 18, nameIndex := 15, descriptorIndex := 16, attributes := #[] }])
  fields := #[{ name := "text", type := (.object "java/lang/String"), accessFlags := 18, slot := 0, constantValue := 0 }, { name := "bytes", type := (.array .byte), accessFlags := 18, slot := 1, constantValue := 0 }]
  methods := #[k8m0, k8m1, k8m2, k8m3, k8m4, k8m5, k8m6, k8m7]
  instanceTypes := #[(.object "java/lang/String"), (.array .byte)]
  staticTypes := #[]
  resolved := Array.replicate 99 none
  statics := none }

def pool9 : Array CpInfo := pool [(2, .class_ 4), (1, u "java/lang/Object"), (0, u "<init>"), (0, u "()V"), (7, .methodref 2 15), (0, .nameAndType 16 17), (0, u "equals"), (0, u "(Ljava/lang/Object;)Z"), (5, u "(Ljava/lang/Object;Ljava/lang/Object;)Z"), (18, .class_ 44), (1, u "java/util/Objects"), (0, u "requireNonNull"), (48, u "(Ljava/lang/Object;Ljava/lang/String;)Ljava/lang/Object;")] 89

def k9m0 : Method := { name := "<init>", desc := "()V", sig := { parameters := [], returnType := none }, accessFlags := 2, code := none }
def k9c1 : Code := { maxStack := 2, maxLocals := 2, code := jdk_31_method_2_code, exceptionTable := #[], attributes := #[] }
def k9m1 : Method := { name := "equals", desc := "(Ljava/lang/Object;Ljava/lang/Object;)Z", sig := { parameters := [(.object "java/lang/Object"), (.object "java/lang/Object")], returnType := some .boolean }, accessFlags := 9, code := some k9c1 }
def k9c2 : Code := { maxStack := 3, maxLocals := 2, code := jdk_31_method_11_code, exceptionTable := #[], attributes := #[] }
def k9m2 : Method := { name := "requireNonNull", desc := "(Ljava/lang/Object;Ljava/lang/String;)Ljava/lang/Object;", sig := { parameters := [(.object "java/lang/Object"), (.object "java/lang/String")], returnType := some (.object "java/lang/Object") }, accessFlags := 9, code := some k9c2 }
/-- java/util/Objects -/
def k9 : Class := { plain "java/util/Objects" (some 0) with
  accessFlags := 49
  interfaces := #[]
  cf := some (fileOf pool9 42 #[] #[{ accessFlags := 2, nameIndex := 5, descriptorIndex := 6, attributes := #[] }, { accessFlags := 9, nameIndex := 16, descriptorIndex := 23, attributes := #[] }, { accessFlags := 9, nameIndex := 45, descriptorIndex := 94, attributes := #[] }] 49 2 #[] #[])
  fields := #[]
  methods := #[k9m0, k9m1, k9m2]
  instanceTypes := #[]
  staticTypes := #[]
  resolved := Array.replicate 184 none
  statics := none }

def pool10 : Array CpInfo := pool [(2, .class_ 4), (1, u "java/lang/Object"), (0, u "<init>"), (0, u "()V"), (14, .class_ 23), (1, u "java/nio/charset/StandardCharsets"), (0, u "US_ASCII"), (0, u "Ljava/nio/charset/Charset;"), (7, u "ISO_8859_1"), (7, u "UTF_8"), (5, u "UTF_16BE"), (5, u "UTF_16LE"), (5, u "UTF_16")] 8

def k10m0 : Method := { name := "<init>", desc := "()V", sig := { parameters := [], returnType := none }, accessFlags := 2, code := none }
/-- java/nio/charset/StandardCharsets -/
def k10 : Class := { plain "java/nio/charset/StandardCharsets" (some 0) with
  accessFlags := 49
  interfaces := #[]
  cf := some (fileOf pool10 21 #[] #[{ accessFlags := 2, nameIndex := 5, descriptorIndex := 6, attributes := #[] }] 49 2 #[] #[{ accessFlags := 25, nameIndex := 24, descriptorIndex := 25, attributes := #[] }, { accessFlags := 25, nameIndex := 33, descriptorIndex := 25, attributes := #[] }, { accessFlags := 25, nameIndex := 41, descriptorIndex := 25, attributes := #[] }, { accessFlags := 25, nameIndex := 47, descriptorIndex := 25, attributes := #[] }, { accessFlags := 25, nameIndex := 53, descriptorIndex := 25, attributes := #[] }, { accessFlags := 25, nameIndex := 59, descriptorIndex := 25, attributes := #[] }])
  fields := #[{ name := "US_ASCII", type := (.object "java/nio/charset/Charset"), accessFlags := 25, slot := 0, constantValue := 0 }, { name := "ISO_8859_1", type := (.object "java/nio/charset/Charset"), accessFlags := 25, slot := 1, constantValue := 0 }, { name := "UTF_8", type := (.object "java/nio/charset/Charset"), accessFlags := 25, slot := 2, constantValue := 0 }, { name := "UTF_16BE", type := (.object "java/nio/charset/Charset"), accessFlags := 25, slot := 3, constantValue := 0 }, { name := "UTF_16LE", type := (.object "java/nio/charset/Charset"), accessFlags := 25, slot := 4, constantValue := 0 }, { name := "UTF_16", type := (.object "java/nio/charset/Charset"), accessFlags := 25, slot := 5, constantValue := 0 }]
  methods := #[k10m0]
  instanceTypes := #[]
  staticTypes := #[(.object "java/nio/charset/Charset"), (.object "java/nio/charset/Charset"), (.object "java/nio/charset/Charset"), (.object "java/nio/charset/Charset"), (.object "java/nio/charset/Charset"), (.object "java/nio/charset/Charset")]
  resolved := Array.replicate 68 none
  statics := some 1 }

def pool11 : Array CpInfo := pool [(18, .class_ 20), (1, u "java/nio/charset/Charset"), (0, u "cache1"), (0, u "[Ljava/lang/Object;"), (2, u "cache2"), (0, .class_ 27), (0, u "java/lang/Object"), (0, .class_ 29), (0, u "java/nio/charset/Charset$1"), (4, .class_ 36), (1, u "java/nio/charset/Charset$ThreadTrackHolder"), (21, .class_ 59), (0, u "java/nio/charset/Charset$2"), (11, .class_ 73), (1, u "java/nio/charset/Charset$ExtendedProviderHolder"), (22, u "standardProvider"), (0, u "Ljava/nio/charset/spi/CharsetProvider;"), (29, u "name"), (7, .class_ 136), (0, u "java/nio/charset/Charset$3"), (5, u "defaultCharset"), (0, u "Ljava/nio/charset/Charset;"), (14, u "zeroAliases"), (0, u "[Ljava/lang/String;"), (29, u "Ljava/lang/String;"), (2, u "aliases"), (2, u "aliasSet"), (0, u "Ljava/util/Set;"), (82, .class_ 280), (0, u "java/lang/Comparable"), (84, .class_ 366), (0, u "java/nio/charset/Charset$ExtendedProviderHolder$1")] 3

/-- java/nio/charset/Charset -/
def k11 : Class := { plain "java/nio/charset/Charset" (some 0) with
  accessFlags := 1057
  interfaces := #[3]
  cf := some (fileOf pool11 18 #[.nestMembers #[71, 365, 34, 135, 58, 28]] #[] 1057 26 #[279] #[{ accessFlags := 26, nameIndex := 96, descriptorIndex := 97, attributes := #[] }, { accessFlags := 26, nameIndex := 158, descriptorIndex := 159, attributes := #[] }, { accessFlags := 74, nameIndex := 21, descriptorIndex := 22, attributes := #[] }, { accessFlags := 74, nameIndex := 25, descriptorIndex := 22, attributes := #[] }, { accessFlags := 10, nameIndex := 142, descriptorIndex := 143, attributes := #[] }, { accessFlags := 18, nameIndex := 127, descriptorIndex := 189, attributes := #[] }, { accessFlags := 18, nameIndex := 192, descriptorIndex := 159, attributes := #[] }, { accessFlags := 2, nameIndex := 195, descriptorIndex := 196, attributes := #[] }])
  fields := #[{ name := "standardProvider", type := (.object "java/nio/charset/spi/CharsetProvider"), accessFlags := 26, slot := 0, constantValue := 0 }, { name := "zeroAliases", type := (.array (.object "java/lang/String")), accessFlags := 26, slot := 1, constantValue := 0 }, { name := "cache1", type := (.array (.object "java/lang/Object")), accessFlags := 74, slot := 2, constantValue := 0 }, { name := "cache2", type := (.array (.object "java/lang/Object")), accessFlags := 74, slot := 3, constantValue := 0 }, { name := "defaultCharset", type := (.object "java/nio/charset/Charset"), accessFlags := 10, slot := 4, constantValue := 0 }, { name := "name", type := (.object "java/lang/String"), accessFlags := 18, slot := 0, constantValue := 0 }, { name := "aliases", type := (.array (.object "java/lang/String")), accessFlags := 18, slot := 1, constantValue := 0 }, { name := "aliasSet", type := (.object "java/util/Set"), accessFlags := 2, slot := 2, constantValue := 0 }]
  methods := #[]
  instanceTypes := #[(.object "java/lang/String"), (.array (.object "java/lang/String")), (.object "java/util/Set")]
  staticTypes := #[(.object "java/nio/charset/spi/CharsetProvider"), (.array (.object "java/lang/String")), (.array (.object "java/lang/Object")), (.array (.object "java/lang/Object")), (.object "java/nio/charset/Charset")]
  resolved := Array.replicate 370 none
  statics := none }

def pool12 : Array CpInfo := pool [(1, .class_ 2), (0, u "sun/nio/cs/HistoricallyNamedCharset"), (0, .class_ 4), (0, u "java/lang/Object")] 4

/-- sun/nio/cs/HistoricallyNamedCharset -/
def k12 : Class := { plain "sun/nio/cs/HistoricallyNamedCharset" (some 0) with
  accessFlags := 1537
  interfaces := #[]
  cf := some (fileOf pool12 1 #[] #[] 1537 3 #[] #[])
  fields := #[]
  methods := #[]
  instanceTypes := #[]
  staticTypes := #[]
  resolved := Array.replicate 9 none
  statics := none }

def pool13 : Array CpInfo := pool [(2, .class_ 4), (1, u "java/nio/charset/Charset"), (130, .class_ 136), (0, u "sun/nio/cs/Unicode"), (0, .class_ 138), (0, u "sun/nio/cs/HistoricallyNamedCharset")] 15

/-- sun/nio/cs/Unicode -/
def k13 : Class := { plain "sun/nio/cs/Unicode" (some 11) with
  accessFlags := 1056
  interfaces := #[12]
  cf := some (fileOf pool13 135 #[] #[] 1056 2 #[137] #[])
  fields := #[]
  methods := #[]
  instanceTypes := #[(.object "java/lang/String"), (.array (.object "java/lang/String")), (.object "java/util/Set")]
  staticTypes := #[]
  resolved := Array.replicate 154 none
  statics := none }

def pool14 : Array CpInfo := pool [(10, .class_ 12), (1, u "sun/nio/cs/Unicode"), (0, u "<init>"), (3, .class_ 18), (0, u "sun/nio/cs/UTF_8$Decoder"), (3, .class_ 23), (0, u "sun/nio/cs/UTF_8$Encoder"), (15, .class_ 40), (0, u "sun/nio/cs/UTF_8"), (2, u "()V"), (2, u "INSTANCE"), (0, u "Lsun/nio/cs/UTF_8;"), (8, u "JLA"), (0, u "Ljdk/internal/access/JavaLangAccess;")] 26

def k14m0 : Method := { name := "<init>", desc := "()V", sig := { parameters := [], returnType := none }, accessFlags := 1, code := none }
/-- sun/nio/cs/UTF_8 -/
def k14 : Class := { plain "sun/nio/cs/UTF_8" (some 13) with
  accessFlags := 49
  interfaces := #[]
  cf := some (fileOf pool14 39 #[.nestMembers #[22, 17]] #[{ accessFlags := 1, nameIndex := 13, descriptorIndex := 43, attributes := #[] }] 49 10 #[] #[{ accessFlags := 25, nameIndex := 46, descriptorIndex := 47, attributes := #[] }, { accessFlags := 26, nameIndex := 56, descriptorIndex := 57, attributes := #[] }])
  fields := #[{ name := "INSTANCE", type := (.object "sun/nio/cs/UTF_8"), accessFlags := 25, slot := 0, constantValue := 0 }, { name := "JLA", type := (.object "jdk/internal/access/JavaLangAccess"), accessFlags := 26, slot := 1, constantValue := 0 }]
  methods := #[k14m0]
  instanceTypes := #[(.object "java/lang/String"), (.array (.object "java/lang/String")), (.object "java/util/Set")]
  staticTypes := #[(.object "sun/nio/cs/UTF_8"), (.object "jdk/internal/access/JavaLangAccess")]
  resolved := Array.replicate 84 none
  statics := some 2 }

def pool15 : Array CpInfo := pool [(2, .class_ 4), (1, u "java/lang/Object"), (0, u "<init>"), (0, u "()V"), (0, .methodref 8 9), (0, .class_ 10), (0, .nameAndType 11 12), (0, u "java/lang/StringCoding"), (0, u "countPositives"), (0, u "([BII)I"), (11, u "hasNegatives"), (0, u "([BII)Z")] 23

def k15m0 : Method := { name := "<init>", desc := "()V", sig := { parameters := [], returnType := none }, accessFlags := 2, code := none }
def k15c1 : Code := { maxStack := 3, maxLocals := 3, code := jdk_123_method_2_code, exceptionTable := #[], attributes := #[] }
def k15m1 : Method := { name := "hasNegatives", desc := "([BII)Z", sig := { parameters := [(.array .byte), .int, .int], returnType := some .boolean }, accessFlags := 9, code := some k15c1 }
def k15c2 : Code := { maxStack := 2, maxLocals := 5, code := jdk_123_method_3_code, exceptionTable := #[], attributes := #[] }
def k15m2 : Method := { name := "countPositives", desc := "([BII)I", sig := { parameters := [(.array .byte), .int, .int], returnType := some .int }, accessFlags := 9, code := some k15c2 }
/-- java/lang/StringCoding -/
def k15 : Class := { plain "java/lang/StringCoding" (some 0) with
  accessFlags := 32
  interfaces := #[]
  cf := some (fileOf pool15 8 #[] #[{ accessFlags := 2, nameIndex := 5, descriptorIndex := 6, attributes := #[] }, { accessFlags := 9, nameIndex := 24, descriptorIndex := 25, attributes := #[] }, { accessFlags := 9, nameIndex := 11, descriptorIndex := 12, attributes := #[] }] 32 2 #[] #[])
  fields := #[]
  methods := #[k15m0, k15m1, k15m2]
  instanceTypes := #[]
  staticTypes := #[]
  resolved := Array.replicate 49 none
  statics := none }

def pool16 : Array CpInfo := pool [(1, .class_ 2), (0, u "java/lang/Cloneable"), (0, .class_ 4), (0, u "java/lang/Object")] 2

/-- java/lang/Cloneable -/
def k16 : Class := { plain "java/lang/Cloneable" (some 0) with
  accessFlags := 1537
  interfaces := #[]
  cf := some (fileOf pool16 1 #[] #[] 1537 3 #[] #[])
  fields := #[]
  methods := #[]
  instanceTypes := #[]
  staticTypes := #[]
  resolved := Array.replicate 7 none
  statics := none }

def pool17 : Array CpInfo := pool [(4, .class_ 6), (1, u "java/lang/Object"), (0, u "<init>"), (0, u "()V"), (5, .class_ 16), (1, u "java/lang/StringLatin1"), (104, u "$assertionsDisabled"), (0, u "Z"), (98, .class_ 223), (1, u "java/lang/StringLatin1$LinesSpliterator"), (57, u "equals"), (0, u "([B[B)Z"), (107, .class_ 391), (0, u "java/lang/StringLatin1$CharsSpliterator")] 3

def k17m0 : Method := { name := "<init>", desc := "()V", sig := { parameters := [], returnType := none }, accessFlags := 0, code := none }
def k17c1 : Code := { maxStack := 3, maxLocals := 3, code := jdk_43_method_13_code, exceptionTable := #[], attributes := #[] }
def k17m1 : Method := { name := "equals", desc := "([B[B)Z", sig := { parameters := [(.array .byte), (.array .byte)], returnType := some .boolean }, accessFlags := 9, code := some k17c1 }
/-- java/lang/StringLatin1 -/
def k17 : Class := { plain "java/lang/StringLatin1" (some 0) with
  accessFlags := 48
  interfaces := #[]
  cf := some (fileOf pool17 14 #[.nestMembers #[390, 221]] #[{ accessFlags := 0, nameIndex := 7, descriptorIndex := 8, attributes := #[] }, { accessFlags := 9, nameIndex := 281, descriptorIndex := 282, attributes := #[] }] 48 4 #[] #[{ accessFlags := 4120, nameIndex := 121, descriptorIndex := 122, attributes := #[] }])
  fields := #[{ name := "$assertionsDisabled", type := .boolean, accessFlags := 4120, slot := 0, constantValue := 0 }]
  methods := #[k17m0, k17m1]
  instanceTypes := #[]
  staticTypes := #[.boolean]
  resolved := Array.replicate 395 none
  statics := none }

def pool18 : Array CpInfo := pool [(2, .class_ 4), (1, u "java/lang/Object"), (0, u "<init>"), (0, u "()V"), (7, .class_ 16), (1, u "java/util/Arrays"), (57, .class_ 76), (1, u "java/util/Arrays$NaturalOrder"), (36, .class_ 115), (1, u "java/util/Arrays$LegacyMergeSort"), (1, u "Z"), (32, .methodref 151 152), (0, .class_ 153), (0, .nameAndType 154 155), (0, u "java/lang/System"), (0, u "arraycopy"), (0, u "(Ljava/lang/Object;ILjava/lang/Object;II)V"), (142, u "equals"), (3, u "copyOf"), (1, .methodref 305 306), (0, .class_ 307), (0, .nameAndType 308 309), (0, u "java/lang/Math"), (0, u "min"), (0, u "(II)I"), (65, .class_ 376), (0, u "java/util/Arrays$ArrayList"), (68, u "$assertionsDisabled"), (9, u "([B[B)Z"), (259, u "MIN_ARRAY_SORT_GRAN"), (0, u "I"), (2, u "INSERTIONSORT_THRESHOLD"), (149, u "([BI)[B"), (105, .class_ 976), (0, u "java/util/Arrays$ArrayItr")] 52

def k18m0 : Method := { name := "<init>", desc := "()V", sig := { parameters := [], returnType := none }, accessFlags := 2, code := none }
def k18c1 : Code := { maxStack := 3, maxLocals := 3, code := jdk_65_method_89_code, exceptionTable := #[], attributes := #[] }
def k18m1 : Method := { name := "equals", desc := "([B[B)Z", sig := { parameters := [(.array .byte), (.array .byte)], returnType := some .boolean }, accessFlags := 9, code := some k18c1 }
def k18c2 : Code := { maxStack := 6, maxLocals := 3, code := jdk_65_method_121_code, exceptionTable := #[], attributes := #[] }
def k18m2 : Method := { name := "copyOf", desc := "([BI)[B", sig := { parameters := [(.array .byte), .int], returnType := some (.array .byte) }, accessFlags := 9, code := some k18c2 }
/-- java/util/Arrays -/
def k18 : Class := { plain "java/util/Arrays" (some 0) with
  accessFlags := 49
  interfaces := #[]
  cf := some (fileOf pool18 14 #[.nestMembers #[975, 375, 113, 74]] #[{ accessFlags := 2, nameIndex := 5, descriptorIndex := 6, attributes := #[] }, { accessFlags := 9, nameIndex := 298, descriptorIndex := 455, attributes := #[] }, { accessFlags := 9, nameIndex := 302, descriptorIndex := 869, attributes := #[] }] 49 2 #[] #[{ accessFlags := 26, nameIndex := 715, descriptorIndex := 716, attributes := #[] }, { accessFlags := 26, nameIndex := 719, descriptorIndex := 716, attributes := #[] }, { accessFlags := 4120, nameIndex := 445, descriptorIndex := 117, attributes := #[] }])
  fields := #[{ name := "MIN_ARRAY_SORT_GRAN", type := .int, accessFlags := 26, slot := 0, constantValue := 0 }, { name := "INSERTIONSORT_THRESHOLD", type := .int, accessFlags := 26, slot := 1, constantValue := 0 }, { name := "$assertionsDisabled", type := .boolean, accessFlags := 4120, slot := 2, constantValue := 0 }]
  methods := #[k18m0, k18m1, k18m2]
  instanceTypes := #[]
  staticTypes := #[.int, .int, .boolean]
  resolved := Array.replicate 1029 none
  statics := none }

def pool19 : Array CpInfo := pool [(6, .class_ 8), (1, u "java/lang/Object"), (0, u "<init>"), (0, u "()V"), (0, .methodref 12 13), (0, .class_ 14), (0, .nameAndType 15 16), (0, u "java/lang/StringUTF16"), (0, u "newBytesLength"), (0, u "(I)I"), (3, .integer 1073741823), (25, u "$assertionsDisabled"), (0, u "Z"), (13, u "HI_BYTE_SHIFT"), (0, u "I"), (2, u "LO_BYTE_SHIFT"), (43, u "newBytesFor"), (0, u "(I)[B"), (4, .methodref 12 116), (0, .nameAndType 117 118), (0, u "compress"), (0, u "([CI[BII)I"), (3, u "([CII)[B"), (138, u "coderFromArrayLen"), (0, u "([BI)B"), (106, .class_ 371), (1, u "java/lang/StringUTF16$LinesSpliterator"), (58, u "MAX_LENGTH"), (196, .class_ 628), (0, u "java/lang/StringUTF16$CodePointsSpliterator"), (0, .class_ 630), (0, u "java/lang/StringUTF16$CharsSpliterator")] 4

def k19m0 : Method := { name := "<init>", desc := "()V", sig := { parameters := [], returnType := none }, accessFlags := 0, code := none }
def k19c1 : Code := { maxStack := 1, maxLocals := 1, code := jdk_52_method_2_code, exceptionTable := #[], attributes := #[] }
def k19m1 : Method := { name := "newBytesFor", desc := "(I)[B", sig := { parameters := [.int], returnType := some (.array .byte) }, accessFlags := 9, code := some k19c1 }
def k19c2 : Code := { maxStack := 4, maxLocals := 1, code := jdk_52_method_3_code, exceptionTable := #[], attributes := #[] }
def k19m2 : Method := { name := "newBytesLength", desc := "(I)I", sig := { parameters := [.int], returnType := some .int }, accessFlags := 9, code := some k19c2 }
def k19c3 : Code := { maxStack := 2, maxLocals := 2, code := jdk_52_method_15_code, exceptionTable := #[], attributes := #[] }
def k19m3 : Method := { name := "coderFromArrayLen", desc := "([BI)B", sig := { parameters := [(.array .byte), .int], returnType := some .byte }, accessFlags := 8, code := some k19c3 }
def k19c4 : Code := { maxStack := 5, maxLocals := 6, code := jdk_52_method_16_code, exceptionTable := #[], attributes := #[] }
def k19m4 : Method := { name := "compress", desc := "([CII)[B", sig := { parameters := [(.array .char), .int, .int], returnType := some (.array .byte) }, accessFlags := 9, code := some k19c4 }
def k19c5 : Code := { maxStack := 3, maxLocals := 7, code := jdk_52_method_21_code, exceptionTable := #[], attributes := #[] }
def k19m5 : Method := { name := "compress", desc := "([CI[BII)I", sig := { parameters := [(.array .char), .int, (.array .byte), .int, .int], returnType := some .int }, accessFlags := 9, code := some k19c5 }
/-- java/lang/StringUTF16 -/
def k19 : Class := { plain "java/lang/StringUTF16" (some 0) with
  accessFlags := 48
  interfaces := #[]
  cf := some (fileOf pool19 12 #[.nestMembers #[627, 629, 369]] #[{ accessFlags := 0, nameIndex := 9, descriptorIndex := 10, attributes := #[] }, { accessFlags := 9, nameIndex := 109, descriptorIndex := 110, attributes := #[] }, { accessFlags := 9, nameIndex := 15, descriptorIndex := 16, attributes := #[] }, { accessFlags := 8, nameIndex := 261, descriptorIndex := 262, attributes := #[] }, { accessFlags := 9, nameIndex := 117, descriptorIndex := 122, attributes := #[] }, { accessFlags := 9, nameIndex := 117, descriptorIndex := 118, attributes := #[] }] 48 6 #[] #[{ accessFlags := 26, nameIndex := 61, descriptorIndex := 62, attributes := #[] }, { accessFlags := 26, nameIndex := 65, descriptorIndex := 62, attributes := #[] }, { accessFlags := 24, nameIndex := 430, descriptorIndex := 62, attributes := #[] }, { accessFlags := 4120, nameIndex := 46, descriptorIndex := 47, attributes := #[] }])
  fields := #[{ name := "HI_BYTE_SHIFT", type := .int, accessFlags := 26, slot := 0, constantValue := 0 }, { name := "LO_BYTE_SHIFT", type := .int, accessFlags := 26, slot := 1, constantValue := 0 }, { name := "MAX_LENGTH", type := .int, accessFlags := 24, slot := 2, constantValue := 0 }, { name := "$assertionsDisabled", type := .boolean, accessFlags := 4120, slot := 3, constantValue := 0 }]
  methods := #[k19m0, k19m1, k19m2, k19m3, k19m4, k19m5]
  instanceTypes := #[]
  staticTypes := #[.int, .int, .int, .boolean]
  resolved := Array.replicate 635 none
  statics := none }

def pool20 : Array CpInfo := pool [(1, .class_ 2), (0, u "java/lang/Math"), (1, .class_ 6), (1, u "java/lang/Object"), (0, u "<init>"), (0, u "()V"), (89, .class_ 100), (1, u "java/lang/Math$RandomNumberGeneratorHolder"), (71, u "negativeZeroFloatBits"), (0, u "J"), (2, u "negativeZeroDoubleBits"), (24, u "min"), (43, u "$assertionsDisabled"), (0, u "Z"), (88, u "(II)I"), (2, u "twoToTheDoubleScaleDown"), (0, u "D"), (4, u "twoToTheDoubleScaleUp"), (9, u "E"), (3, u "PI"), (2, u "TAU"), (2, u "DEGREES_TO_RADIANS"), (0, u "RADIANS_TO_DEGREES")] 94

def k20m0 : Method := { name := "<init>", desc := "()V", sig := { parameters := [], returnType := none }, accessFlags := 2, code := none }
def k20c1 : Code := { maxStack := 2, maxLocals := 2, code := jdk_29_method_69_code, exceptionTable := #[], attributes := #[] }
def k20m1 : Method := { name := "min", desc := "(II)I", sig := { parameters := [.int, .int], returnType := some .int }, accessFlags := 9, code := some k20c1 }
/-- java/lang/Math -/
def k20 : Class := { plain "java/lang/Math" (some 0) with
  accessFlags := 49
  interfaces := #[]
  cf := some (fileOf pool20 1 #[.nestMembers #[98]] #[{ accessFlags := 2, nameIndex := 7, descriptorIndex := 8, attributes := #[] }, { accessFlags := 9, nameIndex := 201, descriptorIndex := 335, attributes := #[] }] 49 4 #[] #[{ accessFlags := 25, nameIndex := 354, descriptorIndex := 339, attributes := #[] }, { accessFlags := 25, nameIndex := 358, descriptorIndex := 339, attributes := #[] }, { accessFlags := 25, nameIndex := 361, descriptorIndex := 339, attributes := #[] }, { accessFlags := 26, nameIndex := 364, descriptorIndex := 339, attributes := #[] }, { accessFlags := 26, nameIndex := 365, descriptorIndex := 339, attributes := #[] }, { accessFlags := 26, nameIndex := 172, descriptorIndex := 173, attributes := #[] }, { accessFlags := 26, nameIndex := 176, descriptorIndex := 173, attributes := #[] }, { accessFlags := 8, nameIndex := 344, descriptorIndex := 339, attributes := #[] }, { accessFlags := 8, nameIndex := 338, descriptorIndex := 339, attributes := #[] }, { accessFlags := 4120, nameIndex := 245, descriptorIndex := 246, attributes := #[] }])
  fields := #[{ name := "E", type := .double, accessFlags := 25, slot := 0, constantValue := 0 }, { name := "PI", type := .double, accessFlags := 25, slot := 1, constantValue := 0 }, { name := "TAU", type := .double, accessFlags := 25, slot := 2, constantValue := 0 }, { name := "DEGREES_TO_RADIANS", type := .double, accessFlags := 26, slot := 3, constantValue := 0 }, { name := "RADIANS_TO_DEGREES", type := .double, accessFlags := 26, slot := 4, constantValue := 0 }, { name := "negativeZeroFloatBits", type := .long, accessFlags := 26, slot := 5, constantValue := 0 }, { name := "negativeZeroDoubleBits", type := .long, accessFlags := 26, slot := 6, constantValue := 0 }, { name := "twoToTheDoubleScaleUp", type := .double, accessFlags := 8, slot := 7, constantValue := 0 }, { name := "twoToTheDoubleScaleDown", type := .double, accessFlags := 8, slot := 8, constantValue := 0 }, { name := "$assertionsDisabled", type := .boolean, accessFlags := 4120, slot := 9, constantValue := 0 }]
  methods := #[k20m0, k20m1]
  instanceTypes := #[]
  staticTypes := #[.double, .double, .double, .double, .double, .long, .long, .double, .double, .boolean]
  resolved := Array.replicate 460 none
  statics := none }

def pool21 : Array CpInfo := pool [(2, .class_ 4), (1, u "java/lang/Object"), (0, u "<init>"), (0, u "()V"), (1, .class_ 10), (1, u "java/lang/System"), (0, u "allowSecurityManager"), (0, u "I"), (16, u "cons"), (0, u "Ljava/io/Console;"), (77, .class_ 110), (1, u "java/lang/System$CallersHolder"), (43, u "initialErrStream"), (0, u "Ljava/io/PrintStream;"), (19, u "security"), (0, u "Ljava/lang/SecurityManager;"), (31, .class_ 209), (0, u "java/lang/System$1"), (7, u "props"), (0, u "Ljava/util/Properties;"), (2, u "lineSeparator"), (0, u "Ljava/lang/String;"), (96, .class_ 321), (1, u "java/lang/System$LoggerFinder"), (5, .class_ 328), (0, u "java/lang/System$Logger"), (67, u "err"), (2, u "out"), (91, u "notSupportedJnuEncoding"), (15, u "in"), (17, u "initialIn"), (0, u "Ljava/io/InputStream;"), (35, u "bootLayer"), (0, u "Ljava/lang/ModuleLayer;"), (99, .class_ 664), (0, u "java/lang/System$2"), (9, u "NEVER"), (2, u "MAYBE"), (49, u "arraycopy"), (0, u "(Ljava/lang/Object;ILjava/lang/Object;II)V"), (72, .class_ 802), (0, u "java/lang/System$Logger$Level")] 31

def k21m0 : Method := { name := "<init>", desc := "()V", sig := { parameters := [], returnType := none }, accessFlags := 2, code := none }
def k21m1 : Method := { name := "arraycopy", desc := "(Ljava/lang/Object;ILjava/lang/Object;II)V", sig := { parameters := [(.object "java/lang/Object"), .int, (.object "java/lang/Object"), .int, .int], returnType := none }, accessFlags := 265, code := none }
/-- java/lang/System -/
def k21 : Class := { plain "java/lang/System" (some 0) with
  accessFlags := 49
  interfaces := #[]
  cf := some (fileOf pool21 8 #[.nestMembers #[319, 327, 801, 108, 663, 208]] #[{ accessFlags := 2, nameIndex := 5, descriptorIndex := 6, attributes := #[] }, { accessFlags := 265, nameIndex := 727, descriptorIndex := 728, attributes := #[] }] 49 2 #[] #[{ accessFlags := 25, nameIndex := 507, descriptorIndex := 526, attributes := #[] }, { accessFlags := 25, nameIndex := 399, descriptorIndex := 155, attributes := #[] }, { accessFlags := 25, nameIndex := 396, descriptorIndex := 155, attributes := #[] }, { accessFlags := 10, nameIndex := 525, descriptorIndex := 526, attributes := #[] }, { accessFlags := 26, nameIndex := 674, descriptorIndex := 12, attributes := #[] }, { accessFlags := 26, nameIndex := 677, descriptorIndex := 12, attributes := #[] }, { accessFlags := 10, nameIndex := 11, descriptorIndex := 12, attributes := #[] }, { accessFlags := 74, nameIndex := 175, descriptorIndex := 176, attributes := #[] }, { accessFlags := 10, nameIndex := 491, descriptorIndex := 222, attributes := #[] }, { accessFlags := 74, nameIndex := 29, descriptorIndex := 30, attributes := #[] }, { accessFlags := 74, nameIndex := 154, descriptorIndex := 155, attributes := #[] }, { accessFlags := 10, nameIndex := 217, descriptorIndex := 218, attributes := #[] }, { accessFlags := 10, nameIndex := 221, descriptorIndex := 222, attributes := #[] }, { accessFlags := 8, nameIndex := 562, descriptorIndex := 563, attributes := #[] }])
  fields := #[{ name := "in", type := (.object "java/io/InputStream"), accessFlags := 25, slot := 0, constantValue := 0 }, { name := "out", type := (.object "java/io/PrintStream"), accessFlags := 25, slot := 1, constantValue := 0 }, { name := "err", type := (.object "java/io/PrintStream"), accessFlags := 25, slot := 2, constantValue := 0 }, { name := "initialIn", type := (.object "java/io/InputStream"), accessFlags := 10, slot := 3, constantValue := 0 }, { name := "NEVER", type := .int, accessFlags := 26, slot := 4, constantValue := 0 }, { name := "MAYBE", type := .int, accessFlags := 26, slot := 5, constantValue := 0 }, { name := "allowSecurityManager", type := .int, accessFlags := 10, slot := 6, constantValue := 0 }, { name := "security", type := (.object "java/lang/SecurityManager"), accessFlags := 74, slot := 7, constantValue := 0 }, { name := "notSupportedJnuEncoding", type := (.object "java/lang/String"), accessFlags := 10, slot := 8, constantValue := 0 }, { name := "cons", type := (.object "java/io/Console"), accessFlags := 74, slot := 9, constantValue := 0 }, { name := "initialErrStream", type := (.object "java/io/PrintStream"), accessFlags := 74, slot := 10, constantValue := 0 }, { name := "props", type := (.object "java/util/Properties"), accessFlags := 10, slot := 11, constantValue := 0 }, { name := "lineSeparator", type := (.object "java/lang/String"), accessFlags := 10, slot := 12, constantValue := 0 }, { name := "bootLayer", type := (.object "java/lang/ModuleLayer"), accessFlags := 8, slot := 13, constantValue := 0 }]
  methods := #[k21m0, k21m1]
  instanceTypes := #[]
  staticTypes := #[(.object "java/io/InputStream"), (.object "java/io/PrintStream"), (.object "java/io/PrintStream"), (.object "java/io/InputStream"), .int, .int, .int, (.object "java/lang/SecurityManager"), (.object "java/lang/String"), (.object "java/io/Console"), (.object "java/io/PrintStream"), (.object "java/util/Properties"), (.object "java/lang/String"), (.object "java/lang/ModuleLayer")]
  resolved := Array.replicate 834 none
  statics := none }

def pool22 : Array CpInfo := pool [(2, .class_ 4), (1, u "java/lang/Object"), (0, u "<init>"), (0, u "()V"), (17, .class_ 26), (1, u "jdk/internal/util/Preconditions"), (28, .class_ 56), (0, u "jdk/internal/util/Preconditions$4"), (57, .class_ 115), (0, u "jdk/internal/util/Preconditions$1"), (7, u "SIOOBE_FORMATTER"), (0, u "Ljava/util/function/BiFunction;"), (0, .class_ 126), (0, u "jdk/internal/util/Preconditions$2"), (3, u "AIOOBE_FORMATTER"), (0, .class_ 132), (0, u "jdk/internal/util/Preconditions$3"), (3, u "IOOBE_FORMATTER")] 57

def k22m0 : Method := { name := "<init>", desc := "()V", sig := { parameters := [], returnType := none }, accessFlags := 1, code := none }
/-- jdk/internal/util/Preconditions -/
def k22 : Class := { plain "jdk/internal/util/Preconditions" (some 0) with
  accessFlags := 33
  interfaces := #[]
  cf := some (fileOf pool22 24 #[.nestMembers #[55, 131, 125, 114]] #[{ accessFlags := 1, nameIndex := 5, descriptorIndex := 6, attributes := #[] }] 33 2 #[] #[{ accessFlags := 25, nameIndex := 123, descriptorIndex := 124, attributes := #[] }, { accessFlags := 25, nameIndex := 130, descriptorIndex := 124, attributes := #[] }, { accessFlags := 25, nameIndex := 136, descriptorIndex := 124, attributes := #[] }])
  fields := #[{ name := "SIOOBE_FORMATTER", type := (.object "java/util/function/BiFunction"), accessFlags := 25, slot := 0, constantValue := 0 }, { name := "AIOOBE_FORMATTER", type := (.object "java/util/function/BiFunction"), accessFlags := 25, slot := 1, constantValue := 0 }, { name := "IOOBE_FORMATTER", type := (.object "java/util/function/BiFunction"), accessFlags := 25, slot := 2, constantValue := 0 }]
  methods := #[k22m0]
  instanceTypes := #[]
  staticTypes := #[(.object "java/util/function/BiFunction"), (.object "java/util/function/BiFunction"), (.object "java/util/function/BiFunction")]
  resolved := Array.replicate 194 none
  statics := some 3 }

def pool23 : Array CpInfo := pool [(9, u "<init>"), (6, .class_ 18), (1, u "java/lang/Object"), (0, u "()V"), (1, .class_ 23), (1, u "jdk/internal/util/ArraysSupport"), (0, u "LOG2_ARRAY_LONG_INDEX_SCALE"), (0, u "I"), (2, u "U"), (0, u "Ljdk/internal/misc/Unsafe;"), (8, u "BIG_ENDIAN"), (0, u "Z"), (8, u "LOG2_BYTE_BIT_SIZE"), (4, u "LOG2_ARRAY_INT_INDEX_SCALE"), (54, u "JLA"), (0, u "Ljdk/internal/access/JavaLangAccess;"), (11, u "LOG2_ARRAY_BOOLEAN_INDEX_SCALE"), (9, u "LOG2_ARRAY_BYTE_INDEX_SCALE"), (5, u "LOG2_ARRAY_CHAR_INDEX_SCALE"), (5, u "LOG2_ARRAY_SHORT_INDEX_SCALE"), (18, u "LOG2_ARRAY_FLOAT_INDEX_SCALE"), (24, u "LOG2_ARRAY_DOUBLE_INDEX_SCALE"), (89, u "T_BOOLEAN"), (2, u "T_CHAR"), (1, u "T_FLOAT"), (1, u "T_DOUBLE"), (1, u "T_BYTE"), (1, u "T_SHORT"), (1, u "T_INT"), (1, u "T_LONG"), (1, u "SOFT_MAX_ARRAY_LENGTH")] 83

def k23m0 : Method := { name := "<init>", desc := "()V", sig := { parameters := [], returnType := none }, accessFlags := 2, code := none }
/-- jdk/internal/util/ArraysSupport -/
def k23 : Class := { plain "jdk/internal/util/ArraysSupport" (some 0) with
  accessFlags := 33
  interfaces := #[]
  cf := some (fileOf pool23 21 #[] #[{ accessFlags := 2, nameIndex := 9, descriptorIndex := 19, attributes := #[] }] 33 16 #[] #[{ accessFlags := 24, nameIndex := 28, descriptorIndex := 29, attributes := #[] }, { accessFlags := 26, nameIndex := 38, descriptorIndex := 39, attributes := #[] }, { accessFlags := 25, nameIndex := 121, descriptorIndex := 25, attributes := #[] }, { accessFlags := 25, nameIndex := 131, descriptorIndex := 25, attributes := #[] }, { accessFlags := 25, nameIndex := 137, descriptorIndex := 25, attributes := #[] }, { accessFlags := 25, nameIndex := 143, descriptorIndex := 25, attributes := #[] }, { accessFlags := 25, nameIndex := 53, descriptorIndex := 25, attributes := #[] }, { accessFlags := 25, nameIndex := 24, descriptorIndex := 25, attributes := #[] }, { accessFlags := 25, nameIndex := 162, descriptorIndex := 25, attributes := #[] }, { accessFlags := 25, nameIndex := 187, descriptorIndex := 25, attributes := #[] }, { accessFlags := 26, nameIndex := 48, descriptorIndex := 25, attributes := #[] }, { accessFlags := 25, nameIndex := 277, descriptorIndex := 25, attributes := #[] }, { accessFlags := 25, nameIndex := 280, descriptorIndex := 25, attributes := #[] }, { accessFlags := 25, nameIndex := 282, descriptorIndex := 25, attributes := #[] }, { accessFlags := 25, nameIndex := 284, descriptorIndex := 25, attributes := #[] }, { accessFlags := 25, nameIndex := 286, descriptorIndex := 25, attributes := #[] }, { accessFlags := 25, nameIndex := 288, descriptorIndex := 25, attributes := #[] }, { accessFlags := 25, nameIndex := 290, descriptorIndex := 25, attributes := #[] }, { accessFlags := 25, nameIndex := 292, descriptorIndex := 25, attributes := #[] }, { accessFlags := 26, nameIndex := 108, descriptorIndex := 109, attributes := #[] }, { accessFlags := 25, nameIndex := 294, descriptorIndex := 25, attributes := #[] }])
  fields := #[{ name := "U", type := (.object "jdk/internal/misc/Unsafe"), accessFlags := 24, slot := 0, constantValue := 0 }, { name := "BIG_ENDIAN", type := .boolean, accessFlags := 26, slot := 1, constantValue := 0 }, { name := "LOG2_ARRAY_BOOLEAN_INDEX_SCALE", type := .int, accessFlags := 25, slot := 2, constantValue := 0 }, { name := "LOG2_ARRAY_BYTE_INDEX_SCALE", type := .int, accessFlags := 25, slot := 3, constantValue := 0 }, { name := "LOG2_ARRAY_CHAR_INDEX_SCALE", type := .int, accessFlags := 25, slot := 4, constantValue := 0 }, { name := "LOG2_ARRAY_SHORT_INDEX_SCALE", type := .int, accessFlags := 25, slot := 5, constantValue := 0 }, { name := "LOG2_ARRAY_INT_INDEX_SCALE", type := .int, accessFlags := 25, slot := 6, constantValue := 0 }, { name := "LOG2_ARRAY_LONG_INDEX_SCALE", type := .int, accessFlags := 25, slot := 7, constantValue := 0 }, { name := "LOG2_ARRAY_FLOAT_INDEX_SCALE", type := .int, accessFlags := 25, slot := 8, constantValue := 0 }, { name := "LOG2_ARRAY_DOUBLE_INDEX_SCALE", type := .int, accessFlags := 25, slot := 9, constantValue := 0 }, { name := "LOG2_BYTE_BIT_SIZE", type := .int, accessFlags := 26, slot := 10, constantValue := 0 }, { name := "T_BOOLEAN", type := .int, accessFlags := 25, slot := 11, constantValue := 0 }, { name := "T_CHAR", type := .int, accessFlags := 25, slot := 12, constantValue := 0 }, { name := "T_FLOAT", type := .int, accessFlags := 25, slot := 13, constantValue := 0 }, { name := "T_DOUBLE", type := .int, accessFlags := 25, slot := 14, constantValue := 0 }, { name := "T_BYTE", type := .int, accessFlags := 25, slot := 15, constantValue := 0 }, { name := "T_SHORT", type := .int, accessFlags := 25, slot := 16, constantValue := 0 }, { name := "T_INT", type := .int, accessFlags := 25, slot := 17, constantValue := 0 }, { name := "T_LONG", type := .int, accessFlags := 25, slot := 18, constantValue := 0 }, { name := "JLA", type := (.object "jdk/internal/access/JavaLangAccess"), accessFlags := 26, slot := 19, constantValue := 0 }, { name := "SOFT_MAX_ARRAY_LENGTH", type := .int, accessFlags := 25, slot := 20, constantValue := 0 }]
  methods := #[k23m0]
  instanceTypes := #[]
  staticTypes := #[(.object "jdk/internal/misc/Unsafe"), .boolean, .int, .int, .int, .int, .int, .int, .int, .int, .int, .int, .int, .int, .int, .int, .int, .int, .int, (.object "jdk/internal/access/JavaLangAccess"), .int]
  resolved := Array.replicate 378 none
  statics := none }

/-- the primitive byte -/
def k24 : Class := { plain "byte" none with kind := .primitive 'B', accessFlags := 0x411 }
/-- [B -/
def k25 : Class := { plain "[B" (some 0) with kind := .array 24 .byte, interfaces := #[16, 2], accessFlags := 1041 }

/-- the primitive char -/
def k26 : Class := { plain "char" none with kind := .primitive 'C', accessFlags := 0x411 }
/-- [C -/
def k27 : Class := { plain "[C" (some 0) with kind := .array 26 .char, interfaces := #[16, 2], accessFlags := 1041 }

/-- the primitive int -/
def k28 : Class := { plain "int" none with kind := .primitive 'I', accessFlags := 0x411 }
/-- [I -/
def k29 : Class := { plain "[I" (some 0) with kind := .array 28 .int, interfaces := #[16, 2], accessFlags := 1041 }

def heap : Heap := #[{ cls := 7, slots := #[.long 0, .int 1, .null, .int 0, .null, .int 0, .int 0], vm := .statics 7 },
  { cls := 10, slots := #[.null, .null, .ref 4, .null, .null, .null], vm := .statics 10 },
  { cls := 14, slots := #[.ref 4, .null], vm := .statics 14 },
  { cls := 22, slots := #[.null, .null, .null], vm := .statics 22 },
  { cls := 14, slots := #[.null, .null, .null], vm := .none }]
def classes : Array Class := #[k0, k1, k2, k3, k4, k5, k6, k7, k8, k9, k10, k11, k12, k13, k14, k15, k16, k17, k18, k19, k20, k21, k22, k23, k24, k25, k26, k27, k28, k29]
def interned : List (Array UInt16 × Addr) := []
def slotsUsed : Nat := 21
def theMethod : MethodId := ⟨1, 3⟩
def args0 : Array Value := #[.int 5, .int 5, .int 5, .int 5]
def aboutOver (below : List Frame) : State where
  vm := { classes := classes, interned := interned.toArray }
  heap := heap
  slotsUsed := slotsUsed
  threads := #[{ frames := .invoking theMethod args0 :: below }]
def below0 : List Frame := [.native { method := ⟨0, 0⟩, args := #[] }]
def about1 : State := aboutOver below0
def p0 : Program := .bare "" "" ""
def e0 : Env := launch0.env 0 0 0
theorem w_frames : about1.frames = Frame.invoking theMethod args0 :: below0 := rfl
set_option maxRecDepth 65536 in
theorem w_args : argsFit about1.vm theMethod args0 = true := by decide +kernel
set_option maxRecDepth 65536 in
theorem w_heap : heapFits about1 = true := by decide +kernel
set_option maxRecDepth 65536 in
theorem w_runnable : about1.curStatus? = some .runnable := by decide +kernel
set_option maxRecDepth 65536 in
theorem w_alone : about1.alone = true := by decide +kernel
set_option maxRecDepth 65536 in
theorem w_named : about1.methodNamed? x = some theMethod := by decide +kernel
set_option maxRecDepth 65536 in
theorem w_hears : about1.hears theMethod below0 = true := by decide +kernel
set_option maxRecDepth 65536 in
theorem w_ripe : about1.ripe theMethod args0 below0 = true := by decide +kernel
theorem w_running : about1.status = .running := rfl
set_option maxRecDepth 65536 in
theorem w_room : about1.hasRoom e0.platform room_1 = true :=
  launch0.hasRoom_least _ room_1 (by decide +kernel) (by decide +kernel) (by decide +kernel) (by decide +kernel) (by decide +kernel) (by decide +kernel)
theorem allAtoms_all (ts : List Jvm.Cond) (a : Array Jvm.Value) (st : Jvm.State) : (allAtoms ts).before a st = ts.all (fun c => c.before a st) := by
  induction ts with
  | nil => rfl
  | cons c t ih =>
    show (Jvm.Cond.and c (allAtoms t)).before a st = _
    rw [Jvm.Cond.before_and, ih, List.all_cons]
def words1 : List Jvm.Cond := Jvm.Cond.code x code maxLocals ret :: tables_1
/-- a 'code' word, met by the world's own term for the bytes: nothing is compared byte by byte -/
theorem code_word {y : MethodName} {bytes : ByteArray} {mx : Nat} {rt : Option FieldType} {a : Array Value} {s : State} {m : MethodId} {meth : Method} {c : Code} (h1 : s.methodNamed? y = some m) (h2 : s.vm.method? m = some meth) (h3 : meth.code = some c) (h4 : c.code = bytes)
    (h5 : (c.maxLocals == mx && c.exceptionTable.isEmpty && decide (c.maxStack ≤ mostOperands) && decide (meth.sig.returnType = rt) && !meth.locks && decide (parseMethodDescriptor y.desc = some meth.sig)) = true) : (Jvm.Cond.code y bytes mx rt).before a s = true := by
  simp only [Bool.and_eq_true, beq_iff_eq, Bool.not_eq_true', decide_eq_true_eq] at h5
  obtain ⟨⟨⟨⟨⟨g1, g2⟩, g3⟩, g4⟩, g5⟩, g6⟩ := h5
  simp [Cond.before, Cond.holds, Cond.value, h1, h2, h3, h4, g1, g2, g3, g4, g5, g6]
def isCode : Jvm.Cond → Bool
  | .code _ _ _ _ => true
  | _ => false
theorem all_split {L : List Jvm.Cond} {P : Jvm.Cond → Bool} (h1 : L.all (fun c => isCode c || P c) = true) (h2 : ∀ c ∈ L.filter isCode, P c = true) : L.all P = true := by
  refine List.all_eq_true.mpr fun c hc => ?_
  have h := List.all_eq_true.mp h1 c hc
  rcases Bool.eq_false_or_eq_true (isCode c) with hi | hi
  · exact h2 c (List.mem_filter.mpr ⟨hc, hi⟩)
  · simpa [hi] using h
set_option maxRecDepth 65536 in
theorem w_c0 : (Jvm.Cond.code x code maxLocals ret).before args0 about1 = true := code_word (m := ⟨1, 3⟩) (meth := k1m3) (c := k1c3) (by decide +kernel) rfl rfl rfl (by decide +kernel)
set_option maxRecDepth 65536 in
theorem w_c1 : (Jvm.Cond.code ({ cls := "java/lang/String", name := "<init>", desc := "([C)V" } : Jvm.MethodName) jdk_42_method_3_code (2 : Nat) (Option.none : Option Jvm.ClassFile.FieldType)).before args0 about1 = true := code_word (m := ⟨7, 1⟩) (meth := k7m1) (c := k7c1) (by decide +kernel) rfl rfl rfl (by decide +kernel)
set_option maxRecDepth 65536 in
theorem w_c2 : (Jvm.Cond.code ({ cls := "java/lang/String", name := "<init>", desc := "([CIILjava/lang/Void;)V" } : Jvm.MethodName) jdk_42_method_149_code (6 : Nat) (Option.none : Option Jvm.ClassFile.FieldType)).before args0 about1 = true := code_word (m := ⟨7, 7⟩) (meth := k7m7) (c := k7c7) (by decide +kernel) rfl rfl rfl (by decide +kernel)
set_option maxRecDepth 65536 in
theorem w_c3 : (Jvm.Cond.code ({ cls := "java/lang/Object", name := "<init>", desc := "()V" } : Jvm.MethodName) object_method_1_code (1 : Nat) (Option.none : Option Jvm.ClassFile.FieldType)).before args0 about1 = true := code_word (m := ⟨0, 0⟩) (meth := k0m0) (c := k0c0) (by decide +kernel) rfl rfl rfl (by decide +kernel)
set_option maxRecDepth 65536 in
theorem w_c4 : (Jvm.Cond.code ({ cls := "com/example/ledgerpost/ledgerpost/Payload", name := "ofText", desc := "(Ljava/lang/String;)Lcom/example/ledgerpost/ledgerpost/Payload;" } : Jvm.MethodName) prog_22_method_2_code (1 : Nat) (Option.some (Jvm.ClassFile.FieldType.object "com/example/ledgerpost/ledgerpost/Payload"))).before args0 about1 = true := code_word (m := ⟨8, 1⟩) (meth := k8m1) (c := k8c1) (by decide +kernel) rfl rfl rfl (by decide +kernel)
set_option maxRecDepth 65536 in
theorem w_c5 : (Jvm.Cond.code ({ cls := "java/util/Objects", name := "requireNonNull", desc := "(Ljava/lang/Object;Ljava/lang/String;)Ljava/lang/Object;" } : Jvm.MethodName) jdk_31_method_11_code (2 : Nat) (Option.some (Jvm.ClassFile.FieldType.object "java/lang/Object"))).before args0 about1 = true := code_word (m := ⟨9, 2⟩) (meth := k9m2) (c := k9c2) (by decide +kernel) rfl rfl rfl (by decide +kernel)
set_option maxRecDepth 65536 in
theorem w_c6 : (Jvm.Cond.code ({ cls := "com/example/ledgerpost/ledgerpost/Payload", name := "<init>", desc := "(Ljava/lang/String;[B)V" } : Jvm.MethodName) prog_22_method_1_code (3 : Nat) (Option.none : Option Jvm.ClassFile.FieldType)).before args0 about1 = true := code_word (m := ⟨8, 0⟩) (meth := k8m0) (c := k8c0) (by decide +kernel) rfl rfl rfl (by decide +kernel)
set_option maxRecDepth 65536 in
theorem w_c7 : (Jvm.Cond.code ({ cls := "com/example/ledgerpost/ledgerpost/Payload", name := "isText", desc := "()Z" } : Jvm.MethodName) prog_22_method_4_code (1 : Nat) (Option.some Jvm.ClassFile.FieldType.boolean)).before args0 about1 = true := code_word (m := ⟨8, 2⟩) (meth := k8m2) (c := k8c2) (by decide +kernel) rfl rfl rfl (by decide +kernel)
set_option maxRecDepth 65536 in
theorem w_c8 : (Jvm.Cond.code ({ cls := "com/example/ledgerpost/ledgerpost/Payload", name := "text", desc := "()Ljava/lang/String;" } : Jvm.MethodName) prog_22_method_5_code (1 : Nat) (Option.some (Jvm.ClassFile.FieldType.object "java/lang/String"))).before args0 about1 = true := code_word (m := ⟨8, 3⟩) (meth := k8m3) (c := k8c3) (by decide +kernel) rfl rfl rfl (by decide +kernel)
set_option maxRecDepth 65536 in
theorem w_c9 : (Jvm.Cond.code ({ cls := "java/lang/String", name := "equals", desc := "(Ljava/lang/Object;)Z" } : Jvm.MethodName) jdk_42_method_66_code (3 : Nat) (Option.some Jvm.ClassFile.FieldType.boolean)).before args0 about1 = true := code_word (m := ⟨7, 6⟩) (meth := k7m6) (c := k7c6) (by decide +kernel) rfl rfl rfl (by decide +kernel)
set_option maxRecDepth 65536 in
theorem w_c10 : (Jvm.Cond.code ({ cls := "com/example/ledgerpost/ledgerpost/Payload", name := "length", desc := "()J" } : Jvm.MethodName) prog_22_method_7_code (1 : Nat) (Option.some Jvm.ClassFile.FieldType.long)).before args0 about1 = true := code_word (m := ⟨8, 5⟩) (meth := k8m5) (c := k8c5) (by decide +kernel) rfl rfl rfl (by decide +kernel)
set_option maxRecDepth 65536 in
theorem w_c11 : (Jvm.Cond.code ({ cls := "java/lang/String", name := "length", desc := "()I" } : Jvm.MethodName) jdk_42_method_54_code (1 : Nat) (Option.some Jvm.ClassFile.FieldType.int)).before args0 about1 = true := code_word (m := ⟨7, 4⟩) (meth := k7m4) (c := k7c4) (by decide +kernel) rfl rfl rfl (by decide +kernel)
set_option maxRecDepth 65536 in
theorem w_c12 : (Jvm.Cond.code ({ cls := "java/lang/String", name := "coder", desc := "()B" } : Jvm.MethodName) jdk_42_method_152_code (1 : Nat) (Option.some Jvm.ClassFile.FieldType.byte)).before args0 about1 = true := code_word (m := ⟨7, 8⟩) (meth := k7m8) (c := k7c8) (by decide +kernel) rfl rfl rfl (by decide +kernel)
set_option maxRecDepth 65536 in
theorem w_c13 : (Jvm.Cond.code ({ cls := "com/example/ledgerpost/ledgerpost/Payload", name := "bytes", desc := "()[B" } : Jvm.MethodName) prog_22_method_6_code (1 : Nat) (Option.some (Jvm.ClassFile.FieldType.array Jvm.ClassFile.FieldType.byte))).before args0 about1 = true := code_word (m := ⟨8, 4⟩) (meth := k8m4) (c := k8c4) (by decide +kernel) rfl rfl rfl (by decide +kernel)
set_option maxRecDepth 65536 in
theorem w_c14 : (Jvm.Cond.code ({ cls := "java/lang/String", name := "getBytes", desc := "(Ljava/nio/charset/Charset;)[B" } : Jvm.MethodName) jdk_42_method_64_code (2 : Nat) (Option.some (Jvm.ClassFile.FieldType.array Jvm.ClassFile.FieldType.byte))).before args0 about1 = true := code_word (m := ⟨7, 5⟩) (meth := k7m5) (c := k7c5) (by decide +kernel) rfl rfl rfl (by decide +kernel)
set_option maxRecDepth 65536 in
theorem w_c15 : (Jvm.Cond.code ({ cls := "java/lang/String", name := "encode", desc := "(Ljava/nio/charset/Charset;B[B)[B" } : Jvm.MethodName) jdk_42_method_18_code (3 : Nat) (Option.some (Jvm.ClassFile.FieldType.array Jvm.ClassFile.FieldType.byte))).before args0 about1 = true := code_word (m := ⟨7, 2⟩) (meth := k7m2) (c := k7c2) (by decide +kernel) rfl rfl rfl (by decide +kernel)
set_option maxRecDepth 65536 in
theorem w_c16 : (Jvm.Cond.code ({ cls := "java/lang/String", name := "encodeUTF8", desc := "(B[BZ)[B" } : Jvm.MethodName) jdk_42_method_46_code (9 : Nat) (Option.some (Jvm.ClassFile.FieldType.array Jvm.ClassFile.FieldType.byte))).before args0 about1 = true := code_word (m := ⟨7, 3⟩) (meth := k7m3) (c := k7c3) (by decide +kernel) rfl rfl rfl (by decide +kernel)
set_option maxRecDepth 65536 in
theorem w_c17 : (Jvm.Cond.code ({ cls := "java/lang/StringCoding", name := "hasNegatives", desc := "([BII)Z" } : Jvm.MethodName) jdk_123_method_2_code (3 : Nat) (Option.some Jvm.ClassFile.FieldType.boolean)).before args0 about1 = true := code_word (m := ⟨15, 1⟩) (meth := k15m1) (c := k15c1) (by decide +kernel) rfl rfl rfl (by decide +kernel)
set_option maxRecDepth 65536 in
theorem w_c18 : (Jvm.Cond.code ({ cls := "java/lang/StringCoding", name := "countPositives", desc := "([BII)I" } : Jvm.MethodName) jdk_123_method_3_code (5 : Nat) (Option.some Jvm.ClassFile.FieldType.int)).before args0 about1 = true := code_word (m := ⟨15, 2⟩) (meth := k15m2) (c := k15c2) (by decide +kernel) rfl rfl rfl (by decide +kernel)
set_option maxRecDepth 65536 in
theorem w_c19 : (Jvm.Cond.code ({ cls := "com/example/ledgerpost/ledgerpost/Payload", name := "equals", desc := "(Ljava/lang/Object;)Z" } : Jvm.MethodName) prog_22_method_8_code (3 : Nat) (Option.some Jvm.ClassFile.FieldType.boolean)).before args0 about1 = true := code_word (m := ⟨8, 6⟩) (meth := k8m6) (c := k8c6) (by decide +kernel) rfl rfl rfl (by decide +kernel)
set_option maxRecDepth 65536 in
theorem w_c20 : (Jvm.Cond.code ({ cls := "java/util/Objects", name := "equals", desc := "(Ljava/lang/Object;Ljava/lang/Object;)Z" } : Jvm.MethodName) jdk_31_method_2_code (2 : Nat) (Option.some Jvm.ClassFile.FieldType.boolean)).before args0 about1 = true := code_word (m := ⟨9, 1⟩) (meth := k9m1) (c := k9c1) (by decide +kernel) rfl rfl rfl (by decide +kernel)
set_option maxRecDepth 65536 in
theorem w_c21 : (Jvm.Cond.code ({ cls := "java/lang/StringLatin1", name := "equals", desc := "([B[B)Z" } : Jvm.MethodName) jdk_43_method_13_code (3 : Nat) (Option.some Jvm.ClassFile.FieldType.boolean)).before args0 about1 = true := code_word (m := ⟨17, 1⟩) (meth := k17m1) (c := k17c1) (by decide +kernel) rfl rfl rfl (by decide +kernel)
set_option maxRecDepth 65536 in
theorem w_c22 : (Jvm.Cond.code ({ cls := "java/util/Arrays", name := "equals", desc := "([B[B)Z" } : Jvm.MethodName) jdk_65_method_89_code (3 : Nat) (Option.some Jvm.ClassFile.FieldType.boolean)).before args0 about1 = true := code_word (m := ⟨18, 1⟩) (meth := k18m1) (c := k18c1) (by decide +kernel) rfl rfl rfl (by decide +kernel)
set_option maxRecDepth 65536 in
theorem w_c23 : (Jvm.Cond.code ({ cls := "com/example/ledgerpost/ledgerpost/Payload", name := "toString", desc := "()Ljava/lang/String;" } : Jvm.MethodName) prog_22_method_10_code (1 : Nat) (Option.some (Jvm.ClassFile.FieldType.object "java/lang/String"))).before args0 about1 = true := code_word (m := ⟨8, 7⟩) (meth := k8m7) (c := k8c7) (by decide +kernel) rfl rfl rfl (by decide +kernel)
set_option maxRecDepth 65536 in
theorem w_c24 : (Jvm.Cond.code ({ cls := "java/lang/StringUTF16", name := "compress", desc := "([CII)[B" } : Jvm.MethodName) jdk_52_method_16_code (6 : Nat) (Option.some (Jvm.ClassFile.FieldType.array Jvm.ClassFile.FieldType.byte))).before args0 about1 = true := code_word (m := ⟨19, 4⟩) (meth := k19m4) (c := k19c4) (by decide +kernel) rfl rfl rfl (by decide +kernel)
set_option maxRecDepth 65536 in
theorem w_c25 : (Jvm.Cond.code ({ cls := "java/lang/StringUTF16", name := "compress", desc := "([CI[BII)I" } : Jvm.MethodName) jdk_52_method_21_code (7 : Nat) (Option.some Jvm.ClassFile.FieldType.int)).before args0 about1 = true := code_word (m := ⟨19, 5⟩) (meth := k19m5) (c := k19c5) (by decide +kernel) rfl rfl rfl (by decide +kernel)
set_option maxRecDepth 65536 in
theorem w_c26 : (Jvm.Cond.code ({ cls := "java/lang/StringUTF16", name := "coderFromArrayLen", desc := "([BI)B" } : Jvm.MethodName) jdk_52_method_15_code (2 : Nat) (Option.some Jvm.ClassFile.FieldType.byte)).before args0 about1 = true := code_word (m := ⟨19, 3⟩) (meth := k19m3) (c := k19c3) (by decide +kernel) rfl rfl rfl (by decide +kernel)
set_option maxRecDepth 65536 in
theorem w_c27 : (Jvm.Cond.code ({ cls := "java/lang/StringUTF16", name := "newBytesFor", desc := "(I)[B" } : Jvm.MethodName) jdk_52_method_2_code (1 : Nat) (Option.some (Jvm.ClassFile.FieldType.array Jvm.ClassFile.FieldType.byte))).before args0 about1 = true := code_word (m := ⟨19, 1⟩) (meth := k19m1) (c := k19c1) (by decide +kernel) rfl rfl rfl (by decide +kernel)
set_option maxRecDepth 65536 in
theorem w_c28 : (Jvm.Cond.code ({ cls := "java/lang/StringUTF16", name := "newBytesLength", desc := "(I)I" } : Jvm.MethodName) jdk_52_method_3_code (1 : Nat) (Option.some Jvm.ClassFile.FieldType.int)).before args0 about1 = true := code_word (m := ⟨19, 2⟩) (meth := k19m2) (c := k19c2) (by decide +kernel) rfl rfl rfl (by decide +kernel)
set_option maxRecDepth 65536 in
theorem w_c29 : (Jvm.Cond.code ({ cls := "com/example/ledgerpost/ledgerpost/PayloadOfTextPinLaw", name := "utf8Len", desc := "(C)I" } : Jvm.MethodName) method_2_code (1 : Nat) (Option.some Jvm.ClassFile.FieldType.int)).before args0 about1 = true := code_word (m := ⟨1, 1⟩) (meth := k1m1) (c := k1c1) (by decide +kernel) rfl rfl rfl (by decide +kernel)
set_option maxRecDepth 65536 in
theorem w_c30 : (Jvm.Cond.code ({ cls := "com/example/ledgerpost/ledgerpost/PayloadOfTextPinLaw", name := "firstByte", desc := "(C)I" } : Jvm.MethodName) method_3_code (1 : Nat) (Option.some Jvm.ClassFile.FieldType.int)).before args0 about1 = true := code_word (m := ⟨1, 2⟩) (meth := k1m2) (c := k1c2) (by decide +kernel) rfl rfl rfl (by decide +kernel)
set_option maxRecDepth 65536 in
theorem w_c31 : (Jvm.Cond.code ({ cls := "java/util/Arrays", name := "copyOf", desc := "([BI)[B" } : Jvm.MethodName) jdk_65_method_121_code (3 : Nat) (Option.some (Jvm.ClassFile.FieldType.array Jvm.ClassFile.FieldType.byte))).before args0 about1 = true := code_word (m := ⟨18, 2⟩) (meth := k18m2) (c := k18c2) (by decide +kernel) rfl rfl rfl (by decide +kernel)
set_option maxRecDepth 65536 in
theorem w_c32 : (Jvm.Cond.code ({ cls := "java/lang/Math", name := "min", desc := "(II)I" } : Jvm.MethodName) jdk_29_method_69_code (2 : Nat) (Option.some Jvm.ClassFile.FieldType.int)).before args0 about1 = true := code_word (m := ⟨20, 1⟩) (meth := k20m1) (c := k20c1) (by decide +kernel) rfl rfl rfl (by decide +kernel)
def codes1 : List Jvm.Cond := [Jvm.Cond.code x code maxLocals ret, Jvm.Cond.code ({ cls := "java/lang/String", name := "<init>", desc := "([C)V" } : Jvm.MethodName) jdk_42_method_3_code (2 : Nat) (Option.none : Option Jvm.ClassFile.FieldType), Jvm.Cond.code ({ cls := "java/lang/String", name := "<init>", desc := "([CIILjava/lang/Void;)V" } : Jvm.MethodName) jdk_42_method_149_code (6 : Nat) (Option.none : Option Jvm.ClassFile.FieldType), Jvm.Cond.code ({ cls := "java/lang/Object", name := "<init>", desc := "()V" } : Jvm.MethodName) object_method_1_code (1 : Nat) (Option.none : Option Jvm.ClassFile.FieldType), Jvm.Cond.code ({ cls := "com/example/ledgerpost/ledgerpost/Payload", name := "ofText", desc := "(Ljava/lang/String;)Lcom/example/ledgerpost/ledgerpost/Payload;" } : Jvm.MethodName) prog_22_method_2_code (1 : Nat) (Option.some (Jvm.ClassFile.FieldType.object "com/example/ledgerpost/ledgerpost/Payload")), Jvm.Cond.code ({ cls := "java/util/Objects", name := "requireNonNull", desc := "(Ljava/lang/Object;Ljava/lang/String;)Ljava/lang/Object;" } : Jvm.MethodName) jdk_31_method_11_code (2 : Nat) (Option.some (Jvm.ClassFile.FieldType.object "java/lang/Object")), Jvm.Cond.code ({ cls := "com/example/ledgerpost/ledgerpost/Payload", name := "<init>", desc := "(Ljava/lang/String;[B)V" } : Jvm.MethodName) prog_22_method_1_code (3 : Nat) (Option.none : Option Jvm.ClassFile.FieldType), Jvm.Cond.code ({ cls := "com/example/ledgerpost/ledgerpost/Payload", name := "isText", desc := "()Z" } : Jvm.MethodName) prog_22_method_4_code (1 : Nat) (Option.some Jvm.ClassFile.FieldType.boolean), Jvm.Cond.code ({ cls := "com/example/ledgerpost/ledgerpost/Payload", name := "text", desc := "()Ljava/lang/String;" } : Jvm.MethodName) prog_22_method_5_code (1 : Nat) (Option.some (Jvm.ClassFile.FieldType.object "java/lang/String")), Jvm.Cond.code ({ cls := "java/lang/String", name := "equals", desc := "(Ljava/lang/Object;)Z" } : Jvm.MethodName) jdk_42_method_66_code (3 : Nat) (Option.some Jvm.ClassFile.FieldType.boolean), Jvm.Cond.code ({ cls := "com/example/ledgerpost/ledgerpost/Payload", name := "length", desc := "()J" } : Jvm.MethodName) prog_22_method_7_code (1 : Nat) (Option.some Jvm.ClassFile.FieldType.long), Jvm.Cond.code ({ cls := "java/lang/String", name := "length", desc := "()I" } : Jvm.MethodName) jdk_42_method_54_code (1 : Nat) (Option.some Jvm.ClassFile.FieldType.int), Jvm.Cond.code ({ cls := "java/lang/String", name := "coder", desc := "()B" } : Jvm.MethodName) jdk_42_method_152_code (1 : Nat) (Option.some Jvm.ClassFile.FieldType.byte), Jvm.Cond.code ({ cls := "com/example/ledgerpost/ledgerpost/Payload", name := "bytes", desc := "()[B" } : Jvm.MethodName) prog_22_method_6_code (1 : Nat) (Option.some (Jvm.ClassFile.FieldType.array Jvm.ClassFile.FieldType.byte)), Jvm.Cond.code ({ cls := "java/lang/String", name := "getBytes", desc := "(Ljava/nio/charset/Charset;)[B" } : Jvm.MethodName) jdk_42_method_64_code (2 : Nat) (Option.some (Jvm.ClassFile.FieldType.array Jvm.ClassFile.FieldType.byte)), Jvm.Cond.code ({ cls := "java/lang/String", name := "encode", desc := "(Ljava/nio/charset/Charset;B[B)[B" } : Jvm.MethodName) jdk_42_method_18_code (3 : Nat) (Option.some (Jvm.ClassFile.FieldType.array Jvm.ClassFile.FieldType.byte)), Jvm.Cond.code ({ cls := "java/lang/String", name := "encodeUTF8", desc := "(B[BZ)[B" } : Jvm.MethodName) jdk_42_method_46_code (9 : Nat) (Option.some (Jvm.ClassFile.FieldType.array Jvm.ClassFile.FieldType.byte)), Jvm.Cond.code ({ cls := "java/lang/StringCoding", name := "hasNegatives", desc := "([BII)Z" } : Jvm.MethodName) jdk_123_method_2_code (3 : Nat) (Option.some Jvm.ClassFile.FieldType.boolean), Jvm.Cond.code ({ cls := "java/lang/StringCoding", name := "countPositives", desc := "([BII)I" } : Jvm.MethodName) jdk_123_method_3_code (5 : Nat) (Option.some Jvm.ClassFile.FieldType.int), Jvm.Cond.code ({ cls := "com/example/ledgerpost/ledgerpost/Payload", name := "equals", desc := "(Ljava/lang/Object;)Z" } : Jvm.MethodName) prog_22_method_8_code (3 : Nat) (Option.some Jvm.ClassFile.FieldType.boolean), Jvm.Cond.code ({ cls := "java/util/Objects", name := "equals", desc := "(Ljava/lang/Object;Ljava/lang/Object;)Z" } : Jvm.MethodName) jdk_31_method_2_code (2 : Nat) (Option.some Jvm.ClassFile.FieldType.boolean), Jvm.Cond.code ({ cls := "java/lang/StringLatin1", name := "equals", desc := "([B[B)Z" } : Jvm.MethodName) jdk_43_method_13_code (3 : Nat) (Option.some Jvm.ClassFile.FieldType.boolean), Jvm.Cond.code ({ cls := "java/util/Arrays", name := "equals", desc := "([B[B)Z" } : Jvm.MethodName) jdk_65_method_89_code (3 : Nat) (Option.some Jvm.ClassFile.FieldType.boolean), Jvm.Cond.code ({ cls := "com/example/ledgerpost/ledgerpost/Payload", name := "toString", desc := "()Ljava/lang/String;" } : Jvm.MethodName) prog_22_method_10_code (1 : Nat) (Option.some (Jvm.ClassFile.FieldType.object "java/lang/String")), Jvm.Cond.code ({ cls := "java/lang/StringUTF16", name := "compress", desc := "([CII)[B" } : Jvm.MethodName) jdk_52_method_16_code (6 : Nat) (Option.some (Jvm.ClassFile.FieldType.array Jvm.ClassFile.FieldType.byte)), Jvm.Cond.code ({ cls := "java/lang/StringUTF16", name := "compress", desc := "([CI[BII)I" } : Jvm.MethodName) jdk_52_method_21_code (7 : Nat) (Option.some Jvm.ClassFile.FieldType.int), Jvm.Cond.code ({ cls := "java/lang/StringUTF16", name := "coderFromArrayLen", desc := "([BI)B" } : Jvm.MethodName) jdk_52_method_15_code (2 : Nat) (Option.some Jvm.ClassFile.FieldType.byte), Jvm.Cond.code ({ cls := "java/lang/StringUTF16", name := "newBytesFor", desc := "(I)[B" } : Jvm.MethodName) jdk_52_method_2_code (1 : Nat) (Option.some (Jvm.ClassFile.FieldType.array Jvm.ClassFile.FieldType.byte)), Jvm.Cond.code ({ cls := "java/lang/StringUTF16", name := "newBytesLength", desc := "(I)I" } : Jvm.MethodName) jdk_52_method_3_code (1 : Nat) (Option.some Jvm.ClassFile.FieldType.int), Jvm.Cond.code ({ cls := "com/example/ledgerpost/ledgerpost/PayloadOfTextPinLaw", name := "utf8Len", desc := "(C)I" } : Jvm.MethodName) method_2_code (1 : Nat) (Option.some Jvm.ClassFile.FieldType.int), Jvm.Cond.code ({ cls := "com/example/ledgerpost/ledgerpost/PayloadOfTextPinLaw", name := "firstByte", desc := "(C)I" } : Jvm.MethodName) method_3_code (1 : Nat) (Option.some Jvm.ClassFile.FieldType.int), Jvm.Cond.code ({ cls := "java/util/Arrays", name := "copyOf", desc := "([BI)[B" } : Jvm.MethodName) jdk_65_method_121_code (3 : Nat) (Option.some (Jvm.ClassFile.FieldType.array Jvm.ClassFile.FieldType.byte)), Jvm.Cond.code ({ cls := "java/lang/Math", name := "min", desc := "(II)I" } : Jvm.MethodName) jdk_29_method_69_code (2 : Nat) (Option.some Jvm.ClassFile.FieldType.int)]
set_option maxRecDepth 65536 in
theorem codes_eq : words1.filter isCode = codes1 := rfl
theorem w_codes : ∀ c ∈ words1.filter isCode, c.before args0 about1 = true := by
  rw [codes_eq]
  intro c hc
  simp only [codes1, List.mem_cons, List.not_mem_nil, or_false] at hc
  rcases hc with rfl | rfl | rfl | rfl | rfl | rfl | rfl | rfl | rfl | rfl | rfl | rfl | rfl | rfl | rfl | rfl | rfl | rfl | rfl | rfl | rfl | rfl | rfl | rfl | rfl | rfl | rfl | rfl | rfl | rfl | rfl | rfl | rfl
  · exact w_c0
  · exact w_c1
  · exact w_c2
  · exact w_c3
  · exact w_c4
  · exact w_c5
  · exact w_c6
  · exact w_c7
  · exact w_c8
  · exact w_c9
  · exact w_c10
  · exact w_c11
  · exact w_c12
  · exact w_c13
  · exact w_c14
  · exact w_c15
  · exact w_c16
  · exact w_c17
  · exact w_c18
  · exact w_c19
  · exact w_c20
  · exact w_c21
  · exact w_c22
  · exact w_c23
  · exact w_c24
  · exact w_c25
  · exact w_c26
  · exact w_c27
  · exact w_c28
  · exact w_c29
  · exact w_c30
  · exact w_c31
  · exact w_c32
set_option maxRecDepth 65536 in
theorem w_t1 : (words1.take 24).all (fun c => isCode c || c.before args0 about1) = true := by decide +kernel
set_option maxRecDepth 65536 in
theorem w_t2 : ((words1.drop 24).take 24).all (fun c => isCode c || c.before args0 about1) = true := by decide +kernel
set_option maxRecDepth 65536 in
theorem w_t3 : (((words1.drop 24).drop 24).take 24).all (fun c => isCode c || c.before args0 about1) = true := by decide +kernel
set_option maxRecDepth 65536 in
theorem w_t4 : ((((words1.drop 24).drop 24).drop 24).take 24).all (fun c => isCode c || c.before args0 about1) = true := by decide +kernel
set_option maxRecDepth 65536 in
theorem w_t5 : (((((words1.drop 24).drop 24).drop 24).drop 24).take 24).all (fun c => isCode c || c.before args0 about1) = true := by decide +kernel
set_option maxRecDepth 65536 in
theorem w_t6 : ((((((words1.drop 24).drop 24).drop 24).drop 24).drop 24).take 24).all (fun c => isCode c || c.before args0 about1) = true := by decide +kernel
set_option maxRecDepth 65536 in
theorem w_t7 : (((((((words1.drop 24).drop 24).drop 24).drop 24).drop 24).drop 24).take 24).all (fun c => isCode c || c.before args0 about1) = true := by decide +kernel
set_option maxRecDepth 65536 in
theorem w_t8 : (((((((words1.drop 24).drop 24).drop 24).drop 24).drop 24).drop 24).drop 24).all (fun c => isCode c || c.before args0 about1) = true := by decide +kernel
theorem w_tables : (allAtoms (Jvm.Cond.code x code maxLocals ret :: tables_1)).before args0 about1 = true := by
  rw [allAtoms_all]
  show words1.all (fun c => c.before args0 about1) = true
  refine all_split ?_ w_codes
  rw [← List.take_append_drop 24 words1, List.all_append, w_t1, ← List.take_append_drop 24 (words1.drop 24), List.all_append, w_t2, ← List.take_append_drop 24 ((words1.drop 24).drop 24), List.all_append, w_t3, ← List.take_append_drop 24 (((words1.drop 24).drop 24).drop 24), List.all_append, w_t4, ← List.take_append_drop 24 ((((words1.drop 24).drop 24).drop 24).drop 24), List.all_append, w_t5, ← List.take_append_drop 24 (((((words1.drop 24).drop 24).drop 24).drop 24).drop 24), List.all_append, w_t6, ← List.take_append_drop 24 ((((((words1.drop 24).drop 24).drop 24).drop 24).drop 24).drop 24), List.all_append, w_t7, w_t8]
  rfl
set_option maxRecDepth 65536 in
theorem w_rest : rest_1_c.before args0 about1 = true := by decide +kernel
set_option maxRecDepth 65536 in
theorem w_case : (Jvm.Cond.and given_1 narrow_1).before args0 about1 = true := by decide +kernel
set_option maxRecDepth 65536 in
theorem w_consts : constsHeld consts_1 about1 := Jvm.Lit.constsHeldB_iff.mp (by decide +kernel)
theorem w_applies : (headSpec (Jvm.Cond.code x code maxLocals ret :: tables_1) room_1).applies x e0.platform about1 = true :=
  (Spec.applies_iff w_frames).mpr ⟨w_running, w_runnable, w_alone, w_named, w_hears, w_ripe, w_room, w_tables⟩
theorem atStart : AtStart classFile x code maxLocals ret World_1 tables_1 room_1 Calls_1 rest_1 Pre_1 launch0 p0 e0 about1 theMethod args0 below0 :=
  ⟨lists_1, trivial, launch0.admits_env _ _ _, launch0.least_env, fairChoices_fair.cas, fairChoices_fair.clock, w_frames, w_args, w_heap, w_applies, ⟨w_consts, trivial⟩, w_rest, w_case⟩
end start1
theorem witness_1 : WitnessClaimed_1 := ⟨start1.p0, start1.e0, start1.about1, start1.theMethod, start1.args0, start1.below0, start1.atStart⟩
end Jvm.Pilot.@@N@@
