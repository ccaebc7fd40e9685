import JvmDerived
import JvmDerived.Pilot.@@N@@Statement
import JvmDerived.Pilot.@@N@@Code
set_option linter.unusedVariables false
set_option linter.unusedSimpArgs false
namespace Jvm.RoadKit
open Sem ClassFile Op Lib Jvm.Stand Jvm.Free Jvm.LawKit
section New
variable {p : Program} {l : Launch} {e : Env} {R : Room} {s : State} {m : MethodId} {args : Array Value} {below : List Frame} {meth : Method} {c : Code} {T : State} {locs : List Loc} {cells slots : Nat}
theorem retI (X : Stand p l e R s m args below meth c T locs cells slots) (hx : p.tables.exec = Jvm.exec) {pc : Nat} {Ls : Array Slot} {z : Int32} {rest : List Value} (hret : meth.sig.returnType = some .int) (hd : decode c.code pc = .ok (.ireturn, 1)) {fs : List Frame}
    (hl : ∀ (f : JFrame) (acts : List Action), f.method = m → f.locked = none → f.entered = [] → (doReturn e (T.setTop f) acts (some (.int z))).1 = T.setFrames fs) : Steps p.tables e below (T.setTop (mkF m pc Ls (.int z :: rest))) (T.setFrames fs) := by
  have hm' : T.vm.method? m = some meth := X.method'
  have hn : narrow .int (.int z) = .int z := rfl
  show Steps p.tables e below (T.setTop { method := m, pc := pc, locals := Ls, stack := _ :: rest, locked := none }) _
  jvm_step X.here [X.here.top, hx, hd, hm', hret, hn]
  first | (intro acts; rw [hl _ acts rfl rfl rfl]) | rw [hl _ _ rfl rfl rfl]
  exact Steps.refl _
theorem retJ (X : Stand p l e R s m args below meth c T locs cells slots) (hx : p.tables.exec = Jvm.exec) {pc : Nat} {Ls : Array Slot} {z : Int64} {rest : List Value} (hret : meth.sig.returnType = some .long) (hd : decode c.code pc = .ok (.lreturn, 1)) {fs : List Frame}
    (hl : ∀ (f : JFrame) (acts : List Action), f.method = m → f.locked = none → f.entered = [] → (doReturn e (T.setTop f) acts (some (.long z))).1 = T.setFrames fs) : Steps p.tables e below (T.setTop (mkF m pc Ls (.long z :: rest))) (T.setFrames fs) := by
  have hm' : T.vm.method? m = some meth := X.method'
  have hn : narrow .long (.long z) = .long z := rfl
  show Steps p.tables e below (T.setTop { method := m, pc := pc, locals := Ls, stack := _ :: rest, locked := none }) _
  jvm_step X.here [X.here.top, hx, hd, hm', hret, hn]
  first | (intro acts; rw [hl _ acts rfl rfl rfl]) | rw [hl _ _ rfl rfl rfl]
  exact Steps.refl _
end New
end Jvm.RoadKit
namespace Jvm.Pilot.@@N@@
open Jvm Jvm.ClassFile Sem Op Lib Jvm.Free Jvm.Stand Jvm.LawKit Jvm.RoadKit Bundle Jvm.Pilot.@@N@@.Jvm.D
theorem own_j1 {G : Prop} {A : Prop → Prop} (h1 : A G) (h2 : A G → G) : G := h2 h1
def own_Af (Z : State) (h : Heap) (a : Addr) (ty : FieldType) (n : Nat) (g : Nat → Int32) : Prop := ∃ c : Cell, Arr Z h a c ty ∧ c.slots.size = n ∧ ∀ j, j < n → c.slots[j]? = some (.int (g j))
theorem own_Afkeep {Z : State} {h h' : Heap} {a : Addr} {ty : FieldType} {n : Nat} {g : Nat → Int32} {ws : List Addr} (F : own_Af Z h a ty n g) (K : Keep h h' ws) (q : a ∉ ws) : own_Af Z h' a ty n g := by
  obtain ⟨c, A, r⟩ := F
  exact ⟨c, ⟨K.2.1 a c A.1 q, A.2⟩, r⟩
theorem own_Afwr {Z : State} {h h' : Heap} {a : Addr} {ty : FieldType} {n : Nat} {g : Nat → Int32} {c : Cell} {i : Nat} {b : Int32} (A : Arr Z h a c ty) (S : c.slots.size = n) (H : ∀ j, j < n → c.slots[j]? = some (.int (g j))) (W : Wr h h' a i (.int b)) (hi : i < n) :
    own_Af Z h' a ty n (fun j => if j = i then b else g j) := by
  refine ⟨c.setSlot i (.int b), A.same W, by rw [sz_set]; exact S, fun j hj => ?_⟩
  show (c.slots.setIfInBounds i (.int b))[j]? = some (.int (if j = i then b else g j))
  by_cases q : j = i
  · subst q; rw [if_pos rfl, Array.getElem?_setIfInBounds_self_of_lt (by omega)]
  · rw [if_neg q, Array.getElem?_setIfInBounds_ne (Ne.symm q)]; exact H j hj
theorem own_Afcongr {Z : State} {h : Heap} {a : Addr} {ty : FieldType} {n : Nat} {g g' : Nat → Int32} (F : own_Af Z h a ty n g) (q : ∀ j, j < n → g j = g' j) : own_Af Z h a ty n g' := by
  obtain ⟨c, A, S, H⟩ := F
  exact ⟨c, A, S, fun j hj => by rw [H j hj, q j hj]⟩
theorem own_Aflt {Z : State} {h : Heap} {a : Addr} {ty : FieldType} {n : Nat} {g : Nat → Int32} (F : own_Af Z h a ty n g) : a < h.size := by
  obtain ⟨c, A, -⟩ := F
  exact (Array.getElem?_eq_some_iff.mp A.1).1
/-- one unit that is a code point by itself -/
def own_one (c : Int32) : Prop := 0 < c.toInt ∧ c.toInt < 65536 ∧ (c.toInt < 55296 ∨ 57343 < c.toInt)
def own_hi (c : Int32) : Prop := 55296 ≤ c.toInt ∧ c.toInt < 56320
def own_lo (c : Int32) : Prop := 56320 ≤ c.toInt ∧ c.toInt < 57344
def own_W (g : Nat → Int32) (b : Nat) : List Bool → Nat → Prop
  | [], a => a = b
  | false :: r, a => own_one (g a) ∧ own_W g b r (a + 1)
  | true :: r, a => own_hi (g a) ∧ own_lo (g (a + 1)) ∧ own_W g b r (a + 2)
theorem own_Wle {g : Nat → Int32} {b : Nat} : ∀ (ks : List Bool) (a : Nat), own_W g b ks a → a ≤ b := by
  intro ks
  induction ks with
  | nil => intro a w; exact Nat.le_of_eq w
  | cons k r ih =>
    intro a w
    cases k with
    | false => have := ih _ w.2; omega
    | true => have := ih _ w.2.2; omega
theorem own_Wcongr {g g' : Nat → Int32} {b : Nat} (q : ∀ j, j < b → g j = g' j) : ∀ (ks : List Bool) (a : Nat), own_W g b ks a → own_W g' b ks a := by
  intro ks
  induction ks with
  | nil => intro a w; exact w
  | cons k r ih =>
    intro a w
    cases k with
    | false =>
      have := own_Wle _ _ w.2
      exact ⟨by rw [← q _ (by omega)]; exact w.1, ih _ w.2⟩
    | true =>
      have := own_Wle _ _ w.2.2
      exact ⟨by rw [← q _ (by omega)]; exact w.1, by rw [← q _ (by omega)]; exact w.2.1, ih _ w.2.2⟩
theorem own_Wapp {g : Nat → Int32} {b c : Nat} {rs : List Bool} (r0 : own_W g c rs b) : ∀ (ks : List Bool) (a : Nat), own_W g b ks a → own_W g c (ks ++ rs) a := by
  intro ks
  induction ks with
  | nil => intro a w; have e : a = b := w; rw [e]; exact r0
  | cons k r ih =>
    intro a w
    cases k with
    | false => exact ⟨w.1, ih _ w.2⟩
    | true => exact ⟨w.1, w.2.1, ih _ w.2.2⟩
theorem own_Wrng {g : Nat → Int32} {b : Nat} : ∀ (ks : List Bool) (a : Nat), own_W g b ks a → ∀ j, a ≤ j → j < b → 0 ≤ (g j).toInt ∧ (g j).toInt < 65536 := by
  intro ks
  induction ks with
  | nil => intro a w j h1 h2; have e : a = b := w; omega
  | cons k r ih =>
    intro a w j h1 h2
    cases k with
    | false =>
      by_cases e : j = a
      · subst e; exact ⟨by have := w.1.1; omega, w.1.2.1⟩
      · exact ih _ w.2 j (by omega) h2
    | true =>
      by_cases e : j = a
      · subst e; exact ⟨by have := w.1.1; omega, by have := w.1.2; omega⟩
      · by_cases e2 : j = a + 1
        · subst e2; exact ⟨by have := w.2.1.1; omega, by have := w.2.1.2; omega⟩
        · exact ih _ w.2.2 j (by omega) h2
/-- the bytes of a text of n units: Latin, or UTF-16 (low byte first) -/
def own_rng (n : Nat) (g : Nat → Int32) : Prop := ∀ j, j < n → 0 ≤ (g j).toInt ∧ (g j).toInt < 65536
def own_b8 (c : Int32) : Int32 := c.toInt8.toInt32
def own_bh (c : Int32) : Int32 := (c >>> ((8 : Int32) &&& 31)).toInt8.toInt32
def own_b16 (g : Nat → Int32) (j : Nat) : Int32 := if j % 2 = 0 then own_b8 (g (j / 2)) else own_bh (g (j / 2))
def own_enc (n : Nat) (g : Nat → Int32) (cd : Int32) (N : Nat) (v : Nat → Int32) : Prop :=
  (cd = 0 ∧ N = n ∧ (∀ j, j < n → (g j).toInt < 256) ∧ ∀ j, j < n → v j = own_b8 (g j)) ∨ (cd = 1 ∧ N = 2 * n ∧ ∀ j, j < 2 * n → v j = own_b16 g j)
def own_S (Z : State) (h : Heap) (x : Addr) (n : Nat) (g : Nat → Int32) : Prop := ∃ (t : Addr) (cd : Int32) (N : Nat) (v : Nat → Int32), Exa Z h x "java/lang/String" ∧ Fld Z h x "java/lang/String" "value" "[B" (.ref t) ∧ Fld Z h x "java/lang/String" "coder" "B" (.int cd) ∧ own_Af Z h t .byte N v ∧ own_enc n g cd N v
theorem own_ofadd (a b : Nat) : Int32.ofNat a + Int32.ofNat b = Int32.ofNat (a + b) := (Int32.ofNat_add a b).symm
theorem own_of1 (a : Nat) : Int32.ofNat a + (1 : Int32) = Int32.ofNat (a + 1) := own_ofadd a 1
theorem own_ofv {a : Nat} (h : a < 2147483648) : (Int32.ofNat a).toInt = a := Int32.toInt_ofNat_of_lt h
theorem own_ofc {a : Nat} (h : a < 2147483648) : (Int32.ofNat a).toNatClampNeg = a := by
  rw [Int32.toNatClampNeg, own_ofv h]; rfl
theorem own_oflt {a b : Nat} (ha : a < 2147483648) (hb : b < 2147483648) : Int32.ofNat a < Int32.ofNat b ↔ a < b := by
  rw [Int32.lt_iff_toInt_lt, own_ofv ha, own_ofv hb]; omega
theorem own_ofn0 {a : Nat} (ha : a < 2147483648) : ¬ Int32.ofNat a < 0 := by
  rw [Int32.lt_iff_toInt_lt, own_ofv ha]
  have : (0 : Int32).toInt = 0 := rfl
  omega
theorem own_ofin {a n : Nat} {sz : Nat} (hs : sz = n) (h : a < n) (hn : n < 1000) : ¬ (Int32.ofNat a < 0 ∨ sz ≤ (Int32.ofNat a).toNatClampNeg) := by
  rw [own_ofc (by omega), Int32.lt_iff_toInt_lt, own_ofv (by omega)]
  have : (0 : Int32).toInt = 0 := rfl
  omega
theorem own_nb (c : Int32) : nar .byte (c.toInt8.toInt32) = own_b8 c := by
  show c.toInt8.toInt32.toInt8.toInt32 = c.toInt8.toInt32
  have a4 := c_i2b c
  have a5 := c_i2b (c.toInt8.toInt32)
  apply Int32.toInt_inj.mp
  omega
theorem own_255 {c : Int32} : (255 : Int32) < c ↔ ¬ c.toInt < 256 := by
  rw [Int32.lt_iff_toInt_lt]
  have : (255 : Int32).toInt = 255 := rfl
  omega
theorem own_cstep (g d : Nat → Int32) (k j : Nat) : (if j = k then own_b8 (g k) else (if j < k then own_b8 (g j) else d j)) = if j < k + 1 then own_b8 (g j) else d j := by
  by_cases h : j = k
  · subst h; rw [if_pos rfl, if_pos (by omega)]
  · rw [if_neg h]
    by_cases h2 : j < k
    · rw [if_pos h2, if_pos (by omega)]
    · rw [if_neg h2, if_neg (by omega)]
def own_fr (lx : Slot) : Prop := lx = .unset ∨ ∃ z, lx = .val (.int z)
theorem own_nb0 (c : Int32) : nar .byte ((c >>> ((0 : Int32) &&& 31)).toInt8.toInt32) = own_b8 c := by
  show (c >>> ((0 : Int32) &&& 31)).toInt8.toInt32.toInt8.toInt32 = c.toInt8.toInt32
  have a1 := c_ishr c 0 0 (by decide)
  have a3 := c_i2b (c >>> ((0 : Int32) &&& 31))
  have a4 := c_i2b c
  have a5 := c_i2b ((c >>> ((0 : Int32) &&& 31)).toInt8.toInt32)
  apply Int32.toInt_inj.mp
  omega
theorem own_nb8 (c : Int32) : nar .byte ((c >>> ((8 : Int32) &&& 31)).toInt8.toInt32) = own_bh c := own_nb _
theorem own_shl1 {k : Nat} (h : k < 1000) : (Int32.ofNat k) <<< ((1 : Int32) &&& 31) = Int32.ofNat (2 * k) := by
  have a1 := c_ishl (Int32.ofNat k) 1 1 (by decide)
  have r := rng32 ((Int32.ofNat k) <<< ((1 : Int32) &&& 31))
  apply Int32.toInt_inj.mp
  rw [own_ofv (by omega)] at *
  omega
theorem own_get {c b0 b1 : Int32} (h : 0 ≤ c.toInt ∧ c.toInt < 65536) (e0 : b0 = own_b8 c) (e1 : b1 = own_bh c) :
    (((b0 &&& (255 : Int32)) <<< ((0 : Int32) &&& 31)) ||| ((b1 &&& (255 : Int32)) <<< ((8 : Int32) &&& 31))).toUInt32.toUInt16.toUInt32.toInt32 = c := by
  have a1 := c_mask b0 255 8 (by decide) (by decide)
  have a2 := c_mask b1 255 8 (by decide) (by decide)
  have a3 := c_ishl (b0 &&& (255 : Int32)) 0 0 (by decide)
  have a4 := c_ishl (b1 &&& (255 : Int32)) 8 8 (by decide)
  have r3 := rng32 ((b0 &&& (255 : Int32)) <<< ((0 : Int32) &&& 31))
  have r4 := rng32 ((b1 &&& (255 : Int32)) <<< ((8 : Int32) &&& 31))
  have a5 := c_or' ((b0 &&& (255 : Int32)) <<< ((0 : Int32) &&& 31)) ((b1 &&& (255 : Int32)) <<< ((8 : Int32) &&& 31)) 8 (by decide) 256 (by decide) (by omega) (by omega) (by omega)
  have a6 := c_i2c (((b0 &&& (255 : Int32)) <<< ((0 : Int32) &&& 31)) ||| ((b1 &&& (255 : Int32)) <<< ((8 : Int32) &&& 31)))
  have a7 := c_i2b c
  have a8 := c_ishr c 8 8 (by decide)
  have a9 := c_i2b (c >>> ((8 : Int32) &&& 31))
  have f0 : b0.toInt = (c.toInt8.toInt32).toInt := by rw [e0]; rfl
  have f1 : b1.toInt = ((c >>> ((8 : Int32) &&& 31)).toInt8.toInt32).toInt := by rw [e1]; rfl
  apply Int32.toInt_inj.mp
  omega
theorem own_b16e (g : Nat → Int32) (k : Nat) : own_b16 g (2 * k) = own_b8 (g k) := by
  rw [own_b16, if_pos (by omega), show 2 * k / 2 = k by omega]
theorem own_b16o (g : Nat → Int32) (k : Nat) : own_b16 g (2 * k + 1) = own_bh (g k) := by
  rw [own_b16, if_neg (by omega), show (2 * k + 1) / 2 = k by omega]
theorem own_nc {c : Int32} (h : 0 ≤ c.toInt ∧ c.toInt < 65536) : nar .char c = c := by
  show c.toUInt32.toUInt16.toUInt32.toInt32 = c
  have a := c_i2c c
  apply Int32.toInt_inj.mp
  omega
theorem own_AfA {Z : State} {h : Heap} {a : Addr} {k : ClassId} {ty : FieldType} {n : Nat} {vs : List Value} {d : Value} {g : Nat → Int32} (V : Arv Z h a k ty (Int32.ofNat n) vs d) (hn : n < 1000) (hv : ∀ j, j < n → vs.getD j d = .int (g j)) : own_Af Z h a ty n g := by
  obtain ⟨c, A, -, S, -, H, -⟩ := V
  have S' : c.slots.size = n := by rw [S, own_ofc (by omega)]
  exact ⟨c, A, S', fun j hj => by rw [H j (by omega), hv j hj]⟩
theorem own_tstep (g : Nat → Int32) (k j : Nat) : (if j = 2 * k + 1 then own_bh (g k) else if j = 2 * k then own_b8 (g k) else if j < 2 * k then own_b16 g j else 0) = if j < 2 * (k + 1) then own_b16 g j else 0 := by
  by_cases h1 : j = 2 * k + 1
  · rw [if_pos h1, if_pos (by omega), h1, own_b16o]
  · rw [if_neg h1]
    by_cases h2 : j = 2 * k
    · rw [if_pos h2, if_pos (by omega), h2, own_b16e]
    · rw [if_neg h2]
      by_cases h3 : j < 2 * k
      · rw [if_pos h3, if_pos (by omega)]
      · rw [if_neg h3, if_neg (by omega)]
theorem own_ofne {a b : Nat} (ha : a < 2147483648) (hb : b < 2147483648) (h : a ≠ b) : ¬ Int32.ofNat a = Int32.ofNat b := by
  intro q
  have := congrArg Int32.toInt q
  rw [own_ofv ha, own_ofv hb] at this
  omega
def own_cd (n N : Nat) : Int32 := if N = n then 0 else 1
theorem own_cf {n N : Nat} (b0 : 1 ≤ n) (b1 : n ≤ 6) (h : N = n ∨ N = 2 * n) : nar .byte ((((Int32.ofNat n) - (Int32.ofNat N)).toUInt32 >>> ((31 : Int32) &&& 31).toUInt32).toInt32).toInt8.toInt32 = own_cd n N := by
  rw [own_nb]
  show ((((Int32.ofNat n) - (Int32.ofNat N)).toUInt32 >>> ((31 : Int32) &&& 31).toUInt32).toInt32).toInt8.toInt32 = own_cd n N
  have a1 := c_isub (Int32.ofNat n) (Int32.ofNat N)
  have r := rng32 ((Int32.ofNat n) - (Int32.ofNat N))
  have a2 := c_iushr ((Int32.ofNat n) - (Int32.ofNat N)) 31 31 (by decide) (by decide)
  have a3 := c_i2b ((((Int32.ofNat n) - (Int32.ofNat N)).toUInt32 >>> ((31 : Int32) &&& 31).toUInt32).toInt32)
  rw [own_ofv (by omega), own_ofv (by omega)] at a1
  apply Int32.toInt_inj.mp
  rcases h with h | h
  · rw [own_cd, if_pos h]; show _ = (0 : Int); omega
  · rw [own_cd, if_neg (by omega)]; show _ = (1 : Int); omega
theorem own_hat {c : Cell} {n : Nat} {g : Nat → Int32} (H : ∀ j, j < n → c.slots[j]? = some (.int (g j))) {j : Nat} (hj : j < n) (hn : n < 1000) : c.slots[(Int32.ofNat j).toNatClampNeg]? = some (.int (g j)) := by
  rw [own_ofc (by omega)]; exact H j hj
theorem own_of2 (a : Nat) : Int32.ofNat a + (2 : Int32) = Int32.ofNat (a + 2) := own_ofadd a 2
theorem own_cdn (n N : Nat) : nar .byte (own_cd n N) = own_cd n N := by
  unfold own_cd
  split
  · decide
  · decide
theorem own_cdn2 {cd : Int32} (h : cd = 0 ∨ cd = 1) : nar .byte cd = cd := by
  rcases h with rfl | rfl
  · decide
  · decide
theorem own_toenc {Z : State} {h : Heap} {x : Addr} {nN : Nat} {g : Nat → Int32} (b0 : 1 ≤ nN) (B : (own_Af Z h x .byte nN (fun j => own_b8 (g j)) ∧ ∀ j, j < nN → (g j).toInt < 256) ∨ own_Af Z h x .byte (2 * nN) (own_b16 g)) :
    ∃ (N : Nat) (d : Nat → Int32), (N = nN ∨ N = 2 * nN) ∧ own_Af Z h x .byte N d ∧ own_enc nN g (own_cd nN N) N d := by
  rcases B with ⟨A, l8⟩ | A
  · exact ⟨nN, _, Or.inl rfl, A, Or.inl ⟨by rw [own_cd, if_pos rfl], rfl, l8, fun j _ => rfl⟩⟩
  · exact ⟨2 * nN, _, Or.inr rfl, A, Or.inr ⟨by rw [own_cd, if_neg (by omega)], rfl, fun j _ => rfl⟩⟩
theorem own_enc01 {n : Nat} {g : Nat → Int32} {cd : Int32} {N : Nat} {v : Nat → Int32} (E : own_enc n g cd N v) : cd = 0 ∨ cd = 1 := by
  rcases E with ⟨h, -⟩ | ⟨h, -⟩
  · exact Or.inl h
  · exact Or.inr h
theorem own_encN {n : Nat} {g : Nat → Int32} {cd : Int32} {N : Nat} {v : Nat → Int32} (b1 : n ≤ 6) (E : own_enc n g cd N v) : N ≤ 12 := by
  rcases E with ⟨-, h, -⟩ | ⟨-, h, -⟩ <;> omega
theorem own_shr1 {k : Nat} (h : k < 1000) : (Int32.ofNat (2 * k)) >>> ((1 : Int32) &&& 31) = Int32.ofNat k := by
  have a1 := c_ishr (Int32.ofNat (2 * k)) 1 1 (by decide)
  rw [own_ofv (a := 2 * k) (by omega)] at a1
  apply Int32.toInt_inj.mp
  rw [own_ofv (a := k) (by omega)]
  omega
theorem own_len {n : Nat} {g : Nat → Int32} {cd : Int32} {N : Nat} {v : Nat → Int32} (b1 : n ≤ 6) (E : own_enc n g cd N v) : (Int32.ofNat N) >>> (cd &&& 31) = Int32.ofNat n := by
  rcases E with ⟨h1, h2, -⟩ | ⟨h1, h2, -⟩
  · rw [h1, h2]
    have a1 := c_ishr (Int32.ofNat n) 0 0 (by decide)
    apply Int32.toInt_inj.mp
    omega
  · rw [h1, h2]; exact own_shr1 (by omega)
theorem own_and8 {c b : Int32} (h0 : 0 ≤ c.toInt) (h1 : c.toInt < 256) (e : b = own_b8 c) : b &&& (255 : Int32) = c := by
  have a1 := c_mask b 255 8 (by decide) (by decide)
  have a2 := c_i2b c
  have f : b.toInt = (c.toInt8.toInt32).toInt := by rw [e]; rfl
  apply Int32.toInt_inj.mp
  omega
theorem own_one0 {c : Int32} (H : own_one c) : ¬ c = 0 := fun q => by
  have := H.1
  rw [q] at this
  exact absurd this (by decide)
theorem own_one56 {c : Int32} (H : own_one c) (q : ¬ c < (55296 : Int32)) : ¬ c < (56320 : Int32) := by
  rw [Int32.lt_iff_toInt_lt] at *
  have l1 : (55296 : Int32).toInt = 55296 := rfl
  have l2 : (56320 : Int32).toInt = 56320 := rfl
  have := H.2.2
  omega
theorem own_one57 {c : Int32} (H : own_one c) (q : ¬ c < (55296 : Int32)) : (57343 : Int32) < c := by
  rw [Int32.lt_iff_toInt_lt] at *
  have l1 : (55296 : Int32).toInt = 55296 := rfl
  have l2 : (57343 : Int32).toInt = 57343 := rfl
  have := H.2.2
  omega
theorem own_onec {c : Int32} (H : own_one c) : c < (65536 : Int32) := by
  rw [Int32.lt_iff_toInt_lt]
  have l2 : (65536 : Int32).toInt = 65536 := rfl
  have := H.2.1
  omega
theorem own_hi55 {c : Int32} (H : own_hi c) : ¬ c < (55296 : Int32) := by
  rw [Int32.lt_iff_toInt_lt]
  have l2 : (55296 : Int32).toInt = 55296 := rfl
  have := H.1
  omega
theorem own_hi56 {c : Int32} (H : own_hi c) : c < (56320 : Int32) := by
  rw [Int32.lt_iff_toInt_lt]
  have l2 : (56320 : Int32).toInt = 56320 := rfl
  have := H.2
  omega
theorem own_lo56 {c : Int32} (H : own_lo c) : ¬ c < (56320 : Int32) := by
  rw [Int32.lt_iff_toInt_lt]
  have l2 : (56320 : Int32).toInt = 56320 := rfl
  have := H.1
  omega
theorem own_lo57 {c : Int32} (H : own_lo c) : c < (57344 : Int32) := by
  rw [Int32.lt_iff_toInt_lt]
  have l2 : (57344 : Int32).toInt = 57344 := rfl
  have := H.2
  omega
def own_cp (a b : Int32) : Int32 := ((a <<< ((10 : Int32) &&& 31)) + b) + (-56613888 : Int32)
theorem own_cpge {a b : Int32} (H : own_hi a) (K : own_lo b) : 65536 ≤ (own_cp a b).toInt := by
  have a1 := c_ishl a 10 10 (by decide)
  have a2 := c_iadd (a <<< ((10 : Int32) &&& 31)) b
  have a3 := c_iadd ((a <<< ((10 : Int32) &&& 31)) + b) (-56613888 : Int32)
  have k : (-56613888 : Int32).toInt = -56613888 := by decide
  have r1 := rng32 (a <<< ((10 : Int32) &&& 31))
  have r2 := rng32 ((a <<< ((10 : Int32) &&& 31)) + b)
  have r3 := rng32 (((a <<< ((10 : Int32) &&& 31)) + b) + (-56613888 : Int32))
  obtain ⟨h1, h2⟩ := H
  obtain ⟨k1, k2⟩ := K
  show 65536 ≤ (((a <<< ((10 : Int32) &&& 31)) + b) + (-56613888 : Int32)).toInt
  omega
theorem own_cp0 {c : Int32} (H : 65536 ≤ c.toInt) : ¬ c = 0 := fun q => by
  rw [q] at H
  exact absurd H (by decide)
theorem own_cp55 {c : Int32} (H : 65536 ≤ c.toInt) : ¬ c < (55296 : Int32) := by
  rw [Int32.lt_iff_toInt_lt]
  have l2 : (55296 : Int32).toInt = 55296 := rfl
  omega
theorem own_cp57 {c : Int32} (H : 65536 ≤ c.toInt) : (57343 : Int32) < c := by
  rw [Int32.lt_iff_toInt_lt]
  have l2 : (57343 : Int32).toInt = 57343 := rfl
  omega
theorem own_cp65 {c : Int32} (H : 65536 ≤ c.toInt) : ¬ c < (65536 : Int32) := by
  rw [Int32.lt_iff_toInt_lt]
  have l2 : (65536 : Int32).toInt = 65536 := rfl
  omega
theorem own_single {g : Nat → Int32} {u : Int32} {q : Nat} {ks : List Bool} (W : own_W g q ks 0) (hu : own_one u) : own_W (fun j => if j = q then u else g j) (q + 1) (ks ++ [false]) 0 := by
  refine own_Wapp (b := q) ?_ ks 0 (own_Wcongr (fun j hj => ?_) ks 0 W)
  · refine ⟨?_, rfl⟩
    show own_one (if q = q then u else g q)
    rw [if_pos rfl]; exact hu
  · show g j = if j = q then u else g j
    rw [if_neg (by omega)]
theorem own_pair {g : Nat → Int32} {u v : Int32} {q : Nat} {ks : List Bool} (W : own_W g q ks 0) (hu : own_hi u) (hv : own_lo v) : own_W (fun j => if j = q + 1 then v else if j = q then u else g j) (q + 2) (ks ++ [true]) 0 := by
  refine own_Wapp (b := q) ?_ ks 0 (own_Wcongr (fun j hj => ?_) ks 0 W)
  · refine ⟨?_, ?_, rfl⟩
    · show own_hi (if q = q + 1 then v else if q = q then u else g q)
      rw [if_neg (by omega), if_pos rfl]; exact hu
    · show own_lo (if q + 1 = q + 1 then v else if q + 1 = q then u else g (q + 1))
      rw [if_pos rfl]; exact hv
  · show g j = if j = q + 1 then v else if j = q then u else g j
    rw [if_neg (by omega), if_neg (by omega)]
theorem own_m16 (z : Int32) : 0 ≤ (z &&& (65535 : Int32)).toInt ∧ (z &&& (65535 : Int32)).toInt < 65536 := by
  have a := c_mask z 65535 16 (by decide) (by decide)
  omega
theorem own_m10 (z : Int32) : 0 ≤ (z &&& (1023 : Int32)).toInt ∧ (z &&& (1023 : Int32)).toInt < 1024 := by
  have a := c_mask z 1023 10 (by decide) (by decide)
  omega
theorem own_ncc {c : Int32} (h : 0 ≤ c.toInt ∧ c.toInt < 65536) : nar .char (c.toUInt32.toUInt16.toUInt32.toInt32) = c := by
  have e : c.toUInt32.toUInt16.toUInt32.toInt32 = c := by
    have a := c_i2c c
    apply Int32.toInt_inj.mp
    omega
  rw [e]; exact own_nc h
theorem own_phi {z : Int32} (h : 0 ≤ z.toInt ∧ z.toInt < 1024) : own_hi ((55296 : Int32) + z) := by
  have a := c_iadd (55296 : Int32) z
  have r := rng32 ((55296 : Int32) + z)
  have l2 : (55296 : Int32).toInt = 55296 := rfl
  exact ⟨by omega, by omega⟩
theorem own_plo {z : Int32} (h : 0 ≤ z.toInt ∧ z.toInt < 1024) : own_lo ((56320 : Int32) + z) := by
  have a := c_iadd (56320 : Int32) z
  have r := rng32 ((56320 : Int32) + z)
  have l2 : (56320 : Int32).toInt = 56320 := rfl
  exact ⟨by omega, by omega⟩
theorem own_hir {c : Int32} (H : own_hi c) : 0 ≤ c.toInt ∧ c.toInt < 65536 := ⟨by have := H.1; omega, by have := H.2; omega⟩
theorem own_lor {c : Int32} (H : own_lo c) : 0 ≤ c.toInt ∧ c.toInt < 65536 := ⟨by have := H.1; omega, by have := H.2; omega⟩
theorem own_oner {c : Int32} (H : own_one c) : 0 ≤ c.toInt ∧ c.toInt < 65536 := ⟨by have := H.1; omega, H.2.1⟩
theorem own_z0 : own_one (1 : Int32) := ⟨by decide, by decide, Or.inl (by decide)⟩
theorem own_z1 {z : Int32} (b : 0 ≤ z.toInt ∧ z.toInt < 65536) (h0 : ¬ z = 0) (h1 : z < (55296 : Int32)) : own_one z := by
  rw [Int32.lt_iff_toInt_lt] at h1
  have l1 : (55296 : Int32).toInt = 55296 := rfl
  have : z.toInt ≠ 0 := fun q => h0 (Int32.toInt_inj.mp q)
  exact ⟨by omega, by omega, Or.inl (by omega)⟩
theorem own_z2 {z : Int32} (b : 0 ≤ z.toInt ∧ z.toInt < 65536) (h1 : (57343 : Int32) < z) : own_one z := by
  rw [Int32.lt_iff_toInt_lt] at h1
  have l1 : (57343 : Int32).toInt = 57343 := rfl
  exact ⟨by omega, by omega, Or.inr (by omega)⟩
theorem own_z3 {z : Int32} (h1 : ¬ z < (55296 : Int32)) (h2 : ¬ (57343 : Int32) < z) : own_one (z - (2048 : Int32)) := by
  rw [Int32.lt_iff_toInt_lt] at h1 h2
  have l1 : (55296 : Int32).toInt = 55296 := rfl
  have l2 : (57343 : Int32).toInt = 57343 := rfl
  have l3 : (2048 : Int32).toInt = 2048 := rfl
  have a := c_isub z (2048 : Int32)
  have r := rng32 (z - (2048 : Int32))
  exact ⟨by omega, by omega, Or.inl (by omega)⟩
theorem own_u4 (z : Int32) : (z &&& (3 : Int32)) = 0 ∨ (z &&& (3 : Int32)) = 1 ∨ (z &&& (3 : Int32)) = 2 ∨ (z &&& (3 : Int32)) = 3 := by
  have a := c_mask z 3 2 (by decide) (by decide)
  have l0 : (0 : Int32).toInt = 0 := rfl
  have l1 : (1 : Int32).toInt = 1 := rfl
  have l2 : (2 : Int32).toInt = 2 := rfl
  have l3 : (3 : Int32).toInt = 3 := rfl
  simp only [← Int32.toInt_inj]
  omega
theorem own_Afext {Z : State} {h h' : Heap} {a : Addr} {ty : FieldType} {n : Nat} {g : Nat → Int32} (F : own_Af Z h a ty n g) (E : Ext h h') : own_Af Z h' a ty n g := by
  obtain ⟨c, A, r⟩ := F
  exact ⟨c, A.ext E, r⟩
theorem own_Sx {Z : State} {h h' : Heap} {x : Addr} {n : Nat} {g : Nat → Int32} (F : own_S Z h x n g) (E : Ext h h') : own_S Z h' x n g := by
  obtain ⟨t, cd, N, v, h1, h2, h3, h4, r⟩ := F
  exact ⟨t, cd, N, v, h1.ext E, h2.ext E, h3.ext E, own_Afext h4 E, r⟩
theorem own_Se {Z : State} {h : Heap} {x : Addr} {n : Nat} {g : Nat → Int32} (F : own_S Z h x n g) : Exa Z h x "java/lang/String" := by
  obtain ⟨t, cd, N, v, h1, -⟩ := F
  exact h1
theorem own_S0 {Z : State} {h : Heap} {x t : Addr} {kb : ClassId} {g : Nat → Int32} (E : Exa Z h x "java/lang/String") (V : Fld Z h x "java/lang/String" "value" "[B" (.ref t)) (C : Fld Z h x "java/lang/String" "coder" "B" (.int (0 : Int32))) (A : Arv Z h t kb .byte (0 : Int32) [] (.int (0 : Int32))) : own_S Z h x 0 g :=
  ⟨t, 0, 0, fun _ => 0, E, V, C, own_AfA (n := 0) A (by omega) (fun j h => absurd h (Nat.not_lt_zero _)), Or.inl ⟨rfl, rfl, fun j h => absurd h (Nat.not_lt_zero _), fun j h => absurd h (Nat.not_lt_zero _)⟩⟩
theorem own_wS {a0 : Array Value} {Z : State} (hw : ∀ d ∈ tables_1, d.before a0 Z = true) : ∀ a ∈ Bundle.stringAtoms, a.before a0 Z = true := by
  intro a ha
  simp only [Bundle.stringAtoms, List.mem_cons, List.not_mem_nil, or_false] at ha
  rcases ha with rfl | rfl | rfl | rfl | rfl | rfl | rfl
  · exact (hw _ (List.mem_of_getElem? (i := 7) rfl))
  · exact (hw _ (List.mem_of_getElem? (i := 6) rfl))
  · exact (hw _ (List.mem_of_getElem? (i := 19) rfl))
  · exact (hw _ (List.mem_of_getElem? (i := 20) rfl))
  · exact (hw _ (List.mem_of_getElem? (i := 21) rfl))
  · exact (hw _ (List.mem_of_getElem? (i := 22) rfl))
  · exact (hw _ (List.mem_of_getElem? (i := 23) rfl))
def own_EL : List (String × Nat) := [("com/example/ledgerpost/ledgerpost/StorableTextRequirePinLaw", 7), ("java/lang/String", 7)]
theorem own_EW {a0 : Array Value} {Z : State} (hw : ∀ d ∈ tables_1, d.before a0 Z = true) : EW Z a0 own_EL := (EW.cons (hw _ (List.mem_of_getElem? (i := 26) rfl)) (by first | decide | decide +kernel | simp) (EW.cons (hw _ (List.mem_of_getElem? (i := 18) rfl)) (by first | decide | decide +kernel | simp) EW.nil))
theorem own_safe {Z : State} {EL : List (String × Nat)} {vm : Vm} {h : Heap} {x : Addr} (hal : Z.vm.Alike vm) (E : Exa Z h x "java/lang/String") (F : Fld Z h x "java/lang/String" "value" "[B" .null) : Safe Z EL vm h x := fun B => by
  obtain ⟨cell, cf, k, i, f, g1, g2, -, -, -, -, g7⟩ := F
  obtain ⟨cell', k', e1, e2, e3, -, -⟩ := E
  cases g1.symm.trans e1
  obtain ⟨p, -, u, a, -, q, -, G, rfl | rfl⟩ := B
  · cases (show h[q.sa]? = some q.sC from G.ha).symm.trans g1
    obtain ⟨cS, ⟨⟨-, -, -, ⟨c1, k1, i1, f1, -⟩, -, -, -, v1, -⟩, -⟩, -⟩ := G
    obtain ⟨k3, e4, -⟩ := State.fieldFound?_setVm (s := Z) hal g2
    have e5 := (show (Wst Z vm h).fieldFound? _ _ _ = _ from e4).symm.trans f1
    simp only [Option.some.injEq, Prod.mk.injEq] at e5
    rw [e5.2.2.2, v1] at g7
    simp at g7
  · cases (show h[q.sd]? = some q.SA from G.hd).symm.trans g1
    obtain ⟨cS, -, -, f1, -⟩ := G
    have f2 : Z.vm.findClass "[B" = some q.SA.cls := by rw [← hal.findClass]; exact f1
    exact ids_ne f2 e2 (by decide) rfl
theorem d10_0 : decode jdk_52_method_21_code 0 = .ok (.iconst 0, 1) := by decide +kernel
theorem d10_1 : decode jdk_52_method_21_code 1 = .ok (.istore 5, 2) := by decide +kernel
theorem d10_3 : decode jdk_52_method_21_code 3 = .ok (.iload 5, 2) := by decide +kernel
theorem d10_5 : decode jdk_52_method_21_code 5 = .ok (.iload 4, 2) := by decide +kernel
theorem d10_7 : decode jdk_52_method_21_code 7 = .ok (.if_icmp .ge 37, 3) := by decide +kernel
theorem d10_10 : decode jdk_52_method_21_code 10 = .ok (.aload_n 0, 1) := by decide +kernel
theorem d10_11 : decode jdk_52_method_21_code 11 = .ok (.iload_n 1, 1) := by decide +kernel
theorem d10_12 : decode jdk_52_method_21_code 12 = .ok (.caload, 1) := by decide +kernel
theorem d10_13 : decode jdk_52_method_21_code 13 = .ok (.istore 6, 2) := by decide +kernel
theorem d10_15 : decode jdk_52_method_21_code 15 = .ok (.iload 6, 2) := by decide +kernel
theorem d10_17 : decode jdk_52_method_21_code 17 = .ok (.sipush 255, 3) := by decide +kernel
theorem d10_20 : decode jdk_52_method_21_code 20 = .ok (.if_icmp .le 6, 3) := by decide +kernel
theorem d10_23 : decode jdk_52_method_21_code 23 = .ok (.iload 5, 2) := by decide +kernel
theorem d10_25 : decode jdk_52_method_21_code 25 = .ok (.ireturn, 1) := by decide +kernel
theorem d10_26 : decode jdk_52_method_21_code 26 = .ok (.aload_n 2, 1) := by decide +kernel
theorem d10_27 : decode jdk_52_method_21_code 27 = .ok (.iload_n 3, 1) := by decide +kernel
theorem d10_28 : decode jdk_52_method_21_code 28 = .ok (.iload 6, 2) := by decide +kernel
theorem d10_30 : decode jdk_52_method_21_code 30 = .ok (.i2b, 1) := by decide +kernel
theorem d10_31 : decode jdk_52_method_21_code 31 = .ok (.bastore, 1) := by decide +kernel
theorem d10_32 : decode jdk_52_method_21_code 32 = .ok (.iinc 1 1, 3) := by decide +kernel
theorem d10_35 : decode jdk_52_method_21_code 35 = .ok (.iinc 3 1, 3) := by decide +kernel
theorem d10_38 : decode jdk_52_method_21_code 38 = .ok (.iinc 5 1, 3) := by decide +kernel
theorem d10_41 : decode jdk_52_method_21_code 41 = .ok (.goto (-38), 3) := by decide +kernel
theorem d10_44 : decode jdk_52_method_21_code 44 = .ok (.iload 4, 2) := by decide +kernel
theorem d10_46 : decode jdk_52_method_21_code 46 = .ok (.ireturn, 1) := by decide +kernel
theorem pn_0 : plainName "java/lang/StringUTF16" = true := by first | (simp [plainName, overriddenIn]; done) | decide +kernel
theorem ef_rmK (m : MethodId) (x0 : Addr) (x1 : Int32) (x2 : Addr) (x3 : Int32) (x4 : Int32) : entryFrame m #[(.ref x0), (.int x3), (.ref x2), (.int x3), (.int x4)] 7 = mkF m 0 #[.val (.ref x0), .val (.int x3), .val (.ref x2), .val (.int x3), .val (.int x4), .unset, .unset] [] := by first | (simp [entryFrame, mkF, argsToLocals, Value.category]; done) | rfl
def QrmK (Z : State) (a1 : Addr) (a3 : Addr) (nN : Nat) (g : Nat → Int32) (d : Nat → Int32) (h0 : Heap) (n0 : Nat) (v : Option Value) (h : Heap) (L : List Loc) : Prop := ∃ mm : Nat, v = some (.int (Int32.ofNat mm)) ∧ Fr n0 L ∧ Keep h0 h [a3] ∧ mm ≤ nN ∧ (∀ j, j < mm → (g j).toInt < 256) ∧ (mm = nN ∨ ¬ (g mm).toInt < 256) ∧ own_Af Z h a3 .byte nN (fun j => if j < mm then own_b8 (g j) else d j)
set_option maxRecDepth 65536 in
set_option maxHeartbeats 40000000 in
theorem rmK (l : Launch) (Z : State) (a0 : Array Value) (hw : ∀ d ∈ tables_1, d.before a0 Z = true) (ws : List Jvm.Cond) (a1 : Addr) (a3 : Addr) (nN : Nat) (g : Nat → Int32) (d : Nat → Int32) (h0 : Heap) (n0 : Nat) (Z0 : n0 ≤ h0.size) (b1 : nN ≤ 6) (V : own_Af Z h0 a1 .char nN g) (D : own_Af Z h0 a3 .byte nN d) (ne : a1 ≠ a3) (g_a3 : n0 ≤ a3) :
    MetFree l (⟨"java/lang/StringUTF16", "compress", "([CI[BII)I"⟩ : MethodName) (head1 (Jvm.Cond.code (⟨"java/lang/StringUTF16", "compress", "([CI[BII)I"⟩ : MethodName) jdk_52_method_21_code 7 (some .int) :: ws) ({ frames := 0, cells := 0, slots := 0, locals := 0 } : Room)) (fun a U => a = #[(.ref a1), (.int (0 : Int32)), (.ref a3), (.int (0 : Int32)), (.int (Int32.ofNat nN))] ∧ Z.Warmed39 U.vm ∧ U.heap = h0) (fun _ _ _ _ _ => True) (fun _ U o U' => ∃ v L, o = .returned v ∧ QrmK Z a1 a3 nN g d h0 n0 v U'.heap L ∧ FrameEnd U o U' L ({ frames := 0, cells := 0, slots := 0, locals := 0 } : Room).cells ({ frames := 0, cells := 0, slots := 0, locals := 0 } : Room).slots) := by
  refine MetFree.of_bodySF (plainFor_of_name pn_0) hisR ?_
  intro p e s m args below meth c s₁ Bd hml0 hP hK
  obtain ⟨rfl, hZ, hh⟩ := hP
  have hx := Bd.exec
  have hby := Bd.bytes
  have hml : c.maxLocals = 7 := hml0
  have hown : s.vm.findClass "java/lang/StringUTF16" = some m.cls := findClass_of_methodNamed Bd.named
  have hnm := (name_of_methodNamed Bd.named Bd.method).1
  have X0 : Stand p l e ({ frames := 0, cells := 0, slots := 0, locals := 0 } : Room) s m #[(.ref a1), (.int (0 : Int32)), (.ref a3), (.int (0 : Int32)), (.int (Int32.ofNat nN))] below meth c s₁ [] 0 0 := Stand.of_body Bd
  have e0 : s₁.heap = h0 := by rw [← hh, Bd.state]; rfl
  have N0 := Fr.nil n0
  have pre0 : ∀ t_, Steps p.tables e below (s₁.setTop (mkF m 0 #[.val (.ref a1), .val (.int (0 : Int32)), .val (.ref a3), .val (.int (0 : Int32)), .val (.int (Int32.ofNat nN)), .unset, .unset] [])) t_ → Steps p.tables e below (s₁.setTop (entryFrame m #[(.ref a1), (.int (0 : Int32)), (.ref a3), (.int (0 : Int32)), (.int (Int32.ofNat nN))] 7)) t_ := fun t_ k_ => castTop (ef_rmK m a1 ((0 : Int32)) a3 ((0 : Int32)) ((Int32.ofNat nN))) k_
  have loop : ∀ (N : Nat) (k : Nat) (lx : Slot) (T1 : State) (h1 : Heap) (lc : List Loc), own_fr lx → k + N = nN → (∀ j, j < k → (g j).toInt < 256) → Stand p l e ({ frames := 0, cells := 0, slots := 0, locals := 0 } : Room) s m #[(.ref a1), (.int (0 : Int32)), (.ref a3), (.int (0 : Int32)), (.int (Int32.ofNat nN))] below meth c T1 lc 0 0 → T1.heap = h1 → Fr n0 lc → Keep h0 h1 [a3] → own_Af Z h1 a3 .byte nN (fun j => if j < k then own_b8 (g j) else d j) →
      ∃ (mm : Nat) (pcx : Nat) (kx : Int32) (lx' : Slot) (T' : State) (h' : Heap) (lc' : List Loc), (pcx = 25 ∨ pcx = 46) ∧ mm ≤ nN ∧ (∀ j, j < mm → (g j).toInt < 256) ∧ (mm = nN ∨ ¬ (g mm).toInt < 256) ∧ Stand p l e ({ frames := 0, cells := 0, slots := 0, locals := 0 } : Room) s m #[(.ref a1), (.int (0 : Int32)), (.ref a3), (.int (0 : Int32)), (.int (Int32.ofNat nN))] below meth c T' lc' 0 0 ∧ T'.heap = h' ∧ Fr n0 lc' ∧ Keep h0 h' [a3] ∧ own_Af Z h' a3 .byte nN (fun j => if j < mm then own_b8 (g j) else d j) ∧
        ∀ t_, Steps p.tables e below (T'.setTop (mkF m pcx #[.val (.ref a1), .val (.int kx), .val (.ref a3), .val (.int kx), .val (.int (Int32.ofNat nN)), .val (.int kx), lx'] [(.int (Int32.ofNat mm))])) t_ → Steps p.tables e below (T1.setTop (mkF m 3 #[.val (.ref a1), .val (.int (Int32.ofNat k)), .val (.ref a3), .val (.int (Int32.ofNat k)), .val (.int (Int32.ofNat nN)), .val (.int (Int32.ofNat k)), lx] [])) t_ := by
    intro N
    induction N with
    | zero =>
      intro k lx T1 h1 lc h_lx z1 z2 X1 e1 N1 K1 V1
      have ek : k = nN := by omega
      have pre101 : ∀ t_, Steps p.tables e below (T1.setTop (mkF m 3 #[.val (.ref a1), .val (.int (Int32.ofNat k)), .val (.ref a3), .val (.int (Int32.ofNat k)), .val (.int (Int32.ofNat nN)), .val (.int (Int32.ofNat k)), lx] [])) t_ → Steps p.tables e below (T1.setTop (mkF m 3 #[.val (.ref a1), .val (.int (Int32.ofNat k)), .val (.ref a3), .val (.int (Int32.ofNat k)), .val (.int (Int32.ofNat nN)), .val (.int (Int32.ofNat k)), lx] [])) t_ := fun _ k_ => k_
      have pre102 : ∀ t_, Steps p.tables e below (T1.setTop (mkF m 46 #[.val (.ref a1), .val (.int (Int32.ofNat k)), .val (.ref a3), .val (.int (Int32.ofNat k)), .val (.int (Int32.ofNat nN)), .val (.int (Int32.ofNat k)), lx] [(.int (Int32.ofNat nN))])) t_ → Steps p.tables e below (T1.setTop (mkF m 3 #[.val (.ref a1), .val (.int (Int32.ofNat k)), .val (.ref a3), .val (.int (Int32.ofNat k)), .val (.int (Int32.ofNat nN)), .val (.int (Int32.ofNat k)), lx] [])) t_ := fun t_ k_ => pre101 _ (by
        show Steps p.tables e below (T1.setTop (mkF m 3 #[.val (.ref a1), .val (.int (Int32.ofNat k)), .val (.ref a3), .val (.int (Int32.ofNat k)), .val (.int (Int32.ofNat nN)), .val (.int (Int32.ofNat k)), lx] [])) _
        refine XS.iload X1.here hx rfl (hb hby d10_3) rfl ?_
        show Steps p.tables e below (T1.setTop (mkF m 5 #[.val (.ref a1), .val (.int (Int32.ofNat k)), .val (.ref a3), .val (.int (Int32.ofNat k)), .val (.int (Int32.ofNat nN)), .val (.int (Int32.ofNat k)), lx] [(.int (Int32.ofNat k))])) _
        refine XS.iload X1.here hx rfl (hb hby d10_5) rfl ?_
        show Steps p.tables e below (T1.setTop (mkF m 7 #[.val (.ref a1), .val (.int (Int32.ofNat k)), .val (.ref a3), .val (.int (Int32.ofNat k)), .val (.int (Int32.ofNat nN)), .val (.int (Int32.ofNat k)), lx] [(.int (Int32.ofNat nN)), (.int (Int32.ofNat k))])) _
        refine XS.icmpYes X1.here hx rfl (pc0 := 7) (pc' := 44) rfl (hb hby d10_7) rfl (flt (by rw [own_oflt (by omega) (by omega)]; omega)).2.1 (by decide) (by decide) ?_
        show Steps p.tables e below (T1.setTop (mkF m 44 #[.val (.ref a1), .val (.int (Int32.ofNat k)), .val (.ref a3), .val (.int (Int32.ofNat k)), .val (.int (Int32.ofNat nN)), .val (.int (Int32.ofNat k)), lx] [])) _
        refine XS.iload X1.here hx rfl (hb hby d10_44) rfl ?_
        exact k_)
      exact ⟨nN, 46, Int32.ofNat k, lx, T1, h1, lc, Or.inr rfl, Nat.le_refl _, fun j q => z2 j (by omega), Or.inl rfl, X1, e1, N1, K1, by rw [← ek] at V1 ⊢; exact V1, pre102⟩
    | succ N ih =>
      intro k lx T1 h1 lc h_lx z1 z2 X1 e1 N1 K1 V1
      have pre103 : ∀ t_, Steps p.tables e below (T1.setTop (mkF m 3 #[.val (.ref a1), .val (.int (Int32.ofNat k)), .val (.ref a3), .val (.int (Int32.ofNat k)), .val (.int (Int32.ofNat nN)), .val (.int (Int32.ofNat k)), lx] [])) t_ → Steps p.tables e below (T1.setTop (mkF m 3 #[.val (.ref a1), .val (.int (Int32.ofNat k)), .val (.ref a3), .val (.int (Int32.ofNat k)), .val (.int (Int32.ofNat nN)), .val (.int (Int32.ofNat k)), lx] [])) t_ := fun _ k_ => k_
      obtain ⟨cl, Ar, Sz, Hs⟩ := own_Afkeep V K1 (ninS ne nin0)
      have hin := own_ofin (a := k) Sz (by omega) (by omega)
      have hat : cl.slots[(Int32.ofNat k).toNatClampNeg]? = some (.int (g k)) := by rw [own_ofc (by omega)]; exact Hs k (by omega)
      have pre104 : ∀ t_, Steps p.tables e below (T1.setTop (mkF m 20 #[.val (.ref a1), .val (.int (Int32.ofNat k)), .val (.ref a3), .val (.int (Int32.ofNat k)), .val (.int (Int32.ofNat nN)), .val (.int (Int32.ofNat k)), .val (.int (g k))] [(.int (255 : Int32)), (.int (g k))])) t_ → Steps p.tables e below (T1.setTop (mkF m 3 #[.val (.ref a1), .val (.int (Int32.ofNat k)), .val (.ref a3), .val (.int (Int32.ofNat k)), .val (.int (Int32.ofNat nN)), .val (.int (Int32.ofNat k)), lx] [])) t_ := fun t_ k_ => pre103 _ (by
        show Steps p.tables e below (T1.setTop (mkF m 3 #[.val (.ref a1), .val (.int (Int32.ofNat k)), .val (.ref a3), .val (.int (Int32.ofNat k)), .val (.int (Int32.ofNat nN)), .val (.int (Int32.ofNat k)), lx] [])) _
        refine XS.iload X1.here hx rfl (hb hby d10_3) rfl ?_
        show Steps p.tables e below (T1.setTop (mkF m 5 #[.val (.ref a1), .val (.int (Int32.ofNat k)), .val (.ref a3), .val (.int (Int32.ofNat k)), .val (.int (Int32.ofNat nN)), .val (.int (Int32.ofNat k)), lx] [(.int (Int32.ofNat k))])) _
        refine XS.iload X1.here hx rfl (hb hby d10_5) rfl ?_
        show Steps p.tables e below (T1.setTop (mkF m 7 #[.val (.ref a1), .val (.int (Int32.ofNat k)), .val (.ref a3), .val (.int (Int32.ofNat k)), .val (.int (Int32.ofNat nN)), .val (.int (Int32.ofNat k)), lx] [(.int (Int32.ofNat nN)), (.int (Int32.ofNat k))])) _
        refine XS.icmpNo X1.here hx rfl (hb hby d10_7) rfl (tlt (by rw [own_oflt (by omega) (by omega)]; omega)).2.1 ?_
        show Steps p.tables e below (T1.setTop (mkF m 10 #[.val (.ref a1), .val (.int (Int32.ofNat k)), .val (.ref a3), .val (.int (Int32.ofNat k)), .val (.int (Int32.ofNat nN)), .val (.int (Int32.ofNat k)), lx] [])) _
        refine XS.aloadN X1.here hx rfl (hb hby d10_10) rfl rfl ?_
        show Steps p.tables e below (T1.setTop (mkF m 11 #[.val (.ref a1), .val (.int (Int32.ofNat k)), .val (.ref a3), .val (.int (Int32.ofNat k)), .val (.int (Int32.ofNat nN)), .val (.int (Int32.ofNat k)), lx] [(.ref a1)])) _
        refine XS.iloadN X1.here hx rfl (hb hby d10_11) rfl ?_
        show Steps p.tables e below (T1.setTop (mkF m 12 #[.val (.ref a1), .val (.int (Int32.ofNat k)), .val (.ref a3), .val (.int (Int32.ofNat k)), .val (.int (Int32.ofNat nN)), .val (.int (Int32.ofNat k)), lx] [(.int (Int32.ofNat k)), (.ref a1)])) _
        refine X1.caload hx (j := (Int32.ofNat k)) (v := (.int (g k))) (by rw [e1]; exact Ar.1) (State.isArrayOf_alike hZ.alike Ar.2.1) Ar.2.2 hin hat (g := (mkF m 12 #[.val (.ref a1), .val (.int (Int32.ofNat k)), .val (.ref a3), .val (.int (Int32.ofNat k)), .val (.int (Int32.ofNat nN)), .val (.int (Int32.ofNat k)), lx] [(.int (Int32.ofNat k)), (.ref a1)])) rfl rfl (hb hby d10_12) _ ?_
        show Steps p.tables e below (T1.setTop (mkF m 13 #[.val (.ref a1), .val (.int (Int32.ofNat k)), .val (.ref a3), .val (.int (Int32.ofNat k)), .val (.int (Int32.ofNat nN)), .val (.int (Int32.ofNat k)), lx] [(.int (g k))])) _
        refine XS.istore X1.here hx rfl (hb hby d10_13) rfl (l' := #[.val (.ref a1), .val (.int (Int32.ofNat k)), .val (.ref a3), .val (.int (Int32.ofNat k)), .val (.int (Int32.ofNat nN)), .val (.int (Int32.ofNat k)), .val (.int (g k))]) (by rcases h_lx with q | ⟨z, q⟩ <;> rw [q] <;> rfl) ?_
        show Steps p.tables e below (T1.setTop (mkF m 15 #[.val (.ref a1), .val (.int (Int32.ofNat k)), .val (.ref a3), .val (.int (Int32.ofNat k)), .val (.int (Int32.ofNat nN)), .val (.int (Int32.ofNat k)), .val (.int (g k))] [])) _
        refine XS.iload X1.here hx rfl (hb hby d10_15) rfl ?_
        show Steps p.tables e below (T1.setTop (mkF m 17 #[.val (.ref a1), .val (.int (Int32.ofNat k)), .val (.ref a3), .val (.int (Int32.ofNat k)), .val (.int (Int32.ofNat nN)), .val (.int (Int32.ofNat k)), .val (.int (g k))] [(.int (g k))])) _
        refine XS.sipush X1.here hx rfl (hb hby d10_17) ?_
        exact k_)
      by_cases hlt : (g k).toInt < 256
      · skip
        obtain ⟨cd, Br, Tz, Ht⟩ := V1
        have hin2 := own_ofin (a := k) Tz (by omega) (by omega)
        obtain ⟨T105, h105, X105, e105, W105, st105⟩ := stB X1 hx hZ e1 Br (j := (Int32.ofNat k)) hin2 (g := (mkF m 31 #[.val (.ref a1), .val (.int (Int32.ofNat k)), .val (.ref a3), .val (.int (Int32.ofNat k)), .val (.int (Int32.ofNat nN)), .val (.int (Int32.ofNat k)), .val (.int (g k))] [(.int ((g k).toInt8.toInt32)), (.int (Int32.ofNat k)), (.ref a3)])) rfl rfl (hb hby d10_31)
        rw [own_ofc (by omega), own_nb] at W105
        have V2 := own_Afcongr (own_Afwr Br Tz Ht W105 (by omega)) (fun j _ => own_cstep g d k j)
        have N2 := Fr.snoc X105 N1 g_a3
        have pre106 : ∀ t_, Steps p.tables e below (T105.setTop (mkF m 3 #[.val (.ref a1), .val (.int ((Int32.ofNat k) + (1 : Int32))), .val (.ref a3), .val (.int ((Int32.ofNat k) + (1 : Int32))), .val (.int (Int32.ofNat nN)), .val (.int ((Int32.ofNat k) + (1 : Int32))), .val (.int (g k))] [])) t_ → Steps p.tables e below (T1.setTop (mkF m 3 #[.val (.ref a1), .val (.int (Int32.ofNat k)), .val (.ref a3), .val (.int (Int32.ofNat k)), .val (.int (Int32.ofNat nN)), .val (.int (Int32.ofNat k)), lx] [])) t_ := fun t_ k_ => pre104 _ (by
          show Steps p.tables e below (T1.setTop (mkF m 20 #[.val (.ref a1), .val (.int (Int32.ofNat k)), .val (.ref a3), .val (.int (Int32.ofNat k)), .val (.int (Int32.ofNat nN)), .val (.int (Int32.ofNat k)), .val (.int (g k))] [(.int (255 : Int32)), (.int (g k))])) _
          refine XS.icmpYes X1.here hx rfl (pc0 := 20) (pc' := 26) rfl (hb hby d10_20) rfl (flt (fun q => own_255.mp q hlt)).2.2.2 (by decide) (by decide) ?_
          show Steps p.tables e below (T1.setTop (mkF m 26 #[.val (.ref a1), .val (.int (Int32.ofNat k)), .val (.ref a3), .val (.int (Int32.ofNat k)), .val (.int (Int32.ofNat nN)), .val (.int (Int32.ofNat k)), .val (.int (g k))] [])) _
          refine XS.aloadN X1.here hx rfl (hb hby d10_26) rfl rfl ?_
          show Steps p.tables e below (T1.setTop (mkF m 27 #[.val (.ref a1), .val (.int (Int32.ofNat k)), .val (.ref a3), .val (.int (Int32.ofNat k)), .val (.int (Int32.ofNat nN)), .val (.int (Int32.ofNat k)), .val (.int (g k))] [(.ref a3)])) _
          refine XS.iloadN X1.here hx rfl (hb hby d10_27) rfl ?_
          show Steps p.tables e below (T1.setTop (mkF m 28 #[.val (.ref a1), .val (.int (Int32.ofNat k)), .val (.ref a3), .val (.int (Int32.ofNat k)), .val (.int (Int32.ofNat nN)), .val (.int (Int32.ofNat k)), .val (.int (g k))] [(.int (Int32.ofNat k)), (.ref a3)])) _
          refine XS.iload X1.here hx rfl (hb hby d10_28) rfl ?_
          show Steps p.tables e below (T1.setTop (mkF m 30 #[.val (.ref a1), .val (.int (Int32.ofNat k)), .val (.ref a3), .val (.int (Int32.ofNat k)), .val (.int (Int32.ofNat nN)), .val (.int (Int32.ofNat k)), .val (.int (g k))] [(.int (g k)), (.int (Int32.ofNat k)), (.ref a3)])) _
          refine XS.i2b X1.here hx rfl (hb hby d10_30) rfl ?_
          show Steps p.tables e below (T1.setTop (mkF m 31 #[.val (.ref a1), .val (.int (Int32.ofNat k)), .val (.ref a3), .val (.int (Int32.ofNat k)), .val (.int (Int32.ofNat nN)), .val (.int (Int32.ofNat k)), .val (.int (g k))] [(.int ((g k).toInt8.toInt32)), (.int (Int32.ofNat k)), (.ref a3)])) _
          refine st105 _ ?_
          show Steps p.tables e below (T105.setTop (mkF m 32 #[.val (.ref a1), .val (.int (Int32.ofNat k)), .val (.ref a3), .val (.int (Int32.ofNat k)), .val (.int (Int32.ofNat nN)), .val (.int (Int32.ofNat k)), .val (.int (g k))] [])) _
          refine XS.iinc X105.here hx rfl (hb hby d10_32) rfl (l' := #[.val (.ref a1), .val (.int ((Int32.ofNat k) + (1 : Int32))), .val (.ref a3), .val (.int (Int32.ofNat k)), .val (.int (Int32.ofNat nN)), .val (.int (Int32.ofNat k)), .val (.int (g k))]) rfl ?_
          show Steps p.tables e below (T105.setTop (mkF m 35 #[.val (.ref a1), .val (.int ((Int32.ofNat k) + (1 : Int32))), .val (.ref a3), .val (.int (Int32.ofNat k)), .val (.int (Int32.ofNat nN)), .val (.int (Int32.ofNat k)), .val (.int (g k))] [])) _
          refine XS.iinc X105.here hx rfl (hb hby d10_35) rfl (l' := #[.val (.ref a1), .val (.int ((Int32.ofNat k) + (1 : Int32))), .val (.ref a3), .val (.int ((Int32.ofNat k) + (1 : Int32))), .val (.int (Int32.ofNat nN)), .val (.int (Int32.ofNat k)), .val (.int (g k))]) rfl ?_
          show Steps p.tables e below (T105.setTop (mkF m 38 #[.val (.ref a1), .val (.int ((Int32.ofNat k) + (1 : Int32))), .val (.ref a3), .val (.int ((Int32.ofNat k) + (1 : Int32))), .val (.int (Int32.ofNat nN)), .val (.int (Int32.ofNat k)), .val (.int (g k))] [])) _
          refine XS.iinc X105.here hx rfl (hb hby d10_38) rfl (l' := #[.val (.ref a1), .val (.int ((Int32.ofNat k) + (1 : Int32))), .val (.ref a3), .val (.int ((Int32.ofNat k) + (1 : Int32))), .val (.int (Int32.ofNat nN)), .val (.int ((Int32.ofNat k) + (1 : Int32))), .val (.int (g k))]) rfl ?_
          show Steps p.tables e below (T105.setTop (mkF m 41 #[.val (.ref a1), .val (.int ((Int32.ofNat k) + (1 : Int32))), .val (.ref a3), .val (.int ((Int32.ofNat k) + (1 : Int32))), .val (.int (Int32.ofNat nN)), .val (.int ((Int32.ofNat k) + (1 : Int32))), .val (.int (g k))] [])) _
          refine XS.goto X105.here hx rfl (pc0 := 41) (pc' := 3) rfl (hb hby d10_41) (by decide) (by decide) ?_
          exact k_)
        have z3 : ∀ j, j < k + 1 → (g j).toInt < 256 := fun j q => if e : j = k then e ▸ hlt else z2 j (by omega)
        obtain ⟨mm, pcx, kx, lx', T', h', lc', y1, y2, y3, y4, X', e', N', K', V', st'⟩ := ih (k + 1) (.val (.int (g k))) _ _ _ (Or.inr ⟨_, rfl⟩) (by omega) z3 X105 e105 N2 (K1.trans (Keep.of_wr W105) (fun _ q => Or.inl q)) V2
        refine ⟨mm, pcx, kx, lx', T', h', lc', y1, y2, y3, y4, X', e', N', K', V', fun t_ k_ => pre106 _ ?_⟩
        rw [own_of1]
        exact st' t_ k_
      · skip
        have pre107 : ∀ t_, Steps p.tables e below (T1.setTop (mkF m 25 #[.val (.ref a1), .val (.int (Int32.ofNat k)), .val (.ref a3), .val (.int (Int32.ofNat k)), .val (.int (Int32.ofNat nN)), .val (.int (Int32.ofNat k)), .val (.int (g k))] [(.int (Int32.ofNat k))])) t_ → Steps p.tables e below (T1.setTop (mkF m 3 #[.val (.ref a1), .val (.int (Int32.ofNat k)), .val (.ref a3), .val (.int (Int32.ofNat k)), .val (.int (Int32.ofNat nN)), .val (.int (Int32.ofNat k)), lx] [])) t_ := fun t_ k_ => pre104 _ (by
          show Steps p.tables e below (T1.setTop (mkF m 20 #[.val (.ref a1), .val (.int (Int32.ofNat k)), .val (.ref a3), .val (.int (Int32.ofNat k)), .val (.int (Int32.ofNat nN)), .val (.int (Int32.ofNat k)), .val (.int (g k))] [(.int (255 : Int32)), (.int (g k))])) _
          refine XS.icmpNo X1.here hx rfl (hb hby d10_20) rfl (tlt (own_255.mpr hlt)).2.2.2 ?_
          show Steps p.tables e below (T1.setTop (mkF m 23 #[.val (.ref a1), .val (.int (Int32.ofNat k)), .val (.ref a3), .val (.int (Int32.ofNat k)), .val (.int (Int32.ofNat nN)), .val (.int (Int32.ofNat k)), .val (.int (g k))] [])) _
          refine XS.iload X1.here hx rfl (hb hby d10_23) rfl ?_
          exact k_)
        exact ⟨k, 25, Int32.ofNat k, _, T1, h1, lc, Or.inl rfl, by omega, z2, Or.inr hlt, X1, e1, N1, K1, V1, pre107⟩
  have pre108 : ∀ t_, Steps p.tables e below (s₁.setTop (mkF m 3 #[.val (.ref a1), .val (.int (0 : Int32)), .val (.ref a3), .val (.int (0 : Int32)), .val (.int (Int32.ofNat nN)), .val (.int (0 : Int32)), .unset] [])) t_ → Steps p.tables e below (s₁.setTop (entryFrame m #[(.ref a1), (.int (0 : Int32)), (.ref a3), (.int (0 : Int32)), (.int (Int32.ofNat nN))] 7)) t_ := fun t_ k_ => pre0 _ (by
    show Steps p.tables e below (s₁.setTop (mkF m 0 #[.val (.ref a1), .val (.int (0 : Int32)), .val (.ref a3), .val (.int (0 : Int32)), .val (.int (Int32.ofNat nN)), .unset, .unset] [])) _
    refine XS.iconst X0.here hx rfl (hb hby d10_0) ?_
    show Steps p.tables e below (s₁.setTop (mkF m 1 #[.val (.ref a1), .val (.int (0 : Int32)), .val (.ref a3), .val (.int (0 : Int32)), .val (.int (Int32.ofNat nN)), .unset, .unset] [(.int (0 : Int32))])) _
    refine XS.istore X0.here hx rfl (hb hby d10_1) rfl (l' := #[.val (.ref a1), .val (.int (0 : Int32)), .val (.ref a3), .val (.int (0 : Int32)), .val (.int (Int32.ofNat nN)), .val (.int (0 : Int32)), .unset]) rfl ?_
    exact k_)
  obtain ⟨mm, pcx, kx, lx', T', h', lc', y1, y2, y3, y4, X', e', N', K', V', st'⟩ := loop nN 0 .unset s₁ h0 [] (Or.inl rfl) (by omega) (fun _ q => absurd q (Nat.not_lt_zero _)) X0 e0 N0 (Keep.refl _ _) (own_Afcongr D (fun j _ => by rw [if_neg (Nat.not_lt_zero _)]))
  rcases y1 with rfl | rfl
  · skip
    have pre109 : ∀ t_, Steps p.tables e below (T'.setTop (mkF m 25 #[.val (.ref a1), .val (.int kx), .val (.ref a3), .val (.int kx), .val (.int (Int32.ofNat nN)), .val (.int kx), lx'] [(.int (Int32.ofNat mm))])) t_ → Steps p.tables e below (s₁.setTop (entryFrame m #[(.ref a1), (.int (0 : Int32)), (.ref a3), (.int (0 : Int32)), (.int (Int32.ofNat nN))] 7)) t_ := fun t_ k_ => pre108 _ (by
      show Steps p.tables e below (s₁.setTop (mkF m 3 #[.val (.ref a1), .val (.int (0 : Int32)), .val (.ref a3), .val (.int (0 : Int32)), .val (.int (Int32.ofNat nN)), .val (.int (0 : Int32)), .unset] [])) _
      refine st' _ ?_
      exact k_)
    obtain ⟨fs, hr, hrun, hended, hW, hsame⟩ := X'.leave (v := some (.int (Int32.ofNat mm))) (fun h => by rw [Bd.returns] at h; cases h)
    refine ⟨_, _, pre109 _ ?_, hrun, hended, _, _, rfl, ?_, ⟨_, rfl⟩, hW, hsame.mono (by decide) (by decide)⟩
    · show Steps p.tables e below (T'.setTop (mkF m 25 #[.val (.ref a1), .val (.int kx), .val (.ref a3), .val (.int kx), .val (.int (Int32.ofNat nN)), .val (.int kx), lx'] [(.int (Int32.ofNat mm))])) _
      exact retI X' hx Bd.returns (hb hby d10_25) hr
    · show QrmK Z a1 a3 nN g d h0 n0 _ T'.heap _
      rw [e']
      exact ⟨mm, rfl, N', K', y2, y3, y4, V'⟩
  · skip
    have pre110 : ∀ t_, Steps p.tables e below (T'.setTop (mkF m 46 #[.val (.ref a1), .val (.int kx), .val (.ref a3), .val (.int kx), .val (.int (Int32.ofNat nN)), .val (.int kx), lx'] [(.int (Int32.ofNat mm))])) t_ → Steps p.tables e below (s₁.setTop (entryFrame m #[(.ref a1), (.int (0 : Int32)), (.ref a3), (.int (0 : Int32)), (.int (Int32.ofNat nN))] 7)) t_ := fun t_ k_ => pre108 _ (by
      show Steps p.tables e below (s₁.setTop (mkF m 3 #[.val (.ref a1), .val (.int (0 : Int32)), .val (.ref a3), .val (.int (0 : Int32)), .val (.int (Int32.ofNat nN)), .val (.int (0 : Int32)), .unset] [])) _
      refine st' _ ?_
      exact k_)
    obtain ⟨fs, hr, hrun, hended, hW, hsame⟩ := X'.leave (v := some (.int (Int32.ofNat mm))) (fun h => by rw [Bd.returns] at h; cases h)
    refine ⟨_, _, pre110 _ ?_, hrun, hended, _, _, rfl, ?_, ⟨_, rfl⟩, hW, hsame.mono (by decide) (by decide)⟩
    · show Steps p.tables e below (T'.setTop (mkF m 46 #[.val (.ref a1), .val (.int kx), .val (.ref a3), .val (.int kx), .val (.int (Int32.ofNat nN)), .val (.int kx), lx'] [(.int (Int32.ofNat mm))])) _
      exact retI X' hx Bd.returns (hb hby d10_46) hr
    · show QrmK Z a1 a3 nN g d h0 n0 _ T'.heap _
      rw [e']
      exact ⟨mm, rfl, N', K', y2, y3, y4, V'⟩
theorem d13_0 : decode jdk_52_method_3_code 0 = .ok (.iload_n 0, 1) := by decide +kernel
theorem d13_1 : decode jdk_52_method_3_code 1 = .ok (.ifCond .ge 11, 3) := by decide +kernel
theorem d13_12 : decode jdk_52_method_3_code 12 = .ok (.iload_n 0, 1) := by decide +kernel
theorem d13_13 : decode jdk_52_method_3_code 13 = .ok (.ldc 20, 2) := by decide +kernel
theorem d13_15 : decode jdk_52_method_3_code 15 = .ok (.if_icmp .lt 40, 3) := by decide +kernel
theorem d13_55 : decode jdk_52_method_3_code 55 = .ok (.iload_n 0, 1) := by decide +kernel
theorem d13_56 : decode jdk_52_method_3_code 56 = .ok (.iconst 1, 1) := by decide +kernel
theorem d13_57 : decode jdk_52_method_3_code 57 = .ok (.ishl, 1) := by decide +kernel
theorem d13_58 : decode jdk_52_method_3_code 58 = .ok (.ireturn, 1) := by decide +kernel
theorem ef_rmNL (m : MethodId) (x0 : Int32) : entryFrame m #[(.int x0)] 1 = mkF m 0 #[.val (.int x0)] [] := by first | (simp [entryFrame, mkF, argsToLocals, Value.category]; done) | rfl
def QrmNL (Z : State)  (nN : Nat) (h0 : Heap) (n0 : Nat) (v : Option Value) (h : Heap) (L : List Loc) : Prop := v = some (.int (Int32.ofNat (2 * nN))) ∧ Fr n0 L ∧ h = h0
set_option maxRecDepth 65536 in
set_option maxHeartbeats 40000000 in
theorem rmNL (l : Launch) (Z : State) (a0 : Array Value) (hw : ∀ d ∈ tables_1, d.before a0 Z = true) (ws : List Jvm.Cond)  (nN : Nat) (h0 : Heap) (n0 : Nat) (Z0 : n0 ≤ h0.size) (b1 : nN ≤ 6) :
    MetFree l (⟨"java/lang/StringUTF16", "newBytesLength", "(I)I"⟩ : MethodName) (head1 (Jvm.Cond.code (⟨"java/lang/StringUTF16", "newBytesLength", "(I)I"⟩ : MethodName) jdk_52_method_3_code 1 (some .int) :: ws) ({ frames := 0, cells := 0, slots := 0, locals := 0 } : Room)) (fun a U => a = #[(.int (Int32.ofNat nN))] ∧ Z.Warmed39 U.vm ∧ U.heap = h0) (fun _ _ _ _ _ => True) (fun _ U o U' => ∃ v L, o = .returned v ∧ QrmNL Z nN h0 n0 v U'.heap L ∧ FrameEnd U o U' L ({ frames := 0, cells := 0, slots := 0, locals := 0 } : Room).cells ({ frames := 0, cells := 0, slots := 0, locals := 0 } : Room).slots) := by
  refine MetFree.of_bodySF (plainFor_of_name pn_0) hisR ?_
  intro p e s m args below meth c s₁ Bd hml0 hP hK
  obtain ⟨rfl, hZ, hh⟩ := hP
  have hx := Bd.exec
  have hby := Bd.bytes
  have hml : c.maxLocals = 1 := hml0
  have hown : s.vm.findClass "java/lang/StringUTF16" = some m.cls := findClass_of_methodNamed Bd.named
  have hnm := (name_of_methodNamed Bd.named Bd.method).1
  have X0 : Stand p l e ({ frames := 0, cells := 0, slots := 0, locals := 0 } : Room) s m #[(.int (Int32.ofNat nN))] below meth c s₁ [] 0 0 := Stand.of_body Bd
  have e0 : s₁.heap = h0 := by rw [← hh, Bd.state]; rfl
  have N0 := Fr.nil n0
  have pre0 : ∀ t_, Steps p.tables e below (s₁.setTop (mkF m 0 #[.val (.int (Int32.ofNat nN))] [])) t_ → Steps p.tables e below (s₁.setTop (entryFrame m #[(.int (Int32.ofNat nN))] 1)) t_ := fun t_ k_ => castTop (ef_rmNL m ((Int32.ofNat nN))) k_
  have pre101 : ∀ t_, Steps p.tables e below (s₁.setTop (mkF m 58 #[.val (.int (Int32.ofNat nN))] [(.int ((Int32.ofNat nN) <<< ((1 : Int32) &&& 31)))])) t_ → Steps p.tables e below (s₁.setTop (entryFrame m #[(.int (Int32.ofNat nN))] 1)) t_ := fun t_ k_ => pre0 _ (by
    show Steps p.tables e below (s₁.setTop (mkF m 0 #[.val (.int (Int32.ofNat nN))] [])) _
    refine XS.iloadN X0.here hx rfl (hb hby d13_0) rfl ?_
    show Steps p.tables e below (s₁.setTop (mkF m 1 #[.val (.int (Int32.ofNat nN))] [(.int (Int32.ofNat nN))])) _
    refine XS.ifYes X0.here hx rfl (pc0 := 1) (pc' := 12) rfl (hb hby d13_1) rfl ((if0 _ _).trans (flt (own_ofn0 (by omega))).2.1) (by decide) (by decide) ?_
    show Steps p.tables e below (s₁.setTop (mkF m 12 #[.val (.int (Int32.ofNat nN))] [])) _
    refine XS.iloadN X0.here hx rfl (hb hby d13_12) rfl ?_
    show Steps p.tables e below (s₁.setTop (mkF m 13 #[.val (.int (Int32.ofNat nN))] [(.int (Int32.ofNat nN))])) _
    refine X0.ldcInt hx hown (mvT hZ (hw _ (List.mem_of_getElem? (i := 65) rfl))) (g := (mkF m 13 #[.val (.int (Int32.ofNat nN))] [(.int (Int32.ofNat nN))])) rfl (hb hby d13_13) _ ?_
    show Steps p.tables e below (s₁.setTop (mkF m 15 #[.val (.int (Int32.ofNat nN))] [(.int (1073741823 : Int32)), (.int (Int32.ofNat nN))])) _
    refine XS.icmpYes X0.here hx rfl (pc0 := 15) (pc' := 55) rfl (hb hby d13_15) rfl (tlt ((own_oflt (a := nN) (b := 1073741823) (by omega) (by omega)).mpr (by omega))).1 (by decide) (by decide) ?_
    show Steps p.tables e below (s₁.setTop (mkF m 55 #[.val (.int (Int32.ofNat nN))] [])) _
    refine XS.iloadN X0.here hx rfl (hb hby d13_55) rfl ?_
    show Steps p.tables e below (s₁.setTop (mkF m 56 #[.val (.int (Int32.ofNat nN))] [(.int (Int32.ofNat nN))])) _
    refine XS.iconst X0.here hx rfl (hb hby d13_56) ?_
    show Steps p.tables e below (s₁.setTop (mkF m 57 #[.val (.int (Int32.ofNat nN))] [(.int (1 : Int32)), (.int (Int32.ofNat nN))])) _
    refine XS.ishl X0.here hx rfl (hb hby d13_57) rfl ?_
    exact k_)
  obtain ⟨fs, hr, hrun, hended, hW, hsame⟩ := X0.leave (v := some (.int ((Int32.ofNat nN) <<< ((1 : Int32) &&& 31)))) (fun h => by rw [Bd.returns] at h; cases h)
  refine ⟨_, _, pre101 _ ?_, hrun, hended, _, _, rfl, ?_, ⟨_, rfl⟩, hW, hsame.mono (by decide) (by decide)⟩
  · show Steps p.tables e below (s₁.setTop (mkF m 58 #[.val (.int (Int32.ofNat nN))] [(.int ((Int32.ofNat nN) <<< ((1 : Int32) &&& 31)))])) _
    exact retI X0 hx Bd.returns (hb hby d13_58) hr
  · show QrmNL Z nN h0 n0 _ s₁.heap _
    rw [e0]
    exact ⟨by rw [own_shl1 (by omega)], N0, rfl⟩
theorem d15_0 : decode jdk_52_method_5_code 0 = .ok (.getstatic 44, 3) := by decide +kernel
theorem d15_3 : decode jdk_52_method_5_code 3 = .ok (.ifCond .ne 25, 3) := by decide +kernel
theorem d15_28 : decode jdk_52_method_5_code 28 = .ok (.iload_n 1, 1) := by decide +kernel
theorem d15_29 : decode jdk_52_method_5_code 29 = .ok (.iconst 1, 1) := by decide +kernel
theorem d15_30 : decode jdk_52_method_5_code 30 = .ok (.ishl, 1) := by decide +kernel
theorem d15_31 : decode jdk_52_method_5_code 31 = .ok (.istore_n 1, 1) := by decide +kernel
theorem d15_32 : decode jdk_52_method_5_code 32 = .ok (.aload_n 0, 1) := by decide +kernel
theorem d15_33 : decode jdk_52_method_5_code 33 = .ok (.iload_n 1, 1) := by decide +kernel
theorem d15_34 : decode jdk_52_method_5_code 34 = .ok (.iinc 1 1, 3) := by decide +kernel
theorem d15_37 : decode jdk_52_method_5_code 37 = .ok (.baload, 1) := by decide +kernel
theorem d15_38 : decode jdk_52_method_5_code 38 = .ok (.sipush 255, 3) := by decide +kernel
theorem d15_41 : decode jdk_52_method_5_code 41 = .ok (.iand, 1) := by decide +kernel
theorem d15_42 : decode jdk_52_method_5_code 42 = .ok (.getstatic 59, 3) := by decide +kernel
theorem d15_45 : decode jdk_52_method_5_code 45 = .ok (.ishl, 1) := by decide +kernel
theorem d15_46 : decode jdk_52_method_5_code 46 = .ok (.aload_n 0, 1) := by decide +kernel
theorem d15_47 : decode jdk_52_method_5_code 47 = .ok (.iload_n 1, 1) := by decide +kernel
theorem d15_48 : decode jdk_52_method_5_code 48 = .ok (.baload, 1) := by decide +kernel
theorem d15_49 : decode jdk_52_method_5_code 49 = .ok (.sipush 255, 3) := by decide +kernel
theorem d15_52 : decode jdk_52_method_5_code 52 = .ok (.iand, 1) := by decide +kernel
theorem d15_53 : decode jdk_52_method_5_code 53 = .ok (.getstatic 63, 3) := by decide +kernel
theorem d15_56 : decode jdk_52_method_5_code 56 = .ok (.ishl, 1) := by decide +kernel
theorem d15_57 : decode jdk_52_method_5_code 57 = .ok (.ior, 1) := by decide +kernel
theorem d15_58 : decode jdk_52_method_5_code 58 = .ok (.i2c, 1) := by decide +kernel
theorem d15_59 : decode jdk_52_method_5_code 59 = .ok (.ireturn, 1) := by decide +kernel
theorem ef_rmGC (m : MethodId) (x0 : Addr) (x1 : Int32) : entryFrame m #[(.ref x0), (.int x1)] 2 = mkF m 0 #[.val (.ref x0), .val (.int x1)] [] := by first | (simp [entryFrame, mkF, argsToLocals, Value.category]; done) | rfl
def QrmGC (Z : State) (a1 : Addr) (kN : Nat) (nN : Nat) (g : Nat → Int32) (h0 : Heap) (n0 : Nat) (v : Option Value) (h : Heap) (L : List Loc) : Prop := v = some (.int (g kN)) ∧ Fr n0 L ∧ h = h0
set_option maxRecDepth 65536 in
set_option maxHeartbeats 40000000 in
theorem rmGC (l : Launch) (Z : State) (a0 : Array Value) (hw : ∀ d ∈ tables_1, d.before a0 Z = true) (ws : List Jvm.Cond) (a1 : Addr) (kN : Nat) (nN : Nat) (g : Nat → Int32) (h0 : Heap) (n0 : Nat) (Z0 : n0 ≤ h0.size) (S_a : Sta Z Z.heap "java/lang/StringUTF16" "$assertionsDisabled" "Z" (.int (1 : Int32))) (S_h : Sta Z Z.heap "java/lang/StringUTF16" "HI_BYTE_SHIFT" "I" (.int (0 : Int32))) (S_l : Sta Z Z.heap "java/lang/StringUTF16" "LO_BYTE_SHIFT" "I" (.int (8 : Int32))) (O : Old Z n0 h0) (b1 : nN ≤ 6) (b2 : kN < nN) (rg : 0 ≤ (g kN).toInt ∧ (g kN).toInt < 65536) (V : own_Af Z h0 a1 .byte (2 * nN) (own_b16 g)) :
    MetFree l (⟨"java/lang/StringUTF16", "getChar", "([BI)C"⟩ : MethodName) (head1 (Jvm.Cond.code (⟨"java/lang/StringUTF16", "getChar", "([BI)C"⟩ : MethodName) jdk_52_method_5_code 2 (some .char) :: ws) ({ frames := 0, cells := 0, slots := 0, locals := 0 } : Room)) (fun a U => a = #[(.ref a1), (.int (Int32.ofNat kN))] ∧ Z.Warmed39 U.vm ∧ U.heap = h0) (fun _ _ _ _ _ => True) (fun _ U o U' => ∃ v L, o = .returned v ∧ QrmGC Z a1 kN nN g h0 n0 v U'.heap L ∧ FrameEnd U o U' L ({ frames := 0, cells := 0, slots := 0, locals := 0 } : Room).cells ({ frames := 0, cells := 0, slots := 0, locals := 0 } : Room).slots) := by
  refine MetFree.of_bodySF (plainFor_of_name pn_0) hisR ?_
  intro p e s m args below meth c s₁ Bd hml0 hP hK
  obtain ⟨rfl, hZ, hh⟩ := hP
  have hx := Bd.exec
  have hby := Bd.bytes
  have hml : c.maxLocals = 2 := hml0
  have hown : s.vm.findClass "java/lang/StringUTF16" = some m.cls := findClass_of_methodNamed Bd.named
  have hnm := (name_of_methodNamed Bd.named Bd.method).1
  have X0 : Stand p l e ({ frames := 0, cells := 0, slots := 0, locals := 0 } : Room) s m #[(.ref a1), (.int (Int32.ofNat kN))] below meth c s₁ [] 0 0 := Stand.of_body Bd
  have e0 : s₁.heap = h0 := by rw [← hh, Bd.state]; rfl
  have N0 := Fr.nil n0
  have pre0 : ∀ t_, Steps p.tables e below (s₁.setTop (mkF m 0 #[.val (.ref a1), .val (.int (Int32.ofNat kN))] [])) t_ → Steps p.tables e below (s₁.setTop (entryFrame m #[(.ref a1), (.int (Int32.ofNat kN))] 2)) t_ := fun t_ k_ => castTop (ef_rmGC m a1 ((Int32.ofNat kN))) k_
  obtain ⟨T101, X101, e101, st101⟩ := getS2 X0 hx hZ hown (host := "") (Or.inl (hw _ (List.mem_of_getElem? (i := 69) rfl))) Via.refl e0 (S_a.ext O.2) (g := (mkF m 0 #[.val (.ref a1), .val (.int (Int32.ofNat kN))] [])) rfl (hb hby d15_0)
  have pre102 : ∀ t_, Steps p.tables e below (T101.setTop (mkF m 31 #[.val (.ref a1), .val (.int (Int32.ofNat kN))] [(.int ((Int32.ofNat kN) <<< ((1 : Int32) &&& 31)))])) t_ → Steps p.tables e below (s₁.setTop (entryFrame m #[(.ref a1), (.int (Int32.ofNat kN))] 2)) t_ := fun t_ k_ => pre0 _ (by
    show Steps p.tables e below (s₁.setTop (mkF m 0 #[.val (.ref a1), .val (.int (Int32.ofNat kN))] [])) _
    refine st101 _ ?_
    show Steps p.tables e below (T101.setTop (mkF m 3 #[.val (.ref a1), .val (.int (Int32.ofNat kN))] [(.int (1 : Int32))])) _
    refine XS.ifYes X101.here hx rfl (pc0 := 3) (pc' := 28) rfl (hb hby d15_3) rfl ((if0 _ _).trans (feq (by decide : ¬ (1 : Int32) = 0)).2) (by decide) (by decide) ?_
    show Steps p.tables e below (T101.setTop (mkF m 28 #[.val (.ref a1), .val (.int (Int32.ofNat kN))] [])) _
    refine XS.iloadN X101.here hx rfl (hb hby d15_28) rfl ?_
    show Steps p.tables e below (T101.setTop (mkF m 29 #[.val (.ref a1), .val (.int (Int32.ofNat kN))] [(.int (Int32.ofNat kN))])) _
    refine XS.iconst X101.here hx rfl (hb hby d15_29) ?_
    show Steps p.tables e below (T101.setTop (mkF m 30 #[.val (.ref a1), .val (.int (Int32.ofNat kN))] [(.int (1 : Int32)), (.int (Int32.ofNat kN))])) _
    refine XS.ishl X101.here hx rfl (hb hby d15_30) rfl ?_
    exact k_)
  obtain ⟨cl, Ar, Sz, Hs⟩ := V
  have es : ((Int32.ofNat kN) <<< ((1 : Int32) &&& 31)) = Int32.ofNat (2 * kN) := own_shl1 (by omega)
  have es1 : ((Int32.ofNat kN) <<< ((1 : Int32) &&& 31)) + (1 : Int32) = Int32.ofNat (2 * kN + 1) := by rw [es, own_of1]
  have hin0 : ¬ (((Int32.ofNat kN) <<< ((1 : Int32) &&& 31)) < 0 ∨ cl.slots.size ≤ (((Int32.ofNat kN) <<< ((1 : Int32) &&& 31))).toNatClampNeg) := by rw [es]; exact own_ofin Sz (by omega) (by omega)
  have hin1 : ¬ ((((Int32.ofNat kN) <<< ((1 : Int32) &&& 31)) + (1 : Int32)) < 0 ∨ cl.slots.size ≤ (((Int32.ofNat kN) <<< ((1 : Int32) &&& 31)) + (1 : Int32)).toNatClampNeg) := by rw [es1]; exact own_ofin Sz (by omega) (by omega)
  have hat0 : cl.slots[(((Int32.ofNat kN) <<< ((1 : Int32) &&& 31))).toNatClampNeg]? = some (.int (own_b16 g (2 * kN))) := by rw [es, own_ofc (by omega)]; exact Hs _ (by omega)
  have hat1 : cl.slots[(((Int32.ofNat kN) <<< ((1 : Int32) &&& 31)) + (1 : Int32)).toNatClampNeg]? = some (.int (own_b16 g (2 * kN + 1))) := by rw [es1, own_ofc (by omega)]; exact Hs _ (by omega)
  obtain ⟨T103, X103, e103, st103⟩ := getS2 X101 hx hZ hown (host := "") (Or.inl (hw _ (List.mem_of_getElem? (i := 70) rfl))) Via.refl e101 (S_h.ext O.2) (g := (mkF m 42 #[.val (.ref a1), .val (.int (((Int32.ofNat kN) <<< ((1 : Int32) &&& 31)) + (1 : Int32)))] [(.int ((own_b16 g (2 * kN)) &&& (255 : Int32)))])) rfl (hb hby d15_42)
  obtain ⟨T104, X104, e104, st104⟩ := getS2 X103 hx hZ hown (host := "") (Or.inl (hw _ (List.mem_of_getElem? (i := 71) rfl))) Via.refl e103 (S_l.ext O.2) (g := (mkF m 53 #[.val (.ref a1), .val (.int (((Int32.ofNat kN) <<< ((1 : Int32) &&& 31)) + (1 : Int32)))] [(.int ((own_b16 g (2 * kN + 1)) &&& (255 : Int32))), (.int (((own_b16 g (2 * kN)) &&& (255 : Int32)) <<< ((0 : Int32) &&& 31)))])) rfl (hb hby d15_53)
  have pre105 : ∀ t_, Steps p.tables e below (T104.setTop (mkF m 59 #[.val (.ref a1), .val (.int (((Int32.ofNat kN) <<< ((1 : Int32) &&& 31)) + (1 : Int32)))] [(.int (((((own_b16 g (2 * kN)) &&& (255 : Int32)) <<< ((0 : Int32) &&& 31)) ||| (((own_b16 g (2 * kN + 1)) &&& (255 : Int32)) <<< ((8 : Int32) &&& 31))).toUInt32.toUInt16.toUInt32.toInt32))])) t_ → Steps p.tables e below (s₁.setTop (entryFrame m #[(.ref a1), (.int (Int32.ofNat kN))] 2)) t_ := fun t_ k_ => pre102 _ (by
    show Steps p.tables e below (T101.setTop (mkF m 31 #[.val (.ref a1), .val (.int (Int32.ofNat kN))] [(.int ((Int32.ofNat kN) <<< ((1 : Int32) &&& 31)))])) _
    refine XS.istoreN X101.here hx rfl (hb hby d15_31) rfl (l' := #[.val (.ref a1), .val (.int ((Int32.ofNat kN) <<< ((1 : Int32) &&& 31)))]) rfl ?_
    show Steps p.tables e below (T101.setTop (mkF m 32 #[.val (.ref a1), .val (.int ((Int32.ofNat kN) <<< ((1 : Int32) &&& 31)))] [])) _
    refine XS.aloadN X101.here hx rfl (hb hby d15_32) rfl rfl ?_
    show Steps p.tables e below (T101.setTop (mkF m 33 #[.val (.ref a1), .val (.int ((Int32.ofNat kN) <<< ((1 : Int32) &&& 31)))] [(.ref a1)])) _
    refine XS.iloadN X101.here hx rfl (hb hby d15_33) rfl ?_
    show Steps p.tables e below (T101.setTop (mkF m 34 #[.val (.ref a1), .val (.int ((Int32.ofNat kN) <<< ((1 : Int32) &&& 31)))] [(.int ((Int32.ofNat kN) <<< ((1 : Int32) &&& 31))), (.ref a1)])) _
    refine XS.iinc X101.here hx rfl (hb hby d15_34) rfl (l' := #[.val (.ref a1), .val (.int (((Int32.ofNat kN) <<< ((1 : Int32) &&& 31)) + (1 : Int32)))]) rfl ?_
    show Steps p.tables e below (T101.setTop (mkF m 37 #[.val (.ref a1), .val (.int (((Int32.ofNat kN) <<< ((1 : Int32) &&& 31)) + (1 : Int32)))] [(.int ((Int32.ofNat kN) <<< ((1 : Int32) &&& 31))), (.ref a1)])) _
    refine X101.baloadBytes hx (j := ((Int32.ofNat kN) <<< ((1 : Int32) &&& 31))) (v := (.int (own_b16 g (2 * kN)))) (by rw [e101]; exact Ar.1) (State.isArrayOf_alike hZ.alike Ar.2.1) Ar.2.2 hin0 hat0 (g := (mkF m 37 #[.val (.ref a1), .val (.int (((Int32.ofNat kN) <<< ((1 : Int32) &&& 31)) + (1 : Int32)))] [(.int ((Int32.ofNat kN) <<< ((1 : Int32) &&& 31))), (.ref a1)])) rfl rfl (hb hby d15_37) _ ?_
    show Steps p.tables e below (T101.setTop (mkF m 38 #[.val (.ref a1), .val (.int (((Int32.ofNat kN) <<< ((1 : Int32) &&& 31)) + (1 : Int32)))] [(.int (own_b16 g (2 * kN)))])) _
    refine XS.sipush X101.here hx rfl (hb hby d15_38) ?_
    show Steps p.tables e below (T101.setTop (mkF m 41 #[.val (.ref a1), .val (.int (((Int32.ofNat kN) <<< ((1 : Int32) &&& 31)) + (1 : Int32)))] [(.int (255 : Int32)), (.int (own_b16 g (2 * kN)))])) _
    refine XS.iand X101.here hx rfl (hb hby d15_41) rfl ?_
    show Steps p.tables e below (T101.setTop (mkF m 42 #[.val (.ref a1), .val (.int (((Int32.ofNat kN) <<< ((1 : Int32) &&& 31)) + (1 : Int32)))] [(.int ((own_b16 g (2 * kN)) &&& (255 : Int32)))])) _
    refine st103 _ ?_
    show Steps p.tables e below (T103.setTop (mkF m 45 #[.val (.ref a1), .val (.int (((Int32.ofNat kN) <<< ((1 : Int32) &&& 31)) + (1 : Int32)))] [(.int (0 : Int32)), (.int ((own_b16 g (2 * kN)) &&& (255 : Int32)))])) _
    refine XS.ishl X103.here hx rfl (hb hby d15_45) rfl ?_
    show Steps p.tables e below (T103.setTop (mkF m 46 #[.val (.ref a1), .val (.int (((Int32.ofNat kN) <<< ((1 : Int32) &&& 31)) + (1 : Int32)))] [(.int (((own_b16 g (2 * kN)) &&& (255 : Int32)) <<< ((0 : Int32) &&& 31)))])) _
    refine XS.aloadN X103.here hx rfl (hb hby d15_46) rfl rfl ?_
    show Steps p.tables e below (T103.setTop (mkF m 47 #[.val (.ref a1), .val (.int (((Int32.ofNat kN) <<< ((1 : Int32) &&& 31)) + (1 : Int32)))] [(.ref a1), (.int (((own_b16 g (2 * kN)) &&& (255 : Int32)) <<< ((0 : Int32) &&& 31)))])) _
    refine XS.iloadN X103.here hx rfl (hb hby d15_47) rfl ?_
    show Steps p.tables e below (T103.setTop (mkF m 48 #[.val (.ref a1), .val (.int (((Int32.ofNat kN) <<< ((1 : Int32) &&& 31)) + (1 : Int32)))] [(.int (((Int32.ofNat kN) <<< ((1 : Int32) &&& 31)) + (1 : Int32))), (.ref a1), (.int (((own_b16 g (2 * kN)) &&& (255 : Int32)) <<< ((0 : Int32) &&& 31)))])) _
    refine X103.baloadBytes hx (j := (((Int32.ofNat kN) <<< ((1 : Int32) &&& 31)) + (1 : Int32))) (v := (.int (own_b16 g (2 * kN + 1)))) (by rw [e103]; exact Ar.1) (State.isArrayOf_alike hZ.alike Ar.2.1) Ar.2.2 hin1 hat1 (g := (mkF m 48 #[.val (.ref a1), .val (.int (((Int32.ofNat kN) <<< ((1 : Int32) &&& 31)) + (1 : Int32)))] [(.int (((Int32.ofNat kN) <<< ((1 : Int32) &&& 31)) + (1 : Int32))), (.ref a1), (.int (((own_b16 g (2 * kN)) &&& (255 : Int32)) <<< ((0 : Int32) &&& 31)))])) rfl rfl (hb hby d15_48) _ ?_
    show Steps p.tables e below (T103.setTop (mkF m 49 #[.val (.ref a1), .val (.int (((Int32.ofNat kN) <<< ((1 : Int32) &&& 31)) + (1 : Int32)))] [(.int (own_b16 g (2 * kN + 1))), (.int (((own_b16 g (2 * kN)) &&& (255 : Int32)) <<< ((0 : Int32) &&& 31)))])) _
    refine XS.sipush X103.here hx rfl (hb hby d15_49) ?_
    show Steps p.tables e below (T103.setTop (mkF m 52 #[.val (.ref a1), .val (.int (((Int32.ofNat kN) <<< ((1 : Int32) &&& 31)) + (1 : Int32)))] [(.int (255 : Int32)), (.int (own_b16 g (2 * kN + 1))), (.int (((own_b16 g (2 * kN)) &&& (255 : Int32)) <<< ((0 : Int32) &&& 31)))])) _
    refine XS.iand X103.here hx rfl (hb hby d15_52) rfl ?_
    show Steps p.tables e below (T103.setTop (mkF m 53 #[.val (.ref a1), .val (.int (((Int32.ofNat kN) <<< ((1 : Int32) &&& 31)) + (1 : Int32)))] [(.int ((own_b16 g (2 * kN + 1)) &&& (255 : Int32))), (.int (((own_b16 g (2 * kN)) &&& (255 : Int32)) <<< ((0 : Int32) &&& 31)))])) _
    refine st104 _ ?_
    show Steps p.tables e below (T104.setTop (mkF m 56 #[.val (.ref a1), .val (.int (((Int32.ofNat kN) <<< ((1 : Int32) &&& 31)) + (1 : Int32)))] [(.int (8 : Int32)), (.int ((own_b16 g (2 * kN + 1)) &&& (255 : Int32))), (.int (((own_b16 g (2 * kN)) &&& (255 : Int32)) <<< ((0 : Int32) &&& 31)))])) _
    refine XS.ishl X104.here hx rfl (hb hby d15_56) rfl ?_
    show Steps p.tables e below (T104.setTop (mkF m 57 #[.val (.ref a1), .val (.int (((Int32.ofNat kN) <<< ((1 : Int32) &&& 31)) + (1 : Int32)))] [(.int (((own_b16 g (2 * kN + 1)) &&& (255 : Int32)) <<< ((8 : Int32) &&& 31))), (.int (((own_b16 g (2 * kN)) &&& (255 : Int32)) <<< ((0 : Int32) &&& 31)))])) _
    refine XS.ior X104.here hx rfl (hb hby d15_57) rfl ?_
    show Steps p.tables e below (T104.setTop (mkF m 58 #[.val (.ref a1), .val (.int (((Int32.ofNat kN) <<< ((1 : Int32) &&& 31)) + (1 : Int32)))] [(.int ((((own_b16 g (2 * kN)) &&& (255 : Int32)) <<< ((0 : Int32) &&& 31)) ||| (((own_b16 g (2 * kN + 1)) &&& (255 : Int32)) <<< ((8 : Int32) &&& 31))))])) _
    refine XS.i2c X104.here hx rfl (hb hby d15_58) rfl ?_
    exact k_)
  obtain ⟨fs, hr, hrun, hended, hW, hsame⟩ := X104.leave (v := some (.int (nar .char (((((own_b16 g (2 * kN)) &&& (255 : Int32)) <<< ((0 : Int32) &&& 31)) ||| (((own_b16 g (2 * kN + 1)) &&& (255 : Int32)) <<< ((8 : Int32) &&& 31))).toUInt32.toUInt16.toUInt32.toInt32)))) (fun h => by rw [Bd.returns] at h; cases h)
  refine ⟨_, _, pre105 _ ?_, hrun, hended, _, _, rfl, ?_, ⟨_, rfl⟩, hW, hsame.mono (by decide) (by decide)⟩
  · show Steps p.tables e below (T104.setTop (mkF m 59 #[.val (.ref a1), .val (.int (((Int32.ofNat kN) <<< ((1 : Int32) &&& 31)) + (1 : Int32)))] [(.int (((((own_b16 g (2 * kN)) &&& (255 : Int32)) <<< ((0 : Int32) &&& 31)) ||| (((own_b16 g (2 * kN + 1)) &&& (255 : Int32)) <<< ((8 : Int32) &&& 31))).toUInt32.toUInt16.toUInt32.toInt32))])) _
    exact retN X104 hx (t := .char) Bd.returns (by simp) (hb hby d15_59) hr
  · show QrmGC Z a1 kN nN g h0 n0 _ T104.heap _
    rw [e104]
    exact ⟨by rw [own_get rg (own_b16e g kN) (own_b16o g kN), own_nc rg], N0, rfl⟩
theorem d14_0 : decode jdk_52_method_4_code 0 = .ok (.getstatic 44, 3) := by decide +kernel
theorem d14_3 : decode jdk_52_method_4_code 3 = .ok (.ifCond .ne 25, 3) := by decide +kernel
theorem d14_28 : decode jdk_52_method_4_code 28 = .ok (.iload_n 1, 1) := by decide +kernel
theorem d14_29 : decode jdk_52_method_4_code 29 = .ok (.iconst 1, 1) := by decide +kernel
theorem d14_30 : decode jdk_52_method_4_code 30 = .ok (.ishl, 1) := by decide +kernel
theorem d14_31 : decode jdk_52_method_4_code 31 = .ok (.istore_n 1, 1) := by decide +kernel
theorem d14_32 : decode jdk_52_method_4_code 32 = .ok (.aload_n 0, 1) := by decide +kernel
theorem d14_33 : decode jdk_52_method_4_code 33 = .ok (.iload_n 1, 1) := by decide +kernel
theorem d14_34 : decode jdk_52_method_4_code 34 = .ok (.iinc 1 1, 3) := by decide +kernel
theorem d14_37 : decode jdk_52_method_4_code 37 = .ok (.iload_n 2, 1) := by decide +kernel
theorem d14_38 : decode jdk_52_method_4_code 38 = .ok (.getstatic 59, 3) := by decide +kernel
theorem d14_41 : decode jdk_52_method_4_code 41 = .ok (.ishr, 1) := by decide +kernel
theorem d14_42 : decode jdk_52_method_4_code 42 = .ok (.i2b, 1) := by decide +kernel
theorem d14_43 : decode jdk_52_method_4_code 43 = .ok (.bastore, 1) := by decide +kernel
theorem d14_44 : decode jdk_52_method_4_code 44 = .ok (.aload_n 0, 1) := by decide +kernel
theorem d14_45 : decode jdk_52_method_4_code 45 = .ok (.iload_n 1, 1) := by decide +kernel
theorem d14_46 : decode jdk_52_method_4_code 46 = .ok (.iload_n 2, 1) := by decide +kernel
theorem d14_47 : decode jdk_52_method_4_code 47 = .ok (.getstatic 63, 3) := by decide +kernel
theorem d14_50 : decode jdk_52_method_4_code 50 = .ok (.ishr, 1) := by decide +kernel
theorem d14_51 : decode jdk_52_method_4_code 51 = .ok (.i2b, 1) := by decide +kernel
theorem d14_52 : decode jdk_52_method_4_code 52 = .ok (.bastore, 1) := by decide +kernel
theorem d14_53 : decode jdk_52_method_4_code 53 = .ok (.return_, 1) := by decide +kernel
theorem ef_rmPC (m : MethodId) (x0 : Addr) (x1 : Int32) (x2 : Int32) : entryFrame m #[(.ref x0), (.int x1), (.int x2)] 3 = mkF m 0 #[.val (.ref x0), .val (.int x1), .val (.int x2)] [] := by first | (simp [entryFrame, mkF, argsToLocals, Value.category]; done) | rfl
def QrmPC (Z : State) (a1 : Addr) (p3 : Int32) (kN : Nat) (N : Nat) (d : Nat → Int32) (h0 : Heap) (n0 : Nat) (v : Option Value) (h : Heap) (L : List Loc) : Prop := v = none ∧ Fr n0 L ∧ Keep h0 h [a1] ∧ own_Af Z h a1 .byte N (fun j => if j = 2 * kN + 1 then own_bh p3 else if j = 2 * kN then own_b8 p3 else d j)
set_option maxRecDepth 65536 in
set_option maxHeartbeats 40000000 in
theorem rmPC (l : Launch) (Z : State) (a0 : Array Value) (hw : ∀ d ∈ tables_1, d.before a0 Z = true) (ws : List Jvm.Cond) (a1 : Addr) (p3 : Int32) (kN : Nat) (N : Nat) (d : Nat → Int32) (h0 : Heap) (n0 : Nat) (Z0 : n0 ≤ h0.size) (S_a : Sta Z Z.heap "java/lang/StringUTF16" "$assertionsDisabled" "Z" (.int (1 : Int32))) (S_h : Sta Z Z.heap "java/lang/StringUTF16" "HI_BYTE_SHIFT" "I" (.int (0 : Int32))) (S_l : Sta Z Z.heap "java/lang/StringUTF16" "LO_BYTE_SHIFT" "I" (.int (8 : Int32))) (O : Old Z n0 h0) (b1 : N ≤ 12) (b2 : 2 * kN + 1 < N) (V : own_Af Z h0 a1 .byte N d) (g_a1 : n0 ≤ a1) :
    MetFree l (⟨"java/lang/StringUTF16", "putChar", "([BII)V"⟩ : MethodName) (head1 (Jvm.Cond.code (⟨"java/lang/StringUTF16", "putChar", "([BII)V"⟩ : MethodName) jdk_52_method_4_code 3 none :: ws) ({ frames := 0, cells := 0, slots := 0, locals := 0 } : Room)) (fun a U => a = #[(.ref a1), (.int (Int32.ofNat kN)), (.int p3)] ∧ Z.Warmed39 U.vm ∧ U.heap = h0) (fun _ _ _ _ _ => True) (fun _ U o U' => ∃ v L, o = .returned v ∧ QrmPC Z a1 p3 kN N d h0 n0 v U'.heap L ∧ FrameEnd U o U' L ({ frames := 0, cells := 0, slots := 0, locals := 0 } : Room).cells ({ frames := 0, cells := 0, slots := 0, locals := 0 } : Room).slots) := by
  refine MetFree.of_bodySF (plainFor_of_name pn_0) hisR ?_
  intro p e s m args below meth c s₁ Bd hml0 hP hK
  obtain ⟨rfl, hZ, hh⟩ := hP
  have hx := Bd.exec
  have hby := Bd.bytes
  have hml : c.maxLocals = 3 := hml0
  have hown : s.vm.findClass "java/lang/StringUTF16" = some m.cls := findClass_of_methodNamed Bd.named
  have hnm := (name_of_methodNamed Bd.named Bd.method).1
  have X0 : Stand p l e ({ frames := 0, cells := 0, slots := 0, locals := 0 } : Room) s m #[(.ref a1), (.int (Int32.ofNat kN)), (.int p3)] below meth c s₁ [] 0 0 := Stand.of_body Bd
  have e0 : s₁.heap = h0 := by rw [← hh, Bd.state]; rfl
  have N0 := Fr.nil n0
  have pre0 : ∀ t_, Steps p.tables e below (s₁.setTop (mkF m 0 #[.val (.ref a1), .val (.int (Int32.ofNat kN)), .val (.int p3)] [])) t_ → Steps p.tables e below (s₁.setTop (entryFrame m #[(.ref a1), (.int (Int32.ofNat kN)), (.int p3)] 3)) t_ := fun t_ k_ => castTop (ef_rmPC m a1 ((Int32.ofNat kN)) p3) k_
  obtain ⟨T101, X101, e101, st101⟩ := getS2 X0 hx hZ hown (host := "") (Or.inl (hw _ (List.mem_of_getElem? (i := 69) rfl))) Via.refl e0 (S_a.ext O.2) (g := (mkF m 0 #[.val (.ref a1), .val (.int (Int32.ofNat kN)), .val (.int p3)] [])) rfl (hb hby d14_0)
  have pre102 : ∀ t_, Steps p.tables e below (T101.setTop (mkF m 31 #[.val (.ref a1), .val (.int (Int32.ofNat kN)), .val (.int p3)] [(.int ((Int32.ofNat kN) <<< ((1 : Int32) &&& 31)))])) t_ → Steps p.tables e below (s₁.setTop (entryFrame m #[(.ref a1), (.int (Int32.ofNat kN)), (.int p3)] 3)) t_ := fun t_ k_ => pre0 _ (by
    show Steps p.tables e below (s₁.setTop (mkF m 0 #[.val (.ref a1), .val (.int (Int32.ofNat kN)), .val (.int p3)] [])) _
    refine st101 _ ?_
    show Steps p.tables e below (T101.setTop (mkF m 3 #[.val (.ref a1), .val (.int (Int32.ofNat kN)), .val (.int p3)] [(.int (1 : Int32))])) _
    refine XS.ifYes X101.here hx rfl (pc0 := 3) (pc' := 28) rfl (hb hby d14_3) rfl ((if0 _ _).trans (feq (by decide : ¬ (1 : Int32) = 0)).2) (by decide) (by decide) ?_
    show Steps p.tables e below (T101.setTop (mkF m 28 #[.val (.ref a1), .val (.int (Int32.ofNat kN)), .val (.int p3)] [])) _
    refine XS.iloadN X101.here hx rfl (hb hby d14_28) rfl ?_
    show Steps p.tables e below (T101.setTop (mkF m 29 #[.val (.ref a1), .val (.int (Int32.ofNat kN)), .val (.int p3)] [(.int (Int32.ofNat kN))])) _
    refine XS.iconst X101.here hx rfl (hb hby d14_29) ?_
    show Steps p.tables e below (T101.setTop (mkF m 30 #[.val (.ref a1), .val (.int (Int32.ofNat kN)), .val (.int p3)] [(.int (1 : Int32)), (.int (Int32.ofNat kN))])) _
    refine XS.ishl X101.here hx rfl (hb hby d14_30) rfl ?_
    exact k_)
  have es : ((Int32.ofNat kN) <<< ((1 : Int32) &&& 31)) = Int32.ofNat (2 * kN) := own_shl1 (by omega)
  have es1 : ((Int32.ofNat kN) <<< ((1 : Int32) &&& 31)) + (1 : Int32) = Int32.ofNat (2 * kN + 1) := by rw [es, own_of1]
  obtain ⟨T103, X103, e103, st103⟩ := getS2 X101 hx hZ hown (host := "") (Or.inl (hw _ (List.mem_of_getElem? (i := 70) rfl))) Via.refl e101 (S_h.ext O.2) (g := (mkF m 38 #[.val (.ref a1), .val (.int (((Int32.ofNat kN) <<< ((1 : Int32) &&& 31)) + (1 : Int32))), .val (.int p3)] [(.int p3), (.int ((Int32.ofNat kN) <<< ((1 : Int32) &&& 31))), (.ref a1)])) rfl (hb hby d14_38)
  obtain ⟨cl0, Ar0, Sz0, Hs0⟩ := V
  have hin0 : ¬ (((Int32.ofNat kN) <<< ((1 : Int32) &&& 31)) < 0 ∨ cl0.slots.size ≤ (((Int32.ofNat kN) <<< ((1 : Int32) &&& 31))).toNatClampNeg) := by rw [es]; exact own_ofin Sz0 (by omega) (by omega)
  obtain ⟨T104, h104, X104, e104, W104, st104⟩ := stB X103 hx hZ e103 Ar0 (j := ((Int32.ofNat kN) <<< ((1 : Int32) &&& 31))) hin0 (g := (mkF m 43 #[.val (.ref a1), .val (.int (((Int32.ofNat kN) <<< ((1 : Int32) &&& 31)) + (1 : Int32))), .val (.int p3)] [(.int ((p3 >>> ((0 : Int32) &&& 31)).toInt8.toInt32)), (.int ((Int32.ofNat kN) <<< ((1 : Int32) &&& 31))), (.ref a1)])) rfl rfl (hb hby d14_43)
  rw [es, own_ofc (by omega), own_nb0] at W104
  have V2 := own_Afwr Ar0 Sz0 Hs0 W104 (by omega)
  have N0_ := Fr.snoc X104 N0 g_a1
  have O_105 := O.wr W104 g_a1
  obtain ⟨T106, X106, e106, st106⟩ := getS2 X104 hx hZ hown (host := "") (Or.inl (hw _ (List.mem_of_getElem? (i := 71) rfl))) Via.refl e104 (S_l.ext O_105.2) (g := (mkF m 47 #[.val (.ref a1), .val (.int (((Int32.ofNat kN) <<< ((1 : Int32) &&& 31)) + (1 : Int32))), .val (.int p3)] [(.int p3), (.int (((Int32.ofNat kN) <<< ((1 : Int32) &&& 31)) + (1 : Int32))), (.ref a1)])) rfl (hb hby d14_47)
  obtain ⟨cl1, Ar1, Sz1, Hs1⟩ := V2
  have hin1 : ¬ ((((Int32.ofNat kN) <<< ((1 : Int32) &&& 31)) + (1 : Int32)) < 0 ∨ cl1.slots.size ≤ ((((Int32.ofNat kN) <<< ((1 : Int32) &&& 31)) + (1 : Int32))).toNatClampNeg) := by rw [es1]; exact own_ofin Sz1 (by omega) (by omega)
  obtain ⟨T107, h107, X107, e107, W107, st107⟩ := stB X106 hx hZ e106 Ar1 (j := (((Int32.ofNat kN) <<< ((1 : Int32) &&& 31)) + (1 : Int32))) hin1 (g := (mkF m 52 #[.val (.ref a1), .val (.int (((Int32.ofNat kN) <<< ((1 : Int32) &&& 31)) + (1 : Int32))), .val (.int p3)] [(.int ((p3 >>> ((8 : Int32) &&& 31)).toInt8.toInt32)), (.int (((Int32.ofNat kN) <<< ((1 : Int32) &&& 31)) + (1 : Int32))), (.ref a1)])) rfl rfl (hb hby d14_52)
  rw [es1, own_ofc (by omega), own_nb8] at W107
  have V3 := own_Afwr Ar1 Sz1 Hs1 W107 (by omega)
  have N1_ := Fr.snoc X107 N0_ g_a1
  have O_108 := O_105.wr W107 g_a1
  have pre109 : ∀ t_, Steps p.tables e below (T107.setTop (mkF m 53 #[.val (.ref a1), .val (.int (((Int32.ofNat kN) <<< ((1 : Int32) &&& 31)) + (1 : Int32))), .val (.int p3)] [])) t_ → Steps p.tables e below (s₁.setTop (entryFrame m #[(.ref a1), (.int (Int32.ofNat kN)), (.int p3)] 3)) t_ := fun t_ k_ => pre102 _ (by
    show Steps p.tables e below (T101.setTop (mkF m 31 #[.val (.ref a1), .val (.int (Int32.ofNat kN)), .val (.int p3)] [(.int ((Int32.ofNat kN) <<< ((1 : Int32) &&& 31)))])) _
    refine XS.istoreN X101.here hx rfl (hb hby d14_31) rfl (l' := #[.val (.ref a1), .val (.int ((Int32.ofNat kN) <<< ((1 : Int32) &&& 31))), .val (.int p3)]) rfl ?_
    show Steps p.tables e below (T101.setTop (mkF m 32 #[.val (.ref a1), .val (.int ((Int32.ofNat kN) <<< ((1 : Int32) &&& 31))), .val (.int p3)] [])) _
    refine XS.aloadN X101.here hx rfl (hb hby d14_32) rfl rfl ?_
    show Steps p.tables e below (T101.setTop (mkF m 33 #[.val (.ref a1), .val (.int ((Int32.ofNat kN) <<< ((1 : Int32) &&& 31))), .val (.int p3)] [(.ref a1)])) _
    refine XS.iloadN X101.here hx rfl (hb hby d14_33) rfl ?_
    show Steps p.tables e below (T101.setTop (mkF m 34 #[.val (.ref a1), .val (.int ((Int32.ofNat kN) <<< ((1 : Int32) &&& 31))), .val (.int p3)] [(.int ((Int32.ofNat kN) <<< ((1 : Int32) &&& 31))), (.ref a1)])) _
    refine XS.iinc X101.here hx rfl (hb hby d14_34) rfl (l' := #[.val (.ref a1), .val (.int (((Int32.ofNat kN) <<< ((1 : Int32) &&& 31)) + (1 : Int32))), .val (.int p3)]) rfl ?_
    show Steps p.tables e below (T101.setTop (mkF m 37 #[.val (.ref a1), .val (.int (((Int32.ofNat kN) <<< ((1 : Int32) &&& 31)) + (1 : Int32))), .val (.int p3)] [(.int ((Int32.ofNat kN) <<< ((1 : Int32) &&& 31))), (.ref a1)])) _
    refine XS.iloadN X101.here hx rfl (hb hby d14_37) rfl ?_
    show Steps p.tables e below (T101.setTop (mkF m 38 #[.val (.ref a1), .val (.int (((Int32.ofNat kN) <<< ((1 : Int32) &&& 31)) + (1 : Int32))), .val (.int p3)] [(.int p3), (.int ((Int32.ofNat kN) <<< ((1 : Int32) &&& 31))), (.ref a1)])) _
    refine st103 _ ?_
    show Steps p.tables e below (T103.setTop (mkF m 41 #[.val (.ref a1), .val (.int (((Int32.ofNat kN) <<< ((1 : Int32) &&& 31)) + (1 : Int32))), .val (.int p3)] [(.int (0 : Int32)), (.int p3), (.int ((Int32.ofNat kN) <<< ((1 : Int32) &&& 31))), (.ref a1)])) _
    refine XS.ishr X103.here hx rfl (hb hby d14_41) rfl ?_
    show Steps p.tables e below (T103.setTop (mkF m 42 #[.val (.ref a1), .val (.int (((Int32.ofNat kN) <<< ((1 : Int32) &&& 31)) + (1 : Int32))), .val (.int p3)] [(.int (p3 >>> ((0 : Int32) &&& 31))), (.int ((Int32.ofNat kN) <<< ((1 : Int32) &&& 31))), (.ref a1)])) _
    refine XS.i2b X103.here hx rfl (hb hby d14_42) rfl ?_
    show Steps p.tables e below (T103.setTop (mkF m 43 #[.val (.ref a1), .val (.int (((Int32.ofNat kN) <<< ((1 : Int32) &&& 31)) + (1 : Int32))), .val (.int p3)] [(.int ((p3 >>> ((0 : Int32) &&& 31)).toInt8.toInt32)), (.int ((Int32.ofNat kN) <<< ((1 : Int32) &&& 31))), (.ref a1)])) _
    refine st104 _ ?_
    show Steps p.tables e below (T104.setTop (mkF m 44 #[.val (.ref a1), .val (.int (((Int32.ofNat kN) <<< ((1 : Int32) &&& 31)) + (1 : Int32))), .val (.int p3)] [])) _
    refine XS.aloadN X104.here hx rfl (hb hby d14_44) rfl rfl ?_
    show Steps p.tables e below (T104.setTop (mkF m 45 #[.val (.ref a1), .val (.int (((Int32.ofNat kN) <<< ((1 : Int32) &&& 31)) + (1 : Int32))), .val (.int p3)] [(.ref a1)])) _
    refine XS.iloadN X104.here hx rfl (hb hby d14_45) rfl ?_
    show Steps p.tables e below (T104.setTop (mkF m 46 #[.val (.ref a1), .val (.int (((Int32.ofNat kN) <<< ((1 : Int32) &&& 31)) + (1 : Int32))), .val (.int p3)] [(.int (((Int32.ofNat kN) <<< ((1 : Int32) &&& 31)) + (1 : Int32))), (.ref a1)])) _
    refine XS.iloadN X104.here hx rfl (hb hby d14_46) rfl ?_
    show Steps p.tables e below (T104.setTop (mkF m 47 #[.val (.ref a1), .val (.int (((Int32.ofNat kN) <<< ((1 : Int32) &&& 31)) + (1 : Int32))), .val (.int p3)] [(.int p3), (.int (((Int32.ofNat kN) <<< ((1 : Int32) &&& 31)) + (1 : Int32))), (.ref a1)])) _
    refine st106 _ ?_
    show Steps p.tables e below (T106.setTop (mkF m 50 #[.val (.ref a1), .val (.int (((Int32.ofNat kN) <<< ((1 : Int32) &&& 31)) + (1 : Int32))), .val (.int p3)] [(.int (8 : Int32)), (.int p3), (.int (((Int32.ofNat kN) <<< ((1 : Int32) &&& 31)) + (1 : Int32))), (.ref a1)])) _
    refine XS.ishr X106.here hx rfl (hb hby d14_50) rfl ?_
    show Steps p.tables e below (T106.setTop (mkF m 51 #[.val (.ref a1), .val (.int (((Int32.ofNat kN) <<< ((1 : Int32) &&& 31)) + (1 : Int32))), .val (.int p3)] [(.int (p3 >>> ((8 : Int32) &&& 31))), (.int (((Int32.ofNat kN) <<< ((1 : Int32) &&& 31)) + (1 : Int32))), (.ref a1)])) _
    refine XS.i2b X106.here hx rfl (hb hby d14_51) rfl ?_
    show Steps p.tables e below (T106.setTop (mkF m 52 #[.val (.ref a1), .val (.int (((Int32.ofNat kN) <<< ((1 : Int32) &&& 31)) + (1 : Int32))), .val (.int p3)] [(.int ((p3 >>> ((8 : Int32) &&& 31)).toInt8.toInt32)), (.int (((Int32.ofNat kN) <<< ((1 : Int32) &&& 31)) + (1 : Int32))), (.ref a1)])) _
    refine st107 _ ?_
    exact k_)
  obtain ⟨fs, hr, hrun, hended, hW, hsame⟩ := X107.leave (v := none) (fun _ => rfl)
  refine ⟨_, _, pre109 _ ?_, hrun, hended, _, _, rfl, ?_, ⟨_, rfl⟩, hW, hsame.mono (by decide) (by decide)⟩
  · show Steps p.tables e below (T107.setTop (mkF m 53 #[.val (.ref a1), .val (.int (((Int32.ofNat kN) <<< ((1 : Int32) &&& 31)) + (1 : Int32))), .val (.int p3)] [])) _
    exact X107.returnOut hx Bd.returns (hb hby d14_53) hr
  · show QrmPC Z a1 p3 kN N d h0 n0 _ T107.heap _
    rw [e107]
    exact ⟨rfl, N1_, (Keep.of_wr W104).trans (Keep.of_wr W107) (fun _ q => Or.inl q), V3⟩
theorem pd_0 : parseMethodDescriptor "(I)I" = some ⟨[.int], some .int⟩ := by decide +kernel
theorem d12_0 : decode jdk_52_method_2_code 0 = .ok (.iload_n 0, 1) := by decide +kernel
theorem d12_1 : decode jdk_52_method_2_code 1 = .ok (.invokestatic 11, 3) := by decide +kernel
theorem d12_4 : decode jdk_52_method_2_code 4 = .ok (.newarray .byte, 2) := by decide +kernel
theorem d12_6 : decode jdk_52_method_2_code 6 = .ok (.areturn, 1) := by decide +kernel
theorem ef_rmNB (m : MethodId) (x0 : Int32) : entryFrame m #[(.int x0)] 1 = mkF m 0 #[.val (.int x0)] [] := by first | (simp [entryFrame, mkF, argsToLocals, Value.category]; done) | rfl
def QrmNB (Z : State)  (nN : Nat) (h0 : Heap) (n0 : Nat) (v : Option Value) (h : Heap) (L : List Loc) : Prop := ∃ x : Addr, v = some (.ref x) ∧ Fr n0 L ∧ Keep h0 h [] ∧ own_Af Z h x .byte (2 * nN) (fun _ => 0) ∧ h0.size ≤ x
set_option maxRecDepth 65536 in
set_option maxHeartbeats 40000000 in
theorem rmNB (l : Launch) (Z : State) (a0 : Array Value) (hw : ∀ d ∈ tables_1, d.before a0 Z = true) (ws : List Jvm.Cond)  (nN : Nat) (h0 : Heap) (n0 : Nat) (Z0 : n0 ≤ h0.size) (b1 : nN ≤ 6) :
    MetFree l (⟨"java/lang/StringUTF16", "newBytesFor", "(I)[B"⟩ : MethodName) (head1 (Jvm.Cond.code (⟨"java/lang/StringUTF16", "newBytesFor", "(I)[B"⟩ : MethodName) jdk_52_method_2_code 1 (some (.array .byte)) :: ws) ({ frames := 1, cells := 1, slots := 12, locals := 12 } : Room)) (fun a U => a = #[(.int (Int32.ofNat nN))] ∧ Z.Warmed39 U.vm ∧ U.heap = h0) (fun _ _ _ _ _ => True) (fun _ U o U' => ∃ v L, o = .returned v ∧ QrmNB Z nN h0 n0 v U'.heap L ∧ FrameEnd U o U' L ({ frames := 1, cells := 1, slots := 12, locals := 12 } : Room).cells ({ frames := 1, cells := 1, slots := 12, locals := 12 } : Room).slots) := by
  refine MetFree.of_bodySF (plainFor_of_name pn_0) hisR ?_
  intro p e s m args below meth c s₁ Bd hml0 hP hK
  obtain ⟨rfl, hZ, hh⟩ := hP
  have hx := Bd.exec
  have hby := Bd.bytes
  have hml : c.maxLocals = 1 := hml0
  have hown : s.vm.findClass "java/lang/StringUTF16" = some m.cls := findClass_of_methodNamed Bd.named
  have hnm := (name_of_methodNamed Bd.named Bd.method).1
  have X0 : Stand p l e ({ frames := 1, cells := 1, slots := 12, locals := 12 } : Room) s m #[(.int (Int32.ofNat nN))] below meth c s₁ [] 0 0 := Stand.of_body Bd
  have e0 : s₁.heap = h0 := by rw [← hh, Bd.state]; rfl
  have N0 := Fr.nil n0
  have pre0 : ∀ t_, Steps p.tables e below (s₁.setTop (mkF m 0 #[.val (.int (Int32.ofNat nN))] [])) t_ → Steps p.tables e below (s₁.setTop (entryFrame m #[(.int (Int32.ofNat nN))] 1)) t_ := fun t_ k_ => castTop (ef_rmNB m ((Int32.ofNat nN))) k_
  obtain ⟨_, _, ⟨T101, L101, k101, n101⟩, -, X101, ⟨Lc101, hQ101, l101, y101, z101⟩, st101⟩ := Jvm.LawKit.callS X0 hx (y := (⟨"java/lang/StringUTF16", "newBytesLength", "(I)I"⟩ : MethodName)) hown (mvT hZ (hw _ (List.mem_of_getElem? (i := 62) rfl))) (mvT hZ (hw _ (List.mem_of_getElem? (i := 63) rfl))) (mvT hZ (hw _ (List.mem_of_getElem? (i := 51) rfl))) (mvT hZ (hw _ (List.mem_of_getElem? (i := 64) rfl))) (by decide) (backOf (W := 0) (rmNL l Z a0 hw [] nN h0 n0 Z0 b1) hZ (hw _ (List.mem_of_getElem? (i := 64) rfl)) (hw _ (List.mem_of_getElem? (i := 51) rfl)) (by decide) (by decide)) (g := (mkF m 1 #[.val (.int (Int32.ofNat nN))] [(.int (Int32.ofNat nN))])) rfl (by rw [hml]; rfl) (argsL := [(.int (Int32.ofNat nN))]) (rest := []) (lenOf pd_0 rfl) rfl (by show 2 * 0 + _ ≤ _; exact Nat.le_of_eq rfl) (hb hby d12_1) (fun _ _ => ⟨rfl, e0, (by decide : 0 + 0 ≤ _), (by decide : 0 + 0 ≤ _)⟩)
  dsimp only [Pt.U, Pt.locs, Pt.cells, Pt.slots] at X101 l101 y101 z101 st101 hQ101
  subst l101 y101 z101
  obtain ⟨rfl, N101q, e101⟩ := hQ101
  have N101 := Fr.app N0 N101q
  obtain ⟨T102, h102, k_x, X102, e102, Ext_x, A_x, st102⟩ := newP X101 hx hZ (hw _ (List.mem_of_getElem? (i := 19) rfl)) e101 (g := (mkF m 4 #[.val (.int (Int32.ofNat nN))] [(.int (Int32.ofNat (2 * nN)))])) rfl (hb hby d12_4) rfl (own_ofn0 (by omega)) (cap := 12) (by rw [own_ofc (by omega)]; omega) (by decide) (by decide) (by decide)
  obtain ⟨x, eq_x⟩ : ∃ z, z = h0.size := ⟨_, rfl⟩
  rw [← eq_x] at A_x st102
  have g_x : n0 ≤ x := Nat.le_trans Z0 (Nat.le_of_eq eq_x.symm)
  have K_103 := (Keep.refl h0 []).ext Ext_x
  have Z104 : n0 ≤ h102.size := Nat.le_trans Z0 (Ext_x.1)
  have V_x := Arv.new A_x (own_ofn0 (by omega))
  have AF := own_AfA V_x (by omega) (fun j _ => rfl)
  have pre105 : ∀ t_, Steps p.tables e below (T102.setTop (mkF m 6 #[.val (.int (Int32.ofNat nN))] [(.ref x)])) t_ → Steps p.tables e below (s₁.setTop (entryFrame m #[(.int (Int32.ofNat nN))] 1)) t_ := fun t_ k_ => pre0 _ (by
    show Steps p.tables e below (s₁.setTop (mkF m 0 #[.val (.int (Int32.ofNat nN))] [])) _
    refine XS.iloadN X0.here hx rfl (hb hby d12_0) rfl ?_
    show Steps p.tables e below (s₁.setTop (mkF m 1 #[.val (.int (Int32.ofNat nN))] [(.int (Int32.ofNat nN))])) _
    refine st101 _ ?_
    show Steps p.tables e below (T101.setTop (mkF m 4 #[.val (.int (Int32.ofNat nN))] [(.int (Int32.ofNat (2 * nN)))])) _
    refine st102 _ ?_
    exact k_)
  obtain ⟨fs, hr, hrun, hended, hW, hsame⟩ := X102.leave (v := some (.ref x)) (fun h => by rw [Bd.returns] at h; cases h)
  refine ⟨_, _, pre105 _ ?_, hrun, hended, _, _, rfl, ?_, ⟨_, rfl⟩, hW, hsame.mono (by decide) (by decide)⟩
  · show Steps p.tables e below (T102.setTop (mkF m 6 #[.val (.int (Int32.ofNat nN))] [(.ref x)])) _
    jvm_step X102.here [X102.here.top, hx, (hb hby d12_6), X102.method', Bd.returns, Value.isRef, FieldType.isReference]
    first | (intro acts; rw [hr _ acts rfl rfl rfl]) | rw [hr _ _ rfl rfl rfl]
    exact Steps.refl _
  · show QrmNB Z nN h0 n0 _ T102.heap _
    rw [e102]
    exact ⟨x, rfl, N101, K_103, AF, Nat.le_of_eq eq_x.symm⟩
theorem pd_1 : parseMethodDescriptor "(I)[B" = some ⟨[.int], some (.array .byte)⟩ := by decide +kernel
theorem pd_2 : parseMethodDescriptor "([BII)V" = some ⟨[(.array .byte), .int, .int], none⟩ := by decide +kernel
theorem d11_0 : decode jdk_52_method_14_code 0 = .ok (.iload_n 2, 1) := by decide +kernel
theorem d11_1 : decode jdk_52_method_14_code 1 = .ok (.invokestatic 107, 3) := by decide +kernel
theorem d11_4 : decode jdk_52_method_14_code 4 = .ok (.astore_n 3, 1) := by decide +kernel
theorem d11_5 : decode jdk_52_method_14_code 5 = .ok (.iconst 0, 1) := by decide +kernel
theorem d11_6 : decode jdk_52_method_14_code 6 = .ok (.istore 4, 2) := by decide +kernel
theorem d11_8 : decode jdk_52_method_14_code 8 = .ok (.iload 4, 2) := by decide +kernel
theorem d11_10 : decode jdk_52_method_14_code 10 = .ok (.iload_n 2, 1) := by decide +kernel
theorem d11_11 : decode jdk_52_method_14_code 11 = .ok (.if_icmp .ge 21, 3) := by decide +kernel
theorem d11_14 : decode jdk_52_method_14_code 14 = .ok (.aload_n 3, 1) := by decide +kernel
theorem d11_15 : decode jdk_52_method_14_code 15 = .ok (.iload 4, 2) := by decide +kernel
theorem d11_17 : decode jdk_52_method_14_code 17 = .ok (.aload_n 0, 1) := by decide +kernel
theorem d11_18 : decode jdk_52_method_14_code 18 = .ok (.iload_n 1, 1) := by decide +kernel
theorem d11_19 : decode jdk_52_method_14_code 19 = .ok (.caload, 1) := by decide +kernel
theorem d11_20 : decode jdk_52_method_14_code 20 = .ok (.invokestatic 111, 3) := by decide +kernel
theorem d11_23 : decode jdk_52_method_14_code 23 = .ok (.iinc 1 1, 3) := by decide +kernel
theorem d11_26 : decode jdk_52_method_14_code 26 = .ok (.iinc 4 1, 3) := by decide +kernel
theorem d11_29 : decode jdk_52_method_14_code 29 = .ok (.goto (-21), 3) := by decide +kernel
theorem d11_32 : decode jdk_52_method_14_code 32 = .ok (.aload_n 3, 1) := by decide +kernel
theorem d11_33 : decode jdk_52_method_14_code 33 = .ok (.areturn, 1) := by decide +kernel
theorem ef_rmTB (m : MethodId) (x0 : Addr) (x1 : Int32) (x2 : Int32) : entryFrame m #[(.ref x0), (.int x1), (.int x2)] 5 = mkF m 0 #[.val (.ref x0), .val (.int x1), .val (.int x2), .unset, .unset] [] := by first | (simp [entryFrame, mkF, argsToLocals, Value.category]; done) | rfl
def QrmTB (Z : State) (a1 : Addr) (nN : Nat) (g : Nat → Int32) (h0 : Heap) (n0 : Nat) (v : Option Value) (h : Heap) (L : List Loc) : Prop := ∃ x : Addr, v = some (.ref x) ∧ Fr n0 L ∧ Keep h0 h [] ∧ own_Af Z h x .byte (2 * nN) (own_b16 g) ∧ h0.size ≤ x
set_option maxRecDepth 65536 in
set_option maxHeartbeats 40000000 in
theorem rmTB (l : Launch) (Z : State) (a0 : Array Value) (hw : ∀ d ∈ tables_1, d.before a0 Z = true) (ws : List Jvm.Cond) (a1 : Addr) (nN : Nat) (g : Nat → Int32) (h0 : Heap) (n0 : Nat) (Z0 : n0 ≤ h0.size) (S_a : Sta Z Z.heap "java/lang/StringUTF16" "$assertionsDisabled" "Z" (.int (1 : Int32))) (S_h : Sta Z Z.heap "java/lang/StringUTF16" "HI_BYTE_SHIFT" "I" (.int (0 : Int32))) (S_l : Sta Z Z.heap "java/lang/StringUTF16" "LO_BYTE_SHIFT" "I" (.int (8 : Int32))) (O : Old Z n0 h0) (b1 : nN ≤ 6) (V : own_Af Z h0 a1 .char nN g) :
    MetFree l (⟨"java/lang/StringUTF16", "toBytes", "([CII)[B"⟩ : MethodName) (head1 (Jvm.Cond.code (⟨"java/lang/StringUTF16", "toBytes", "([CII)[B"⟩ : MethodName) jdk_52_method_14_code 5 (some (.array .byte)) :: ws) ({ frames := 2, cells := 1, slots := 12, locals := 24 } : Room)) (fun a U => a = #[(.ref a1), (.int (0 : Int32)), (.int (Int32.ofNat nN))] ∧ Z.Warmed39 U.vm ∧ U.heap = h0) (fun _ _ _ _ _ => True) (fun _ U o U' => ∃ v L, o = .returned v ∧ QrmTB Z a1 nN g h0 n0 v U'.heap L ∧ FrameEnd U o U' L ({ frames := 2, cells := 1, slots := 12, locals := 24 } : Room).cells ({ frames := 2, cells := 1, slots := 12, locals := 24 } : Room).slots) := by
  refine MetFree.of_bodySF (plainFor_of_name pn_0) hisR ?_
  intro p e s m args below meth c s₁ Bd hml0 hP hK
  obtain ⟨rfl, hZ, hh⟩ := hP
  have hx := Bd.exec
  have hby := Bd.bytes
  have hml : c.maxLocals = 5 := hml0
  have hown : s.vm.findClass "java/lang/StringUTF16" = some m.cls := findClass_of_methodNamed Bd.named
  have hnm := (name_of_methodNamed Bd.named Bd.method).1
  have X0 : Stand p l e ({ frames := 2, cells := 1, slots := 12, locals := 24 } : Room) s m #[(.ref a1), (.int (0 : Int32)), (.int (Int32.ofNat nN))] below meth c s₁ [] 0 0 := Stand.of_body Bd
  have e0 : s₁.heap = h0 := by rw [← hh, Bd.state]; rfl
  have N0 := Fr.nil n0
  have pre0 : ∀ t_, Steps p.tables e below (s₁.setTop (mkF m 0 #[.val (.ref a1), .val (.int (0 : Int32)), .val (.int (Int32.ofNat nN)), .unset, .unset] [])) t_ → Steps p.tables e below (s₁.setTop (entryFrame m #[(.ref a1), (.int (0 : Int32)), (.int (Int32.ofNat nN))] 5)) t_ := fun t_ k_ => castTop (ef_rmTB m a1 ((0 : Int32)) ((Int32.ofNat nN))) k_
  obtain ⟨_, _, ⟨T101, L101, k101, n101⟩, -, X101, ⟨Lc101, hQ101, l101, y101, z101⟩, st101⟩ := Jvm.LawKit.callS X0 hx (y := (⟨"java/lang/StringUTF16", "newBytesFor", "(I)[B"⟩ : MethodName)) hown (mvT hZ (hw _ (List.mem_of_getElem? (i := 59) rfl))) (mvT hZ (hw _ (List.mem_of_getElem? (i := 60) rfl))) (mvT hZ (hw _ (List.mem_of_getElem? (i := 51) rfl))) (mvT hZ (hw _ (List.mem_of_getElem? (i := 61) rfl))) (by decide) (backOf (W := 0) (rmNB l Z a0 hw [] nN h0 n0 Z0 b1) hZ (hw _ (List.mem_of_getElem? (i := 61) rfl)) (hw _ (List.mem_of_getElem? (i := 51) rfl)) (by decide) (by decide)) (g := (mkF m 1 #[.val (.ref a1), .val (.int (0 : Int32)), .val (.int (Int32.ofNat nN)), .unset, .unset] [(.int (Int32.ofNat nN))])) rfl (by rw [hml]; rfl) (argsL := [(.int (Int32.ofNat nN))]) (rest := []) (lenOf pd_1 rfl) rfl (by show 2 * 0 + _ ≤ _; exact Nat.le_of_eq rfl) (hb hby d11_1) (fun _ _ => ⟨rfl, e0, (by decide : 0 + 1 ≤ _), (by decide : 0 + 12 ≤ _)⟩)
  dsimp only [Pt.U, Pt.locs, Pt.cells, Pt.slots] at X101 l101 y101 z101 st101 hQ101
  subst l101 y101 z101
  obtain ⟨x, rfl, N101q, K101, AF, gx⟩ := hQ101
  have N101 := Fr.app N0 N101q
  have g_x : n0 ≤ x := Nat.le_trans Z0 gx
  have pre102 : ∀ t_, Steps p.tables e below (T101.setTop (mkF m 8 #[.val (.ref a1), .val (.int (0 : Int32)), .val (.int (Int32.ofNat nN)), .val (.ref x), .val (.int (0 : Int32))] [])) t_ → Steps p.tables e below (s₁.setTop (entryFrame m #[(.ref a1), (.int (0 : Int32)), (.int (Int32.ofNat nN))] 5)) t_ := fun t_ k_ => pre0 _ (by
    show Steps p.tables e below (s₁.setTop (mkF m 0 #[.val (.ref a1), .val (.int (0 : Int32)), .val (.int (Int32.ofNat nN)), .unset, .unset] [])) _
    refine XS.iloadN X0.here hx rfl (hb hby d11_0) rfl ?_
    show Steps p.tables e below (s₁.setTop (mkF m 1 #[.val (.ref a1), .val (.int (0 : Int32)), .val (.int (Int32.ofNat nN)), .unset, .unset] [(.int (Int32.ofNat nN))])) _
    refine st101 _ ?_
    show Steps p.tables e below (T101.setTop (mkF m 4 #[.val (.ref a1), .val (.int (0 : Int32)), .val (.int (Int32.ofNat nN)), .unset, .unset] [(.ref x)])) _
    refine XS.astoreN X101.here hx rfl (hb hby d11_4) rfl rfl (l' := #[.val (.ref a1), .val (.int (0 : Int32)), .val (.int (Int32.ofNat nN)), .val (.ref x), .unset]) rfl ?_
    show Steps p.tables e below (T101.setTop (mkF m 5 #[.val (.ref a1), .val (.int (0 : Int32)), .val (.int (Int32.ofNat nN)), .val (.ref x), .unset] [])) _
    refine XS.iconst X101.here hx rfl (hb hby d11_5) ?_
    show Steps p.tables e below (T101.setTop (mkF m 6 #[.val (.ref a1), .val (.int (0 : Int32)), .val (.int (Int32.ofNat nN)), .val (.ref x), .unset] [(.int (0 : Int32))])) _
    refine XS.istore X101.here hx rfl (hb hby d11_6) rfl (l' := #[.val (.ref a1), .val (.int (0 : Int32)), .val (.int (Int32.ofNat nN)), .val (.ref x), .val (.int (0 : Int32))]) rfl ?_
    exact k_)
  have loop : ∀ (N : Nat) (k : Nat) (T1 : State) (h1 : Heap) (lc : List Loc), k + N = nN → Stand p l e ({ frames := 2, cells := 1, slots := 12, locals := 24 } : Room) s m #[(.ref a1), (.int (0 : Int32)), (.int (Int32.ofNat nN))] below meth c T1 lc 1 12 → T1.heap = h1 → Fr n0 lc → Keep h0 h1 [] → n0 ≤ h1.size → own_Af Z h1 x .byte (2 * nN) (fun j => if j < 2 * k then own_b16 g j else 0) →
      ∃ (T' : State) (h' : Heap) (lc' : List Loc), Stand p l e ({ frames := 2, cells := 1, slots := 12, locals := 24 } : Room) s m #[(.ref a1), (.int (0 : Int32)), (.int (Int32.ofNat nN))] below meth c T' lc' 1 12 ∧ T'.heap = h' ∧ Fr n0 lc' ∧ Keep h0 h' [] ∧ own_Af Z h' x .byte (2 * nN) (fun j => if j < 2 * nN then own_b16 g j else 0) ∧
        ∀ t_, Steps p.tables e below (T'.setTop (mkF m 32 #[.val (.ref a1), .val (.int (Int32.ofNat nN)), .val (.int (Int32.ofNat nN)), .val (.ref x), .val (.int (Int32.ofNat nN))] [])) t_ → Steps p.tables e below (T1.setTop (mkF m 8 #[.val (.ref a1), .val (.int (Int32.ofNat k)), .val (.int (Int32.ofNat nN)), .val (.ref x), .val (.int (Int32.ofNat k))] [])) t_ := by
    intro N
    induction N with
    | zero =>
      intro k T1 h1 lc z1 X1 e1 N1 K1 Z1 V1
      have ek : k = nN := by omega
      have pre103 : ∀ t_, Steps p.tables e below (T1.setTop (mkF m 8 #[.val (.ref a1), .val (.int (Int32.ofNat k)), .val (.int (Int32.ofNat nN)), .val (.ref x), .val (.int (Int32.ofNat k))] [])) t_ → Steps p.tables e below (T1.setTop (mkF m 8 #[.val (.ref a1), .val (.int (Int32.ofNat k)), .val (.int (Int32.ofNat nN)), .val (.ref x), .val (.int (Int32.ofNat k))] [])) t_ := fun _ k_ => k_
      have pre104 : ∀ t_, Steps p.tables e below (T1.setTop (mkF m 32 #[.val (.ref a1), .val (.int (Int32.ofNat k)), .val (.int (Int32.ofNat nN)), .val (.ref x), .val (.int (Int32.ofNat k))] [])) t_ → Steps p.tables e below (T1.setTop (mkF m 8 #[.val (.ref a1), .val (.int (Int32.ofNat k)), .val (.int (Int32.ofNat nN)), .val (.ref x), .val (.int (Int32.ofNat k))] [])) t_ := fun t_ k_ => pre103 _ (by
        show Steps p.tables e below (T1.setTop (mkF m 8 #[.val (.ref a1), .val (.int (Int32.ofNat k)), .val (.int (Int32.ofNat nN)), .val (.ref x), .val (.int (Int32.ofNat k))] [])) _
        refine XS.iload X1.here hx rfl (hb hby d11_8) rfl ?_
        show Steps p.tables e below (T1.setTop (mkF m 10 #[.val (.ref a1), .val (.int (Int32.ofNat k)), .val (.int (Int32.ofNat nN)), .val (.ref x), .val (.int (Int32.ofNat k))] [(.int (Int32.ofNat k))])) _
        refine XS.iloadN X1.here hx rfl (hb hby d11_10) rfl ?_
        show Steps p.tables e below (T1.setTop (mkF m 11 #[.val (.ref a1), .val (.int (Int32.ofNat k)), .val (.int (Int32.ofNat nN)), .val (.ref x), .val (.int (Int32.ofNat k))] [(.int (Int32.ofNat nN)), (.int (Int32.ofNat k))])) _
        refine XS.icmpYes X1.here hx rfl (pc0 := 11) (pc' := 32) rfl (hb hby d11_11) rfl (flt (by rw [own_oflt (by omega) (by omega)]; omega)).2.1 (by decide) (by decide) ?_
        exact k_)
      refine ⟨T1, h1, lc, X1, e1, N1, K1, by rw [← ek] at V1 ⊢; exact V1, fun t_ k_ => pre104 t_ ?_⟩
      rw [ek]
      exact k_
    | succ N ih =>
      intro k T1 h1 lc z1 X1 e1 N1 K1 Z1 V1
      have pre105 : ∀ t_, Steps p.tables e below (T1.setTop (mkF m 8 #[.val (.ref a1), .val (.int (Int32.ofNat k)), .val (.int (Int32.ofNat nN)), .val (.ref x), .val (.int (Int32.ofNat k))] [])) t_ → Steps p.tables e below (T1.setTop (mkF m 8 #[.val (.ref a1), .val (.int (Int32.ofNat k)), .val (.int (Int32.ofNat nN)), .val (.ref x), .val (.int (Int32.ofNat k))] [])) t_ := fun _ k_ => k_
      obtain ⟨cl, Ar, Sz, Hs⟩ := own_Afkeep V K1 nin0
      have hin := own_ofin (a := k) Sz (by omega) (by omega)
      have hat : cl.slots[(Int32.ofNat k).toNatClampNeg]? = some (.int (g k)) := by rw [own_ofc (by omega)]; exact Hs k (by omega)
      have O1 := O.keep K1 all0
      obtain ⟨_, _, ⟨T106, L106, k106, n106⟩, -, X106, ⟨Lc106, hQ106, l106, y106, z106⟩, st106⟩ := Jvm.LawKit.callS X1 hx (y := (⟨"java/lang/StringUTF16", "putChar", "([BII)V"⟩ : MethodName)) hown (mvT hZ (hw _ (List.mem_of_getElem? (i := 66) rfl))) (mvT hZ (hw _ (List.mem_of_getElem? (i := 67) rfl))) (mvT hZ (hw _ (List.mem_of_getElem? (i := 51) rfl))) (mvT hZ (hw _ (List.mem_of_getElem? (i := 68) rfl))) (by decide) (backOf (W := 0) (rmPC l Z a0 hw [] x (g k) k (2 * nN) _ h1 n0 Z1 S_a S_h S_l O1 (by omega) (by omega) V1 g_x) hZ (hw _ (List.mem_of_getElem? (i := 68) rfl)) (hw _ (List.mem_of_getElem? (i := 51) rfl)) (by decide) (by decide)) (g := (mkF m 20 #[.val (.ref a1), .val (.int (Int32.ofNat k)), .val (.int (Int32.ofNat nN)), .val (.ref x), .val (.int (Int32.ofNat k))] [(.int (g k)), (.int (Int32.ofNat k)), (.ref x)])) rfl (by rw [hml]; rfl) (argsL := [(.ref x), (.int (Int32.ofNat k)), (.int (g k))]) (rest := []) (lenOf pd_2 rfl) rfl (by show 2 * 0 + _ ≤ _; exact Nat.le_of_eq rfl) (hb hby d11_20) (fun _ _ => ⟨rfl, e1, (by decide : 1 + 0 ≤ _), (by decide : 12 + 0 ≤ _)⟩)
      dsimp only [Pt.U, Pt.locs, Pt.cells, Pt.slots] at X106 l106 y106 z106 st106 hQ106
      subst l106 y106 z106
      obtain ⟨rfl, N106q, K106, VB⟩ := hQ106
      have N106 := Fr.app N1 N106q
      have pre107 : ∀ t_, Steps p.tables e below (T106.setTop (mkF m 8 #[.val (.ref a1), .val (.int ((Int32.ofNat k) + (1 : Int32))), .val (.int (Int32.ofNat nN)), .val (.ref x), .val (.int ((Int32.ofNat k) + (1 : Int32)))] [])) t_ → Steps p.tables e below (T1.setTop (mkF m 8 #[.val (.ref a1), .val (.int (Int32.ofNat k)), .val (.int (Int32.ofNat nN)), .val (.ref x), .val (.int (Int32.ofNat k))] [])) t_ := fun t_ k_ => pre105 _ (by
        show Steps p.tables e below (T1.setTop (mkF m 8 #[.val (.ref a1), .val (.int (Int32.ofNat k)), .val (.int (Int32.ofNat nN)), .val (.ref x), .val (.int (Int32.ofNat k))] [])) _
        refine XS.iload X1.here hx rfl (hb hby d11_8) rfl ?_
        show Steps p.tables e below (T1.setTop (mkF m 10 #[.val (.ref a1), .val (.int (Int32.ofNat k)), .val (.int (Int32.ofNat nN)), .val (.ref x), .val (.int (Int32.ofNat k))] [(.int (Int32.ofNat k))])) _
        refine XS.iloadN X1.here hx rfl (hb hby d11_10) rfl ?_
        show Steps p.tables e below (T1.setTop (mkF m 11 #[.val (.ref a1), .val (.int (Int32.ofNat k)), .val (.int (Int32.ofNat nN)), .val (.ref x), .val (.int (Int32.ofNat k))] [(.int (Int32.ofNat nN)), (.int (Int32.ofNat k))])) _
        refine XS.icmpNo X1.here hx rfl (hb hby d11_11) rfl (tlt (by rw [own_oflt (by omega) (by omega)]; omega)).2.1 ?_
        show Steps p.tables e below (T1.setTop (mkF m 14 #[.val (.ref a1), .val (.int (Int32.ofNat k)), .val (.int (Int32.ofNat nN)), .val (.ref x), .val (.int (Int32.ofNat k))] [])) _
        refine XS.aloadN X1.here hx rfl (hb hby d11_14) rfl rfl ?_
        show Steps p.tables e below (T1.setTop (mkF m 15 #[.val (.ref a1), .val (.int (Int32.ofNat k)), .val (.int (Int32.ofNat nN)), .val (.ref x), .val (.int (Int32.ofNat k))] [(.ref x)])) _
        refine XS.iload X1.here hx rfl (hb hby d11_15) rfl ?_
        show Steps p.tables e below (T1.setTop (mkF m 17 #[.val (.ref a1), .val (.int (Int32.ofNat k)), .val (.int (Int32.ofNat nN)), .val (.ref x), .val (.int (Int32.ofNat k))] [(.int (Int32.ofNat k)), (.ref x)])) _
        refine XS.aloadN X1.here hx rfl (hb hby d11_17) rfl rfl ?_
        show Steps p.tables e below (T1.setTop (mkF m 18 #[.val (.ref a1), .val (.int (Int32.ofNat k)), .val (.int (Int32.ofNat nN)), .val (.ref x), .val (.int (Int32.ofNat k))] [(.ref a1), (.int (Int32.ofNat k)), (.ref x)])) _
        refine XS.iloadN X1.here hx rfl (hb hby d11_18) rfl ?_
        show Steps p.tables e below (T1.setTop (mkF m 19 #[.val (.ref a1), .val (.int (Int32.ofNat k)), .val (.int (Int32.ofNat nN)), .val (.ref x), .val (.int (Int32.ofNat k))] [(.int (Int32.ofNat k)), (.ref a1), (.int (Int32.ofNat k)), (.ref x)])) _
        refine X1.caload hx (j := (Int32.ofNat k)) (v := (.int (g k))) (by rw [e1]; exact Ar.1) (State.isArrayOf_alike hZ.alike Ar.2.1) Ar.2.2 hin hat (g := (mkF m 19 #[.val (.ref a1), .val (.int (Int32.ofNat k)), .val (.int (Int32.ofNat nN)), .val (.ref x), .val (.int (Int32.ofNat k))] [(.int (Int32.ofNat k)), (.ref a1), (.int (Int32.ofNat k)), (.ref x)])) rfl rfl (hb hby d11_19) _ ?_
        show Steps p.tables e below (T1.setTop (mkF m 20 #[.val (.ref a1), .val (.int (Int32.ofNat k)), .val (.int (Int32.ofNat nN)), .val (.ref x), .val (.int (Int32.ofNat k))] [(.int (g k)), (.int (Int32.ofNat k)), (.ref x)])) _
        refine st106 _ ?_
        show Steps p.tables e below (T106.setTop (mkF m 23 #[.val (.ref a1), .val (.int (Int32.ofNat k)), .val (.int (Int32.ofNat nN)), .val (.ref x), .val (.int (Int32.ofNat k))] [])) _
        refine XS.iinc X106.here hx rfl (hb hby d11_23) rfl (l' := #[.val (.ref a1), .val (.int ((Int32.ofNat k) + (1 : Int32))), .val (.int (Int32.ofNat nN)), .val (.ref x), .val (.int (Int32.ofNat k))]) rfl ?_
        show Steps p.tables e below (T106.setTop (mkF m 26 #[.val (.ref a1), .val (.int ((Int32.ofNat k) + (1 : Int32))), .val (.int (Int32.ofNat nN)), .val (.ref x), .val (.int (Int32.ofNat k))] [])) _
        refine XS.iinc X106.here hx rfl (hb hby d11_26) rfl (l' := #[.val (.ref a1), .val (.int ((Int32.ofNat k) + (1 : Int32))), .val (.int (Int32.ofNat nN)), .val (.ref x), .val (.int ((Int32.ofNat k) + (1 : Int32)))]) rfl ?_
        show Steps p.tables e below (T106.setTop (mkF m 29 #[.val (.ref a1), .val (.int ((Int32.ofNat k) + (1 : Int32))), .val (.int (Int32.ofNat nN)), .val (.ref x), .val (.int ((Int32.ofNat k) + (1 : Int32)))] [])) _
        refine XS.goto X106.here hx rfl (pc0 := 29) (pc' := 8) rfl (hb hby d11_29) (by decide) (by decide) ?_
        exact k_)
      have V2 := own_Afcongr VB (fun j _ => own_tstep g k j)
      obtain ⟨T', h', lc', X', e', N', K', V', st'⟩ := ih (k + 1) _ _ _ (by omega) X106 rfl N106 (K1.trans K106 (allS (Or.inr gx) all0)) (Nat.le_trans Z1 K106.1) V2
      refine ⟨T', h', lc', X', e', N', K', V', fun t_ k_ => pre107 _ ?_⟩
      rw [own_of1]
      exact st' t_ k_
  obtain ⟨T', h', lc', X', e', N', K', V', st'⟩ := loop nN 0 _ _ _ (by omega) X101 rfl N101 K101 (Nat.le_trans Z0 K101.1) (own_Afcongr AF (fun j _ => by rw [if_neg (by omega)]))
  have pre108 : ∀ t_, Steps p.tables e below (T'.setTop (mkF m 33 #[.val (.ref a1), .val (.int (Int32.ofNat nN)), .val (.int (Int32.ofNat nN)), .val (.ref x), .val (.int (Int32.ofNat nN))] [(.ref x)])) t_ → Steps p.tables e below (s₁.setTop (entryFrame m #[(.ref a1), (.int (0 : Int32)), (.int (Int32.ofNat nN))] 5)) t_ := fun t_ k_ => pre102 _ (by
    show Steps p.tables e below (T101.setTop (mkF m 8 #[.val (.ref a1), .val (.int (0 : Int32)), .val (.int (Int32.ofNat nN)), .val (.ref x), .val (.int (0 : Int32))] [])) _
    refine st' _ ?_
    show Steps p.tables e below (T'.setTop (mkF m 32 #[.val (.ref a1), .val (.int (Int32.ofNat nN)), .val (.int (Int32.ofNat nN)), .val (.ref x), .val (.int (Int32.ofNat nN))] [])) _
    refine XS.aloadN X'.here hx rfl (hb hby d11_32) rfl rfl ?_
    exact k_)
  obtain ⟨fs, hr, hrun, hended, hW, hsame⟩ := X'.leave (v := some (.ref x)) (fun h => by rw [Bd.returns] at h; cases h)
  refine ⟨_, _, pre108 _ ?_, hrun, hended, _, _, rfl, ?_, ⟨_, rfl⟩, hW, hsame.mono (by decide) (by decide)⟩
  · show Steps p.tables e below (T'.setTop (mkF m 33 #[.val (.ref a1), .val (.int (Int32.ofNat nN)), .val (.int (Int32.ofNat nN)), .val (.ref x), .val (.int (Int32.ofNat nN))] [(.ref x)])) _
    jvm_step X'.here [X'.here.top, hx, (hb hby d11_33), X'.method', Bd.returns, Value.isRef, FieldType.isReference]
    first | (intro acts; rw [hr _ acts rfl rfl rfl]) | rw [hr _ _ rfl rfl rfl]
    exact Steps.refl _
  · show QrmTB Z a1 nN g h0 n0 _ T'.heap _
    rw [e']
    exact ⟨x, rfl, N', K', own_Afcongr V' (fun j q => by rw [if_pos q]), gx⟩
theorem pd_3 : parseMethodDescriptor "([CI[BII)I" = some ⟨[(.array .char), .int, (.array .byte), .int, .int], some .int⟩ := by decide +kernel
theorem pd_4 : parseMethodDescriptor "([CII)[B" = some ⟨[(.array .char), .int, .int], some (.array .byte)⟩ := by decide +kernel
theorem pd_5 : parseMethodDescriptor "([BI)C" = some ⟨[(.array .byte), .int], some .char⟩ := by decide +kernel
theorem d9_0 : decode jdk_52_method_16_code 0 = .ok (.iload_n 2, 1) := by decide +kernel
theorem d9_1 : decode jdk_52_method_16_code 1 = .ok (.newarray .byte, 2) := by decide +kernel
theorem d9_3 : decode jdk_52_method_16_code 3 = .ok (.astore_n 3, 1) := by decide +kernel
theorem d9_4 : decode jdk_52_method_16_code 4 = .ok (.aload_n 0, 1) := by decide +kernel
theorem d9_5 : decode jdk_52_method_16_code 5 = .ok (.iload_n 1, 1) := by decide +kernel
theorem d9_6 : decode jdk_52_method_16_code 6 = .ok (.aload_n 3, 1) := by decide +kernel
theorem d9_7 : decode jdk_52_method_16_code 7 = .ok (.iconst 0, 1) := by decide +kernel
theorem d9_8 : decode jdk_52_method_16_code 8 = .ok (.iload_n 2, 1) := by decide +kernel
theorem d9_9 : decode jdk_52_method_16_code 9 = .ok (.invokestatic 115, 3) := by decide +kernel
theorem d9_12 : decode jdk_52_method_16_code 12 = .ok (.istore 4, 2) := by decide +kernel
theorem d9_14 : decode jdk_52_method_16_code 14 = .ok (.iload 4, 2) := by decide +kernel
theorem d9_16 : decode jdk_52_method_16_code 16 = .ok (.iload_n 2, 1) := by decide +kernel
theorem d9_17 : decode jdk_52_method_16_code 17 = .ok (.if_icmp .eq 40, 3) := by decide +kernel
theorem d9_20 : decode jdk_52_method_16_code 20 = .ok (.aload_n 0, 1) := by decide +kernel
theorem d9_21 : decode jdk_52_method_16_code 21 = .ok (.iload_n 1, 1) := by decide +kernel
theorem d9_22 : decode jdk_52_method_16_code 22 = .ok (.iload_n 2, 1) := by decide +kernel
theorem d9_23 : decode jdk_52_method_16_code 23 = .ok (.invokestatic 119, 3) := by decide +kernel
theorem d9_26 : decode jdk_52_method_16_code 26 = .ok (.astore 5, 2) := by decide +kernel
theorem d9_28 : decode jdk_52_method_16_code 28 = .ok (.aload 5, 2) := by decide +kernel
theorem d9_30 : decode jdk_52_method_16_code 30 = .ok (.iload 4, 2) := by decide +kernel
theorem d9_32 : decode jdk_52_method_16_code 32 = .ok (.invokestatic 71, 3) := by decide +kernel
theorem d9_35 : decode jdk_52_method_16_code 35 = .ok (.sipush 255, 3) := by decide +kernel
theorem d9_38 : decode jdk_52_method_16_code 38 = .ok (.if_icmp .gt 16, 3) := by decide +kernel
theorem d9_54 : decode jdk_52_method_16_code 54 = .ok (.aload 5, 2) := by decide +kernel
theorem d9_56 : decode jdk_52_method_16_code 56 = .ok (.areturn, 1) := by decide +kernel
theorem d9_57 : decode jdk_52_method_16_code 57 = .ok (.aload_n 3, 1) := by decide +kernel
theorem d9_58 : decode jdk_52_method_16_code 58 = .ok (.areturn, 1) := by decide +kernel
theorem ef_rmCB (m : MethodId) (x0 : Addr) (x1 : Int32) (x2 : Int32) : entryFrame m #[(.ref x0), (.int x1), (.int x2)] 6 = mkF m 0 #[.val (.ref x0), .val (.int x1), .val (.int x2), .unset, .unset, .unset] [] := by first | (simp [entryFrame, mkF, argsToLocals, Value.category]; done) | rfl
def QrmCB (Z : State) (a1 : Addr) (nN : Nat) (g : Nat → Int32) (h0 : Heap) (n0 : Nat) (v : Option Value) (h : Heap) (L : List Loc) : Prop := ∃ x : Addr, v = some (.ref x) ∧ Fr n0 L ∧ Keep h0 h [] ∧ ((own_Af Z h x .byte nN (fun j => own_b8 (g j)) ∧ ∀ j, j < nN → (g j).toInt < 256) ∨ own_Af Z h x .byte (2 * nN) (own_b16 g)) ∧ h0.size ≤ x
set_option maxRecDepth 65536 in
set_option maxHeartbeats 40000000 in
theorem rmCB (l : Launch) (Z : State) (a0 : Array Value) (hw : ∀ d ∈ tables_1, d.before a0 Z = true) (ws : List Jvm.Cond) (a1 : Addr) (nN : Nat) (g : Nat → Int32) (h0 : Heap) (n0 : Nat) (Z0 : n0 ≤ h0.size) (S_a : Sta Z Z.heap "java/lang/StringUTF16" "$assertionsDisabled" "Z" (.int (1 : Int32))) (S_h : Sta Z Z.heap "java/lang/StringUTF16" "HI_BYTE_SHIFT" "I" (.int (0 : Int32))) (S_l : Sta Z Z.heap "java/lang/StringUTF16" "LO_BYTE_SHIFT" "I" (.int (8 : Int32))) (O : Old Z n0 h0) (b1 : nN ≤ 6) (rg : own_rng nN g) (V : own_Af Z h0 a1 .char nN g) :
    MetFree l (⟨"java/lang/StringUTF16", "compress", "([CII)[B"⟩ : MethodName) (head1 (Jvm.Cond.code (⟨"java/lang/StringUTF16", "compress", "([CII)[B"⟩ : MethodName) jdk_52_method_16_code 6 (some (.array .byte)) :: ws) ({ frames := 3, cells := 2, slots := 18, locals := 40 } : Room)) (fun a U => a = #[(.ref a1), (.int (0 : Int32)), (.int (Int32.ofNat nN))] ∧ Z.Warmed39 U.vm ∧ U.heap = h0) (fun _ _ _ _ _ => True) (fun _ U o U' => ∃ v L, o = .returned v ∧ QrmCB Z a1 nN g h0 n0 v U'.heap L ∧ FrameEnd U o U' L ({ frames := 3, cells := 2, slots := 18, locals := 40 } : Room).cells ({ frames := 3, cells := 2, slots := 18, locals := 40 } : Room).slots) := by
  refine MetFree.of_bodySF (plainFor_of_name pn_0) hisR ?_
  intro p e s m args below meth c s₁ Bd hml0 hP hK
  obtain ⟨rfl, hZ, hh⟩ := hP
  have hx := Bd.exec
  have hby := Bd.bytes
  have hml : c.maxLocals = 6 := hml0
  have hown : s.vm.findClass "java/lang/StringUTF16" = some m.cls := findClass_of_methodNamed Bd.named
  have hnm := (name_of_methodNamed Bd.named Bd.method).1
  have X0 : Stand p l e ({ frames := 3, cells := 2, slots := 18, locals := 40 } : Room) s m #[(.ref a1), (.int (0 : Int32)), (.int (Int32.ofNat nN))] below meth c s₁ [] 0 0 := Stand.of_body Bd
  have e0 : s₁.heap = h0 := by rw [← hh, Bd.state]; rfl
  have N0 := Fr.nil n0
  have pre0 : ∀ t_, Steps p.tables e below (s₁.setTop (mkF m 0 #[.val (.ref a1), .val (.int (0 : Int32)), .val (.int (Int32.ofNat nN)), .unset, .unset, .unset] [])) t_ → Steps p.tables e below (s₁.setTop (entryFrame m #[(.ref a1), (.int (0 : Int32)), (.int (Int32.ofNat nN))] 6)) t_ := fun t_ k_ => castTop (ef_rmCB m a1 ((0 : Int32)) ((Int32.ofNat nN))) k_
  obtain ⟨T101, h101, k_x, X101, e101, Ext_x, A_x, st101⟩ := newP X0 hx hZ (hw _ (List.mem_of_getElem? (i := 19) rfl)) e0 (g := (mkF m 1 #[.val (.ref a1), .val (.int (0 : Int32)), .val (.int (Int32.ofNat nN)), .unset, .unset, .unset] [(.int (Int32.ofNat nN))])) rfl (hb hby d9_1) rfl (own_ofn0 (by omega)) (cap := 6) (by rw [own_ofc (by omega)]; omega) (by decide) (by decide) (by decide)
  obtain ⟨x, eq_x⟩ : ∃ z, z = h0.size := ⟨_, rfl⟩
  rw [← eq_x] at A_x st101
  have g_x : n0 ≤ x := Nat.le_trans Z0 (Nat.le_of_eq eq_x.symm)
  have K_102 := (Keep.refl h0 []).ext Ext_x
  have Z103 : n0 ≤ h101.size := Nat.le_trans Z0 (Ext_x.1)
  have V_x := Arv.new A_x (own_ofn0 (by omega))
  have AF := own_AfA V_x (g := fun _ => 0) (by omega) (fun j _ => rfl)
  have lt1 := own_Aflt V
  have nex : a1 ≠ x := by rw [eq_x]; exact Nat.ne_of_lt lt1
  obtain ⟨_, _, ⟨T104, L104, k104, n104⟩, -, X104, ⟨Lc104, hQ104, l104, y104, z104⟩, st104⟩ := Jvm.LawKit.callS X101 hx (y := (⟨"java/lang/StringUTF16", "compress", "([CI[BII)I"⟩ : MethodName)) hown (mvT hZ (hw _ (List.mem_of_getElem? (i := 53) rfl))) (mvT hZ (hw _ (List.mem_of_getElem? (i := 54) rfl))) (mvT hZ (hw _ (List.mem_of_getElem? (i := 51) rfl))) (mvT hZ (hw _ (List.mem_of_getElem? (i := 55) rfl))) (by decide) (backOf (W := 0) (rmK l Z a0 hw [] a1 x nN g _ h101 n0 Z103 b1 (own_Afkeep V K_102 nin0) AF nex g_x) hZ (hw _ (List.mem_of_getElem? (i := 55) rfl)) (hw _ (List.mem_of_getElem? (i := 51) rfl)) (by decide) (by decide)) (g := (mkF m 9 #[.val (.ref a1), .val (.int (0 : Int32)), .val (.int (Int32.ofNat nN)), .val (.ref x), .unset, .unset] [(.int (Int32.ofNat nN)), (.int (0 : Int32)), (.ref x), (.int (0 : Int32)), (.ref a1)])) rfl (by rw [hml]; rfl) (argsL := [(.ref a1), (.int (0 : Int32)), (.ref x), (.int (0 : Int32)), (.int (Int32.ofNat nN))]) (rest := []) (lenOf pd_3 rfl) rfl (by show 2 * 0 + _ ≤ _; exact Nat.le_of_eq rfl) (hb hby d9_9) (fun _ _ => ⟨rfl, e101, (by decide : 1 + 0 ≤ _), (by decide : 6 + 0 ≤ _)⟩)
  dsimp only [Pt.U, Pt.locs, Pt.cells, Pt.slots] at X104 l104 y104 z104 st104 hQ104
  subst l104 y104 z104
  obtain ⟨mm, rfl, N104q, K104, m1, m2, m3, VB⟩ := hQ104
  have N104 := Fr.app N0 N104q
  have K2 := K_102.trans K104 (allS (Or.inr (Nat.le_of_eq eq_x.symm)) all0)
  have pre105 : ∀ t_, Steps p.tables e below (T104.setTop (mkF m 17 #[.val (.ref a1), .val (.int (0 : Int32)), .val (.int (Int32.ofNat nN)), .val (.ref x), .val (.int (Int32.ofNat mm)), .unset] [(.int (Int32.ofNat nN)), (.int (Int32.ofNat mm))])) t_ → Steps p.tables e below (s₁.setTop (entryFrame m #[(.ref a1), (.int (0 : Int32)), (.int (Int32.ofNat nN))] 6)) t_ := fun t_ k_ => pre0 _ (by
    show Steps p.tables e below (s₁.setTop (mkF m 0 #[.val (.ref a1), .val (.int (0 : Int32)), .val (.int (Int32.ofNat nN)), .unset, .unset, .unset] [])) _
    refine XS.iloadN X0.here hx rfl (hb hby d9_0) rfl ?_
    show Steps p.tables e below (s₁.setTop (mkF m 1 #[.val (.ref a1), .val (.int (0 : Int32)), .val (.int (Int32.ofNat nN)), .unset, .unset, .unset] [(.int (Int32.ofNat nN))])) _
    refine st101 _ ?_
    show Steps p.tables e below (T101.setTop (mkF m 3 #[.val (.ref a1), .val (.int (0 : Int32)), .val (.int (Int32.ofNat nN)), .unset, .unset, .unset] [(.ref x)])) _
    refine XS.astoreN X101.here hx rfl (hb hby d9_3) rfl rfl (l' := #[.val (.ref a1), .val (.int (0 : Int32)), .val (.int (Int32.ofNat nN)), .val (.ref x), .unset, .unset]) rfl ?_
    show Steps p.tables e below (T101.setTop (mkF m 4 #[.val (.ref a1), .val (.int (0 : Int32)), .val (.int (Int32.ofNat nN)), .val (.ref x), .unset, .unset] [])) _
    refine XS.aloadN X101.here hx rfl (hb hby d9_4) rfl rfl ?_
    show Steps p.tables e below (T101.setTop (mkF m 5 #[.val (.ref a1), .val (.int (0 : Int32)), .val (.int (Int32.ofNat nN)), .val (.ref x), .unset, .unset] [(.ref a1)])) _
    refine XS.iloadN X101.here hx rfl (hb hby d9_5) rfl ?_
    show Steps p.tables e below (T101.setTop (mkF m 6 #[.val (.ref a1), .val (.int (0 : Int32)), .val (.int (Int32.ofNat nN)), .val (.ref x), .unset, .unset] [(.int (0 : Int32)), (.ref a1)])) _
    refine XS.aloadN X101.here hx rfl (hb hby d9_6) rfl rfl ?_
    show Steps p.tables e below (T101.setTop (mkF m 7 #[.val (.ref a1), .val (.int (0 : Int32)), .val (.int (Int32.ofNat nN)), .val (.ref x), .unset, .unset] [(.ref x), (.int (0 : Int32)), (.ref a1)])) _
    refine XS.iconst X101.here hx rfl (hb hby d9_7) ?_
    show Steps p.tables e below (T101.setTop (mkF m 8 #[.val (.ref a1), .val (.int (0 : Int32)), .val (.int (Int32.ofNat nN)), .val (.ref x), .unset, .unset] [(.int (0 : Int32)), (.ref x), (.int (0 : Int32)), (.ref a1)])) _
    refine XS.iloadN X101.here hx rfl (hb hby d9_8) rfl ?_
    show Steps p.tables e below (T101.setTop (mkF m 9 #[.val (.ref a1), .val (.int (0 : Int32)), .val (.int (Int32.ofNat nN)), .val (.ref x), .unset, .unset] [(.int (Int32.ofNat nN)), (.int (0 : Int32)), (.ref x), (.int (0 : Int32)), (.ref a1)])) _
    refine st104 _ ?_
    show Steps p.tables e below (T104.setTop (mkF m 12 #[.val (.ref a1), .val (.int (0 : Int32)), .val (.int (Int32.ofNat nN)), .val (.ref x), .unset, .unset] [(.int (Int32.ofNat mm))])) _
    refine XS.istore X104.here hx rfl (hb hby d9_12) rfl (l' := #[.val (.ref a1), .val (.int (0 : Int32)), .val (.int (Int32.ofNat nN)), .val (.ref x), .val (.int (Int32.ofNat mm)), .unset]) rfl ?_
    show Steps p.tables e below (T104.setTop (mkF m 14 #[.val (.ref a1), .val (.int (0 : Int32)), .val (.int (Int32.ofNat nN)), .val (.ref x), .val (.int (Int32.ofNat mm)), .unset] [])) _
    refine XS.iload X104.here hx rfl (hb hby d9_14) rfl ?_
    show Steps p.tables e below (T104.setTop (mkF m 16 #[.val (.ref a1), .val (.int (0 : Int32)), .val (.int (Int32.ofNat nN)), .val (.ref x), .val (.int (Int32.ofNat mm)), .unset] [(.int (Int32.ofNat mm))])) _
    refine XS.iloadN X104.here hx rfl (hb hby d9_16) rfl ?_
    exact k_)
  by_cases hm : mm = nN
  · skip
    have pre106 : ∀ t_, Steps p.tables e below (T104.setTop (mkF m 58 #[.val (.ref a1), .val (.int (0 : Int32)), .val (.int (Int32.ofNat nN)), .val (.ref x), .val (.int (Int32.ofNat mm)), .unset] [(.ref x)])) t_ → Steps p.tables e below (s₁.setTop (entryFrame m #[(.ref a1), (.int (0 : Int32)), (.int (Int32.ofNat nN))] 6)) t_ := fun t_ k_ => pre105 _ (by
      show Steps p.tables e below (T104.setTop (mkF m 17 #[.val (.ref a1), .val (.int (0 : Int32)), .val (.int (Int32.ofNat nN)), .val (.ref x), .val (.int (Int32.ofNat mm)), .unset] [(.int (Int32.ofNat nN)), (.int (Int32.ofNat mm))])) _
      refine XS.icmpYes X104.here hx rfl (pc0 := 17) (pc' := 57) rfl (hb hby d9_17) rfl (teq (by rw [hm])).1 (by decide) (by decide) ?_
      show Steps p.tables e below (T104.setTop (mkF m 57 #[.val (.ref a1), .val (.int (0 : Int32)), .val (.int (Int32.ofNat nN)), .val (.ref x), .val (.int (Int32.ofNat mm)), .unset] [])) _
      refine XS.aloadN X104.here hx rfl (hb hby d9_57) rfl rfl ?_
      exact k_)
    obtain ⟨fs, hr, hrun, hended, hW, hsame⟩ := X104.leave (v := some (.ref x)) (fun h => by rw [Bd.returns] at h; cases h)
    refine ⟨_, _, pre106 _ ?_, hrun, hended, _, _, rfl, ?_, ⟨_, rfl⟩, hW, hsame.mono (by decide) (by decide)⟩
    · show Steps p.tables e below (T104.setTop (mkF m 58 #[.val (.ref a1), .val (.int (0 : Int32)), .val (.int (Int32.ofNat nN)), .val (.ref x), .val (.int (Int32.ofNat mm)), .unset] [(.ref x)])) _
      jvm_step X104.here [X104.here.top, hx, (hb hby d9_58), X104.method', Bd.returns, Value.isRef, FieldType.isReference]
      first | (intro acts; rw [hr _ acts rfl rfl rfl]) | rw [hr _ _ rfl rfl rfl]
      exact Steps.refl _
    · show QrmCB Z a1 nN g h0 n0 _ T104.heap _
      exact ⟨x, rfl, N104, K2, Or.inl ⟨own_Afcongr VB (fun j q => by rw [if_pos (by omega)]), fun j q => m2 j (by omega)⟩, Nat.le_of_eq eq_x.symm⟩
  · skip
    have m4 : ¬ (g mm).toInt < 256 := m3.resolve_left hm
    have Z2 := Nat.le_trans Z0 K2.1
    have O2 := O.keep K2 all0
    obtain ⟨_, _, ⟨T107, L107, k107, n107⟩, -, X107, ⟨Lc107, hQ107, l107, y107, z107⟩, st107⟩ := Jvm.LawKit.callS X104 hx (y := (⟨"java/lang/StringUTF16", "toBytes", "([CII)[B"⟩ : MethodName)) hown (mvT hZ (hw _ (List.mem_of_getElem? (i := 56) rfl))) (mvT hZ (hw _ (List.mem_of_getElem? (i := 57) rfl))) (mvT hZ (hw _ (List.mem_of_getElem? (i := 51) rfl))) (mvT hZ (hw _ (List.mem_of_getElem? (i := 58) rfl))) (by decide) (backOf (W := 0) (rmTB l Z a0 hw [] a1 nN g T104.heap n0 Z2 S_a S_h S_l O2 b1 (own_Afkeep V K2 nin0)) hZ (hw _ (List.mem_of_getElem? (i := 58) rfl)) (hw _ (List.mem_of_getElem? (i := 51) rfl)) (by decide) (by decide)) (g := (mkF m 23 #[.val (.ref a1), .val (.int (0 : Int32)), .val (.int (Int32.ofNat nN)), .val (.ref x), .val (.int (Int32.ofNat mm)), .unset] [(.int (Int32.ofNat nN)), (.int (0 : Int32)), (.ref a1)])) rfl (by rw [hml]; rfl) (argsL := [(.ref a1), (.int (0 : Int32)), (.int (Int32.ofNat nN))]) (rest := []) (lenOf pd_4 rfl) rfl (by show 2 * 0 + _ ≤ _; exact Nat.le_of_eq rfl) (hb hby d9_23) (fun _ _ => ⟨rfl, rfl, (by decide : 1 + 1 ≤ _), (by decide : 6 + 12 ≤ _)⟩)
    dsimp only [Pt.U, Pt.locs, Pt.cells, Pt.slots] at X107 l107 y107 z107 st107 hQ107
    subst l107 y107 z107
    obtain ⟨y, rfl, N107q, K107, VY, gy⟩ := hQ107
    have N107 := Fr.app N104 N107q
    have K3 := K2.trans K107 (fun _ q => nomatch q)
    have O3 := O.keep K3 all0
    have Z3 := Nat.le_trans Z0 K3.1
    obtain ⟨_, _, ⟨T108, L108, k108, n108⟩, -, X108, ⟨Lc108, hQ108, l108, y108, z108⟩, st108⟩ := Jvm.LawKit.callS X107 hx (y := (⟨"java/lang/StringUTF16", "getChar", "([BI)C"⟩ : MethodName)) hown (mvT hZ (hw _ (List.mem_of_getElem? (i := 72) rfl))) (mvT hZ (hw _ (List.mem_of_getElem? (i := 73) rfl))) (mvT hZ (hw _ (List.mem_of_getElem? (i := 51) rfl))) (mvT hZ (hw _ (List.mem_of_getElem? (i := 74) rfl))) (by decide) (backOf (W := 0) (rmGC l Z a0 hw [] y mm nN g T107.heap n0 Z3 S_a S_h S_l O3 b1 (by omega) (rg mm (by omega)) VY) hZ (hw _ (List.mem_of_getElem? (i := 74) rfl)) (hw _ (List.mem_of_getElem? (i := 51) rfl)) (by decide) (by decide)) (g := (mkF m 32 #[.val (.ref a1), .val (.int (0 : Int32)), .val (.int (Int32.ofNat nN)), .val (.ref x), .val (.int (Int32.ofNat mm)), .val (.ref y)] [(.int (Int32.ofNat mm)), (.ref y)])) rfl (by rw [hml]; rfl) (argsL := [(.ref y), (.int (Int32.ofNat mm))]) (rest := []) (lenOf pd_5 rfl) rfl (by show 2 * 0 + _ ≤ _; exact Nat.le_of_eq rfl) (hb hby d9_32) (fun _ _ => ⟨rfl, rfl, (by decide : 2 + 0 ≤ _), (by decide : 18 + 0 ≤ _)⟩)
    dsimp only [Pt.U, Pt.locs, Pt.cells, Pt.slots] at X108 l108 y108 z108 st108 hQ108
    subst l108 y108 z108
    obtain ⟨rfl, N108q, e108⟩ := hQ108
    have N108 := Fr.app N107 N108q
    have pre109 : ∀ t_, Steps p.tables e below (T108.setTop (mkF m 56 #[.val (.ref a1), .val (.int (0 : Int32)), .val (.int (Int32.ofNat nN)), .val (.ref x), .val (.int (Int32.ofNat mm)), .val (.ref y)] [(.ref y)])) t_ → Steps p.tables e below (s₁.setTop (entryFrame m #[(.ref a1), (.int (0 : Int32)), (.int (Int32.ofNat nN))] 6)) t_ := fun t_ k_ => pre105 _ (by
      show Steps p.tables e below (T104.setTop (mkF m 17 #[.val (.ref a1), .val (.int (0 : Int32)), .val (.int (Int32.ofNat nN)), .val (.ref x), .val (.int (Int32.ofNat mm)), .unset] [(.int (Int32.ofNat nN)), (.int (Int32.ofNat mm))])) _
      refine XS.icmpNo X104.here hx rfl (hb hby d9_17) rfl (feq (own_ofne (by omega) (by omega) hm)).1 ?_
      show Steps p.tables e below (T104.setTop (mkF m 20 #[.val (.ref a1), .val (.int (0 : Int32)), .val (.int (Int32.ofNat nN)), .val (.ref x), .val (.int (Int32.ofNat mm)), .unset] [])) _
      refine XS.aloadN X104.here hx rfl (hb hby d9_20) rfl rfl ?_
      show Steps p.tables e below (T104.setTop (mkF m 21 #[.val (.ref a1), .val (.int (0 : Int32)), .val (.int (Int32.ofNat nN)), .val (.ref x), .val (.int (Int32.ofNat mm)), .unset] [(.ref a1)])) _
      refine XS.iloadN X104.here hx rfl (hb hby d9_21) rfl ?_
      show Steps p.tables e below (T104.setTop (mkF m 22 #[.val (.ref a1), .val (.int (0 : Int32)), .val (.int (Int32.ofNat nN)), .val (.ref x), .val (.int (Int32.ofNat mm)), .unset] [(.int (0 : Int32)), (.ref a1)])) _
      refine XS.iloadN X104.here hx rfl (hb hby d9_22) rfl ?_
      show Steps p.tables e below (T104.setTop (mkF m 23 #[.val (.ref a1), .val (.int (0 : Int32)), .val (.int (Int32.ofNat nN)), .val (.ref x), .val (.int (Int32.ofNat mm)), .unset] [(.int (Int32.ofNat nN)), (.int (0 : Int32)), (.ref a1)])) _
      refine st107 _ ?_
      show Steps p.tables e below (T107.setTop (mkF m 26 #[.val (.ref a1), .val (.int (0 : Int32)), .val (.int (Int32.ofNat nN)), .val (.ref x), .val (.int (Int32.ofNat mm)), .unset] [(.ref y)])) _
      refine XS.astore X107.here hx rfl (hb hby d9_26) rfl rfl (l' := #[.val (.ref a1), .val (.int (0 : Int32)), .val (.int (Int32.ofNat nN)), .val (.ref x), .val (.int (Int32.ofNat mm)), .val (.ref y)]) rfl ?_
      show Steps p.tables e below (T107.setTop (mkF m 28 #[.val (.ref a1), .val (.int (0 : Int32)), .val (.int (Int32.ofNat nN)), .val (.ref x), .val (.int (Int32.ofNat mm)), .val (.ref y)] [])) _
      refine XS.aload X107.here hx rfl (hb hby d9_28) rfl rfl ?_
      show Steps p.tables e below (T107.setTop (mkF m 30 #[.val (.ref a1), .val (.int (0 : Int32)), .val (.int (Int32.ofNat nN)), .val (.ref x), .val (.int (Int32.ofNat mm)), .val (.ref y)] [(.ref y)])) _
      refine XS.iload X107.here hx rfl (hb hby d9_30) rfl ?_
      show Steps p.tables e below (T107.setTop (mkF m 32 #[.val (.ref a1), .val (.int (0 : Int32)), .val (.int (Int32.ofNat nN)), .val (.ref x), .val (.int (Int32.ofNat mm)), .val (.ref y)] [(.int (Int32.ofNat mm)), (.ref y)])) _
      refine st108 _ ?_
      show Steps p.tables e below (T108.setTop (mkF m 35 #[.val (.ref a1), .val (.int (0 : Int32)), .val (.int (Int32.ofNat nN)), .val (.ref x), .val (.int (Int32.ofNat mm)), .val (.ref y)] [(.int (g mm))])) _
      refine XS.sipush X108.here hx rfl (hb hby d9_35) ?_
      show Steps p.tables e below (T108.setTop (mkF m 38 #[.val (.ref a1), .val (.int (0 : Int32)), .val (.int (Int32.ofNat nN)), .val (.ref x), .val (.int (Int32.ofNat mm)), .val (.ref y)] [(.int (255 : Int32)), (.int (g mm))])) _
      refine XS.icmpYes X108.here hx rfl (pc0 := 38) (pc' := 54) rfl (hb hby d9_38) rfl (tlt (own_255.mpr m4)).2.2.1 (by decide) (by decide) ?_
      show Steps p.tables e below (T108.setTop (mkF m 54 #[.val (.ref a1), .val (.int (0 : Int32)), .val (.int (Int32.ofNat nN)), .val (.ref x), .val (.int (Int32.ofNat mm)), .val (.ref y)] [])) _
      refine XS.aload X108.here hx rfl (hb hby d9_54) rfl rfl ?_
      exact k_)
    obtain ⟨fs, hr, hrun, hended, hW, hsame⟩ := X108.leave (v := some (.ref y)) (fun h => by rw [Bd.returns] at h; cases h)
    refine ⟨_, _, pre109 _ ?_, hrun, hended, _, _, rfl, ?_, ⟨_, rfl⟩, hW, hsame.mono (by decide) (by decide)⟩
    · show Steps p.tables e below (T108.setTop (mkF m 56 #[.val (.ref a1), .val (.int (0 : Int32)), .val (.int (Int32.ofNat nN)), .val (.ref x), .val (.int (Int32.ofNat mm)), .val (.ref y)] [(.ref y)])) _
      jvm_step X108.here [X108.here.top, hx, (hb hby d9_56), X108.method', Bd.returns, Value.isRef, FieldType.isReference]
      first | (intro acts; rw [hr _ acts rfl rfl rfl]) | rw [hr _ _ rfl rfl rfl]
      exact Steps.refl _
    · show QrmCB Z a1 nN g h0 n0 _ T108.heap _
      rw [e108]
      exact ⟨y, rfl, N108, K3, Or.inr VY, Nat.le_trans K2.1 gy⟩
theorem d16_0 : decode jdk_52_method_15_code 0 = .ok (.iload_n 1, 1) := by decide +kernel
theorem d16_1 : decode jdk_52_method_15_code 1 = .ok (.aload_n 0, 1) := by decide +kernel
theorem d16_2 : decode jdk_52_method_15_code 2 = .ok (.arraylength, 1) := by decide +kernel
theorem d16_3 : decode jdk_52_method_15_code 3 = .ok (.isub, 1) := by decide +kernel
theorem d16_4 : decode jdk_52_method_15_code 4 = .ok (.bipush 31, 2) := by decide +kernel
theorem d16_6 : decode jdk_52_method_15_code 6 = .ok (.iushr, 1) := by decide +kernel
theorem d16_7 : decode jdk_52_method_15_code 7 = .ok (.i2b, 1) := by decide +kernel
theorem d16_8 : decode jdk_52_method_15_code 8 = .ok (.ireturn, 1) := by decide +kernel
theorem ef_rmCF (m : MethodId) (x0 : Addr) (x1 : Int32) : entryFrame m #[(.ref x0), (.int x1)] 2 = mkF m 0 #[.val (.ref x0), .val (.int x1)] [] := by first | (simp [entryFrame, mkF, argsToLocals, Value.category]; done) | rfl
def QrmCF (Z : State) (a1 : Addr) (nN : Nat) (N : Nat) (d : Nat → Int32) (h0 : Heap) (n0 : Nat) (v : Option Value) (h : Heap) (L : List Loc) : Prop := v = some (.int (own_cd nN N)) ∧ Fr n0 L ∧ h = h0
set_option maxRecDepth 65536 in
set_option maxHeartbeats 40000000 in
theorem rmCF (l : Launch) (Z : State) (a0 : Array Value) (hw : ∀ d ∈ tables_1, d.before a0 Z = true) (ws : List Jvm.Cond) (a1 : Addr) (nN : Nat) (N : Nat) (d : Nat → Int32) (h0 : Heap) (n0 : Nat) (Z0 : n0 ≤ h0.size) (b0 : 1 ≤ nN) (b1 : nN ≤ 6) (hN : N = nN ∨ N = 2 * nN) (V : own_Af Z h0 a1 .byte N d) :
    MetFree l (⟨"java/lang/StringUTF16", "coderFromArrayLen", "([BI)B"⟩ : MethodName) (head1 (Jvm.Cond.code (⟨"java/lang/StringUTF16", "coderFromArrayLen", "([BI)B"⟩ : MethodName) jdk_52_method_15_code 2 (some .byte) :: ws) ({ frames := 0, cells := 0, slots := 0, locals := 0 } : Room)) (fun a U => a = #[(.ref a1), (.int (Int32.ofNat nN))] ∧ Z.Warmed39 U.vm ∧ U.heap = h0) (fun _ _ _ _ _ => True) (fun _ U o U' => ∃ v L, o = .returned v ∧ QrmCF Z a1 nN N d h0 n0 v U'.heap L ∧ FrameEnd U o U' L ({ frames := 0, cells := 0, slots := 0, locals := 0 } : Room).cells ({ frames := 0, cells := 0, slots := 0, locals := 0 } : Room).slots) := by
  refine MetFree.of_bodySF (plainFor_of_name pn_0) hisR ?_
  intro p e s m args below meth c s₁ Bd hml0 hP hK
  obtain ⟨rfl, hZ, hh⟩ := hP
  have hx := Bd.exec
  have hby := Bd.bytes
  have hml : c.maxLocals = 2 := hml0
  have hown : s.vm.findClass "java/lang/StringUTF16" = some m.cls := findClass_of_methodNamed Bd.named
  have hnm := (name_of_methodNamed Bd.named Bd.method).1
  have X0 : Stand p l e ({ frames := 0, cells := 0, slots := 0, locals := 0 } : Room) s m #[(.ref a1), (.int (Int32.ofNat nN))] below meth c s₁ [] 0 0 := Stand.of_body Bd
  have e0 : s₁.heap = h0 := by rw [← hh, Bd.state]; rfl
  have N0 := Fr.nil n0
  have pre0 : ∀ t_, Steps p.tables e below (s₁.setTop (mkF m 0 #[.val (.ref a1), .val (.int (Int32.ofNat nN))] [])) t_ → Steps p.tables e below (s₁.setTop (entryFrame m #[(.ref a1), (.int (Int32.ofNat nN))] 2)) t_ := fun t_ k_ => castTop (ef_rmCF m a1 ((Int32.ofNat nN))) k_
  obtain ⟨cl, Ar, Sz, Hs⟩ := V
  have Sz2 : cl.slots.size = (Int32.ofNat N).toNatClampNeg := by rw [Sz, own_ofc (by omega)]
  have pre101 : ∀ t_, Steps p.tables e below (s₁.setTop (mkF m 8 #[.val (.ref a1), .val (.int (Int32.ofNat nN))] [(.int (((((Int32.ofNat nN) - (Int32.ofNat N)).toUInt32 >>> ((31 : Int32) &&& 31).toUInt32).toInt32).toInt8.toInt32))])) t_ → Steps p.tables e below (s₁.setTop (entryFrame m #[(.ref a1), (.int (Int32.ofNat nN))] 2)) t_ := fun t_ k_ => pre0 _ (by
    show Steps p.tables e below (s₁.setTop (mkF m 0 #[.val (.ref a1), .val (.int (Int32.ofNat nN))] [])) _
    refine XS.iloadN X0.here hx rfl (hb hby d16_0) rfl ?_
    show Steps p.tables e below (s₁.setTop (mkF m 1 #[.val (.ref a1), .val (.int (Int32.ofNat nN))] [(.int (Int32.ofNat nN))])) _
    refine XS.aloadN X0.here hx rfl (hb hby d16_1) rfl rfl ?_
    show Steps p.tables e below (s₁.setTop (mkF m 2 #[.val (.ref a1), .val (.int (Int32.ofNat nN))] [(.ref a1), (.int (Int32.ofNat nN))])) _
    refine X0.arraylength hx (by rw [e0]; exact Ar.1) (State.isArrayOf_alike hZ.alike Ar.2.1) (g := (mkF m 2 #[.val (.ref a1), .val (.int (Int32.ofNat nN))] [(.ref a1), (.int (Int32.ofNat nN))])) rfl rfl (hb hby d16_2) _ ?_
    rw [len_of Sz2 (own_ofn0 (a := N) (by omega))]
    show Steps p.tables e below (s₁.setTop (mkF m 3 #[.val (.ref a1), .val (.int (Int32.ofNat nN))] [(.int (Int32.ofNat N)), (.int (Int32.ofNat nN))])) _
    refine XS.isub X0.here hx rfl (hb hby d16_3) rfl ?_
    show Steps p.tables e below (s₁.setTop (mkF m 4 #[.val (.ref a1), .val (.int (Int32.ofNat nN))] [(.int ((Int32.ofNat nN) - (Int32.ofNat N)))])) _
    refine XS.bipush X0.here hx rfl (hb hby d16_4) ?_
    show Steps p.tables e below (s₁.setTop (mkF m 6 #[.val (.ref a1), .val (.int (Int32.ofNat nN))] [(.int (31 : Int32)), (.int ((Int32.ofNat nN) - (Int32.ofNat N)))])) _
    refine XS.iushr X0.here hx rfl (hb hby d16_6) rfl ?_
    show Steps p.tables e below (s₁.setTop (mkF m 7 #[.val (.ref a1), .val (.int (Int32.ofNat nN))] [(.int ((((Int32.ofNat nN) - (Int32.ofNat N)).toUInt32 >>> ((31 : Int32) &&& 31).toUInt32).toInt32))])) _
    refine XS.i2b X0.here hx rfl (hb hby d16_7) rfl ?_
    exact k_)
  obtain ⟨fs, hr, hrun, hended, hW, hsame⟩ := X0.leave (v := some (.int (nar .byte (((((Int32.ofNat nN) - (Int32.ofNat N)).toUInt32 >>> ((31 : Int32) &&& 31).toUInt32).toInt32).toInt8.toInt32)))) (fun h => by rw [Bd.returns] at h; cases h)
  refine ⟨_, _, pre101 _ ?_, hrun, hended, _, _, rfl, ?_, ⟨_, rfl⟩, hW, hsame.mono (by decide) (by decide)⟩
  · show Steps p.tables e below (s₁.setTop (mkF m 8 #[.val (.ref a1), .val (.int (Int32.ofNat nN))] [(.int (((((Int32.ofNat nN) - (Int32.ofNat N)).toUInt32 >>> ((31 : Int32) &&& 31).toUInt32).toInt32).toInt8.toInt32))])) _
    exact retN X0 hx (t := .byte) Bd.returns (by simp) (hb hby d16_8) hr
  · show QrmCF Z a1 nN N d h0 n0 _ s₁.heap _
    rw [e0]
    exact ⟨by rw [own_cf b0 b1 hN], N0, rfl⟩
theorem pd_6 : parseMethodDescriptor "([BI)B" = some ⟨[(.array .byte), .int], some .byte⟩ := by decide +kernel
theorem d3_0 : decode jdk_42_method_149_code 0 = .ok (.aload_n 0, 1) := by decide +kernel
theorem d3_1 : decode jdk_42_method_149_code 1 = .ok (.invokespecial 1, 3) := by decide +kernel
theorem d3_4 : decode jdk_42_method_149_code 4 = .ok (.iload_n 3, 1) := by decide +kernel
theorem d3_5 : decode jdk_42_method_149_code 5 = .ok (.ifCond .ne 22, 3) := by decide +kernel
theorem d3_27 : decode jdk_42_method_149_code 27 = .ok (.getstatic 38, 3) := by decide +kernel
theorem d3_30 : decode jdk_42_method_149_code 30 = .ok (.ifCond .eq 28, 3) := by decide +kernel
theorem d3_33 : decode jdk_42_method_149_code 33 = .ok (.aload_n 1, 1) := by decide +kernel
theorem d3_34 : decode jdk_42_method_149_code 34 = .ok (.iload_n 2, 1) := by decide +kernel
theorem d3_35 : decode jdk_42_method_149_code 35 = .ok (.iload_n 3, 1) := by decide +kernel
theorem d3_36 : decode jdk_42_method_149_code 36 = .ok (.invokestatic 177, 3) := by decide +kernel
theorem d3_39 : decode jdk_42_method_149_code 39 = .ok (.astore 5, 2) := by decide +kernel
theorem d3_41 : decode jdk_42_method_149_code 41 = .ok (.aload_n 0, 1) := by decide +kernel
theorem d3_42 : decode jdk_42_method_149_code 42 = .ok (.aload 5, 2) := by decide +kernel
theorem d3_44 : decode jdk_42_method_149_code 44 = .ok (.iload_n 3, 1) := by decide +kernel
theorem d3_45 : decode jdk_42_method_149_code 45 = .ok (.invokestatic 47, 3) := by decide +kernel
theorem d3_48 : decode jdk_42_method_149_code 48 = .ok (.putfield 15, 3) := by decide +kernel
theorem d3_51 : decode jdk_42_method_149_code 51 = .ok (.aload_n 0, 1) := by decide +kernel
theorem d3_52 : decode jdk_42_method_149_code 52 = .ok (.aload 5, 2) := by decide +kernel
theorem d3_54 : decode jdk_42_method_149_code 54 = .ok (.putfield 9, 3) := by decide +kernel
theorem d3_57 : decode jdk_42_method_149_code 57 = .ok (.return_, 1) := by decide +kernel
theorem pn_1 : plainName "java/lang/String" = true := by first | (simp [plainName, overriddenIn]; done) | decide +kernel
theorem ef_rmI4 (m : MethodId) (x0 : Addr) (x1 : Addr) (x2 : Int32) (x3 : Int32) : entryFrame m #[(.ref x0), (.ref x1), (.int x2), (.int x3), .null] 6 = mkF m 0 #[.val (.ref x0), .val (.ref x1), .val (.int x2), .val (.int x3), .val .null, .unset] [] := by first | (simp [entryFrame, mkF, argsToLocals, Value.category]; done) | rfl
def QrmI4 (Z : State) (a1 : Addr) (a2 : Addr) (nN : Nat) (g : Nat → Int32) (zc : Int32) (h0 : Heap) (n0 : Nat) (v : Option Value) (h : Heap) (L : List Loc) : Prop := v = none ∧ Fr n0 L ∧ Keep h0 h [a1] ∧ own_S Z h a1 nN g
set_option maxRecDepth 65536 in
set_option maxHeartbeats 40000000 in
theorem rmI4 (l : Launch) (Z : State) (a0 : Array Value) (hw : ∀ d ∈ tables_1, d.before a0 Z = true) (ws : List Jvm.Cond) (a1 : Addr) (a2 : Addr) (nN : Nat) (g : Nat → Int32) (zc : Int32) (h0 : Heap) (n0 : Nat) (Z0 : n0 ≤ h0.size) (E_o : Exa Z h0 a1 "java/lang/String") (F_v : Fld Z h0 a1 "java/lang/String" "value" "[B" .null) (F_c : Fld Z h0 a1 "java/lang/String" "coder" "B" (.int (0 : Int32))) (g_a1 : n0 ≤ a1) (S_a : Sta Z Z.heap "java/lang/StringUTF16" "$assertionsDisabled" "Z" (.int (1 : Int32))) (S_h : Sta Z Z.heap "java/lang/StringUTF16" "HI_BYTE_SHIFT" "I" (.int (0 : Int32))) (S_l : Sta Z Z.heap "java/lang/StringUTF16" "LO_BYTE_SHIFT" "I" (.int (8 : Int32))) (O : Old Z n0 h0) (S_c : Sta Z Z.heap "java/lang/String" "COMPACT_STRINGS" "Z" (.int zc)) (hzc : ¬ zc = 0) (b0 : 1 ≤ nN) (b1 : nN ≤ 6) (rg : own_rng nN g) (V : own_Af Z h0 a2 .char nN g) :
    MetFree l (⟨"java/lang/String", "<init>", "([CIILjava/lang/Void;)V"⟩ : MethodName) (head1 (Jvm.Cond.code (⟨"java/lang/String", "<init>", "([CIILjava/lang/Void;)V"⟩ : MethodName) jdk_42_method_149_code 6 none :: ws) ({ frames := 4, cells := 2, slots := 18, locals := 57 } : Room)) (fun a U => a = #[(.ref a1), (.ref a2), (.int (0 : Int32)), (.int (Int32.ofNat nN)), .null] ∧ Z.Warmed39 U.vm ∧ U.heap = h0) (fun _ _ _ _ _ => True) (fun _ U o U' => ∃ v L, o = .returned v ∧ QrmI4 Z a1 a2 nN g zc h0 n0 v U'.heap L ∧ FrameEnd U o U' L ({ frames := 4, cells := 2, slots := 18, locals := 57 } : Room).cells ({ frames := 4, cells := 2, slots := 18, locals := 57 } : Room).slots) := by
  refine MetFree.of_bodySF (plainFor_of_name pn_1) hisR ?_
  intro p e s m args below meth c s₁ Bd hml0 hP hK
  obtain ⟨rfl, hZ, hh⟩ := hP
  have hx := Bd.exec
  have hby := Bd.bytes
  have hml : c.maxLocals = 6 := hml0
  have hown : s.vm.findClass "java/lang/String" = some m.cls := findClass_of_methodNamed Bd.named
  have hnm := (name_of_methodNamed Bd.named Bd.method).1
  have X0 : Stand p l e ({ frames := 4, cells := 2, slots := 18, locals := 57 } : Room) s m #[(.ref a1), (.ref a2), (.int (0 : Int32)), (.int (Int32.ofNat nN)), .null] below meth c s₁ [] 0 0 := Stand.of_body Bd
  have e0 : s₁.heap = h0 := by rw [← hh, Bd.state]; rfl
  have N0 := Fr.nil n0
  have pre0 : ∀ t_, Steps p.tables e below (s₁.setTop (mkF m 0 #[.val (.ref a1), .val (.ref a2), .val (.int (0 : Int32)), .val (.int (Int32.ofNat nN)), .val .null, .unset] [])) t_ → Steps p.tables e below (s₁.setTop (entryFrame m #[(.ref a1), (.ref a2), (.int (0 : Int32)), (.int (Int32.ofNat nN)), .null] 6)) t_ := fun t_ k_ => castTop (ef_rmI4 m a1 a2 ((0 : Int32)) ((Int32.ofNat nN))) k_
  obtain ⟨T101, X101, e101, st101⟩ := initO X0 hx hZ hown (hw _ (List.mem_of_getElem? (i := 15) rfl)) (hw _ (List.mem_of_getElem? (i := 16) rfl)) (hw _ (List.mem_of_getElem? (i := 17) rfl)) e0 (g := (mkF m 1 #[.val (.ref a1), .val (.ref a2), .val (.int (0 : Int32)), .val (.int (Int32.ofNat nN)), .val .null, .unset] [(.ref a1)])) rfl (by rw [hml]; rfl) rfl (hb hby d3_1) (by decide) (W := 0) (by show 2 * 0 + _ ≤ _; exact Nat.le_of_eq rfl) (by decide)
  obtain ⟨T102, X102, e102, st102⟩ := getS2 X101 hx hZ hown (host := "") (Or.inl (hw _ (List.mem_of_getElem? (i := 41) rfl))) Via.refl e101 (S_c.ext O.2) (g := (mkF m 27 #[.val (.ref a1), .val (.ref a2), .val (.int (0 : Int32)), .val (.int (Int32.ofNat nN)), .val .null, .unset] [])) rfl (hb hby d3_27)
  obtain ⟨_, _, ⟨T103, L103, k103, n103⟩, -, X103, ⟨Lc103, hQ103, l103, y103, z103⟩, st103⟩ := Jvm.LawKit.callS X102 hx (y := (⟨"java/lang/StringUTF16", "compress", "([CII)[B"⟩ : MethodName)) hown (mvT hZ (hw _ (List.mem_of_getElem? (i := 49) rfl))) (mvT hZ (hw _ (List.mem_of_getElem? (i := 50) rfl))) (mvT hZ (hw _ (List.mem_of_getElem? (i := 51) rfl))) (mvT hZ (hw _ (List.mem_of_getElem? (i := 52) rfl))) (by decide) (backOf (W := 0) (rmCB l Z a0 hw [] a2 nN g h0 n0 Z0 S_a S_h S_l O b1 rg V) hZ (hw _ (List.mem_of_getElem? (i := 52) rfl)) (hw _ (List.mem_of_getElem? (i := 51) rfl)) (by decide) (by decide)) (g := (mkF m 36 #[.val (.ref a1), .val (.ref a2), .val (.int (0 : Int32)), .val (.int (Int32.ofNat nN)), .val .null, .unset] [(.int (Int32.ofNat nN)), (.int (0 : Int32)), (.ref a2)])) rfl (by rw [hml]; rfl) (argsL := [(.ref a2), (.int (0 : Int32)), (.int (Int32.ofNat nN))]) (rest := []) (lenOf pd_4 rfl) rfl (by show 2 * 0 + _ ≤ _; exact Nat.le_of_eq rfl) (hb hby d3_36) (fun _ _ => ⟨rfl, e102, (by decide : 0 + 2 ≤ _), (by decide : 0 + 18 ≤ _)⟩)
  dsimp only [Pt.U, Pt.locs, Pt.cells, Pt.slots] at X103 l103 y103 z103 st103 hQ103
  subst l103 y103 z103
  obtain ⟨x, rfl, N103q, K103, BB, gx⟩ := hQ103
  have N103 := Fr.app N0 N103q
  have E_104 := E_o.keep K103
  have Fv_105 := F_v.keep K103 nin0
  have Fc_106 := F_c.keep K103 nin0
  have Z107 : n0 ≤ T103.heap.size := Nat.le_trans Z0 (K103.1)
  have KK := (Keep.refl h0 [a1]).trans K103 (fun _ q => nomatch q)
  have nex : x ≠ a1 := Ne.symm (Nat.ne_of_lt (Nat.lt_of_lt_of_le E_o.lt gx))
  obtain ⟨N_, d_, hN, AF, EN⟩ := own_toenc b0 BB
  obtain ⟨_, _, ⟨T108, L108, k108, n108⟩, -, X108, ⟨Lc108, hQ108, l108, y108, z108⟩, st108⟩ := Jvm.LawKit.callS X103 hx (y := (⟨"java/lang/StringUTF16", "coderFromArrayLen", "([BI)B"⟩ : MethodName)) hown (mvT hZ (hw _ (List.mem_of_getElem? (i := 75) rfl))) (mvT hZ (hw _ (List.mem_of_getElem? (i := 76) rfl))) (mvT hZ (hw _ (List.mem_of_getElem? (i := 51) rfl))) (mvT hZ (hw _ (List.mem_of_getElem? (i := 77) rfl))) (by decide) (backOf (W := 1) (rmCF l Z a0 hw [] x nN N_ d_ T103.heap n0 Z107 b0 b1 hN AF) hZ (hw _ (List.mem_of_getElem? (i := 77) rfl)) (hw _ (List.mem_of_getElem? (i := 51) rfl)) (by decide) (by decide)) (g := (mkF m 45 #[.val (.ref a1), .val (.ref a2), .val (.int (0 : Int32)), .val (.int (Int32.ofNat nN)), .val .null, .val (.ref x)] [(.int (Int32.ofNat nN)), (.ref x), (.ref a1)])) rfl (by rw [hml]; rfl) (argsL := [(.ref x), (.int (Int32.ofNat nN))]) (rest := [(.ref a1)]) (lenOf pd_6 rfl) rfl (by show 2 * 0 + _ ≤ _; exact Nat.le_of_eq rfl) (hb hby d3_45) (fun _ _ => ⟨rfl, rfl, (by decide : 2 + 0 ≤ _), (by decide : 18 + 0 ≤ _)⟩)
  dsimp only [Pt.U, Pt.locs, Pt.cells, Pt.slots] at X108 l108 y108 z108 st108 hQ108
  subst l108 y108 z108
  obtain ⟨rfl, N108q, e108⟩ := hQ108
  have N108 := Fr.app N103 N108q
  obtain ⟨T109, h109, X109, e109, W109, st109⟩ := putFN X108 hx hZ hown (hw _ (List.mem_of_getElem? (i := 25) rfl)) Via.refl e108 Fc_106 E_104 (Or.inr ⟨(hw _ (List.mem_of_getElem? (i := 21) rfl)), rfl, hnm⟩) (hw _ (List.mem_of_getElem? (i := 6) rfl)) (ty := .byte) (v' := (.int (nar .byte (own_cd nN N_)))) (by decide) rfl (fits_nar_byte _) (g := (mkF m 48 #[.val (.ref a1), .val (.ref a2), .val (.int (0 : Int32)), .val (.int (Int32.ofNat nN)), .val .null, .val (.ref x)] [(.int (own_cd nN N_)), (.ref a1)])) rfl rfl (hb hby d3_48)
  have Fv_110 := Fv_105.other W109 (Or.inr (slot_ne (Or.inr (hw _ (List.mem_of_getElem? (i := 20) rfl))) (Or.inr (hw _ (List.mem_of_getElem? (i := 21) rfl))) (by decide) (t := (.array .byte)) (t' := .byte) (by decide) (by decide)))
  have E_111 := E_104.wr W109
  have K_112 := KK.wr W109 (Or.inl (List.mem_of_getElem? (i := 0) rfl))
  have Fc_113 := Fc_106.same W109
  have N109 := Fr.snoc X109 N108 g_a1
  have Z114 : n0 ≤ h109.size := Nat.le_trans Z107 ((Keep.of_wr W109).1)
  have AF2 := own_Afkeep AF (Keep.of_wr W109) (ninS nex nin0)
  obtain ⟨T115, h115, X115, e115, W115, st115⟩ := putF X109 hx hZ hown (host := "") (Or.inl (hw _ (List.mem_of_getElem? (i := 24) rfl))) Via.refl e109 Fv_110 E_111 (Or.inr ⟨(hw _ (List.mem_of_getElem? (i := 20) rfl)), rfl, hnm⟩) (hw _ (List.mem_of_getElem? (i := 6) rfl)) (ty := (.array .byte)) (by decide) rfl rfl (g := (mkF m 54 #[.val (.ref a1), .val (.ref a2), .val (.int (0 : Int32)), .val (.int (Int32.ofNat nN)), .val .null, .val (.ref x)] [(.ref x), (.ref a1)])) rfl rfl (hb hby d3_54)
  have Fc_116 := Fc_113.other W115 (Or.inr (slot_ne (Or.inr (hw _ (List.mem_of_getElem? (i := 21) rfl))) (Or.inr (hw _ (List.mem_of_getElem? (i := 20) rfl))) (by decide) (t := .byte) (t' := (.array .byte)) (by decide) (by decide)))
  have E_117 := E_111.wr W115
  have K_118 := K_112.wr W115 (Or.inl (List.mem_of_getElem? (i := 0) rfl))
  have Fv_119 := Fv_110.same W115
  have N115 := Fr.snoc X115 N109 g_a1
  have Z120 : n0 ≤ h115.size := Nat.le_trans Z114 ((Keep.of_wr W115).1)
  have AF3 := own_Afkeep AF2 (Keep.of_wr W115) (ninS nex nin0)
  have Fc3 := Fc_116
  rw [own_cdn] at Fc3
  have pre121 : ∀ t_, Steps p.tables e below (T115.setTop (mkF m 57 #[.val (.ref a1), .val (.ref a2), .val (.int (0 : Int32)), .val (.int (Int32.ofNat nN)), .val .null, .val (.ref x)] [])) t_ → Steps p.tables e below (s₁.setTop (entryFrame m #[(.ref a1), (.ref a2), (.int (0 : Int32)), (.int (Int32.ofNat nN)), .null] 6)) t_ := fun t_ k_ => pre0 _ (by
    show Steps p.tables e below (s₁.setTop (mkF m 0 #[.val (.ref a1), .val (.ref a2), .val (.int (0 : Int32)), .val (.int (Int32.ofNat nN)), .val .null, .unset] [])) _
    refine XS.aloadN X0.here hx rfl (hb hby d3_0) rfl rfl ?_
    show Steps p.tables e below (s₁.setTop (mkF m 1 #[.val (.ref a1), .val (.ref a2), .val (.int (0 : Int32)), .val (.int (Int32.ofNat nN)), .val .null, .unset] [(.ref a1)])) _
    refine st101 _ ?_
    show Steps p.tables e below (T101.setTop (mkF m 4 #[.val (.ref a1), .val (.ref a2), .val (.int (0 : Int32)), .val (.int (Int32.ofNat nN)), .val .null, .unset] [])) _
    refine XS.iloadN X101.here hx rfl (hb hby d3_4) rfl ?_
    show Steps p.tables e below (T101.setTop (mkF m 5 #[.val (.ref a1), .val (.ref a2), .val (.int (0 : Int32)), .val (.int (Int32.ofNat nN)), .val .null, .unset] [(.int (Int32.ofNat nN))])) _
    refine XS.ifYes X101.here hx rfl (pc0 := 5) (pc' := 27) rfl (hb hby d3_5) rfl ((if0 _ _).trans (feq (own_ofne (b := 0) (by omega) (by omega) (by omega))).2) (by decide) (by decide) ?_
    show Steps p.tables e below (T101.setTop (mkF m 27 #[.val (.ref a1), .val (.ref a2), .val (.int (0 : Int32)), .val (.int (Int32.ofNat nN)), .val .null, .unset] [])) _
    refine st102 _ ?_
    show Steps p.tables e below (T102.setTop (mkF m 30 #[.val (.ref a1), .val (.ref a2), .val (.int (0 : Int32)), .val (.int (Int32.ofNat nN)), .val .null, .unset] [(.int zc)])) _
    refine XS.ifNo X102.here hx rfl (hb hby d3_30) rfl ((if0 _ _).trans (feq hzc).1) ?_
    show Steps p.tables e below (T102.setTop (mkF m 33 #[.val (.ref a1), .val (.ref a2), .val (.int (0 : Int32)), .val (.int (Int32.ofNat nN)), .val .null, .unset] [])) _
    refine XS.aloadN X102.here hx rfl (hb hby d3_33) rfl rfl ?_
    show Steps p.tables e below (T102.setTop (mkF m 34 #[.val (.ref a1), .val (.ref a2), .val (.int (0 : Int32)), .val (.int (Int32.ofNat nN)), .val .null, .unset] [(.ref a2)])) _
    refine XS.iloadN X102.here hx rfl (hb hby d3_34) rfl ?_
    show Steps p.tables e below (T102.setTop (mkF m 35 #[.val (.ref a1), .val (.ref a2), .val (.int (0 : Int32)), .val (.int (Int32.ofNat nN)), .val .null, .unset] [(.int (0 : Int32)), (.ref a2)])) _
    refine XS.iloadN X102.here hx rfl (hb hby d3_35) rfl ?_
    show Steps p.tables e below (T102.setTop (mkF m 36 #[.val (.ref a1), .val (.ref a2), .val (.int (0 : Int32)), .val (.int (Int32.ofNat nN)), .val .null, .unset] [(.int (Int32.ofNat nN)), (.int (0 : Int32)), (.ref a2)])) _
    refine st103 _ ?_
    show Steps p.tables e below (T103.setTop (mkF m 39 #[.val (.ref a1), .val (.ref a2), .val (.int (0 : Int32)), .val (.int (Int32.ofNat nN)), .val .null, .unset] [(.ref x)])) _
    refine XS.astore X103.here hx rfl (hb hby d3_39) rfl rfl (l' := #[.val (.ref a1), .val (.ref a2), .val (.int (0 : Int32)), .val (.int (Int32.ofNat nN)), .val .null, .val (.ref x)]) rfl ?_
    show Steps p.tables e below (T103.setTop (mkF m 41 #[.val (.ref a1), .val (.ref a2), .val (.int (0 : Int32)), .val (.int (Int32.ofNat nN)), .val .null, .val (.ref x)] [])) _
    refine XS.aloadN X103.here hx rfl (hb hby d3_41) rfl rfl ?_
    show Steps p.tables e below (T103.setTop (mkF m 42 #[.val (.ref a1), .val (.ref a2), .val (.int (0 : Int32)), .val (.int (Int32.ofNat nN)), .val .null, .val (.ref x)] [(.ref a1)])) _
    refine XS.aload X103.here hx rfl (hb hby d3_42) rfl rfl ?_
    show Steps p.tables e below (T103.setTop (mkF m 44 #[.val (.ref a1), .val (.ref a2), .val (.int (0 : Int32)), .val (.int (Int32.ofNat nN)), .val .null, .val (.ref x)] [(.ref x), (.ref a1)])) _
    refine XS.iloadN X103.here hx rfl (hb hby d3_44) rfl ?_
    show Steps p.tables e below (T103.setTop (mkF m 45 #[.val (.ref a1), .val (.ref a2), .val (.int (0 : Int32)), .val (.int (Int32.ofNat nN)), .val .null, .val (.ref x)] [(.int (Int32.ofNat nN)), (.ref x), (.ref a1)])) _
    refine st108 _ ?_
    show Steps p.tables e below (T108.setTop (mkF m 48 #[.val (.ref a1), .val (.ref a2), .val (.int (0 : Int32)), .val (.int (Int32.ofNat nN)), .val .null, .val (.ref x)] [(.int (own_cd nN N_)), (.ref a1)])) _
    refine st109 _ ?_
    show Steps p.tables e below (T109.setTop (mkF m 51 #[.val (.ref a1), .val (.ref a2), .val (.int (0 : Int32)), .val (.int (Int32.ofNat nN)), .val .null, .val (.ref x)] [])) _
    refine XS.aloadN X109.here hx rfl (hb hby d3_51) rfl rfl ?_
    show Steps p.tables e below (T109.setTop (mkF m 52 #[.val (.ref a1), .val (.ref a2), .val (.int (0 : Int32)), .val (.int (Int32.ofNat nN)), .val .null, .val (.ref x)] [(.ref a1)])) _
    refine XS.aload X109.here hx rfl (hb hby d3_52) rfl rfl ?_
    show Steps p.tables e below (T109.setTop (mkF m 54 #[.val (.ref a1), .val (.ref a2), .val (.int (0 : Int32)), .val (.int (Int32.ofNat nN)), .val .null, .val (.ref x)] [(.ref x), (.ref a1)])) _
    refine st115 _ ?_
    exact k_)
  obtain ⟨fs, hr, hrun, hended, hW, hsame⟩ := X115.leave (v := none) (fun _ => rfl)
  refine ⟨_, _, pre121 _ ?_, hrun, hended, _, _, rfl, ?_, ⟨_, rfl⟩, hW, hsame.mono (by decide) (by decide)⟩
  · show Steps p.tables e below (T115.setTop (mkF m 57 #[.val (.ref a1), .val (.ref a2), .val (.int (0 : Int32)), .val (.int (Int32.ofNat nN)), .val .null, .val (.ref x)] [])) _
    exact X115.returnOut hx Bd.returns (hb hby d3_57) hr
  · show QrmI4 Z a1 a2 nN g zc h0 n0 _ T115.heap _
    rw [e115]
    exact ⟨rfl, N115, K_118, x, _, N_, d_, E_117, Fv_119, Fc3, AF3, EN⟩
theorem pd_7 : parseMethodDescriptor "([CIILjava/lang/Void;)V" = some ⟨[(.array .char), .int, .int, (.object "java/lang/Void")], none⟩ := by decide +kernel
theorem d2_0 : decode jdk_42_method_3_code 0 = .ok (.aload_n 0, 1) := by decide +kernel
theorem d2_1 : decode jdk_42_method_3_code 1 = .ok (.aload_n 1, 1) := by decide +kernel
theorem d2_2 : decode jdk_42_method_3_code 2 = .ok (.iconst 0, 1) := by decide +kernel
theorem d2_3 : decode jdk_42_method_3_code 3 = .ok (.aload_n 1, 1) := by decide +kernel
theorem d2_4 : decode jdk_42_method_3_code 4 = .ok (.arraylength, 1) := by decide +kernel
theorem d2_5 : decode jdk_42_method_3_code 5 = .ok (.aconst_null, 1) := by decide +kernel
theorem d2_6 : decode jdk_42_method_3_code 6 = .ok (.invokespecial 27, 3) := by decide +kernel
theorem d2_9 : decode jdk_42_method_3_code 9 = .ok (.return_, 1) := by decide +kernel
theorem ef_rmI1 (m : MethodId) (x0 : Addr) (x1 : Addr) : entryFrame m #[(.ref x0), (.ref x1)] 2 = mkF m 0 #[.val (.ref x0), .val (.ref x1)] [] := by first | (simp [entryFrame, mkF, argsToLocals, Value.category]; done) | rfl
def QrmI1 (Z : State) (a1 : Addr) (a2 : Addr) (nN : Nat) (g : Nat → Int32) (zc : Int32) (h0 : Heap) (n0 : Nat) (v : Option Value) (h : Heap) (L : List Loc) : Prop := v = none ∧ Fr n0 L ∧ Keep h0 h [a1] ∧ own_S Z h a1 nN g
set_option maxRecDepth 65536 in
set_option maxHeartbeats 40000000 in
theorem rmI1 (l : Launch) (Z : State) (a0 : Array Value) (hw : ∀ d ∈ tables_1, d.before a0 Z = true) (ws : List Jvm.Cond) (a1 : Addr) (a2 : Addr) (nN : Nat) (g : Nat → Int32) (zc : Int32) (h0 : Heap) (n0 : Nat) (Z0 : n0 ≤ h0.size) (E_o : Exa Z h0 a1 "java/lang/String") (F_v : Fld Z h0 a1 "java/lang/String" "value" "[B" .null) (F_c : Fld Z h0 a1 "java/lang/String" "coder" "B" (.int (0 : Int32))) (g_a1 : n0 ≤ a1) (S_a : Sta Z Z.heap "java/lang/StringUTF16" "$assertionsDisabled" "Z" (.int (1 : Int32))) (S_h : Sta Z Z.heap "java/lang/StringUTF16" "HI_BYTE_SHIFT" "I" (.int (0 : Int32))) (S_l : Sta Z Z.heap "java/lang/StringUTF16" "LO_BYTE_SHIFT" "I" (.int (8 : Int32))) (O : Old Z n0 h0) (S_c : Sta Z Z.heap "java/lang/String" "COMPACT_STRINGS" "Z" (.int zc)) (hzc : ¬ zc = 0) (b0 : 1 ≤ nN) (b1 : nN ≤ 6) (rg : own_rng nN g) (V : own_Af Z h0 a2 .char nN g) :
    MetFree l (⟨"java/lang/String", "<init>", "([C)V"⟩ : MethodName) (head1 (Jvm.Cond.code (⟨"java/lang/String", "<init>", "([C)V"⟩ : MethodName) jdk_42_method_3_code 2 none :: ws) ({ frames := 5, cells := 2, slots := 18, locals := 74 } : Room)) (fun a U => a = #[(.ref a1), (.ref a2)] ∧ Z.Warmed39 U.vm ∧ U.heap = h0) (fun _ _ _ _ _ => True) (fun _ U o U' => ∃ v L, o = .returned v ∧ QrmI1 Z a1 a2 nN g zc h0 n0 v U'.heap L ∧ FrameEnd U o U' L ({ frames := 5, cells := 2, slots := 18, locals := 74 } : Room).cells ({ frames := 5, cells := 2, slots := 18, locals := 74 } : Room).slots) := by
  refine MetFree.of_bodySF (plainFor_of_name pn_1) hisR ?_
  intro p e s m args below meth c s₁ Bd hml0 hP hK
  obtain ⟨rfl, hZ, hh⟩ := hP
  have hx := Bd.exec
  have hby := Bd.bytes
  have hml : c.maxLocals = 2 := hml0
  have hown : s.vm.findClass "java/lang/String" = some m.cls := findClass_of_methodNamed Bd.named
  have hnm := (name_of_methodNamed Bd.named Bd.method).1
  have X0 : Stand p l e ({ frames := 5, cells := 2, slots := 18, locals := 74 } : Room) s m #[(.ref a1), (.ref a2)] below meth c s₁ [] 0 0 := Stand.of_body Bd
  have e0 : s₁.heap = h0 := by rw [← hh, Bd.state]; rfl
  have N0 := Fr.nil n0
  have pre0 : ∀ t_, Steps p.tables e below (s₁.setTop (mkF m 0 #[.val (.ref a1), .val (.ref a2)] [])) t_ → Steps p.tables e below (s₁.setTop (entryFrame m #[(.ref a1), (.ref a2)] 2)) t_ := fun t_ k_ => castTop (ef_rmI1 m a1 a2) k_
  obtain ⟨cl, Ar, Sz, Hs⟩ := id V
  have Sz2 : cl.slots.size = (Int32.ofNat nN).toNatClampNeg := by rw [Sz, own_ofc (by omega)]
  obtain ⟨_, _, ⟨T101, L101, k101, n101⟩, -, X101, ⟨Lc101, hQ101, l101, y101, z101⟩, st101⟩ := X0.specialBack hx (y := (⟨"java/lang/String", "<init>", "([CIILjava/lang/Void;)V"⟩ : MethodName)) rfl hown (mvT hZ (hw _ (List.mem_of_getElem? (i := 11) rfl))) (mvT hZ (hw _ (List.mem_of_getElem? (i := 12) rfl))) (mvT hZ (hw _ (List.mem_of_getElem? (i := 14) rfl))) (by decide) (backOf (W := 0) (rmI4 l Z a0 hw [] a1 a2 nN g zc h0 n0 Z0 E_o F_v F_c g_a1 S_a S_h S_l O S_c hzc b0 b1 rg V) hZ (hw _ (List.mem_of_getElem? (i := 14) rfl)) (hw _ (List.mem_of_getElem? (i := 7) rfl)) (by decide) (by decide)) (g := (mkF m 6 #[.val (.ref a1), .val (.ref a2)] [.null, (.int (Int32.ofNat nN)), (.int (0 : Int32)), (.ref a2), (.ref a1)])) rfl (by rw [hml]; rfl) (Steps.refl _) (a := a1) (argsL := [(.ref a2), (.int (0 : Int32)), (.int (Int32.ofNat nN)), .null]) (rest := []) (lenOf pd_7 rfl) rfl (by show 2 * 0 + _ ≤ _; exact Nat.le_of_eq rfl) (hb hby d2_6) (fun _ _ => ⟨rfl, e0, (by decide : 0 + 2 ≤ _), (by decide : 0 + 18 ≤ _)⟩)
  dsimp only [Pt.U, Pt.locs, Pt.cells, Pt.slots] at X101 l101 y101 z101 st101 hQ101
  subst l101 y101 z101
  obtain ⟨rfl, N101q, K101, Z101⟩ := hQ101
  have N101 := Fr.app N0 N101q
  have pre102 : ∀ t_, Steps p.tables e below (T101.setTop (mkF m 9 #[.val (.ref a1), .val (.ref a2)] [])) t_ → Steps p.tables e below (s₁.setTop (entryFrame m #[(.ref a1), (.ref a2)] 2)) t_ := fun t_ k_ => pre0 _ (by
    show Steps p.tables e below (s₁.setTop (mkF m 0 #[.val (.ref a1), .val (.ref a2)] [])) _
    refine XS.aloadN X0.here hx rfl (hb hby d2_0) rfl rfl ?_
    show Steps p.tables e below (s₁.setTop (mkF m 1 #[.val (.ref a1), .val (.ref a2)] [(.ref a1)])) _
    refine XS.aloadN X0.here hx rfl (hb hby d2_1) rfl rfl ?_
    show Steps p.tables e below (s₁.setTop (mkF m 2 #[.val (.ref a1), .val (.ref a2)] [(.ref a2), (.ref a1)])) _
    refine XS.iconst X0.here hx rfl (hb hby d2_2) ?_
    show Steps p.tables e below (s₁.setTop (mkF m 3 #[.val (.ref a1), .val (.ref a2)] [(.int (0 : Int32)), (.ref a2), (.ref a1)])) _
    refine XS.aloadN X0.here hx rfl (hb hby d2_3) rfl rfl ?_
    show Steps p.tables e below (s₁.setTop (mkF m 4 #[.val (.ref a1), .val (.ref a2)] [(.ref a2), (.int (0 : Int32)), (.ref a2), (.ref a1)])) _
    refine X0.arraylength hx (by rw [e0]; exact Ar.1) (State.isArrayOf_alike hZ.alike Ar.2.1) (g := (mkF m 4 #[.val (.ref a1), .val (.ref a2)] [(.ref a2), (.int (0 : Int32)), (.ref a2), (.ref a1)])) rfl rfl (hb hby d2_4) _ ?_
    rw [len_of Sz2 (own_ofn0 (a := nN) (by omega))]
    show Steps p.tables e below (s₁.setTop (mkF m 5 #[.val (.ref a1), .val (.ref a2)] [(.int (Int32.ofNat nN)), (.int (0 : Int32)), (.ref a2), (.ref a1)])) _
    refine XS.aconstNull X0.here hx rfl (hb hby d2_5) ?_
    show Steps p.tables e below (s₁.setTop (mkF m 6 #[.val (.ref a1), .val (.ref a2)] [.null, (.int (Int32.ofNat nN)), (.int (0 : Int32)), (.ref a2), (.ref a1)])) _
    refine st101.trans ?_
    exact k_)
  obtain ⟨fs, hr, hrun, hended, hW, hsame⟩ := X101.leave (v := none) (fun _ => rfl)
  refine ⟨_, _, pre102 _ ?_, hrun, hended, _, _, rfl, ?_, ⟨_, rfl⟩, hW, hsame.mono (by decide) (by decide)⟩
  · show Steps p.tables e below (T101.setTop (mkF m 9 #[.val (.ref a1), .val (.ref a2)] [])) _
    exact X101.returnOut hx Bd.returns (hb hby d2_9) hr
  · show QrmI1 Z a1 a2 nN g zc h0 n0 _ T101.heap _
    exact ⟨rfl, N101, K101, Z101⟩
theorem d3_8 : decode jdk_42_method_149_code 8 = .ok (.aload_n 0, 1) := by decide +kernel
theorem d3_9 : decode jdk_42_method_149_code 9 = .ok (.ldc 7, 2) := by decide +kernel
theorem d3_11 : decode jdk_42_method_149_code 11 = .ok (.getfield 9, 3) := by decide +kernel
theorem d3_14 : decode jdk_42_method_149_code 14 = .ok (.putfield 9, 3) := by decide +kernel
theorem d3_17 : decode jdk_42_method_149_code 17 = .ok (.aload_n 0, 1) := by decide +kernel
theorem d3_18 : decode jdk_42_method_149_code 18 = .ok (.ldc 7, 2) := by decide +kernel
theorem d3_20 : decode jdk_42_method_149_code 20 = .ok (.getfield 15, 3) := by decide +kernel
theorem d3_23 : decode jdk_42_method_149_code 23 = .ok (.putfield 15, 3) := by decide +kernel
theorem d3_26 : decode jdk_42_method_149_code 26 = .ok (.return_, 1) := by decide +kernel
theorem ef_rmS4 (m : MethodId) (x0 : Addr) (x1 : Addr) (x2 : Int32) (x3 : Int32) : entryFrame m #[(.ref x0), (.ref x1), (.int x3), (.int x3), .null] 6 = mkF m 0 #[.val (.ref x0), .val (.ref x1), .val (.int x3), .val (.int x3), .val .null, .unset] [] := by first | (simp [entryFrame, mkF, argsToLocals, Value.category]; done) | rfl
def QrmS4 (Z : State) (a1 : Addr) (a2 : Addr) (h0 : Heap) (n0 : Nat) (v : Option Value) (h : Heap) (L : List Loc) : Prop := v = none ∧ Fr n0 L ∧ Keep h0 h [a1] ∧ ∃ (t : Addr) (kb : ClassId), Exa Z h a1 "java/lang/String" ∧ Fld Z h a1 "java/lang/String" "value" "[B" (.ref t) ∧ Fld Z h a1 "java/lang/String" "coder" "B" (.int (0 : Int32)) ∧ Arv Z h t kb .byte (0 : Int32) [] (.int (0 : Int32))
set_option maxRecDepth 65536 in
set_option maxHeartbeats 40000000 in
theorem rmS4 (l : Launch) (Z : State) (a0 : Array Value) (hw : ∀ d ∈ tables_1, d.before a0 Z = true) (ws : List Jvm.Cond) (a1 : Addr) (a2 : Addr) (h0 : Heap) (n0 : Nat) (Z0 : n0 ≤ h0.size) (E_o : Exa Z h0 a1 "java/lang/String") (F_v : Fld Z h0 a1 "java/lang/String" "value" "[B" .null) (F_c : Fld Z h0 a1 "java/lang/String" "coder" "B" (.int (0 : Int32))) (g_a1 : n0 ≤ a1) :
    MetFree l (⟨"java/lang/String", "<init>", "([CIILjava/lang/Void;)V"⟩ : MethodName) (head1 (Jvm.Cond.code (⟨"java/lang/String", "<init>", "([CIILjava/lang/Void;)V"⟩ : MethodName) jdk_42_method_149_code 6 none :: ws) ({ frames := 1, cells := 4, slots := 8, locals := 12 } : Room)) (fun a U => a = #[(.ref a1), (.ref a2), (.int (0 : Int32)), (.int (0 : Int32)), .null] ∧ Z.Warmed39 U.vm ∧ U.heap = h0 ∧ CHv Z own_EL U.vm h0) (fun _ _ _ _ _ => True) (fun _ U o U' => ∃ v L, o = .returned v ∧ QrmS4 Z a1 a2 h0 n0 v U'.heap L ∧ CHr Z own_EL U.vm U.heap U'.vm U'.heap ∧ ReturnedEndW U o U' L ({ frames := 1, cells := 4, slots := 8, locals := 12 } : Room).cells ({ frames := 1, cells := 4, slots := 8, locals := 12 } : Room).slots) := by
  refine MetFree.of_bodySF (plainFor_of_name pn_1) hisR ?_
  intro p e s m args below meth c s₁ Bd hml0 hP hK
  obtain ⟨rfl, hZ, hh, hH⟩ := hP
  have hx := Bd.exec
  have hby := Bd.bytes
  have hml : c.maxLocals = 6 := hml0
  have hown : s.vm.findClass "java/lang/String" = some m.cls := findClass_of_methodNamed Bd.named
  have hnm := (name_of_methodNamed Bd.named Bd.method).1
  have X0 : Stand p l e ({ frames := 1, cells := 4, slots := 8, locals := 12 } : Room) s m #[(.ref a1), (.ref a2), (.int (0 : Int32)), (.int (0 : Int32)), .null] below meth c s₁ [] 0 0 := Stand.of_body Bd
  have e0 : s₁.heap = h0 := by rw [← hh, Bd.state]; rfl
  have N0 := Fr.nil n0
  have pre0 : ∀ t_, Steps p.tables e below (s₁.setTop (mkF m 0 #[.val (.ref a1), .val (.ref a2), .val (.int (0 : Int32)), .val (.int (0 : Int32)), .val .null, .unset] [])) t_ → Steps p.tables e below (s₁.setTop (entryFrame m #[(.ref a1), (.ref a2), (.int (0 : Int32)), (.int (0 : Int32)), .null] 6)) t_ := fun t_ k_ => castTop (ef_rmS4 m a1 a2 ((0 : Int32)) ((0 : Int32))) k_
  have sf0 := own_safe (EL := own_EL) (vm := s.vm) hZ.alike E_o F_v
  have lt0 := E_o.lt
  obtain ⟨T101, X101, e101, st101⟩ := initO X0 hx hZ hown (hw _ (List.mem_of_getElem? (i := 15) rfl)) (hw _ (List.mem_of_getElem? (i := 16) rfl)) (hw _ (List.mem_of_getElem? (i := 17) rfl)) e0 (g := (mkF m 1 #[.val (.ref a1), .val (.ref a2), .val (.int (0 : Int32)), .val (.int (0 : Int32)), .val .null, .unset] [(.ref a1)])) rfl (by rw [hml]; rfl) rfl (hb hby d3_1) (by decide) (W := 0) (by show 2 * 0 + _ ≤ _; exact Nat.le_of_eq rfl) (by decide)
  obtain ⟨lit, T102, h102, k1_102, tb, kb, X102, e102, Ext102, hS102, hk102, hZ102, hown102, E_lit, C_lit, V_lit, A_lit, -, -, hC102, -, hSf_lit, st102⟩ := Jvm.RoadKit.ldcCH (s := s) (vm0 := s.vm) X101 hx hZ hown (hw _ (List.mem_of_getElem? (i := 18) rfl)) (own_wS hw) e101 ((State.WarmedH.refl s).since 0) (Nat.zero_le _) (own_EW hw) (List.mem_of_getElem? (i := 1) rfl) (CHr.refl hH).1 (vs := []) (z := (0 : Int32)) (by first | exact ⟨by simp, by simp⟩ | decide | decide +kernel) (by decide) (by decide) (g := (mkF m 9 #[.val (.ref a1), .val (.ref a2), .val (.int (0 : Int32)), .val (.int (0 : Int32)), .val .null, .unset] [(.ref a1)])) rfl (hb hby d3_9) (n := 0) (by first | decide | decide +kernel | simp) (by decide) (by decide) (by decide)
  have E_103 := E_o.ext Ext102
  have Fv_104 := F_v.ext Ext102
  have Fc_105 := F_c.ext Ext102
  have K_106 := (Keep.refl h0 [a1]).ext Ext102
  have Z107 : n0 ≤ h102.size := Nat.le_trans Z0 (Ext102.1)
  have ch108 := (CHr.refl hH).trans hC102
  have sf1 := hC102.safe lt0 sf0
  have nel := hSf_lit a1 sf1
  obtain ⟨T109, X109, e109, st109⟩ := getF X102 hx hZ102 hown102 (host := "") (Or.inl (hw _ (List.mem_of_getElem? (i := 24) rfl))) Via.refl e102 V_lit (g := (mkF m 11 #[.val (.ref a1), .val (.ref a2), .val (.int (0 : Int32)), .val (.int (0 : Int32)), .val .null, .unset] [(.ref lit), (.ref a1)])) rfl rfl (hb hby d3_11)
  obtain ⟨T110, h110, X110, e110, W110, st110⟩ := putF X109 hx hZ102 hown102 (host := "") (Or.inl (hw _ (List.mem_of_getElem? (i := 24) rfl))) Via.refl e109 Fv_104 E_103 (Or.inr ⟨(hw _ (List.mem_of_getElem? (i := 20) rfl)), rfl, hnm⟩) (hw _ (List.mem_of_getElem? (i := 6) rfl)) (ty := (.array .byte)) (by decide) rfl rfl (g := (mkF m 14 #[.val (.ref a1), .val (.ref a2), .val (.int (0 : Int32)), .val (.int (0 : Int32)), .val .null, .unset] [(.ref tb), (.ref a1)])) rfl rfl (hb hby d3_14)
  have Fc_111 := Fc_105.other W110 (Or.inr (slot_ne (Or.inr (hw _ (List.mem_of_getElem? (i := 21) rfl))) (Or.inr (hw _ (List.mem_of_getElem? (i := 20) rfl))) (by decide) (t := .byte) (t' := (.array .byte)) (by decide) (by decide)))
  have E_112 := E_103.wr W110
  have K_113 := K_106.wr W110 (Or.inl (List.mem_of_getElem? (i := 0) rfl))
  have At_116 := A_lit.other W110 nel.2.symm
  have Fv_117 := Fv_104.same W110
  have N110 := Fr.snoc X110 N0 g_a1
  have Z118 : n0 ≤ h110.size := Nat.le_trans Z107 ((Keep.of_wr W110).1)
  have hk119 := Nat.le_trans hk102 ((Keep.of_wr W110).1)
  have sf2 := Safe.wr W110 sf1 ch108.1 sf1
  have lt1 := E_112.lt
  have ch120 := ch108.trans (CHr.wr W110 sf1 ch108.1)
  obtain ⟨lit2, T121, h121, k1_121, tb2, kb2, X121, e121, Ext121, hS121, hk121, hZ121, hown121, E_lit2, C_lit2, V_lit2, A_lit2, -, -, hC121, -, hSf_lit2, st121⟩ := Jvm.RoadKit.ldcCH (s := s) (vm0 := T102.vm) X110 hx hZ102 hown102 (hw _ (List.mem_of_getElem? (i := 18) rfl)) (own_wS hw) e110 hS102 hk119 (own_EW hw) (List.mem_of_getElem? (i := 1) rfl) ch120.1 (vs := []) (z := (0 : Int32)) (by first | exact ⟨by simp, by simp⟩ | decide | decide +kernel) (by decide) (by decide) (g := (mkF m 18 #[.val (.ref a1), .val (.ref a2), .val (.int (0 : Int32)), .val (.int (0 : Int32)), .val .null, .unset] [(.ref a1)])) rfl (hb hby d3_18) (n := 0) (by first | decide | decide +kernel | simp) (by decide) (by decide) (by decide)
  have E_122 := E_112.ext Ext121
  have Fv_123 := Fv_117.ext Ext121
  have Fc_124 := Fc_111.ext Ext121
  have K_125 := K_113.ext Ext121
  have At_128 := At_116.ext Ext121
  have Z129 : n0 ≤ h121.size := Nat.le_trans Z118 (Ext121.1)
  have ch130 := ch120.trans hC121
  have sf3 := hC121.safe lt1 sf2
  obtain ⟨T131, X131, e131, st131⟩ := getF X121 hx hZ121 hown121 (host := "") (Or.inl (hw _ (List.mem_of_getElem? (i := 25) rfl))) Via.refl e121 C_lit2 (g := (mkF m 20 #[.val (.ref a1), .val (.ref a2), .val (.int (0 : Int32)), .val (.int (0 : Int32)), .val .null, .unset] [(.ref lit2), (.ref a1)])) rfl rfl (hb hby d3_20)
  obtain ⟨T132, h132, X132, e132, W132, st132⟩ := putFN X131 hx hZ121 hown121 (hw _ (List.mem_of_getElem? (i := 25) rfl)) Via.refl e131 Fc_124 E_122 (Or.inr ⟨(hw _ (List.mem_of_getElem? (i := 21) rfl)), rfl, hnm⟩) (hw _ (List.mem_of_getElem? (i := 6) rfl)) (ty := .byte) (v' := (.int (nar .byte (0 : Int32)))) (by decide) rfl (fits_nar_byte _) (g := (mkF m 23 #[.val (.ref a1), .val (.ref a2), .val (.int (0 : Int32)), .val (.int (0 : Int32)), .val .null, .unset] [(.int (0 : Int32)), (.ref a1)])) rfl rfl (hb hby d3_23)
  have Fv_133 := Fv_123.other W132 (Or.inr (slot_ne (Or.inr (hw _ (List.mem_of_getElem? (i := 20) rfl))) (Or.inr (hw _ (List.mem_of_getElem? (i := 21) rfl))) (by decide) (t := (.array .byte)) (t' := .byte) (by decide) (by decide)))
  have E_134 := E_122.wr W132
  have K_135 := K_125.wr W132 (Or.inl (List.mem_of_getElem? (i := 0) rfl))
  have At_138 := At_128.other W132 nel.2.symm
  have Fc_139 := Fc_124.same W132
  have N132 := Fr.snoc X132 N110 g_a1
  have Z140 : n0 ≤ h132.size := Nat.le_trans Z129 ((Keep.of_wr W132).1)
  have hk141 := Nat.le_trans hk121 ((Keep.of_wr W132).1)
  have ch142 := ch130.trans (CHr.wr W132 sf3 ch130.1)
  have pre143 : ∀ t_, Steps p.tables e below (T132.setTop (mkF m 26 #[.val (.ref a1), .val (.ref a2), .val (.int (0 : Int32)), .val (.int (0 : Int32)), .val .null, .unset] [])) t_ → Steps p.tables e below (s₁.setTop (entryFrame m #[(.ref a1), (.ref a2), (.int (0 : Int32)), (.int (0 : Int32)), .null] 6)) t_ := fun t_ k_ => pre0 _ (by
    show Steps p.tables e below (s₁.setTop (mkF m 0 #[.val (.ref a1), .val (.ref a2), .val (.int (0 : Int32)), .val (.int (0 : Int32)), .val .null, .unset] [])) _
    refine XS.aloadN X0.here hx rfl (hb hby d3_0) rfl rfl ?_
    show Steps p.tables e below (s₁.setTop (mkF m 1 #[.val (.ref a1), .val (.ref a2), .val (.int (0 : Int32)), .val (.int (0 : Int32)), .val .null, .unset] [(.ref a1)])) _
    refine st101 _ ?_
    show Steps p.tables e below (T101.setTop (mkF m 4 #[.val (.ref a1), .val (.ref a2), .val (.int (0 : Int32)), .val (.int (0 : Int32)), .val .null, .unset] [])) _
    refine XS.iloadN X101.here hx rfl (hb hby d3_4) rfl ?_
    show Steps p.tables e below (T101.setTop (mkF m 5 #[.val (.ref a1), .val (.ref a2), .val (.int (0 : Int32)), .val (.int (0 : Int32)), .val .null, .unset] [(.int (0 : Int32))])) _
    refine XS.ifNo X101.here hx rfl (hb hby d3_5) rfl ((if0 _ _).trans (teq (rfl : (0 : Int32) = 0)).2) ?_
    show Steps p.tables e below (T101.setTop (mkF m 8 #[.val (.ref a1), .val (.ref a2), .val (.int (0 : Int32)), .val (.int (0 : Int32)), .val .null, .unset] [])) _
    refine XS.aloadN X101.here hx rfl (hb hby d3_8) rfl rfl ?_
    show Steps p.tables e below (T101.setTop (mkF m 9 #[.val (.ref a1), .val (.ref a2), .val (.int (0 : Int32)), .val (.int (0 : Int32)), .val .null, .unset] [(.ref a1)])) _
    refine st102 _ ?_
    show Steps p.tables e below (T102.setTop (mkF m 11 #[.val (.ref a1), .val (.ref a2), .val (.int (0 : Int32)), .val (.int (0 : Int32)), .val .null, .unset] [(.ref lit), (.ref a1)])) _
    refine st109 _ ?_
    show Steps p.tables e below (T109.setTop (mkF m 14 #[.val (.ref a1), .val (.ref a2), .val (.int (0 : Int32)), .val (.int (0 : Int32)), .val .null, .unset] [(.ref tb), (.ref a1)])) _
    refine st110 _ ?_
    show Steps p.tables e below (T110.setTop (mkF m 17 #[.val (.ref a1), .val (.ref a2), .val (.int (0 : Int32)), .val (.int (0 : Int32)), .val .null, .unset] [])) _
    refine XS.aloadN X110.here hx rfl (hb hby d3_17) rfl rfl ?_
    show Steps p.tables e below (T110.setTop (mkF m 18 #[.val (.ref a1), .val (.ref a2), .val (.int (0 : Int32)), .val (.int (0 : Int32)), .val .null, .unset] [(.ref a1)])) _
    refine st121 _ ?_
    show Steps p.tables e below (T121.setTop (mkF m 20 #[.val (.ref a1), .val (.ref a2), .val (.int (0 : Int32)), .val (.int (0 : Int32)), .val .null, .unset] [(.ref lit2), (.ref a1)])) _
    refine st131 _ ?_
    show Steps p.tables e below (T131.setTop (mkF m 23 #[.val (.ref a1), .val (.ref a2), .val (.int (0 : Int32)), .val (.int (0 : Int32)), .val .null, .unset] [(.int (0 : Int32)), (.ref a1)])) _
    refine st132 _ ?_
    exact k_)
  obtain ⟨fs, hr, hrun, hended, hWr, hW1, hW2, hsame⟩ := Jvm.Stand.leaveW (s := s) X132 hS121 (by rw [e132]; exact hk141) (v := none) (fun _ => rfl)
  refine ⟨_, _, pre143 _ ?_, hrun, hended, _, _, rfl, ?_, (by show CHr Z own_EL s.vm s.heap T132.vm T132.heap; rw [hh, e132]; exact ch142.trans (CHv.at (s := s) (vm0 := T121.vm) X132 hZ121 (own_EW hw) ch142.1)), hWr, hW1, hW2, hsame.mono (by decide) (by decide)⟩
  · show Steps p.tables e below (T132.setTop (mkF m 26 #[.val (.ref a1), .val (.ref a2), .val (.int (0 : Int32)), .val (.int (0 : Int32)), .val .null, .unset] [])) _
    exact X132.returnOut hx Bd.returns (hb hby d3_26) hr
  · show QrmS4 Z a1 a2 h0 n0 _ T132.heap _
    rw [e132]
    exact ⟨rfl, N132, K_135, tb, kb, E_134, Fv_133, Fc_139, At_138⟩
theorem ef_rmS1 (m : MethodId) (x0 : Addr) (x1 : Addr) : entryFrame m #[(.ref x0), (.ref x1)] 2 = mkF m 0 #[.val (.ref x0), .val (.ref x1)] [] := by first | (simp [entryFrame, mkF, argsToLocals, Value.category]; done) | rfl
def QrmS1 (Z : State) (a1 : Addr) (a2 : Addr) (kc : ClassId) (h0 : Heap) (n0 : Nat) (v : Option Value) (h : Heap) (L : List Loc) : Prop := v = none ∧ Fr n0 L ∧ Keep h0 h [a1] ∧ ∃ (t : Addr) (kb : ClassId), Exa Z h a1 "java/lang/String" ∧ Fld Z h a1 "java/lang/String" "value" "[B" (.ref t) ∧ Fld Z h a1 "java/lang/String" "coder" "B" (.int (0 : Int32)) ∧ Arv Z h t kb .byte (0 : Int32) [] (.int (0 : Int32))
set_option maxRecDepth 65536 in
set_option maxHeartbeats 40000000 in
theorem rmS1 (l : Launch) (Z : State) (a0 : Array Value) (hw : ∀ d ∈ tables_1, d.before a0 Z = true) (ws : List Jvm.Cond) (a1 : Addr) (a2 : Addr) (kc : ClassId) (h0 : Heap) (n0 : Nat) (Z0 : n0 ≤ h0.size) (E_o : Exa Z h0 a1 "java/lang/String") (F_v : Fld Z h0 a1 "java/lang/String" "value" "[B" .null) (F_c : Fld Z h0 a1 "java/lang/String" "coder" "B" (.int (0 : Int32))) (g_a1 : n0 ≤ a1) (V : Arv Z h0 a2 kc .char (0 : Int32) [] (.int (0 : Int32))) :
    MetFree l (⟨"java/lang/String", "<init>", "([C)V"⟩ : MethodName) (head1 (Jvm.Cond.code (⟨"java/lang/String", "<init>", "([C)V"⟩ : MethodName) jdk_42_method_3_code 2 none :: ws) ({ frames := 2, cells := 4, slots := 8, locals := 29 } : Room)) (fun a U => a = #[(.ref a1), (.ref a2)] ∧ Z.Warmed39 U.vm ∧ U.heap = h0 ∧ CHv Z own_EL U.vm h0) (fun _ _ _ _ _ => True) (fun _ U o U' => ∃ v L, o = .returned v ∧ QrmS1 Z a1 a2 kc h0 n0 v U'.heap L ∧ CHr Z own_EL U.vm U.heap U'.vm U'.heap ∧ ReturnedEndW U o U' L ({ frames := 2, cells := 4, slots := 8, locals := 29 } : Room).cells ({ frames := 2, cells := 4, slots := 8, locals := 29 } : Room).slots) := by
  refine MetFree.of_bodySF (plainFor_of_name pn_1) hisR ?_
  intro p e s m args below meth c s₁ Bd hml0 hP hK
  obtain ⟨rfl, hZ, hh, hH⟩ := hP
  have hx := Bd.exec
  have hby := Bd.bytes
  have hml : c.maxLocals = 2 := hml0
  have hown : s.vm.findClass "java/lang/String" = some m.cls := findClass_of_methodNamed Bd.named
  have hnm := (name_of_methodNamed Bd.named Bd.method).1
  have X0 : Stand p l e ({ frames := 2, cells := 4, slots := 8, locals := 29 } : Room) s m #[(.ref a1), (.ref a2)] below meth c s₁ [] 0 0 := Stand.of_body Bd
  have e0 : s₁.heap = h0 := by rw [← hh, Bd.state]; rfl
  have N0 := Fr.nil n0
  have pre0 : ∀ t_, Steps p.tables e below (s₁.setTop (mkF m 0 #[.val (.ref a1), .val (.ref a2)] [])) t_ → Steps p.tables e below (s₁.setTop (entryFrame m #[(.ref a1), (.ref a2)] 2)) t_ := fun t_ k_ => castTop (ef_rmS1 m a1 a2) k_
  obtain ⟨cl, Ar, -, Sz, Ng, -, -⟩ := V
  obtain ⟨_, _, ⟨T101, L101, k101, n101⟩, -, X101, hS101, hle101, ⟨Lc101, hQ101, l101, y101, z101, hC101⟩, st101⟩ := Jvm.Stand.specialBackS (s := (s.setVm s.vm)) X0 hx (y := (⟨"java/lang/String", "<init>", "([CIILjava/lang/Void;)V"⟩ : MethodName)) rfl hown (mvT hZ (hw _ (List.mem_of_getElem? (i := 11) rfl))) (mvT hZ (hw _ (List.mem_of_getElem? (i := 12) rfl))) (mvT hZ (hw _ (List.mem_of_getElem? (i := 14) rfl))) (by decide) (backOfSH (s := s) (vm0 := s.vm) (W := 0) (rmS4 l Z a0 hw [] a1 a2 h0 n0 Z0 E_o F_v F_c g_a1) hZ (hw _ (List.mem_of_getElem? (i := 14) rfl)) (hw _ (List.mem_of_getElem? (i := 7) rfl)) (by decide) (by decide) (own_EW hw) (CHr.refl hH).1) (g := (mkF m 6 #[.val (.ref a1), .val (.ref a2)] [.null, (.int (0 : Int32)), (.int (0 : Int32)), (.ref a2), (.ref a1)])) rfl (by rw [hml]; rfl) (Steps.refl _) (a := a1) (argsL := [(.ref a2), (.int (0 : Int32)), (.int (0 : Int32)), .null]) (rest := []) (lenOf pd_7 rfl) rfl (by show 2 * 0 + _ ≤ _; exact Nat.le_of_eq rfl) (hb hby d2_6) (fun _ _ => ⟨rfl, e0, (by decide : 0 + 4 ≤ _), (by decide : 0 + 8 ≤ _)⟩)
  dsimp only [Pt.U, Pt.locs, Pt.cells, Pt.slots] at X101 l101 y101 z101 st101 hQ101 hS101 hle101 hC101
  subst l101 y101 z101
  have hle101' : h0.size ≤ T101.heap.size := by have q := hle101; rw [e0] at q; exact q
  obtain ⟨X101', hS101', hZ101, hown101⟩ := rebS (s := s) (vm0 := s.vm) ((State.WarmedH.refl s).since 0) (Nat.zero_le _) X101 hS101 hle101' hZ hown
  obtain ⟨rfl, N101q, K101, Z101⟩ := hQ101
  have N101 := Fr.app N0 N101q
  have ch102 := (CHr.refl hH).trans hC101
  have pre103 : ∀ t_, Steps p.tables e below (T101.setTop (mkF m 9 #[.val (.ref a1), .val (.ref a2)] [])) t_ → Steps p.tables e below (s₁.setTop (entryFrame m #[(.ref a1), (.ref a2)] 2)) t_ := fun t_ k_ => pre0 _ (by
    show Steps p.tables e below (s₁.setTop (mkF m 0 #[.val (.ref a1), .val (.ref a2)] [])) _
    refine XS.aloadN X0.here hx rfl (hb hby d2_0) rfl rfl ?_
    show Steps p.tables e below (s₁.setTop (mkF m 1 #[.val (.ref a1), .val (.ref a2)] [(.ref a1)])) _
    refine XS.aloadN X0.here hx rfl (hb hby d2_1) rfl rfl ?_
    show Steps p.tables e below (s₁.setTop (mkF m 2 #[.val (.ref a1), .val (.ref a2)] [(.ref a2), (.ref a1)])) _
    refine XS.iconst X0.here hx rfl (hb hby d2_2) ?_
    show Steps p.tables e below (s₁.setTop (mkF m 3 #[.val (.ref a1), .val (.ref a2)] [(.int (0 : Int32)), (.ref a2), (.ref a1)])) _
    refine XS.aloadN X0.here hx rfl (hb hby d2_3) rfl rfl ?_
    show Steps p.tables e below (s₁.setTop (mkF m 4 #[.val (.ref a1), .val (.ref a2)] [(.ref a2), (.int (0 : Int32)), (.ref a2), (.ref a1)])) _
    refine X0.arraylength hx (by rw [e0]; exact Ar.1) (State.isArrayOf_alike hZ.alike Ar.2.1) (g := (mkF m 4 #[.val (.ref a1), .val (.ref a2)] [(.ref a2), (.int (0 : Int32)), (.ref a2), (.ref a1)])) rfl rfl (hb hby d2_4) _ ?_
    rw [len_of Sz Ng]
    show Steps p.tables e below (s₁.setTop (mkF m 5 #[.val (.ref a1), .val (.ref a2)] [(.int (0 : Int32)), (.int (0 : Int32)), (.ref a2), (.ref a1)])) _
    refine XS.aconstNull X0.here hx rfl (hb hby d2_5) ?_
    show Steps p.tables e below (s₁.setTop (mkF m 6 #[.val (.ref a1), .val (.ref a2)] [.null, (.int (0 : Int32)), (.int (0 : Int32)), (.ref a2), (.ref a1)])) _
    refine st101.trans ?_
    exact k_)
  obtain ⟨fs, hr, hrun, hended, hWr, hW1, hW2, hsame⟩ := Jvm.Stand.leaveW (s := s) X101' hS101' (by exact (Nat.le_refl _)) (v := none) (fun _ => rfl)
  refine ⟨_, _, pre103 _ ?_, hrun, hended, _, _, rfl, ?_, (by show CHr Z own_EL s.vm s.heap T101.vm T101.heap; rw [hh]; exact ch102.trans (CHv.at (s := s) (vm0 := T101.vm) X101' hZ101 (own_EW hw) ch102.1)), hWr, hW1, hW2, hsame.mono (by decide) (by decide)⟩
  · show Steps p.tables e below (T101.setTop (mkF m 9 #[.val (.ref a1), .val (.ref a2)] [])) _
    exact X101'.returnOut hx Bd.returns (hb hby d2_9) hr
  · show QrmS1 Z a1 a2 kc h0 n0 _ T101.heap _
    exact ⟨rfl, N101, K101, Z101⟩
theorem d7_0 : decode jdk_42_method_152_code 0 = .ok (.getstatic 38, 3) := by decide +kernel
theorem d7_3 : decode jdk_42_method_152_code 3 = .ok (.ifCond .eq 10, 3) := by decide +kernel
theorem d7_6 : decode jdk_42_method_152_code 6 = .ok (.aload_n 0, 1) := by decide +kernel
theorem d7_7 : decode jdk_42_method_152_code 7 = .ok (.getfield 15, 3) := by decide +kernel
theorem d7_10 : decode jdk_42_method_152_code 10 = .ok (.goto 4, 3) := by decide +kernel
theorem d7_14 : decode jdk_42_method_152_code 14 = .ok (.ireturn, 1) := by decide +kernel
theorem ef_rmCo (m : MethodId) (x0 : Addr) : entryFrame m #[(.ref x0)] 1 = mkF m 0 #[.val (.ref x0)] [] := by first | (simp [entryFrame, mkF, argsToLocals, Value.category]; done) | rfl
def QrmCo (Z : State) (a1 : Addr) (cd : Int32) (zc : Int32) (h0 : Heap) (n0 : Nat) (v : Option Value) (h : Heap) (L : List Loc) : Prop := v = some (.int cd) ∧ Fr n0 L ∧ h = h0
set_option maxRecDepth 65536 in
set_option maxHeartbeats 40000000 in
theorem rmCo (l : Launch) (Z : State) (a0 : Array Value) (hw : ∀ d ∈ tables_1, d.before a0 Z = true) (ws : List Jvm.Cond) (a1 : Addr) (cd : Int32) (zc : Int32) (h0 : Heap) (n0 : Nat) (Z0 : n0 ≤ h0.size) (Fc : Fld Z h0 a1 "java/lang/String" "coder" "B" (.int cd)) (hcd : cd = 0 ∨ cd = 1) (S_c : Sta Z h0 "java/lang/String" "COMPACT_STRINGS" "Z" (.int zc)) (hzc : ¬ zc = 0) :
    MetFree l (⟨"java/lang/String", "coder", "()B"⟩ : MethodName) (head1 (Jvm.Cond.code (⟨"java/lang/String", "coder", "()B"⟩ : MethodName) jdk_42_method_152_code 1 (some .byte) :: ws) ({ frames := 0, cells := 0, slots := 0, locals := 0 } : Room)) (fun a U => a = #[(.ref a1)] ∧ Z.Warmed39 U.vm ∧ U.heap = h0) (fun _ _ _ _ _ => True) (fun _ U o U' => ∃ v L, o = .returned v ∧ QrmCo Z a1 cd zc h0 n0 v U'.heap L ∧ FrameEnd U o U' L ({ frames := 0, cells := 0, slots := 0, locals := 0 } : Room).cells ({ frames := 0, cells := 0, slots := 0, locals := 0 } : Room).slots) := by
  refine MetFree.of_bodySF (plainFor_of_name pn_1) hisR ?_
  intro p e s m args below meth c s₁ Bd hml0 hP hK
  obtain ⟨rfl, hZ, hh⟩ := hP
  have hx := Bd.exec
  have hby := Bd.bytes
  have hml : c.maxLocals = 1 := hml0
  have hown : s.vm.findClass "java/lang/String" = some m.cls := findClass_of_methodNamed Bd.named
  have hnm := (name_of_methodNamed Bd.named Bd.method).1
  have X0 : Stand p l e ({ frames := 0, cells := 0, slots := 0, locals := 0 } : Room) s m #[(.ref a1)] below meth c s₁ [] 0 0 := Stand.of_body Bd
  have e0 : s₁.heap = h0 := by rw [← hh, Bd.state]; rfl
  have N0 := Fr.nil n0
  have pre0 : ∀ t_, Steps p.tables e below (s₁.setTop (mkF m 0 #[.val (.ref a1)] [])) t_ → Steps p.tables e below (s₁.setTop (entryFrame m #[(.ref a1)] 1)) t_ := fun t_ k_ => castTop (ef_rmCo m a1) k_
  obtain ⟨T101, X101, e101, st101⟩ := getS2 X0 hx hZ hown (host := "") (Or.inl (hw _ (List.mem_of_getElem? (i := 41) rfl))) Via.refl e0 S_c (g := (mkF m 0 #[.val (.ref a1)] [])) rfl (hb hby d7_0)
  obtain ⟨T102, X102, e102, st102⟩ := getF X101 hx hZ hown (host := "") (Or.inl (hw _ (List.mem_of_getElem? (i := 25) rfl))) Via.refl e101 Fc (g := (mkF m 7 #[.val (.ref a1)] [(.ref a1)])) rfl rfl (hb hby d7_7)
  have pre103 : ∀ t_, Steps p.tables e below (T102.setTop (mkF m 14 #[.val (.ref a1)] [(.int cd)])) t_ → Steps p.tables e below (s₁.setTop (entryFrame m #[(.ref a1)] 1)) t_ := fun t_ k_ => pre0 _ (by
    show Steps p.tables e below (s₁.setTop (mkF m 0 #[.val (.ref a1)] [])) _
    refine st101 _ ?_
    show Steps p.tables e below (T101.setTop (mkF m 3 #[.val (.ref a1)] [(.int zc)])) _
    refine XS.ifNo X101.here hx rfl (hb hby d7_3) rfl ((if0 _ _).trans (feq hzc).1) ?_
    show Steps p.tables e below (T101.setTop (mkF m 6 #[.val (.ref a1)] [])) _
    refine XS.aloadN X101.here hx rfl (hb hby d7_6) rfl rfl ?_
    show Steps p.tables e below (T101.setTop (mkF m 7 #[.val (.ref a1)] [(.ref a1)])) _
    refine st102 _ ?_
    show Steps p.tables e below (T102.setTop (mkF m 10 #[.val (.ref a1)] [(.int cd)])) _
    refine XS.goto X102.here hx rfl (pc0 := 10) (pc' := 14) rfl (hb hby d7_10) (by decide) (by decide) ?_
    exact k_)
  obtain ⟨fs, hr, hrun, hended, hW, hsame⟩ := X102.leave (v := some (.int (nar .byte cd))) (fun h => by rw [Bd.returns] at h; cases h)
  refine ⟨_, _, pre103 _ ?_, hrun, hended, _, _, rfl, ?_, ⟨_, rfl⟩, hW, hsame.mono (by decide) (by decide)⟩
  · show Steps p.tables e below (T102.setTop (mkF m 14 #[.val (.ref a1)] [(.int cd)])) _
    exact retN X102 hx (t := .byte) Bd.returns (by simp) (hb hby d7_14) hr
  · show QrmCo Z a1 cd zc h0 n0 _ T102.heap _
    rw [e102]
    exact ⟨by rw [own_cdn2 hcd], N0, rfl⟩
theorem pd_8 : parseMethodDescriptor "()B" = some ⟨[], some .byte⟩ := by decide +kernel
theorem d6_0 : decode jdk_42_method_54_code 0 = .ok (.aload_n 0, 1) := by decide +kernel
theorem d6_1 : decode jdk_42_method_54_code 1 = .ok (.getfield 9, 3) := by decide +kernel
theorem d6_4 : decode jdk_42_method_54_code 4 = .ok (.arraylength, 1) := by decide +kernel
theorem d6_5 : decode jdk_42_method_54_code 5 = .ok (.aload_n 0, 1) := by decide +kernel
theorem d6_6 : decode jdk_42_method_54_code 6 = .ok (.invokevirtual 335, 3) := by decide +kernel
theorem d6_9 : decode jdk_42_method_54_code 9 = .ok (.ishr, 1) := by decide +kernel
theorem d6_10 : decode jdk_42_method_54_code 10 = .ok (.ireturn, 1) := by decide +kernel
theorem ef_rmLn (m : MethodId) (x0 : Addr) : entryFrame m #[(.ref x0)] 1 = mkF m 0 #[.val (.ref x0)] [] := by first | (simp [entryFrame, mkF, argsToLocals, Value.category]; done) | rfl
def QrmLn (Z : State) (a1 : Addr) (nN : Nat) (g : Nat → Int32) (zc : Int32) (h0 : Heap) (n0 : Nat) (v : Option Value) (h : Heap) (L : List Loc) : Prop := v = some (.int (Int32.ofNat nN)) ∧ Fr n0 L ∧ h = h0
set_option maxRecDepth 65536 in
set_option maxHeartbeats 40000000 in
theorem rmLn (l : Launch) (Z : State) (a0 : Array Value) (hw : ∀ d ∈ tables_1, d.before a0 Z = true) (ws : List Jvm.Cond) (a1 : Addr) (nN : Nat) (g : Nat → Int32) (zc : Int32) (h0 : Heap) (n0 : Nat) (Z0 : n0 ≤ h0.size) (b1 : nN ≤ 6) (TS : own_S Z h0 a1 nN g) (S_c : Sta Z h0 "java/lang/String" "COMPACT_STRINGS" "Z" (.int zc)) (hzc : ¬ zc = 0) :
    MetFree l (⟨"java/lang/String", "length", "()I"⟩ : MethodName) (head1 (Jvm.Cond.code (⟨"java/lang/String", "length", "()I"⟩ : MethodName) jdk_42_method_54_code 1 (some .int) :: ws) ({ frames := 1, cells := 0, slots := 0, locals := 13 } : Room)) (fun a U => a = #[(.ref a1)] ∧ Z.Warmed39 U.vm ∧ U.heap = h0) (fun _ _ _ _ _ => True) (fun _ U o U' => ∃ v L, o = .returned v ∧ QrmLn Z a1 nN g zc h0 n0 v U'.heap L ∧ FrameEnd U o U' L ({ frames := 1, cells := 0, slots := 0, locals := 13 } : Room).cells ({ frames := 1, cells := 0, slots := 0, locals := 13 } : Room).slots) := by
  refine MetFree.of_bodySF (plainFor_of_name pn_1) hisR ?_
  intro p e s m args below meth c s₁ Bd hml0 hP hK
  obtain ⟨rfl, hZ, hh⟩ := hP
  have hx := Bd.exec
  have hby := Bd.bytes
  have hml : c.maxLocals = 1 := hml0
  have hown : s.vm.findClass "java/lang/String" = some m.cls := findClass_of_methodNamed Bd.named
  have hnm := (name_of_methodNamed Bd.named Bd.method).1
  have X0 : Stand p l e ({ frames := 1, cells := 0, slots := 0, locals := 13 } : Room) s m #[(.ref a1)] below meth c s₁ [] 0 0 := Stand.of_body Bd
  have e0 : s₁.heap = h0 := by rw [← hh, Bd.state]; rfl
  have N0 := Fr.nil n0
  have pre0 : ∀ t_, Steps p.tables e below (s₁.setTop (mkF m 0 #[.val (.ref a1)] [])) t_ → Steps p.tables e below (s₁.setTop (entryFrame m #[(.ref a1)] 1)) t_ := fun t_ k_ => castTop (ef_rmLn m a1) k_
  obtain ⟨t, cd, N, d, Es, Fv, Fc, AF, EN⟩ := TS
  have hcd := own_enc01 EN
  have hN : N ≤ 12 := own_encN b1 EN
  obtain ⟨cl, Ar, Sz, Hs⟩ := AF
  have Sz2 : cl.slots.size = (Int32.ofNat N).toNatClampNeg := by rw [Sz, own_ofc (by omega)]
  obtain ⟨T101, X101, e101, st101⟩ := getF X0 hx hZ hown (host := "") (Or.inl (hw _ (List.mem_of_getElem? (i := 24) rfl))) Via.refl e0 Fv (g := (mkF m 1 #[.val (.ref a1)] [(.ref a1)])) rfl rfl (hb hby d6_1)
  obtain ⟨cq102, kq102, q102a, q102b, q102c⟩ := isOf hZ e101 Es
  obtain ⟨_, _, ⟨T102, L102, k102, n102⟩, -, X102, ⟨Lc102, hQ102, l102, y102, z102⟩, st102⟩ := X101.virtualBack hx (y := (⟨"java/lang/String", "coder", "()B"⟩ : MethodName)) (z := (⟨"java/lang/String", "coder", "()B"⟩ : MethodName)) hown (mvT hZ (hw _ (List.mem_of_getElem? (i := 36) rfl))) (mvT hZ (hw _ (List.mem_of_getElem? (i := 37) rfl))) (notFace_of_selects (args := #[]) (mvT hZ (hw _ (List.mem_of_getElem? (i := 39) rfl)))) (mvT hZ (hw _ (List.mem_of_getElem? (i := 39) rfl))) (mvT hZ (hw _ (List.mem_of_getElem? (i := 38) rfl))) (by decide) (backOf (W := 1) (rmCo l Z a0 hw [] a1 cd zc h0 n0 Z0 Fc hcd S_c hzc) hZ (hw _ (List.mem_of_getElem? (i := 40) rfl)) (hw _ (List.mem_of_getElem? (i := 7) rfl)) (by decide) (by decide)) q102a q102c (g := (mkF m 6 #[.val (.ref a1)] [(.ref a1), (.int (Int32.ofNat N))])) rfl (by rw [hml]; rfl) (Steps.refl _) (argsL := []) (rest := [(.int (Int32.ofNat N))]) (lenOf pd_8 rfl) rfl (by show 2 * 0 + _ ≤ _; exact Nat.le_of_eq rfl) (hb hby d6_6) (fun _ _ => ⟨rfl, e101, (by decide : 0 + 0 ≤ _), (by decide : 0 + 0 ≤ _)⟩)
  dsimp only [Pt.U, Pt.locs, Pt.cells, Pt.slots] at X102 l102 y102 z102 st102 hQ102
  subst l102 y102 z102
  obtain ⟨rfl, N102q, e102⟩ := hQ102
  have N102 := Fr.app N0 N102q
  have pre103 : ∀ t_, Steps p.tables e below (T102.setTop (mkF m 10 #[.val (.ref a1)] [(.int ((Int32.ofNat N) >>> (cd &&& 31)))])) t_ → Steps p.tables e below (s₁.setTop (entryFrame m #[(.ref a1)] 1)) t_ := fun t_ k_ => pre0 _ (by
    show Steps p.tables e below (s₁.setTop (mkF m 0 #[.val (.ref a1)] [])) _
    refine XS.aloadN X0.here hx rfl (hb hby d6_0) rfl rfl ?_
    show Steps p.tables e below (s₁.setTop (mkF m 1 #[.val (.ref a1)] [(.ref a1)])) _
    refine st101 _ ?_
    show Steps p.tables e below (T101.setTop (mkF m 4 #[.val (.ref a1)] [(.ref t)])) _
    refine X101.arraylength hx (by rw [e101]; exact Ar.1) (State.isArrayOf_alike hZ.alike Ar.2.1) (g := (mkF m 4 #[.val (.ref a1)] [(.ref t)])) rfl rfl (hb hby d6_4) _ ?_
    rw [len_of Sz2 (own_ofn0 (a := N) (by omega))]
    show Steps p.tables e below (T101.setTop (mkF m 5 #[.val (.ref a1)] [(.int (Int32.ofNat N))])) _
    refine XS.aloadN X101.here hx rfl (hb hby d6_5) rfl rfl ?_
    show Steps p.tables e below (T101.setTop (mkF m 6 #[.val (.ref a1)] [(.ref a1), (.int (Int32.ofNat N))])) _
    refine st102.trans ?_
    show Steps p.tables e below (T102.setTop (mkF m 9 #[.val (.ref a1)] [(.int cd), (.int (Int32.ofNat N))])) _
    refine XS.ishr X102.here hx rfl (hb hby d6_9) rfl ?_
    exact k_)
  obtain ⟨fs, hr, hrun, hended, hW, hsame⟩ := X102.leave (v := some (.int ((Int32.ofNat N) >>> (cd &&& 31)))) (fun h => by rw [Bd.returns] at h; cases h)
  refine ⟨_, _, pre103 _ ?_, hrun, hended, _, _, rfl, ?_, ⟨_, rfl⟩, hW, hsame.mono (by decide) (by decide)⟩
  · show Steps p.tables e below (T102.setTop (mkF m 10 #[.val (.ref a1)] [(.int ((Int32.ofNat N) >>> (cd &&& 31)))])) _
    exact retI X102 hx Bd.returns (hb hby d6_10) hr
  · show QrmLn Z a1 nN g zc h0 n0 _ T102.heap _
    rw [e102]
    exact ⟨by rw [own_len b1 EN], N102, rfl⟩
theorem d18_0 : decode jdk_42_method_154_code 0 = .ok (.getstatic 38, 3) := by decide +kernel
theorem d18_3 : decode jdk_42_method_154_code 3 = .ok (.ifCond .eq 14, 3) := by decide +kernel
theorem d18_6 : decode jdk_42_method_154_code 6 = .ok (.aload_n 0, 1) := by decide +kernel
theorem d18_7 : decode jdk_42_method_154_code 7 = .ok (.getfield 15, 3) := by decide +kernel
theorem d18_10 : decode jdk_42_method_154_code 10 = .ok (.ifCond .ne 7, 3) := by decide +kernel
theorem d18_13 : decode jdk_42_method_154_code 13 = .ok (.iconst 1, 1) := by decide +kernel
theorem d18_14 : decode jdk_42_method_154_code 14 = .ok (.goto 4, 3) := by decide +kernel
theorem d18_18 : decode jdk_42_method_154_code 18 = .ok (.ireturn, 1) := by decide +kernel
theorem ef_rmL1 (m : MethodId) (x0 : Addr) : entryFrame m #[(.ref x0)] 1 = mkF m 0 #[.val (.ref x0)] [] := by first | (simp [entryFrame, mkF, argsToLocals, Value.category]; done) | rfl
def QrmL1 (Z : State) (a1 : Addr) (zc : Int32) (h0 : Heap) (n0 : Nat) (v : Option Value) (h : Heap) (L : List Loc) : Prop := v = some (.int (1 : Int32)) ∧ Fr n0 L ∧ h = h0
set_option maxRecDepth 65536 in
set_option maxHeartbeats 40000000 in
theorem rmL1 (l : Launch) (Z : State) (a0 : Array Value) (hw : ∀ d ∈ tables_1, d.before a0 Z = true) (ws : List Jvm.Cond) (a1 : Addr) (zc : Int32) (h0 : Heap) (n0 : Nat) (Z0 : n0 ≤ h0.size) (Fc : Fld Z h0 a1 "java/lang/String" "coder" "B" (.int (0 : Int32))) (S_c : Sta Z h0 "java/lang/String" "COMPACT_STRINGS" "Z" (.int zc)) (hzc : ¬ zc = 0) :
    MetFree l (⟨"java/lang/String", "isLatin1", "()Z"⟩ : MethodName) (head1 (Jvm.Cond.code (⟨"java/lang/String", "isLatin1", "()Z"⟩ : MethodName) jdk_42_method_154_code 1 (some .boolean) :: ws) ({ frames := 0, cells := 0, slots := 0, locals := 0 } : Room)) (fun a U => a = #[(.ref a1)] ∧ Z.Warmed39 U.vm ∧ U.heap = h0) (fun _ _ _ _ _ => True) (fun _ U o U' => ∃ v L, o = .returned v ∧ QrmL1 Z a1 zc h0 n0 v U'.heap L ∧ FrameEnd U o U' L ({ frames := 0, cells := 0, slots := 0, locals := 0 } : Room).cells ({ frames := 0, cells := 0, slots := 0, locals := 0 } : Room).slots) := by
  refine MetFree.of_bodySF (plainFor_of_name pn_1) hisR ?_
  intro p e s m args below meth c s₁ Bd hml0 hP hK
  obtain ⟨rfl, hZ, hh⟩ := hP
  have hx := Bd.exec
  have hby := Bd.bytes
  have hml : c.maxLocals = 1 := hml0
  have hown : s.vm.findClass "java/lang/String" = some m.cls := findClass_of_methodNamed Bd.named
  have hnm := (name_of_methodNamed Bd.named Bd.method).1
  have X0 : Stand p l e ({ frames := 0, cells := 0, slots := 0, locals := 0 } : Room) s m #[(.ref a1)] below meth c s₁ [] 0 0 := Stand.of_body Bd
  have e0 : s₁.heap = h0 := by rw [← hh, Bd.state]; rfl
  have N0 := Fr.nil n0
  have pre0 : ∀ t_, Steps p.tables e below (s₁.setTop (mkF m 0 #[.val (.ref a1)] [])) t_ → Steps p.tables e below (s₁.setTop (entryFrame m #[(.ref a1)] 1)) t_ := fun t_ k_ => castTop (ef_rmL1 m a1) k_
  obtain ⟨T101, X101, e101, st101⟩ := getS2 X0 hx hZ hown (host := "") (Or.inl (hw _ (List.mem_of_getElem? (i := 41) rfl))) Via.refl e0 S_c (g := (mkF m 0 #[.val (.ref a1)] [])) rfl (hb hby d18_0)
  obtain ⟨T102, X102, e102, st102⟩ := getF X101 hx hZ hown (host := "") (Or.inl (hw _ (List.mem_of_getElem? (i := 25) rfl))) Via.refl e101 Fc (g := (mkF m 7 #[.val (.ref a1)] [(.ref a1)])) rfl rfl (hb hby d18_7)
  have pre103 : ∀ t_, Steps p.tables e below (T102.setTop (mkF m 18 #[.val (.ref a1)] [(.int (1 : Int32))])) t_ → Steps p.tables e below (s₁.setTop (entryFrame m #[(.ref a1)] 1)) t_ := fun t_ k_ => pre0 _ (by
    show Steps p.tables e below (s₁.setTop (mkF m 0 #[.val (.ref a1)] [])) _
    refine st101 _ ?_
    show Steps p.tables e below (T101.setTop (mkF m 3 #[.val (.ref a1)] [(.int zc)])) _
    refine XS.ifNo X101.here hx rfl (hb hby d18_3) rfl ((if0 _ _).trans (feq hzc).1) ?_
    show Steps p.tables e below (T101.setTop (mkF m 6 #[.val (.ref a1)] [])) _
    refine XS.aloadN X101.here hx rfl (hb hby d18_6) rfl rfl ?_
    show Steps p.tables e below (T101.setTop (mkF m 7 #[.val (.ref a1)] [(.ref a1)])) _
    refine st102 _ ?_
    show Steps p.tables e below (T102.setTop (mkF m 10 #[.val (.ref a1)] [(.int (0 : Int32))])) _
    refine XS.ifNo X102.here hx rfl (hb hby d18_10) rfl ((if0 _ _).trans (teq (rfl : (0 : Int32) = 0)).2) ?_
    show Steps p.tables e below (T102.setTop (mkF m 13 #[.val (.ref a1)] [])) _
    refine XS.iconst X102.here hx rfl (hb hby d18_13) ?_
    show Steps p.tables e below (T102.setTop (mkF m 14 #[.val (.ref a1)] [(.int (1 : Int32))])) _
    refine XS.goto X102.here hx rfl (pc0 := 14) (pc' := 18) rfl (hb hby d18_14) (by decide) (by decide) ?_
    exact k_)
  obtain ⟨fs, hr, hrun, hended, hW, hsame⟩ := X102.leave (v := some (.int (1 : Int32))) (fun h => by rw [Bd.returns] at h; cases h)
  refine ⟨_, _, pre103 _ ?_, hrun, hended, _, _, rfl, ?_, ⟨_, rfl⟩, hW, hsame.mono (by decide) (by decide)⟩
  · show Steps p.tables e below (T102.setTop (mkF m 18 #[.val (.ref a1)] [(.int (1 : Int32))])) _
    exact retN X102 hx (t := .boolean) Bd.returns (by simp) (hb hby d18_18) hr
  · show QrmL1 Z a1 zc h0 n0 _ T102.heap _
    rw [e102]
    exact ⟨rfl, N0, rfl⟩
theorem d18_17 : decode jdk_42_method_154_code 17 = .ok (.iconst 0, 1) := by decide +kernel
theorem ef_rmL0 (m : MethodId) (x0 : Addr) : entryFrame m #[(.ref x0)] 1 = mkF m 0 #[.val (.ref x0)] [] := by first | (simp [entryFrame, mkF, argsToLocals, Value.category]; done) | rfl
def QrmL0 (Z : State) (a1 : Addr) (zc : Int32) (h0 : Heap) (n0 : Nat) (v : Option Value) (h : Heap) (L : List Loc) : Prop := v = some (.int (0 : Int32)) ∧ Fr n0 L ∧ h = h0
set_option maxRecDepth 65536 in
set_option maxHeartbeats 40000000 in
theorem rmL0 (l : Launch) (Z : State) (a0 : Array Value) (hw : ∀ d ∈ tables_1, d.before a0 Z = true) (ws : List Jvm.Cond) (a1 : Addr) (zc : Int32) (h0 : Heap) (n0 : Nat) (Z0 : n0 ≤ h0.size) (Fc : Fld Z h0 a1 "java/lang/String" "coder" "B" (.int (1 : Int32))) (S_c : Sta Z h0 "java/lang/String" "COMPACT_STRINGS" "Z" (.int zc)) (hzc : ¬ zc = 0) :
    MetFree l (⟨"java/lang/String", "isLatin1", "()Z"⟩ : MethodName) (head1 (Jvm.Cond.code (⟨"java/lang/String", "isLatin1", "()Z"⟩ : MethodName) jdk_42_method_154_code 1 (some .boolean) :: ws) ({ frames := 0, cells := 0, slots := 0, locals := 0 } : Room)) (fun a U => a = #[(.ref a1)] ∧ Z.Warmed39 U.vm ∧ U.heap = h0) (fun _ _ _ _ _ => True) (fun _ U o U' => ∃ v L, o = .returned v ∧ QrmL0 Z a1 zc h0 n0 v U'.heap L ∧ FrameEnd U o U' L ({ frames := 0, cells := 0, slots := 0, locals := 0 } : Room).cells ({ frames := 0, cells := 0, slots := 0, locals := 0 } : Room).slots) := by
  refine MetFree.of_bodySF (plainFor_of_name pn_1) hisR ?_
  intro p e s m args below meth c s₁ Bd hml0 hP hK
  obtain ⟨rfl, hZ, hh⟩ := hP
  have hx := Bd.exec
  have hby := Bd.bytes
  have hml : c.maxLocals = 1 := hml0
  have hown : s.vm.findClass "java/lang/String" = some m.cls := findClass_of_methodNamed Bd.named
  have hnm := (name_of_methodNamed Bd.named Bd.method).1
  have X0 : Stand p l e ({ frames := 0, cells := 0, slots := 0, locals := 0 } : Room) s m #[(.ref a1)] below meth c s₁ [] 0 0 := Stand.of_body Bd
  have e0 : s₁.heap = h0 := by rw [← hh, Bd.state]; rfl
  have N0 := Fr.nil n0
  have pre0 : ∀ t_, Steps p.tables e below (s₁.setTop (mkF m 0 #[.val (.ref a1)] [])) t_ → Steps p.tables e below (s₁.setTop (entryFrame m #[(.ref a1)] 1)) t_ := fun t_ k_ => castTop (ef_rmL0 m a1) k_
  obtain ⟨T101, X101, e101, st101⟩ := getS2 X0 hx hZ hown (host := "") (Or.inl (hw _ (List.mem_of_getElem? (i := 41) rfl))) Via.refl e0 S_c (g := (mkF m 0 #[.val (.ref a1)] [])) rfl (hb hby d18_0)
  obtain ⟨T102, X102, e102, st102⟩ := getF X101 hx hZ hown (host := "") (Or.inl (hw _ (List.mem_of_getElem? (i := 25) rfl))) Via.refl e101 Fc (g := (mkF m 7 #[.val (.ref a1)] [(.ref a1)])) rfl rfl (hb hby d18_7)
  have pre103 : ∀ t_, Steps p.tables e below (T102.setTop (mkF m 18 #[.val (.ref a1)] [(.int (0 : Int32))])) t_ → Steps p.tables e below (s₁.setTop (entryFrame m #[(.ref a1)] 1)) t_ := fun t_ k_ => pre0 _ (by
    show Steps p.tables e below (s₁.setTop (mkF m 0 #[.val (.ref a1)] [])) _
    refine st101 _ ?_
    show Steps p.tables e below (T101.setTop (mkF m 3 #[.val (.ref a1)] [(.int zc)])) _
    refine XS.ifNo X101.here hx rfl (hb hby d18_3) rfl ((if0 _ _).trans (feq hzc).1) ?_
    show Steps p.tables e below (T101.setTop (mkF m 6 #[.val (.ref a1)] [])) _
    refine XS.aloadN X101.here hx rfl (hb hby d18_6) rfl rfl ?_
    show Steps p.tables e below (T101.setTop (mkF m 7 #[.val (.ref a1)] [(.ref a1)])) _
    refine st102 _ ?_
    show Steps p.tables e below (T102.setTop (mkF m 10 #[.val (.ref a1)] [(.int (1 : Int32))])) _
    refine XS.ifYes X102.here hx rfl (pc0 := 10) (pc' := 17) rfl (hb hby d18_10) rfl ((if0 _ _).trans (feq (by decide : ¬ (1 : Int32) = 0)).2) (by decide) (by decide) ?_
    show Steps p.tables e below (T102.setTop (mkF m 17 #[.val (.ref a1)] [])) _
    refine XS.iconst X102.here hx rfl (hb hby d18_17) ?_
    exact k_)
  obtain ⟨fs, hr, hrun, hended, hW, hsame⟩ := X102.leave (v := some (.int (0 : Int32))) (fun h => by rw [Bd.returns] at h; cases h)
  refine ⟨_, _, pre103 _ ?_, hrun, hended, _, _, rfl, ?_, ⟨_, rfl⟩, hW, hsame.mono (by decide) (by decide)⟩
  · show Steps p.tables e below (T102.setTop (mkF m 18 #[.val (.ref a1)] [(.int (0 : Int32))])) _
    exact retN X102 hx (t := .boolean) Bd.returns (by simp) (hb hby d18_18) hr
  · show QrmL0 Z a1 zc h0 n0 _ T102.heap _
    rw [e102]
    exact ⟨rfl, N0, rfl⟩
theorem d20_0 : decode jdk_41_method_11_code 0 = .ok (.iload_n 0, 1) := by decide +kernel
theorem d20_1 : decode jdk_41_method_11_code 1 = .ok (.ifCond .lt 8, 3) := by decide +kernel
theorem d20_4 : decode jdk_41_method_11_code 4 = .ok (.iload_n 0, 1) := by decide +kernel
theorem d20_5 : decode jdk_41_method_11_code 5 = .ok (.iload_n 1, 1) := by decide +kernel
theorem d20_6 : decode jdk_41_method_11_code 6 = .ok (.if_icmp .lt 10, 3) := by decide +kernel
theorem d20_16 : decode jdk_41_method_11_code 16 = .ok (.iload_n 0, 1) := by decide +kernel
theorem d20_17 : decode jdk_41_method_11_code 17 = .ok (.ireturn, 1) := by decide +kernel
theorem pn_2 : plainName "jdk/internal/util/Preconditions" = true := by first | (simp [plainName, overriddenIn]; done) | decide +kernel
theorem ef_rmPI (m : MethodId) (x0 : Int32) (x1 : Int32) (x2 : Value) (hx2 : x2.isRef = true) : entryFrame m #[(.int x0), (.int x1), x2] 3 = mkF m 0 #[.val (.int x0), .val (.int x1), .val x2] [] := by
  cases x2 <;> simp [Value.isRef] at hx2 <;> try rfl
def QrmPI (Z : State) (fm : Value) (kN : Nat) (nN : Nat) (h0 : Heap) (n0 : Nat) (v : Option Value) (h : Heap) (L : List Loc) : Prop := v = some (.int (Int32.ofNat kN)) ∧ Fr n0 L ∧ h = h0
set_option maxRecDepth 65536 in
set_option maxHeartbeats 40000000 in
theorem rmPI (l : Launch) (Z : State) (a0 : Array Value) (hw : ∀ d ∈ tables_1, d.before a0 Z = true) (ws : List Jvm.Cond) (fm : Value) (kN : Nat) (nN : Nat) (h0 : Heap) (n0 : Nat) (Z0 : n0 ≤ h0.size) (hf : fm.isRef = true) (b2 : kN < nN) (b1 : nN ≤ 6) :
    MetFree l (⟨"jdk/internal/util/Preconditions", "checkIndex", "(IILjava/util/function/BiFunction;)I"⟩ : MethodName) (head1 (Jvm.Cond.code (⟨"jdk/internal/util/Preconditions", "checkIndex", "(IILjava/util/function/BiFunction;)I"⟩ : MethodName) jdk_41_method_11_code 3 (some .int) :: ws) ({ frames := 0, cells := 0, slots := 0, locals := 0 } : Room)) (fun a U => a = #[(.int (Int32.ofNat kN)), (.int (Int32.ofNat nN)), fm] ∧ Z.Warmed39 U.vm ∧ U.heap = h0) (fun _ _ _ _ _ => True) (fun _ U o U' => ∃ v L, o = .returned v ∧ QrmPI Z fm kN nN h0 n0 v U'.heap L ∧ FrameEnd U o U' L ({ frames := 0, cells := 0, slots := 0, locals := 0 } : Room).cells ({ frames := 0, cells := 0, slots := 0, locals := 0 } : Room).slots) := by
  refine MetFree.of_bodySF (plainFor_of_name pn_2) hisR ?_
  intro p e s m args below meth c s₁ Bd hml0 hP hK
  obtain ⟨rfl, hZ, hh⟩ := hP
  have hx := Bd.exec
  have hby := Bd.bytes
  have hml : c.maxLocals = 3 := hml0
  have hown : s.vm.findClass "jdk/internal/util/Preconditions" = some m.cls := findClass_of_methodNamed Bd.named
  have hnm := (name_of_methodNamed Bd.named Bd.method).1
  have X0 : Stand p l e ({ frames := 0, cells := 0, slots := 0, locals := 0 } : Room) s m #[(.int (Int32.ofNat kN)), (.int (Int32.ofNat nN)), fm] below meth c s₁ [] 0 0 := Stand.of_body Bd
  have e0 : s₁.heap = h0 := by rw [← hh, Bd.state]; rfl
  have N0 := Fr.nil n0
  have pre0 : ∀ t_, Steps p.tables e below (s₁.setTop (mkF m 0 #[.val (.int (Int32.ofNat kN)), .val (.int (Int32.ofNat nN)), .val fm] [])) t_ → Steps p.tables e below (s₁.setTop (entryFrame m #[(.int (Int32.ofNat kN)), (.int (Int32.ofNat nN)), fm] 3)) t_ := fun t_ k_ => castTop (ef_rmPI m ((Int32.ofNat kN)) ((Int32.ofNat nN)) fm hf) k_
  have pre101 : ∀ t_, Steps p.tables e below (s₁.setTop (mkF m 17 #[.val (.int (Int32.ofNat kN)), .val (.int (Int32.ofNat nN)), .val fm] [(.int (Int32.ofNat kN))])) t_ → Steps p.tables e below (s₁.setTop (entryFrame m #[(.int (Int32.ofNat kN)), (.int (Int32.ofNat nN)), fm] 3)) t_ := fun t_ k_ => pre0 _ (by
    show Steps p.tables e below (s₁.setTop (mkF m 0 #[.val (.int (Int32.ofNat kN)), .val (.int (Int32.ofNat nN)), .val fm] [])) _
    refine XS.iloadN X0.here hx rfl (hb hby d20_0) rfl ?_
    show Steps p.tables e below (s₁.setTop (mkF m 1 #[.val (.int (Int32.ofNat kN)), .val (.int (Int32.ofNat nN)), .val fm] [(.int (Int32.ofNat kN))])) _
    refine XS.ifNo X0.here hx rfl (hb hby d20_1) rfl ((if0 _ _).trans (flt (own_ofn0 (by omega))).1) ?_
    show Steps p.tables e below (s₁.setTop (mkF m 4 #[.val (.int (Int32.ofNat kN)), .val (.int (Int32.ofNat nN)), .val fm] [])) _
    refine XS.iloadN X0.here hx rfl (hb hby d20_4) rfl ?_
    show Steps p.tables e below (s₁.setTop (mkF m 5 #[.val (.int (Int32.ofNat kN)), .val (.int (Int32.ofNat nN)), .val fm] [(.int (Int32.ofNat kN))])) _
    refine XS.iloadN X0.here hx rfl (hb hby d20_5) rfl ?_
    show Steps p.tables e below (s₁.setTop (mkF m 6 #[.val (.int (Int32.ofNat kN)), .val (.int (Int32.ofNat nN)), .val fm] [(.int (Int32.ofNat nN)), (.int (Int32.ofNat kN))])) _
    refine XS.icmpYes X0.here hx rfl (pc0 := 6) (pc' := 16) rfl (hb hby d20_6) rfl (tlt ((own_oflt (by omega) (by omega)).mpr b2)).1 (by decide) (by decide) ?_
    show Steps p.tables e below (s₁.setTop (mkF m 16 #[.val (.int (Int32.ofNat kN)), .val (.int (Int32.ofNat nN)), .val fm] [])) _
    refine XS.iloadN X0.here hx rfl (hb hby d20_16) rfl ?_
    exact k_)
  obtain ⟨fs, hr, hrun, hended, hW, hsame⟩ := X0.leave (v := some (.int (Int32.ofNat kN))) (fun h => by rw [Bd.returns] at h; cases h)
  refine ⟨_, _, pre101 _ ?_, hrun, hended, _, _, rfl, ?_, ⟨_, rfl⟩, hW, hsame.mono (by decide) (by decide)⟩
  · show Steps p.tables e below (s₁.setTop (mkF m 17 #[.val (.int (Int32.ofNat kN)), .val (.int (Int32.ofNat nN)), .val fm] [(.int (Int32.ofNat kN))])) _
    exact retI X0 hx Bd.returns (hb hby d20_17) hr
  · show QrmPI Z fm kN nN h0 n0 _ s₁.heap _
    rw [e0]
    exact ⟨rfl, N0, rfl⟩
theorem pd_9 : parseMethodDescriptor "(IILjava/util/function/BiFunction;)I" = some ⟨[.int, .int, (.object "java/util/function/BiFunction")], some .int⟩ := by decide +kernel
theorem d19_0 : decode jdk_42_method_155_code 0 = .ok (.iload_n 0, 1) := by decide +kernel
theorem d19_1 : decode jdk_42_method_155_code 1 = .ok (.iload_n 1, 1) := by decide +kernel
theorem d19_2 : decode jdk_42_method_155_code 2 = .ok (.getstatic 1053, 3) := by decide +kernel
theorem d19_5 : decode jdk_42_method_155_code 5 = .ok (.invokestatic 1059, 3) := by decide +kernel
theorem d19_8 : decode jdk_42_method_155_code 8 = .ok (.pop, 1) := by decide +kernel
theorem d19_9 : decode jdk_42_method_155_code 9 = .ok (.return_, 1) := by decide +kernel
theorem ef_rmCk (m : MethodId) (x0 : Int32) (x1 : Int32) : entryFrame m #[(.int x0), (.int x1)] 2 = mkF m 0 #[.val (.int x0), .val (.int x1)] [] := by first | (simp [entryFrame, mkF, argsToLocals, Value.category]; done) | rfl
def QrmCk (Z : State)  (kN : Nat) (nN : Nat) (fm : Value) (h0 : Heap) (n0 : Nat) (v : Option Value) (h : Heap) (L : List Loc) : Prop := v = none ∧ Fr n0 L ∧ h = h0
set_option maxRecDepth 65536 in
set_option maxHeartbeats 40000000 in
theorem rmCk (l : Launch) (Z : State) (a0 : Array Value) (hw : ∀ d ∈ tables_1, d.before a0 Z = true) (ws : List Jvm.Cond)  (kN : Nat) (nN : Nat) (fm : Value) (h0 : Heap) (n0 : Nat) (Z0 : n0 ≤ h0.size) (S_f : Sta Z h0 "jdk/internal/util/Preconditions" "SIOOBE_FORMATTER" "Ljava/util/function/BiFunction;" fm) (hf : fm.isRef = true) (b2 : kN < nN) (b1 : nN ≤ 6) :
    MetFree l (⟨"java/lang/String", "checkIndex", "(II)V"⟩ : MethodName) (head1 (Jvm.Cond.code (⟨"java/lang/String", "checkIndex", "(II)V"⟩ : MethodName) jdk_42_method_155_code 2 none :: ws) ({ frames := 1, cells := 0, slots := 0, locals := 14 } : Room)) (fun a U => a = #[(.int (Int32.ofNat kN)), (.int (Int32.ofNat nN))] ∧ Z.Warmed39 U.vm ∧ U.heap = h0) (fun _ _ _ _ _ => True) (fun _ U o U' => ∃ v L, o = .returned v ∧ QrmCk Z kN nN fm h0 n0 v U'.heap L ∧ FrameEnd U o U' L ({ frames := 1, cells := 0, slots := 0, locals := 14 } : Room).cells ({ frames := 1, cells := 0, slots := 0, locals := 14 } : Room).slots) := by
  refine MetFree.of_bodySF (plainFor_of_name pn_1) hisR ?_
  intro p e s m args below meth c s₁ Bd hml0 hP hK
  obtain ⟨rfl, hZ, hh⟩ := hP
  have hx := Bd.exec
  have hby := Bd.bytes
  have hml : c.maxLocals = 2 := hml0
  have hown : s.vm.findClass "java/lang/String" = some m.cls := findClass_of_methodNamed Bd.named
  have hnm := (name_of_methodNamed Bd.named Bd.method).1
  have X0 : Stand p l e ({ frames := 1, cells := 0, slots := 0, locals := 14 } : Room) s m #[(.int (Int32.ofNat kN)), (.int (Int32.ofNat nN))] below meth c s₁ [] 0 0 := Stand.of_body Bd
  have e0 : s₁.heap = h0 := by rw [← hh, Bd.state]; rfl
  have N0 := Fr.nil n0
  have pre0 : ∀ t_, Steps p.tables e below (s₁.setTop (mkF m 0 #[.val (.int (Int32.ofNat kN)), .val (.int (Int32.ofNat nN))] [])) t_ → Steps p.tables e below (s₁.setTop (entryFrame m #[(.int (Int32.ofNat kN)), (.int (Int32.ofNat nN))] 2)) t_ := fun t_ k_ => castTop (ef_rmCk m ((Int32.ofNat kN)) ((Int32.ofNat nN))) k_
  obtain ⟨T101, X101, e101, st101⟩ := getS2 X0 hx hZ hown (host := "") (Or.inl (hw _ (List.mem_of_getElem? (i := 91) rfl))) Via.refl e0 S_f (g := (mkF m 2 #[.val (.int (Int32.ofNat kN)), .val (.int (Int32.ofNat nN))] [(.int (Int32.ofNat nN)), (.int (Int32.ofNat kN))])) rfl (hb hby d19_2)
  obtain ⟨_, _, ⟨T102, L102, k102, n102⟩, -, X102, ⟨Lc102, hQ102, l102, y102, z102⟩, st102⟩ := Jvm.LawKit.callS X101 hx (y := (⟨"jdk/internal/util/Preconditions", "checkIndex", "(IILjava/util/function/BiFunction;)I"⟩ : MethodName)) hown (mvT hZ (hw _ (List.mem_of_getElem? (i := 93) rfl))) (mvT hZ (hw _ (List.mem_of_getElem? (i := 94) rfl))) (mvT hZ (hw _ (List.mem_of_getElem? (i := 92) rfl))) (mvT hZ (hw _ (List.mem_of_getElem? (i := 95) rfl))) (by decide) (backOf (W := 0) (rmPI l Z a0 hw [] fm kN nN h0 n0 Z0 hf b2 b1) hZ (hw _ (List.mem_of_getElem? (i := 95) rfl)) (hw _ (List.mem_of_getElem? (i := 92) rfl)) (by decide) (by decide)) (g := (mkF m 5 #[.val (.int (Int32.ofNat kN)), .val (.int (Int32.ofNat nN))] [fm, (.int (Int32.ofNat nN)), (.int (Int32.ofNat kN))])) rfl (by rw [hml]; rfl) (argsL := [(.int (Int32.ofNat kN)), (.int (Int32.ofNat nN)), fm]) (rest := []) (lenOf pd_9 rfl) rfl (by show 2 * 0 + _ ≤ _; exact Nat.le_of_eq rfl) (hb hby d19_5) (fun _ _ => ⟨rfl, e101, (by decide : 0 + 0 ≤ _), (by decide : 0 + 0 ≤ _)⟩)
  dsimp only [Pt.U, Pt.locs, Pt.cells, Pt.slots] at X102 l102 y102 z102 st102 hQ102
  subst l102 y102 z102
  obtain ⟨rfl, N102q, e102⟩ := hQ102
  have N102 := Fr.app N0 N102q
  have pre103 : ∀ t_, Steps p.tables e below (T102.setTop (mkF m 9 #[.val (.int (Int32.ofNat kN)), .val (.int (Int32.ofNat nN))] [])) t_ → Steps p.tables e below (s₁.setTop (entryFrame m #[(.int (Int32.ofNat kN)), (.int (Int32.ofNat nN))] 2)) t_ := fun t_ k_ => pre0 _ (by
    show Steps p.tables e below (s₁.setTop (mkF m 0 #[.val (.int (Int32.ofNat kN)), .val (.int (Int32.ofNat nN))] [])) _
    refine XS.iloadN X0.here hx rfl (hb hby d19_0) rfl ?_
    show Steps p.tables e below (s₁.setTop (mkF m 1 #[.val (.int (Int32.ofNat kN)), .val (.int (Int32.ofNat nN))] [(.int (Int32.ofNat kN))])) _
    refine XS.iloadN X0.here hx rfl (hb hby d19_1) rfl ?_
    show Steps p.tables e below (s₁.setTop (mkF m 2 #[.val (.int (Int32.ofNat kN)), .val (.int (Int32.ofNat nN))] [(.int (Int32.ofNat nN)), (.int (Int32.ofNat kN))])) _
    refine st101 _ ?_
    show Steps p.tables e below (T101.setTop (mkF m 5 #[.val (.int (Int32.ofNat kN)), .val (.int (Int32.ofNat nN))] [fm, (.int (Int32.ofNat nN)), (.int (Int32.ofNat kN))])) _
    refine st102 _ ?_
    show Steps p.tables e below (T102.setTop (mkF m 8 #[.val (.int (Int32.ofNat kN)), .val (.int (Int32.ofNat nN))] [(.int (Int32.ofNat kN))])) _
    refine XS.pop X102.here hx rfl (hb hby d19_8) rfl rfl ?_
    exact k_)
  obtain ⟨fs, hr, hrun, hended, hW, hsame⟩ := X102.leave (v := none) (fun _ => rfl)
  refine ⟨_, _, pre103 _ ?_, hrun, hended, _, _, rfl, ?_, ⟨_, rfl⟩, hW, hsame.mono (by decide) (by decide)⟩
  · show Steps p.tables e below (T102.setTop (mkF m 9 #[.val (.int (Int32.ofNat kN)), .val (.int (Int32.ofNat nN))] [])) _
    exact X102.returnOut hx Bd.returns (hb hby d19_9) hr
  · show QrmCk Z kN nN fm h0 n0 _ T102.heap _
    rw [e102]
    exact ⟨rfl, N102, rfl⟩
theorem d23_0 : decode jdk_89_method_14_code 0 = .ok (.iload_n 0, 1) := by decide +kernel
theorem d23_1 : decode jdk_89_method_14_code 1 = .ok (.ldc 75, 2) := by decide +kernel
theorem d23_3 : decode jdk_89_method_14_code 3 = .ok (.if_icmp .lt 13, 3) := by decide +kernel
theorem d23_6 : decode jdk_89_method_14_code 6 = .ok (.iload_n 0, 1) := by decide +kernel
theorem d23_7 : decode jdk_89_method_14_code 7 = .ok (.ldc 76, 2) := by decide +kernel
theorem d23_9 : decode jdk_89_method_14_code 9 = .ok (.if_icmp .ge 7, 3) := by decide +kernel
theorem d23_16 : decode jdk_89_method_14_code 16 = .ok (.iconst 0, 1) := by decide +kernel
theorem d23_17 : decode jdk_89_method_14_code 17 = .ok (.ireturn, 1) := by decide +kernel
theorem pn_3 : plainName "java/lang/Character" = true := by first | (simp [plainName, overriddenIn]; done) | decide +kernel
theorem ef_rmH0 (m : MethodId) (x0 : Int32) : entryFrame m #[(.int x0)] 1 = mkF m 0 #[.val (.int x0)] [] := by first | (simp [entryFrame, mkF, argsToLocals, Value.category]; done) | rfl
def QrmH0 (Z : State) (p1 : Int32) (h0 : Heap) (n0 : Nat) (v : Option Value) (h : Heap) (L : List Loc) : Prop := v = some (.int (0 : Int32)) ∧ Fr n0 L ∧ h = h0
set_option maxRecDepth 65536 in
set_option maxHeartbeats 40000000 in
theorem rmH0 (l : Launch) (Z : State) (a0 : Array Value) (hw : ∀ d ∈ tables_1, d.before a0 Z = true) (ws : List Jvm.Cond) (p1 : Int32) (h0 : Heap) (n0 : Nat) (Z0 : n0 ≤ h0.size) (H : own_one p1) :
    MetFree l (⟨"java/lang/Character", "isHighSurrogate", "(C)Z"⟩ : MethodName) (head1 (Jvm.Cond.code (⟨"java/lang/Character", "isHighSurrogate", "(C)Z"⟩ : MethodName) jdk_89_method_14_code 1 (some .boolean) :: ws) ({ frames := 0, cells := 0, slots := 0, locals := 0 } : Room)) (fun a U => a = #[(.int p1)] ∧ Z.Warmed39 U.vm ∧ U.heap = h0) (fun _ _ _ _ _ => True) (fun _ U o U' => ∃ v L, o = .returned v ∧ QrmH0 Z p1 h0 n0 v U'.heap L ∧ FrameEnd U o U' L ({ frames := 0, cells := 0, slots := 0, locals := 0 } : Room).cells ({ frames := 0, cells := 0, slots := 0, locals := 0 } : Room).slots) := by
  refine MetFree.of_bodySF (plainFor_of_name pn_3) hisR ?_
  intro p e s m args below meth c s₁ Bd hml0 hP hK
  obtain ⟨rfl, hZ, hh⟩ := hP
  have hx := Bd.exec
  have hby := Bd.bytes
  have hml : c.maxLocals = 1 := hml0
  have hown : s.vm.findClass "java/lang/Character" = some m.cls := findClass_of_methodNamed Bd.named
  have hnm := (name_of_methodNamed Bd.named Bd.method).1
  have X0 : Stand p l e ({ frames := 0, cells := 0, slots := 0, locals := 0 } : Room) s m #[(.int p1)] below meth c s₁ [] 0 0 := Stand.of_body Bd
  have e0 : s₁.heap = h0 := by rw [← hh, Bd.state]; rfl
  have N0 := Fr.nil n0
  have pre0 : ∀ t_, Steps p.tables e below (s₁.setTop (mkF m 0 #[.val (.int p1)] [])) t_ → Steps p.tables e below (s₁.setTop (entryFrame m #[(.int p1)] 1)) t_ := fun t_ k_ => castTop (ef_rmH0 m p1) k_
  have pre101 : ∀ t_, Steps p.tables e below (s₁.setTop (mkF m 3 #[.val (.int p1)] [(.int (55296 : Int32)), (.int p1)])) t_ → Steps p.tables e below (s₁.setTop (entryFrame m #[(.int p1)] 1)) t_ := fun t_ k_ => pre0 _ (by
    show Steps p.tables e below (s₁.setTop (mkF m 0 #[.val (.int p1)] [])) _
    refine XS.iloadN X0.here hx rfl (hb hby d23_0) rfl ?_
    show Steps p.tables e below (s₁.setTop (mkF m 1 #[.val (.int p1)] [(.int p1)])) _
    refine X0.ldcInt hx hown (mvT hZ (hw _ (List.mem_of_getElem? (i := 106) rfl))) (g := (mkF m 1 #[.val (.int p1)] [(.int p1)])) rfl (hb hby d23_1) _ ?_
    exact k_)
  by_cases hc : p1 < (55296 : Int32)
  · skip
    have pre102 : ∀ t_, Steps p.tables e below (s₁.setTop (mkF m 17 #[.val (.int p1)] [(.int (0 : Int32))])) t_ → Steps p.tables e below (s₁.setTop (entryFrame m #[(.int p1)] 1)) t_ := fun t_ k_ => pre101 _ (by
      show Steps p.tables e below (s₁.setTop (mkF m 3 #[.val (.int p1)] [(.int (55296 : Int32)), (.int p1)])) _
      refine XS.icmpYes X0.here hx rfl (pc0 := 3) (pc' := 16) rfl (hb hby d23_3) rfl (tlt hc).1 (by decide) (by decide) ?_
      show Steps p.tables e below (s₁.setTop (mkF m 16 #[.val (.int p1)] [])) _
      refine XS.iconst X0.here hx rfl (hb hby d23_16) ?_
      exact k_)
    obtain ⟨fs, hr, hrun, hended, hW, hsame⟩ := X0.leave (v := some (.int (0 : Int32))) (fun h => by rw [Bd.returns] at h; cases h)
    refine ⟨_, _, pre102 _ ?_, hrun, hended, _, _, rfl, ?_, ⟨_, rfl⟩, hW, hsame.mono (by decide) (by decide)⟩
    · show Steps p.tables e below (s₁.setTop (mkF m 17 #[.val (.int p1)] [(.int (0 : Int32))])) _
      exact retN X0 hx (t := .boolean) Bd.returns (by simp) (hb hby d23_17) hr
    · show QrmH0 Z p1 h0 n0 _ s₁.heap _
      rw [e0]
      exact ⟨rfl, N0, rfl⟩
  · skip
    have pre103 : ∀ t_, Steps p.tables e below (s₁.setTop (mkF m 17 #[.val (.int p1)] [(.int (0 : Int32))])) t_ → Steps p.tables e below (s₁.setTop (entryFrame m #[(.int p1)] 1)) t_ := fun t_ k_ => pre101 _ (by
      show Steps p.tables e below (s₁.setTop (mkF m 3 #[.val (.int p1)] [(.int (55296 : Int32)), (.int p1)])) _
      refine XS.icmpNo X0.here hx rfl (hb hby d23_3) rfl (flt hc).1 ?_
      show Steps p.tables e below (s₁.setTop (mkF m 6 #[.val (.int p1)] [])) _
      refine XS.iloadN X0.here hx rfl (hb hby d23_6) rfl ?_
      show Steps p.tables e below (s₁.setTop (mkF m 7 #[.val (.int p1)] [(.int p1)])) _
      refine X0.ldcInt hx hown (mvT hZ (hw _ (List.mem_of_getElem? (i := 112) rfl))) (g := (mkF m 7 #[.val (.int p1)] [(.int p1)])) rfl (hb hby d23_7) _ ?_
      show Steps p.tables e below (s₁.setTop (mkF m 9 #[.val (.int p1)] [(.int (56320 : Int32)), (.int p1)])) _
      refine XS.icmpYes X0.here hx rfl (pc0 := 9) (pc' := 16) rfl (hb hby d23_9) rfl (flt (own_one56 H hc)).2.1 (by decide) (by decide) ?_
      show Steps p.tables e below (s₁.setTop (mkF m 16 #[.val (.int p1)] [])) _
      refine XS.iconst X0.here hx rfl (hb hby d23_16) ?_
      exact k_)
    obtain ⟨fs, hr, hrun, hended, hW, hsame⟩ := X0.leave (v := some (.int (0 : Int32))) (fun h => by rw [Bd.returns] at h; cases h)
    refine ⟨_, _, pre103 _ ?_, hrun, hended, _, _, rfl, ?_, ⟨_, rfl⟩, hW, hsame.mono (by decide) (by decide)⟩
    · show Steps p.tables e below (s₁.setTop (mkF m 17 #[.val (.int p1)] [(.int (0 : Int32))])) _
      exact retN X0 hx (t := .boolean) Bd.returns (by simp) (hb hby d23_17) hr
    · show QrmH0 Z p1 h0 n0 _ s₁.heap _
      rw [e0]
      exact ⟨rfl, N0, rfl⟩
theorem d23_12 : decode jdk_89_method_14_code 12 = .ok (.iconst 1, 1) := by decide +kernel
theorem d23_13 : decode jdk_89_method_14_code 13 = .ok (.goto 4, 3) := by decide +kernel
theorem ef_rmH1 (m : MethodId) (x0 : Int32) : entryFrame m #[(.int x0)] 1 = mkF m 0 #[.val (.int x0)] [] := by first | (simp [entryFrame, mkF, argsToLocals, Value.category]; done) | rfl
def QrmH1 (Z : State) (p1 : Int32) (h0 : Heap) (n0 : Nat) (v : Option Value) (h : Heap) (L : List Loc) : Prop := v = some (.int (1 : Int32)) ∧ Fr n0 L ∧ h = h0
set_option maxRecDepth 65536 in
set_option maxHeartbeats 40000000 in
theorem rmH1 (l : Launch) (Z : State) (a0 : Array Value) (hw : ∀ d ∈ tables_1, d.before a0 Z = true) (ws : List Jvm.Cond) (p1 : Int32) (h0 : Heap) (n0 : Nat) (Z0 : n0 ≤ h0.size) (H : own_hi p1) :
    MetFree l (⟨"java/lang/Character", "isHighSurrogate", "(C)Z"⟩ : MethodName) (head1 (Jvm.Cond.code (⟨"java/lang/Character", "isHighSurrogate", "(C)Z"⟩ : MethodName) jdk_89_method_14_code 1 (some .boolean) :: ws) ({ frames := 0, cells := 0, slots := 0, locals := 0 } : Room)) (fun a U => a = #[(.int p1)] ∧ Z.Warmed39 U.vm ∧ U.heap = h0) (fun _ _ _ _ _ => True) (fun _ U o U' => ∃ v L, o = .returned v ∧ QrmH1 Z p1 h0 n0 v U'.heap L ∧ FrameEnd U o U' L ({ frames := 0, cells := 0, slots := 0, locals := 0 } : Room).cells ({ frames := 0, cells := 0, slots := 0, locals := 0 } : Room).slots) := by
  refine MetFree.of_bodySF (plainFor_of_name pn_3) hisR ?_
  intro p e s m args below meth c s₁ Bd hml0 hP hK
  obtain ⟨rfl, hZ, hh⟩ := hP
  have hx := Bd.exec
  have hby := Bd.bytes
  have hml : c.maxLocals = 1 := hml0
  have hown : s.vm.findClass "java/lang/Character" = some m.cls := findClass_of_methodNamed Bd.named
  have hnm := (name_of_methodNamed Bd.named Bd.method).1
  have X0 : Stand p l e ({ frames := 0, cells := 0, slots := 0, locals := 0 } : Room) s m #[(.int p1)] below meth c s₁ [] 0 0 := Stand.of_body Bd
  have e0 : s₁.heap = h0 := by rw [← hh, Bd.state]; rfl
  have N0 := Fr.nil n0
  have pre0 : ∀ t_, Steps p.tables e below (s₁.setTop (mkF m 0 #[.val (.int p1)] [])) t_ → Steps p.tables e below (s₁.setTop (entryFrame m #[(.int p1)] 1)) t_ := fun t_ k_ => castTop (ef_rmH1 m p1) k_
  have pre101 : ∀ t_, Steps p.tables e below (s₁.setTop (mkF m 17 #[.val (.int p1)] [(.int (1 : Int32))])) t_ → Steps p.tables e below (s₁.setTop (entryFrame m #[(.int p1)] 1)) t_ := fun t_ k_ => pre0 _ (by
    show Steps p.tables e below (s₁.setTop (mkF m 0 #[.val (.int p1)] [])) _
    refine XS.iloadN X0.here hx rfl (hb hby d23_0) rfl ?_
    show Steps p.tables e below (s₁.setTop (mkF m 1 #[.val (.int p1)] [(.int p1)])) _
    refine X0.ldcInt hx hown (mvT hZ (hw _ (List.mem_of_getElem? (i := 106) rfl))) (g := (mkF m 1 #[.val (.int p1)] [(.int p1)])) rfl (hb hby d23_1) _ ?_
    show Steps p.tables e below (s₁.setTop (mkF m 3 #[.val (.int p1)] [(.int (55296 : Int32)), (.int p1)])) _
    refine XS.icmpNo X0.here hx rfl (hb hby d23_3) rfl (flt (own_hi55 H)).1 ?_
    show Steps p.tables e below (s₁.setTop (mkF m 6 #[.val (.int p1)] [])) _
    refine XS.iloadN X0.here hx rfl (hb hby d23_6) rfl ?_
    show Steps p.tables e below (s₁.setTop (mkF m 7 #[.val (.int p1)] [(.int p1)])) _
    refine X0.ldcInt hx hown (mvT hZ (hw _ (List.mem_of_getElem? (i := 112) rfl))) (g := (mkF m 7 #[.val (.int p1)] [(.int p1)])) rfl (hb hby d23_7) _ ?_
    show Steps p.tables e below (s₁.setTop (mkF m 9 #[.val (.int p1)] [(.int (56320 : Int32)), (.int p1)])) _
    refine XS.icmpNo X0.here hx rfl (hb hby d23_9) rfl (tlt (own_hi56 H)).2.1 ?_
    show Steps p.tables e below (s₁.setTop (mkF m 12 #[.val (.int p1)] [])) _
    refine XS.iconst X0.here hx rfl (hb hby d23_12) ?_
    show Steps p.tables e below (s₁.setTop (mkF m 13 #[.val (.int p1)] [(.int (1 : Int32))])) _
    refine XS.goto X0.here hx rfl (pc0 := 13) (pc' := 17) rfl (hb hby d23_13) (by decide) (by decide) ?_
    exact k_)
  obtain ⟨fs, hr, hrun, hended, hW, hsame⟩ := X0.leave (v := some (.int (1 : Int32))) (fun h => by rw [Bd.returns] at h; cases h)
  refine ⟨_, _, pre101 _ ?_, hrun, hended, _, _, rfl, ?_, ⟨_, rfl⟩, hW, hsame.mono (by decide) (by decide)⟩
  · show Steps p.tables e below (s₁.setTop (mkF m 17 #[.val (.int p1)] [(.int (1 : Int32))])) _
    exact retN X0 hx (t := .boolean) Bd.returns (by simp) (hb hby d23_17) hr
  · show QrmH1 Z p1 h0 n0 _ s₁.heap _
    rw [e0]
    exact ⟨rfl, N0, rfl⟩
theorem d25_0 : decode jdk_89_method_15_code 0 = .ok (.iload_n 0, 1) := by decide +kernel
theorem d25_1 : decode jdk_89_method_15_code 1 = .ok (.ldc 76, 2) := by decide +kernel
theorem d25_3 : decode jdk_89_method_15_code 3 = .ok (.if_icmp .lt 13, 3) := by decide +kernel
theorem d25_6 : decode jdk_89_method_15_code 6 = .ok (.iload_n 0, 1) := by decide +kernel
theorem d25_7 : decode jdk_89_method_15_code 7 = .ok (.ldc 77, 2) := by decide +kernel
theorem d25_9 : decode jdk_89_method_15_code 9 = .ok (.if_icmp .ge 7, 3) := by decide +kernel
theorem d25_12 : decode jdk_89_method_15_code 12 = .ok (.iconst 1, 1) := by decide +kernel
theorem d25_13 : decode jdk_89_method_15_code 13 = .ok (.goto 4, 3) := by decide +kernel
theorem d25_17 : decode jdk_89_method_15_code 17 = .ok (.ireturn, 1) := by decide +kernel
theorem ef_rmW1 (m : MethodId) (x0 : Int32) : entryFrame m #[(.int x0)] 1 = mkF m 0 #[.val (.int x0)] [] := by first | (simp [entryFrame, mkF, argsToLocals, Value.category]; done) | rfl
def QrmW1 (Z : State) (p1 : Int32) (h0 : Heap) (n0 : Nat) (v : Option Value) (h : Heap) (L : List Loc) : Prop := v = some (.int (1 : Int32)) ∧ Fr n0 L ∧ h = h0
set_option maxRecDepth 65536 in
set_option maxHeartbeats 40000000 in
theorem rmW1 (l : Launch) (Z : State) (a0 : Array Value) (hw : ∀ d ∈ tables_1, d.before a0 Z = true) (ws : List Jvm.Cond) (p1 : Int32) (h0 : Heap) (n0 : Nat) (Z0 : n0 ≤ h0.size) (H : own_lo p1) :
    MetFree l (⟨"java/lang/Character", "isLowSurrogate", "(C)Z"⟩ : MethodName) (head1 (Jvm.Cond.code (⟨"java/lang/Character", "isLowSurrogate", "(C)Z"⟩ : MethodName) jdk_89_method_15_code 1 (some .boolean) :: ws) ({ frames := 0, cells := 0, slots := 0, locals := 0 } : Room)) (fun a U => a = #[(.int p1)] ∧ Z.Warmed39 U.vm ∧ U.heap = h0) (fun _ _ _ _ _ => True) (fun _ U o U' => ∃ v L, o = .returned v ∧ QrmW1 Z p1 h0 n0 v U'.heap L ∧ FrameEnd U o U' L ({ frames := 0, cells := 0, slots := 0, locals := 0 } : Room).cells ({ frames := 0, cells := 0, slots := 0, locals := 0 } : Room).slots) := by
  refine MetFree.of_bodySF (plainFor_of_name pn_3) hisR ?_
  intro p e s m args below meth c s₁ Bd hml0 hP hK
  obtain ⟨rfl, hZ, hh⟩ := hP
  have hx := Bd.exec
  have hby := Bd.bytes
  have hml : c.maxLocals = 1 := hml0
  have hown : s.vm.findClass "java/lang/Character" = some m.cls := findClass_of_methodNamed Bd.named
  have hnm := (name_of_methodNamed Bd.named Bd.method).1
  have X0 : Stand p l e ({ frames := 0, cells := 0, slots := 0, locals := 0 } : Room) s m #[(.int p1)] below meth c s₁ [] 0 0 := Stand.of_body Bd
  have e0 : s₁.heap = h0 := by rw [← hh, Bd.state]; rfl
  have N0 := Fr.nil n0
  have pre0 : ∀ t_, Steps p.tables e below (s₁.setTop (mkF m 0 #[.val (.int p1)] [])) t_ → Steps p.tables e below (s₁.setTop (entryFrame m #[(.int p1)] 1)) t_ := fun t_ k_ => castTop (ef_rmW1 m p1) k_
  have pre101 : ∀ t_, Steps p.tables e below (s₁.setTop (mkF m 17 #[.val (.int p1)] [(.int (1 : Int32))])) t_ → Steps p.tables e below (s₁.setTop (entryFrame m #[(.int p1)] 1)) t_ := fun t_ k_ => pre0 _ (by
    show Steps p.tables e below (s₁.setTop (mkF m 0 #[.val (.int p1)] [])) _
    refine XS.iloadN X0.here hx rfl (hb hby d25_0) rfl ?_
    show Steps p.tables e below (s₁.setTop (mkF m 1 #[.val (.int p1)] [(.int p1)])) _
    refine X0.ldcInt hx hown (mvT hZ (hw _ (List.mem_of_getElem? (i := 112) rfl))) (g := (mkF m 1 #[.val (.int p1)] [(.int p1)])) rfl (hb hby d25_1) _ ?_
    show Steps p.tables e below (s₁.setTop (mkF m 3 #[.val (.int p1)] [(.int (56320 : Int32)), (.int p1)])) _
    refine XS.icmpNo X0.here hx rfl (hb hby d25_3) rfl (flt (own_lo56 H)).1 ?_
    show Steps p.tables e below (s₁.setTop (mkF m 6 #[.val (.int p1)] [])) _
    refine XS.iloadN X0.here hx rfl (hb hby d25_6) rfl ?_
    show Steps p.tables e below (s₁.setTop (mkF m 7 #[.val (.int p1)] [(.int p1)])) _
    refine X0.ldcInt hx hown (mvT hZ (hw _ (List.mem_of_getElem? (i := 116) rfl))) (g := (mkF m 7 #[.val (.int p1)] [(.int p1)])) rfl (hb hby d25_7) _ ?_
    show Steps p.tables e below (s₁.setTop (mkF m 9 #[.val (.int p1)] [(.int (57344 : Int32)), (.int p1)])) _
    refine XS.icmpNo X0.here hx rfl (hb hby d25_9) rfl (tlt (own_lo57 H)).2.1 ?_
    show Steps p.tables e below (s₁.setTop (mkF m 12 #[.val (.int p1)] [])) _
    refine XS.iconst X0.here hx rfl (hb hby d25_12) ?_
    show Steps p.tables e below (s₁.setTop (mkF m 13 #[.val (.int p1)] [(.int (1 : Int32))])) _
    refine XS.goto X0.here hx rfl (pc0 := 13) (pc' := 17) rfl (hb hby d25_13) (by decide) (by decide) ?_
    exact k_)
  obtain ⟨fs, hr, hrun, hended, hW, hsame⟩ := X0.leave (v := some (.int (1 : Int32))) (fun h => by rw [Bd.returns] at h; cases h)
  refine ⟨_, _, pre101 _ ?_, hrun, hended, _, _, rfl, ?_, ⟨_, rfl⟩, hW, hsame.mono (by decide) (by decide)⟩
  · show Steps p.tables e below (s₁.setTop (mkF m 17 #[.val (.int p1)] [(.int (1 : Int32))])) _
    exact retN X0 hx (t := .boolean) Bd.returns (by simp) (hb hby d25_17) hr
  · show QrmW1 Z p1 h0 n0 _ s₁.heap _
    rw [e0]
    exact ⟨rfl, N0, rfl⟩
theorem d24_0 : decode jdk_89_method_18_code 0 = .ok (.iload_n 0, 1) := by decide +kernel
theorem d24_1 : decode jdk_89_method_18_code 1 = .ok (.ldc 73, 2) := by decide +kernel
theorem d24_3 : decode jdk_89_method_18_code 3 = .ok (.if_icmp .lt 7, 3) := by decide +kernel
theorem d24_10 : decode jdk_89_method_18_code 10 = .ok (.iconst 1, 1) := by decide +kernel
theorem d24_11 : decode jdk_89_method_18_code 11 = .ok (.ireturn, 1) := by decide +kernel
theorem ef_rmN1 (m : MethodId) (x0 : Int32) : entryFrame m #[(.int x0)] 1 = mkF m 0 #[.val (.int x0)] [] := by first | (simp [entryFrame, mkF, argsToLocals, Value.category]; done) | rfl
def QrmN1 (Z : State) (p1 : Int32) (h0 : Heap) (n0 : Nat) (v : Option Value) (h : Heap) (L : List Loc) : Prop := v = some (.int (1 : Int32)) ∧ Fr n0 L ∧ h = h0
set_option maxRecDepth 65536 in
set_option maxHeartbeats 40000000 in
theorem rmN1 (l : Launch) (Z : State) (a0 : Array Value) (hw : ∀ d ∈ tables_1, d.before a0 Z = true) (ws : List Jvm.Cond) (p1 : Int32) (h0 : Heap) (n0 : Nat) (Z0 : n0 ≤ h0.size) (H : p1 < (65536 : Int32)) :
    MetFree l (⟨"java/lang/Character", "charCount", "(I)I"⟩ : MethodName) (head1 (Jvm.Cond.code (⟨"java/lang/Character", "charCount", "(I)I"⟩ : MethodName) jdk_89_method_18_code 1 (some .int) :: ws) ({ frames := 0, cells := 0, slots := 0, locals := 0 } : Room)) (fun a U => a = #[(.int p1)] ∧ Z.Warmed39 U.vm ∧ U.heap = h0) (fun _ _ _ _ _ => True) (fun _ U o U' => ∃ v L, o = .returned v ∧ QrmN1 Z p1 h0 n0 v U'.heap L ∧ FrameEnd U o U' L ({ frames := 0, cells := 0, slots := 0, locals := 0 } : Room).cells ({ frames := 0, cells := 0, slots := 0, locals := 0 } : Room).slots) := by
  refine MetFree.of_bodySF (plainFor_of_name pn_3) hisR ?_
  intro p e s m args below meth c s₁ Bd hml0 hP hK
  obtain ⟨rfl, hZ, hh⟩ := hP
  have hx := Bd.exec
  have hby := Bd.bytes
  have hml : c.maxLocals = 1 := hml0
  have hown : s.vm.findClass "java/lang/Character" = some m.cls := findClass_of_methodNamed Bd.named
  have hnm := (name_of_methodNamed Bd.named Bd.method).1
  have X0 : Stand p l e ({ frames := 0, cells := 0, slots := 0, locals := 0 } : Room) s m #[(.int p1)] below meth c s₁ [] 0 0 := Stand.of_body Bd
  have e0 : s₁.heap = h0 := by rw [← hh, Bd.state]; rfl
  have N0 := Fr.nil n0
  have pre0 : ∀ t_, Steps p.tables e below (s₁.setTop (mkF m 0 #[.val (.int p1)] [])) t_ → Steps p.tables e below (s₁.setTop (entryFrame m #[(.int p1)] 1)) t_ := fun t_ k_ => castTop (ef_rmN1 m p1) k_
  have pre101 : ∀ t_, Steps p.tables e below (s₁.setTop (mkF m 11 #[.val (.int p1)] [(.int (1 : Int32))])) t_ → Steps p.tables e below (s₁.setTop (entryFrame m #[(.int p1)] 1)) t_ := fun t_ k_ => pre0 _ (by
    show Steps p.tables e below (s₁.setTop (mkF m 0 #[.val (.int p1)] [])) _
    refine XS.iloadN X0.here hx rfl (hb hby d24_0) rfl ?_
    show Steps p.tables e below (s₁.setTop (mkF m 1 #[.val (.int p1)] [(.int p1)])) _
    refine X0.ldcInt hx hown (mvT hZ (hw _ (List.mem_of_getElem? (i := 111) rfl))) (g := (mkF m 1 #[.val (.int p1)] [(.int p1)])) rfl (hb hby d24_1) _ ?_
    show Steps p.tables e below (s₁.setTop (mkF m 3 #[.val (.int p1)] [(.int (65536 : Int32)), (.int p1)])) _
    refine XS.icmpYes X0.here hx rfl (pc0 := 3) (pc' := 10) rfl (hb hby d24_3) rfl (tlt H).1 (by decide) (by decide) ?_
    show Steps p.tables e below (s₁.setTop (mkF m 10 #[.val (.int p1)] [])) _
    refine XS.iconst X0.here hx rfl (hb hby d24_10) ?_
    exact k_)
  obtain ⟨fs, hr, hrun, hended, hW, hsame⟩ := X0.leave (v := some (.int (1 : Int32))) (fun h => by rw [Bd.returns] at h; cases h)
  refine ⟨_, _, pre101 _ ?_, hrun, hended, _, _, rfl, ?_, ⟨_, rfl⟩, hW, hsame.mono (by decide) (by decide)⟩
  · show Steps p.tables e below (s₁.setTop (mkF m 11 #[.val (.int p1)] [(.int (1 : Int32))])) _
    exact retI X0 hx Bd.returns (hb hby d24_11) hr
  · show QrmN1 Z p1 h0 n0 _ s₁.heap _
    rw [e0]
    exact ⟨rfl, N0, rfl⟩
theorem d24_6 : decode jdk_89_method_18_code 6 = .ok (.iconst 2, 1) := by decide +kernel
theorem d24_7 : decode jdk_89_method_18_code 7 = .ok (.goto 4, 3) := by decide +kernel
theorem ef_rmN2 (m : MethodId) (x0 : Int32) : entryFrame m #[(.int x0)] 1 = mkF m 0 #[.val (.int x0)] [] := by first | (simp [entryFrame, mkF, argsToLocals, Value.category]; done) | rfl
def QrmN2 (Z : State) (p1 : Int32) (h0 : Heap) (n0 : Nat) (v : Option Value) (h : Heap) (L : List Loc) : Prop := v = some (.int (2 : Int32)) ∧ Fr n0 L ∧ h = h0
set_option maxRecDepth 65536 in
set_option maxHeartbeats 40000000 in
theorem rmN2 (l : Launch) (Z : State) (a0 : Array Value) (hw : ∀ d ∈ tables_1, d.before a0 Z = true) (ws : List Jvm.Cond) (p1 : Int32) (h0 : Heap) (n0 : Nat) (Z0 : n0 ≤ h0.size) (H : ¬ p1 < (65536 : Int32)) :
    MetFree l (⟨"java/lang/Character", "charCount", "(I)I"⟩ : MethodName) (head1 (Jvm.Cond.code (⟨"java/lang/Character", "charCount", "(I)I"⟩ : MethodName) jdk_89_method_18_code 1 (some .int) :: ws) ({ frames := 0, cells := 0, slots := 0, locals := 0 } : Room)) (fun a U => a = #[(.int p1)] ∧ Z.Warmed39 U.vm ∧ U.heap = h0) (fun _ _ _ _ _ => True) (fun _ U o U' => ∃ v L, o = .returned v ∧ QrmN2 Z p1 h0 n0 v U'.heap L ∧ FrameEnd U o U' L ({ frames := 0, cells := 0, slots := 0, locals := 0 } : Room).cells ({ frames := 0, cells := 0, slots := 0, locals := 0 } : Room).slots) := by
  refine MetFree.of_bodySF (plainFor_of_name pn_3) hisR ?_
  intro p e s m args below meth c s₁ Bd hml0 hP hK
  obtain ⟨rfl, hZ, hh⟩ := hP
  have hx := Bd.exec
  have hby := Bd.bytes
  have hml : c.maxLocals = 1 := hml0
  have hown : s.vm.findClass "java/lang/Character" = some m.cls := findClass_of_methodNamed Bd.named
  have hnm := (name_of_methodNamed Bd.named Bd.method).1
  have X0 : Stand p l e ({ frames := 0, cells := 0, slots := 0, locals := 0 } : Room) s m #[(.int p1)] below meth c s₁ [] 0 0 := Stand.of_body Bd
  have e0 : s₁.heap = h0 := by rw [← hh, Bd.state]; rfl
  have N0 := Fr.nil n0
  have pre0 : ∀ t_, Steps p.tables e below (s₁.setTop (mkF m 0 #[.val (.int p1)] [])) t_ → Steps p.tables e below (s₁.setTop (entryFrame m #[(.int p1)] 1)) t_ := fun t_ k_ => castTop (ef_rmN2 m p1) k_
  have pre101 : ∀ t_, Steps p.tables e below (s₁.setTop (mkF m 11 #[.val (.int p1)] [(.int (2 : Int32))])) t_ → Steps p.tables e below (s₁.setTop (entryFrame m #[(.int p1)] 1)) t_ := fun t_ k_ => pre0 _ (by
    show Steps p.tables e below (s₁.setTop (mkF m 0 #[.val (.int p1)] [])) _
    refine XS.iloadN X0.here hx rfl (hb hby d24_0) rfl ?_
    show Steps p.tables e below (s₁.setTop (mkF m 1 #[.val (.int p1)] [(.int p1)])) _
    refine X0.ldcInt hx hown (mvT hZ (hw _ (List.mem_of_getElem? (i := 111) rfl))) (g := (mkF m 1 #[.val (.int p1)] [(.int p1)])) rfl (hb hby d24_1) _ ?_
    show Steps p.tables e below (s₁.setTop (mkF m 3 #[.val (.int p1)] [(.int (65536 : Int32)), (.int p1)])) _
    refine XS.icmpNo X0.here hx rfl (hb hby d24_3) rfl (flt H).1 ?_
    show Steps p.tables e below (s₁.setTop (mkF m 6 #[.val (.int p1)] [])) _
    refine XS.iconst X0.here hx rfl (hb hby d24_6) ?_
    show Steps p.tables e below (s₁.setTop (mkF m 7 #[.val (.int p1)] [(.int (2 : Int32))])) _
    refine XS.goto X0.here hx rfl (pc0 := 7) (pc' := 11) rfl (hb hby d24_7) (by decide) (by decide) ?_
    exact k_)
  obtain ⟨fs, hr, hrun, hended, hW, hsame⟩ := X0.leave (v := some (.int (2 : Int32))) (fun h => by rw [Bd.returns] at h; cases h)
  refine ⟨_, _, pre101 _ ?_, hrun, hended, _, _, rfl, ?_, ⟨_, rfl⟩, hW, hsame.mono (by decide) (by decide)⟩
  · show Steps p.tables e below (s₁.setTop (mkF m 11 #[.val (.int p1)] [(.int (2 : Int32))])) _
    exact retI X0 hx Bd.returns (hb hby d24_11) hr
  · show QrmN2 Z p1 h0 n0 _ s₁.heap _
    rw [e0]
    exact ⟨rfl, N0, rfl⟩
theorem d26_0 : decode jdk_89_method_19_code 0 = .ok (.iload_n 0, 1) := by decide +kernel
theorem d26_1 : decode jdk_89_method_19_code 1 = .ok (.bipush 10, 2) := by decide +kernel
theorem d26_3 : decode jdk_89_method_19_code 3 = .ok (.ishl, 1) := by decide +kernel
theorem d26_4 : decode jdk_89_method_19_code 4 = .ok (.iload_n 1, 1) := by decide +kernel
theorem d26_5 : decode jdk_89_method_19_code 5 = .ok (.iadd, 1) := by decide +kernel
theorem d26_6 : decode jdk_89_method_19_code 6 = .ok (.ldc 85, 2) := by decide +kernel
theorem d26_8 : decode jdk_89_method_19_code 8 = .ok (.iadd, 1) := by decide +kernel
theorem d26_9 : decode jdk_89_method_19_code 9 = .ok (.ireturn, 1) := by decide +kernel
theorem ef_rmTC (m : MethodId) (x0 : Int32) (x1 : Int32) : entryFrame m #[(.int x0), (.int x1)] 2 = mkF m 0 #[.val (.int x0), .val (.int x1)] [] := by first | (simp [entryFrame, mkF, argsToLocals, Value.category]; done) | rfl
def QrmTC (Z : State) (p1 : Int32) (p2 : Int32) (h0 : Heap) (n0 : Nat) (v : Option Value) (h : Heap) (L : List Loc) : Prop := v = some (.int (own_cp p1 p2)) ∧ Fr n0 L ∧ h = h0
set_option maxRecDepth 65536 in
set_option maxHeartbeats 40000000 in
theorem rmTC (l : Launch) (Z : State) (a0 : Array Value) (hw : ∀ d ∈ tables_1, d.before a0 Z = true) (ws : List Jvm.Cond) (p1 : Int32) (p2 : Int32) (h0 : Heap) (n0 : Nat) (Z0 : n0 ≤ h0.size) :
    MetFree l (⟨"java/lang/Character", "toCodePoint", "(CC)I"⟩ : MethodName) (head1 (Jvm.Cond.code (⟨"java/lang/Character", "toCodePoint", "(CC)I"⟩ : MethodName) jdk_89_method_19_code 2 (some .int) :: ws) ({ frames := 0, cells := 0, slots := 0, locals := 0 } : Room)) (fun a U => a = #[(.int p1), (.int p2)] ∧ Z.Warmed39 U.vm ∧ U.heap = h0) (fun _ _ _ _ _ => True) (fun _ U o U' => ∃ v L, o = .returned v ∧ QrmTC Z p1 p2 h0 n0 v U'.heap L ∧ FrameEnd U o U' L ({ frames := 0, cells := 0, slots := 0, locals := 0 } : Room).cells ({ frames := 0, cells := 0, slots := 0, locals := 0 } : Room).slots) := by
  refine MetFree.of_bodySF (plainFor_of_name pn_3) hisR ?_
  intro p e s m args below meth c s₁ Bd hml0 hP hK
  obtain ⟨rfl, hZ, hh⟩ := hP
  have hx := Bd.exec
  have hby := Bd.bytes
  have hml : c.maxLocals = 2 := hml0
  have hown : s.vm.findClass "java/lang/Character" = some m.cls := findClass_of_methodNamed Bd.named
  have hnm := (name_of_methodNamed Bd.named Bd.method).1
  have X0 : Stand p l e ({ frames := 0, cells := 0, slots := 0, locals := 0 } : Room) s m #[(.int p1), (.int p2)] below meth c s₁ [] 0 0 := Stand.of_body Bd
  have e0 : s₁.heap = h0 := by rw [← hh, Bd.state]; rfl
  have N0 := Fr.nil n0
  have pre0 : ∀ t_, Steps p.tables e below (s₁.setTop (mkF m 0 #[.val (.int p1), .val (.int p2)] [])) t_ → Steps p.tables e below (s₁.setTop (entryFrame m #[(.int p1), (.int p2)] 2)) t_ := fun t_ k_ => castTop (ef_rmTC m p1 p2) k_
  have pre101 : ∀ t_, Steps p.tables e below (s₁.setTop (mkF m 9 #[.val (.int p1), .val (.int p2)] [(.int (((p1 <<< ((10 : Int32) &&& 31)) + p2) + (-56613888 : Int32)))])) t_ → Steps p.tables e below (s₁.setTop (entryFrame m #[(.int p1), (.int p2)] 2)) t_ := fun t_ k_ => pre0 _ (by
    show Steps p.tables e below (s₁.setTop (mkF m 0 #[.val (.int p1), .val (.int p2)] [])) _
    refine XS.iloadN X0.here hx rfl (hb hby d26_0) rfl ?_
    show Steps p.tables e below (s₁.setTop (mkF m 1 #[.val (.int p1), .val (.int p2)] [(.int p1)])) _
    refine XS.bipush X0.here hx rfl (hb hby d26_1) ?_
    show Steps p.tables e below (s₁.setTop (mkF m 3 #[.val (.int p1), .val (.int p2)] [(.int (10 : Int32)), (.int p1)])) _
    refine XS.ishl X0.here hx rfl (hb hby d26_3) rfl ?_
    show Steps p.tables e below (s₁.setTop (mkF m 4 #[.val (.int p1), .val (.int p2)] [(.int (p1 <<< ((10 : Int32) &&& 31)))])) _
    refine XS.iloadN X0.here hx rfl (hb hby d26_4) rfl ?_
    show Steps p.tables e below (s₁.setTop (mkF m 5 #[.val (.int p1), .val (.int p2)] [(.int p2), (.int (p1 <<< ((10 : Int32) &&& 31)))])) _
    refine XS.iadd X0.here hx rfl (hb hby d26_5) rfl ?_
    show Steps p.tables e below (s₁.setTop (mkF m 6 #[.val (.int p1), .val (.int p2)] [(.int ((p1 <<< ((10 : Int32) &&& 31)) + p2))])) _
    refine X0.ldcInt hx hown (mvT hZ (hw _ (List.mem_of_getElem? (i := 120) rfl))) (g := (mkF m 6 #[.val (.int p1), .val (.int p2)] [(.int ((p1 <<< ((10 : Int32) &&& 31)) + p2))])) rfl (hb hby d26_6) _ ?_
    show Steps p.tables e below (s₁.setTop (mkF m 8 #[.val (.int p1), .val (.int p2)] [(.int (-56613888 : Int32)), (.int ((p1 <<< ((10 : Int32) &&& 31)) + p2))])) _
    refine XS.iadd X0.here hx rfl (hb hby d26_8) rfl ?_
    exact k_)
  obtain ⟨fs, hr, hrun, hended, hW, hsame⟩ := X0.leave (v := some (.int (((p1 <<< ((10 : Int32) &&& 31)) + p2) + (-56613888 : Int32)))) (fun h => by rw [Bd.returns] at h; cases h)
  refine ⟨_, _, pre101 _ ?_, hrun, hended, _, _, rfl, ?_, ⟨_, rfl⟩, hW, hsame.mono (by decide) (by decide)⟩
  · show Steps p.tables e below (s₁.setTop (mkF m 9 #[.val (.int p1), .val (.int p2)] [(.int (((p1 <<< ((10 : Int32) &&& 31)) + p2) + (-56613888 : Int32)))])) _
    exact retI X0 hx Bd.returns (hb hby d26_9) hr
  · show QrmTC Z p1 p2 h0 n0 _ s₁.heap _
    rw [e0]
    exact ⟨rfl, N0, rfl⟩
theorem pd_10 : parseMethodDescriptor "(C)Z" = some ⟨[.char], some .boolean⟩ := by decide +kernel
theorem d22_0 : decode jdk_52_method_7_code 0 = .ok (.getstatic 44, 3) := by decide +kernel
theorem d22_3 : decode jdk_52_method_7_code 3 = .ok (.ifCond .ne 16, 3) := by decide +kernel
theorem d22_19 : decode jdk_52_method_7_code 19 = .ok (.iload_n 3, 1) := by decide +kernel
theorem d22_20 : decode jdk_52_method_7_code 20 = .ok (.ifCond .eq 8, 3) := by decide +kernel
theorem d22_28 : decode jdk_52_method_7_code 28 = .ok (.aload_n 0, 1) := by decide +kernel
theorem d22_29 : decode jdk_52_method_7_code 29 = .ok (.iload_n 1, 1) := by decide +kernel
theorem d22_30 : decode jdk_52_method_7_code 30 = .ok (.invokestatic 71, 3) := by decide +kernel
theorem d22_33 : decode jdk_52_method_7_code 33 = .ok (.istore 4, 2) := by decide +kernel
theorem d22_35 : decode jdk_52_method_7_code 35 = .ok (.iload 4, 2) := by decide +kernel
theorem d22_37 : decode jdk_52_method_7_code 37 = .ok (.invokestatic 75, 3) := by decide +kernel
theorem d22_40 : decode jdk_52_method_7_code 40 = .ok (.ifCond .eq 43, 3) := by decide +kernel
theorem d22_83 : decode jdk_52_method_7_code 83 = .ok (.iload 4, 2) := by decide +kernel
theorem d22_85 : decode jdk_52_method_7_code 85 = .ok (.ireturn, 1) := by decide +kernel
theorem ef_rmU1 (m : MethodId) (x0 : Addr) (x1 : Int32) (x2 : Int32) (x3 : Int32) : entryFrame m #[(.ref x0), (.int x1), (.int x2), (.int x3)] 6 = mkF m 0 #[.val (.ref x0), .val (.int x1), .val (.int x2), .val (.int x3), .unset, .unset] [] := by first | (simp [entryFrame, mkF, argsToLocals, Value.category]; done) | rfl
def QrmU1 (Z : State) (a1 : Addr) (kN : Nat) (nN : Nat) (g : Nat → Int32) (h0 : Heap) (n0 : Nat) (v : Option Value) (h : Heap) (L : List Loc) : Prop := v = some (.int (g kN)) ∧ Fr n0 L ∧ h = h0
set_option maxRecDepth 65536 in
set_option maxHeartbeats 40000000 in
theorem rmU1 (l : Launch) (Z : State) (a0 : Array Value) (hw : ∀ d ∈ tables_1, d.before a0 Z = true) (ws : List Jvm.Cond) (a1 : Addr) (kN : Nat) (nN : Nat) (g : Nat → Int32) (h0 : Heap) (n0 : Nat) (Z0 : n0 ≤ h0.size) (S_a : Sta Z Z.heap "java/lang/StringUTF16" "$assertionsDisabled" "Z" (.int (1 : Int32))) (S_h : Sta Z Z.heap "java/lang/StringUTF16" "HI_BYTE_SHIFT" "I" (.int (0 : Int32))) (S_l : Sta Z Z.heap "java/lang/StringUTF16" "LO_BYTE_SHIFT" "I" (.int (8 : Int32))) (O : Old Z n0 h0) (b1 : nN ≤ 6) (b2 : kN < nN) (rg : own_rng nN g) (V : own_Af Z h0 a1 .byte (2 * nN) (own_b16 g)) (H1 : own_one (g kN)) :
    MetFree l (⟨"java/lang/StringUTF16", "codePointAt", "([BIIZ)I"⟩ : MethodName) (head1 (Jvm.Cond.code (⟨"java/lang/StringUTF16", "codePointAt", "([BIIZ)I"⟩ : MethodName) jdk_52_method_7_code 6 (some .int) :: ws) ({ frames := 1, cells := 0, slots := 0, locals := 13 } : Room)) (fun a U => a = #[(.ref a1), (.int (Int32.ofNat kN)), (.int (Int32.ofNat nN)), (.int (0 : Int32))] ∧ Z.Warmed39 U.vm ∧ U.heap = h0) (fun _ _ _ _ _ => True) (fun _ U o U' => ∃ v L, o = .returned v ∧ QrmU1 Z a1 kN nN g h0 n0 v U'.heap L ∧ FrameEnd U o U' L ({ frames := 1, cells := 0, slots := 0, locals := 13 } : Room).cells ({ frames := 1, cells := 0, slots := 0, locals := 13 } : Room).slots) := by
  refine MetFree.of_bodySF (plainFor_of_name pn_0) hisR ?_
  intro p e s m args below meth c s₁ Bd hml0 hP hK
  obtain ⟨rfl, hZ, hh⟩ := hP
  have hx := Bd.exec
  have hby := Bd.bytes
  have hml : c.maxLocals = 6 := hml0
  have hown : s.vm.findClass "java/lang/StringUTF16" = some m.cls := findClass_of_methodNamed Bd.named
  have hnm := (name_of_methodNamed Bd.named Bd.method).1
  have X0 : Stand p l e ({ frames := 1, cells := 0, slots := 0, locals := 13 } : Room) s m #[(.ref a1), (.int (Int32.ofNat kN)), (.int (Int32.ofNat nN)), (.int (0 : Int32))] below meth c s₁ [] 0 0 := Stand.of_body Bd
  have e0 : s₁.heap = h0 := by rw [← hh, Bd.state]; rfl
  have N0 := Fr.nil n0
  have pre0 : ∀ t_, Steps p.tables e below (s₁.setTop (mkF m 0 #[.val (.ref a1), .val (.int (Int32.ofNat kN)), .val (.int (Int32.ofNat nN)), .val (.int (0 : Int32)), .unset, .unset] [])) t_ → Steps p.tables e below (s₁.setTop (entryFrame m #[(.ref a1), (.int (Int32.ofNat kN)), (.int (Int32.ofNat nN)), (.int (0 : Int32))] 6)) t_ := fun t_ k_ => castTop (ef_rmU1 m a1 ((Int32.ofNat kN)) ((Int32.ofNat nN)) ((0 : Int32))) k_
  obtain ⟨T101, X101, e101, st101⟩ := getS2 X0 hx hZ hown (host := "") (Or.inl (hw _ (List.mem_of_getElem? (i := 69) rfl))) Via.refl e0 (S_a.ext O.2) (g := (mkF m 0 #[.val (.ref a1), .val (.int (Int32.ofNat kN)), .val (.int (Int32.ofNat nN)), .val (.int (0 : Int32)), .unset, .unset] [])) rfl (hb hby d22_0)
  obtain ⟨_, _, ⟨T102, L102, k102, n102⟩, -, X102, ⟨Lc102, hQ102, l102, y102, z102⟩, st102⟩ := Jvm.LawKit.callS X101 hx (y := (⟨"java/lang/StringUTF16", "getChar", "([BI)C"⟩ : MethodName)) hown (mvT hZ (hw _ (List.mem_of_getElem? (i := 72) rfl))) (mvT hZ (hw _ (List.mem_of_getElem? (i := 73) rfl))) (mvT hZ (hw _ (List.mem_of_getElem? (i := 51) rfl))) (mvT hZ (hw _ (List.mem_of_getElem? (i := 74) rfl))) (by decide) (backOf (W := 0) (rmGC l Z a0 hw [] a1 kN nN g h0 n0 Z0 S_a S_h S_l O b1 b2 (rg kN b2) V) hZ (hw _ (List.mem_of_getElem? (i := 74) rfl)) (hw _ (List.mem_of_getElem? (i := 51) rfl)) (by decide) (by decide)) (g := (mkF m 30 #[.val (.ref a1), .val (.int (Int32.ofNat kN)), .val (.int (Int32.ofNat nN)), .val (.int (0 : Int32)), .unset, .unset] [(.int (Int32.ofNat kN)), (.ref a1)])) rfl (by rw [hml]; rfl) (argsL := [(.ref a1), (.int (Int32.ofNat kN))]) (rest := []) (lenOf pd_5 rfl) rfl (by show 2 * 0 + _ ≤ _; exact Nat.le_of_eq rfl) (hb hby d22_30) (fun _ _ => ⟨rfl, e101, (by decide : 0 + 0 ≤ _), (by decide : 0 + 0 ≤ _)⟩)
  dsimp only [Pt.U, Pt.locs, Pt.cells, Pt.slots] at X102 l102 y102 z102 st102 hQ102
  subst l102 y102 z102
  obtain ⟨rfl, N102q, e102⟩ := hQ102
  have N102 := Fr.app N0 N102q
  obtain ⟨_, _, ⟨T103, L103, k103, n103⟩, -, X103, ⟨Lc103, hQ103, l103, y103, z103⟩, st103⟩ := Jvm.LawKit.callS X102 hx (y := (⟨"java/lang/Character", "isHighSurrogate", "(C)Z"⟩ : MethodName)) hown (mvT hZ (hw _ (List.mem_of_getElem? (i := 102) rfl))) (mvT hZ (hw _ (List.mem_of_getElem? (i := 103) rfl))) (mvT hZ (hw _ (List.mem_of_getElem? (i := 104) rfl))) (mvT hZ (hw _ (List.mem_of_getElem? (i := 105) rfl))) (by decide) (backOf (W := 0) (rmH0 l Z a0 hw [] (g kN) h0 n0 Z0 H1) hZ (hw _ (List.mem_of_getElem? (i := 105) rfl)) (hw _ (List.mem_of_getElem? (i := 104) rfl)) (by decide) (by decide)) (g := (mkF m 37 #[.val (.ref a1), .val (.int (Int32.ofNat kN)), .val (.int (Int32.ofNat nN)), .val (.int (0 : Int32)), .val (.int (g kN)), .unset] [(.int (g kN))])) rfl (by rw [hml]; rfl) (argsL := [(.int (g kN))]) (rest := []) (lenOf pd_10 rfl) rfl (by show 2 * 0 + _ ≤ _; exact Nat.le_of_eq rfl) (hb hby d22_37) (fun _ _ => ⟨rfl, e102, (by decide : 0 + 0 ≤ _), (by decide : 0 + 0 ≤ _)⟩)
  dsimp only [Pt.U, Pt.locs, Pt.cells, Pt.slots] at X103 l103 y103 z103 st103 hQ103
  subst l103 y103 z103
  obtain ⟨rfl, N103q, e103⟩ := hQ103
  have N103 := Fr.app N102 N103q
  have pre104 : ∀ t_, Steps p.tables e below (T103.setTop (mkF m 85 #[.val (.ref a1), .val (.int (Int32.ofNat kN)), .val (.int (Int32.ofNat nN)), .val (.int (0 : Int32)), .val (.int (g kN)), .unset] [(.int (g kN))])) t_ → Steps p.tables e below (s₁.setTop (entryFrame m #[(.ref a1), (.int (Int32.ofNat kN)), (.int (Int32.ofNat nN)), (.int (0 : Int32))] 6)) t_ := fun t_ k_ => pre0 _ (by
    show Steps p.tables e below (s₁.setTop (mkF m 0 #[.val (.ref a1), .val (.int (Int32.ofNat kN)), .val (.int (Int32.ofNat nN)), .val (.int (0 : Int32)), .unset, .unset] [])) _
    refine st101 _ ?_
    show Steps p.tables e below (T101.setTop (mkF m 3 #[.val (.ref a1), .val (.int (Int32.ofNat kN)), .val (.int (Int32.ofNat nN)), .val (.int (0 : Int32)), .unset, .unset] [(.int (1 : Int32))])) _
    refine XS.ifYes X101.here hx rfl (pc0 := 3) (pc' := 19) rfl (hb hby d22_3) rfl ((if0 _ _).trans (feq (by decide : ¬ (1 : Int32) = 0)).2) (by decide) (by decide) ?_
    show Steps p.tables e below (T101.setTop (mkF m 19 #[.val (.ref a1), .val (.int (Int32.ofNat kN)), .val (.int (Int32.ofNat nN)), .val (.int (0 : Int32)), .unset, .unset] [])) _
    refine XS.iloadN X101.here hx rfl (hb hby d22_19) rfl ?_
    show Steps p.tables e below (T101.setTop (mkF m 20 #[.val (.ref a1), .val (.int (Int32.ofNat kN)), .val (.int (Int32.ofNat nN)), .val (.int (0 : Int32)), .unset, .unset] [(.int (0 : Int32))])) _
    refine XS.ifYes X101.here hx rfl (pc0 := 20) (pc' := 28) rfl (hb hby d22_20) rfl ((if0 _ _).trans (teq (rfl : (0 : Int32) = 0)).1) (by decide) (by decide) ?_
    show Steps p.tables e below (T101.setTop (mkF m 28 #[.val (.ref a1), .val (.int (Int32.ofNat kN)), .val (.int (Int32.ofNat nN)), .val (.int (0 : Int32)), .unset, .unset] [])) _
    refine XS.aloadN X101.here hx rfl (hb hby d22_28) rfl rfl ?_
    show Steps p.tables e below (T101.setTop (mkF m 29 #[.val (.ref a1), .val (.int (Int32.ofNat kN)), .val (.int (Int32.ofNat nN)), .val (.int (0 : Int32)), .unset, .unset] [(.ref a1)])) _
    refine XS.iloadN X101.here hx rfl (hb hby d22_29) rfl ?_
    show Steps p.tables e below (T101.setTop (mkF m 30 #[.val (.ref a1), .val (.int (Int32.ofNat kN)), .val (.int (Int32.ofNat nN)), .val (.int (0 : Int32)), .unset, .unset] [(.int (Int32.ofNat kN)), (.ref a1)])) _
    refine st102 _ ?_
    show Steps p.tables e below (T102.setTop (mkF m 33 #[.val (.ref a1), .val (.int (Int32.ofNat kN)), .val (.int (Int32.ofNat nN)), .val (.int (0 : Int32)), .unset, .unset] [(.int (g kN))])) _
    refine XS.istore X102.here hx rfl (hb hby d22_33) rfl (l' := #[.val (.ref a1), .val (.int (Int32.ofNat kN)), .val (.int (Int32.ofNat nN)), .val (.int (0 : Int32)), .val (.int (g kN)), .unset]) rfl ?_
    show Steps p.tables e below (T102.setTop (mkF m 35 #[.val (.ref a1), .val (.int (Int32.ofNat kN)), .val (.int (Int32.ofNat nN)), .val (.int (0 : Int32)), .val (.int (g kN)), .unset] [])) _
    refine XS.iload X102.here hx rfl (hb hby d22_35) rfl ?_
    show Steps p.tables e below (T102.setTop (mkF m 37 #[.val (.ref a1), .val (.int (Int32.ofNat kN)), .val (.int (Int32.ofNat nN)), .val (.int (0 : Int32)), .val (.int (g kN)), .unset] [(.int (g kN))])) _
    refine st103 _ ?_
    show Steps p.tables e below (T103.setTop (mkF m 40 #[.val (.ref a1), .val (.int (Int32.ofNat kN)), .val (.int (Int32.ofNat nN)), .val (.int (0 : Int32)), .val (.int (g kN)), .unset] [(.int (0 : Int32))])) _
    refine XS.ifYes X103.here hx rfl (pc0 := 40) (pc' := 83) rfl (hb hby d22_40) rfl ((if0 _ _).trans (teq (rfl : (0 : Int32) = 0)).1) (by decide) (by decide) ?_
    show Steps p.tables e below (T103.setTop (mkF m 83 #[.val (.ref a1), .val (.int (Int32.ofNat kN)), .val (.int (Int32.ofNat nN)), .val (.int (0 : Int32)), .val (.int (g kN)), .unset] [])) _
    refine XS.iload X103.here hx rfl (hb hby d22_83) rfl ?_
    exact k_)
  obtain ⟨fs, hr, hrun, hended, hW, hsame⟩ := X103.leave (v := some (.int (g kN))) (fun h => by rw [Bd.returns] at h; cases h)
  refine ⟨_, _, pre104 _ ?_, hrun, hended, _, _, rfl, ?_, ⟨_, rfl⟩, hW, hsame.mono (by decide) (by decide)⟩
  · show Steps p.tables e below (T103.setTop (mkF m 85 #[.val (.ref a1), .val (.int (Int32.ofNat kN)), .val (.int (Int32.ofNat nN)), .val (.int (0 : Int32)), .val (.int (g kN)), .unset] [(.int (g kN))])) _
    exact retI X103 hx Bd.returns (hb hby d22_85) hr
  · show QrmU1 Z a1 kN nN g h0 n0 _ T103.heap _
    rw [e103]
    exact ⟨rfl, N103, rfl⟩
theorem pd_11 : parseMethodDescriptor "(CC)I" = some ⟨[.char, .char], some .int⟩ := by decide +kernel
theorem d22_43 : decode jdk_52_method_7_code 43 = .ok (.iinc 1 1, 3) := by decide +kernel
theorem d22_46 : decode jdk_52_method_7_code 46 = .ok (.iload_n 1, 1) := by decide +kernel
theorem d22_47 : decode jdk_52_method_7_code 47 = .ok (.iload_n 2, 1) := by decide +kernel
theorem d22_48 : decode jdk_52_method_7_code 48 = .ok (.if_icmp .ge 35, 3) := by decide +kernel
theorem d22_51 : decode jdk_52_method_7_code 51 = .ok (.iload_n 3, 1) := by decide +kernel
theorem d22_52 : decode jdk_52_method_7_code 52 = .ok (.ifCond .eq 8, 3) := by decide +kernel
theorem d22_60 : decode jdk_52_method_7_code 60 = .ok (.aload_n 0, 1) := by decide +kernel
theorem d22_61 : decode jdk_52_method_7_code 61 = .ok (.iload_n 1, 1) := by decide +kernel
theorem d22_62 : decode jdk_52_method_7_code 62 = .ok (.invokestatic 71, 3) := by decide +kernel
theorem d22_65 : decode jdk_52_method_7_code 65 = .ok (.istore 5, 2) := by decide +kernel
theorem d22_67 : decode jdk_52_method_7_code 67 = .ok (.iload 5, 2) := by decide +kernel
theorem d22_69 : decode jdk_52_method_7_code 69 = .ok (.invokestatic 81, 3) := by decide +kernel
theorem d22_72 : decode jdk_52_method_7_code 72 = .ok (.ifCond .eq 11, 3) := by decide +kernel
theorem d22_75 : decode jdk_52_method_7_code 75 = .ok (.iload 4, 2) := by decide +kernel
theorem d22_77 : decode jdk_52_method_7_code 77 = .ok (.iload 5, 2) := by decide +kernel
theorem d22_79 : decode jdk_52_method_7_code 79 = .ok (.invokestatic 84, 3) := by decide +kernel
theorem d22_82 : decode jdk_52_method_7_code 82 = .ok (.ireturn, 1) := by decide +kernel
theorem ef_rmU2 (m : MethodId) (x0 : Addr) (x1 : Int32) (x2 : Int32) (x3 : Int32) : entryFrame m #[(.ref x0), (.int x1), (.int x2), (.int x3)] 6 = mkF m 0 #[.val (.ref x0), .val (.int x1), .val (.int x2), .val (.int x3), .unset, .unset] [] := by first | (simp [entryFrame, mkF, argsToLocals, Value.category]; done) | rfl
def QrmU2 (Z : State) (a1 : Addr) (kN : Nat) (nN : Nat) (g : Nat → Int32) (h0 : Heap) (n0 : Nat) (v : Option Value) (h : Heap) (L : List Loc) : Prop := v = some (.int (own_cp (g kN) (g (kN + 1)))) ∧ Fr n0 L ∧ h = h0
set_option maxRecDepth 65536 in
set_option maxHeartbeats 40000000 in
theorem rmU2 (l : Launch) (Z : State) (a0 : Array Value) (hw : ∀ d ∈ tables_1, d.before a0 Z = true) (ws : List Jvm.Cond) (a1 : Addr) (kN : Nat) (nN : Nat) (g : Nat → Int32) (h0 : Heap) (n0 : Nat) (Z0 : n0 ≤ h0.size) (S_a : Sta Z Z.heap "java/lang/StringUTF16" "$assertionsDisabled" "Z" (.int (1 : Int32))) (S_h : Sta Z Z.heap "java/lang/StringUTF16" "HI_BYTE_SHIFT" "I" (.int (0 : Int32))) (S_l : Sta Z Z.heap "java/lang/StringUTF16" "LO_BYTE_SHIFT" "I" (.int (8 : Int32))) (O : Old Z n0 h0) (b1 : nN ≤ 6) (b2 : kN < nN) (rg : own_rng nN g) (V : own_Af Z h0 a1 .byte (2 * nN) (own_b16 g)) (b3 : kN + 1 < nN) (H1 : own_hi (g kN)) (H2 : own_lo (g (kN + 1))) :
    MetFree l (⟨"java/lang/StringUTF16", "codePointAt", "([BIIZ)I"⟩ : MethodName) (head1 (Jvm.Cond.code (⟨"java/lang/StringUTF16", "codePointAt", "([BIIZ)I"⟩ : MethodName) jdk_52_method_7_code 6 (some .int) :: ws) ({ frames := 1, cells := 0, slots := 0, locals := 13 } : Room)) (fun a U => a = #[(.ref a1), (.int (Int32.ofNat kN)), (.int (Int32.ofNat nN)), (.int (0 : Int32))] ∧ Z.Warmed39 U.vm ∧ U.heap = h0) (fun _ _ _ _ _ => True) (fun _ U o U' => ∃ v L, o = .returned v ∧ QrmU2 Z a1 kN nN g h0 n0 v U'.heap L ∧ FrameEnd U o U' L ({ frames := 1, cells := 0, slots := 0, locals := 13 } : Room).cells ({ frames := 1, cells := 0, slots := 0, locals := 13 } : Room).slots) := by
  refine MetFree.of_bodySF (plainFor_of_name pn_0) hisR ?_
  intro p e s m args below meth c s₁ Bd hml0 hP hK
  obtain ⟨rfl, hZ, hh⟩ := hP
  have hx := Bd.exec
  have hby := Bd.bytes
  have hml : c.maxLocals = 6 := hml0
  have hown : s.vm.findClass "java/lang/StringUTF16" = some m.cls := findClass_of_methodNamed Bd.named
  have hnm := (name_of_methodNamed Bd.named Bd.method).1
  have X0 : Stand p l e ({ frames := 1, cells := 0, slots := 0, locals := 13 } : Room) s m #[(.ref a1), (.int (Int32.ofNat kN)), (.int (Int32.ofNat nN)), (.int (0 : Int32))] below meth c s₁ [] 0 0 := Stand.of_body Bd
  have e0 : s₁.heap = h0 := by rw [← hh, Bd.state]; rfl
  have N0 := Fr.nil n0
  have pre0 : ∀ t_, Steps p.tables e below (s₁.setTop (mkF m 0 #[.val (.ref a1), .val (.int (Int32.ofNat kN)), .val (.int (Int32.ofNat nN)), .val (.int (0 : Int32)), .unset, .unset] [])) t_ → Steps p.tables e below (s₁.setTop (entryFrame m #[(.ref a1), (.int (Int32.ofNat kN)), (.int (Int32.ofNat nN)), (.int (0 : Int32))] 6)) t_ := fun t_ k_ => castTop (ef_rmU2 m a1 ((Int32.ofNat kN)) ((Int32.ofNat nN)) ((0 : Int32))) k_
  obtain ⟨T101, X101, e101, st101⟩ := getS2 X0 hx hZ hown (host := "") (Or.inl (hw _ (List.mem_of_getElem? (i := 69) rfl))) Via.refl e0 (S_a.ext O.2) (g := (mkF m 0 #[.val (.ref a1), .val (.int (Int32.ofNat kN)), .val (.int (Int32.ofNat nN)), .val (.int (0 : Int32)), .unset, .unset] [])) rfl (hb hby d22_0)
  obtain ⟨_, _, ⟨T102, L102, k102, n102⟩, -, X102, ⟨Lc102, hQ102, l102, y102, z102⟩, st102⟩ := Jvm.LawKit.callS X101 hx (y := (⟨"java/lang/StringUTF16", "getChar", "([BI)C"⟩ : MethodName)) hown (mvT hZ (hw _ (List.mem_of_getElem? (i := 72) rfl))) (mvT hZ (hw _ (List.mem_of_getElem? (i := 73) rfl))) (mvT hZ (hw _ (List.mem_of_getElem? (i := 51) rfl))) (mvT hZ (hw _ (List.mem_of_getElem? (i := 74) rfl))) (by decide) (backOf (W := 0) (rmGC l Z a0 hw [] a1 kN nN g h0 n0 Z0 S_a S_h S_l O b1 b2 (rg kN b2) V) hZ (hw _ (List.mem_of_getElem? (i := 74) rfl)) (hw _ (List.mem_of_getElem? (i := 51) rfl)) (by decide) (by decide)) (g := (mkF m 30 #[.val (.ref a1), .val (.int (Int32.ofNat kN)), .val (.int (Int32.ofNat nN)), .val (.int (0 : Int32)), .unset, .unset] [(.int (Int32.ofNat kN)), (.ref a1)])) rfl (by rw [hml]; rfl) (argsL := [(.ref a1), (.int (Int32.ofNat kN))]) (rest := []) (lenOf pd_5 rfl) rfl (by show 2 * 0 + _ ≤ _; exact Nat.le_of_eq rfl) (hb hby d22_30) (fun _ _ => ⟨rfl, e101, (by decide : 0 + 0 ≤ _), (by decide : 0 + 0 ≤ _)⟩)
  dsimp only [Pt.U, Pt.locs, Pt.cells, Pt.slots] at X102 l102 y102 z102 st102 hQ102
  subst l102 y102 z102
  obtain ⟨rfl, N102q, e102⟩ := hQ102
  have N102 := Fr.app N0 N102q
  obtain ⟨_, _, ⟨T103, L103, k103, n103⟩, -, X103, ⟨Lc103, hQ103, l103, y103, z103⟩, st103⟩ := Jvm.LawKit.callS X102 hx (y := (⟨"java/lang/Character", "isHighSurrogate", "(C)Z"⟩ : MethodName)) hown (mvT hZ (hw _ (List.mem_of_getElem? (i := 102) rfl))) (mvT hZ (hw _ (List.mem_of_getElem? (i := 103) rfl))) (mvT hZ (hw _ (List.mem_of_getElem? (i := 104) rfl))) (mvT hZ (hw _ (List.mem_of_getElem? (i := 105) rfl))) (by decide) (backOf (W := 0) (rmH1 l Z a0 hw [] (g kN) h0 n0 Z0 H1) hZ (hw _ (List.mem_of_getElem? (i := 105) rfl)) (hw _ (List.mem_of_getElem? (i := 104) rfl)) (by decide) (by decide)) (g := (mkF m 37 #[.val (.ref a1), .val (.int (Int32.ofNat kN)), .val (.int (Int32.ofNat nN)), .val (.int (0 : Int32)), .val (.int (g kN)), .unset] [(.int (g kN))])) rfl (by rw [hml]; rfl) (argsL := [(.int (g kN))]) (rest := []) (lenOf pd_10 rfl) rfl (by show 2 * 0 + _ ≤ _; exact Nat.le_of_eq rfl) (hb hby d22_37) (fun _ _ => ⟨rfl, e102, (by decide : 0 + 0 ≤ _), (by decide : 0 + 0 ≤ _)⟩)
  dsimp only [Pt.U, Pt.locs, Pt.cells, Pt.slots] at X103 l103 y103 z103 st103 hQ103
  subst l103 y103 z103
  obtain ⟨rfl, N103q, e103⟩ := hQ103
  have N103 := Fr.app N102 N103q
  obtain ⟨kk, hv_kk, pre104⟩ : ∃ z_ : Int32, z_ = ((Int32.ofNat kN) + (1 : Int32)) ∧ ∀ t_, Steps p.tables e below (T103.setTop (mkF m 46 #[.val (.ref a1), .val (.int z_), .val (.int (Int32.ofNat nN)), .val (.int (0 : Int32)), .val (.int (g kN)), .unset] [])) t_ → Steps p.tables e below (s₁.setTop (entryFrame m #[(.ref a1), (.int (Int32.ofNat kN)), (.int (Int32.ofNat nN)), (.int (0 : Int32))] 6)) t_ := ⟨_, rfl, fun t_ k_ => pre0 _ (by
    show Steps p.tables e below (s₁.setTop (mkF m 0 #[.val (.ref a1), .val (.int (Int32.ofNat kN)), .val (.int (Int32.ofNat nN)), .val (.int (0 : Int32)), .unset, .unset] [])) _
    refine st101 _ ?_
    show Steps p.tables e below (T101.setTop (mkF m 3 #[.val (.ref a1), .val (.int (Int32.ofNat kN)), .val (.int (Int32.ofNat nN)), .val (.int (0 : Int32)), .unset, .unset] [(.int (1 : Int32))])) _
    refine XS.ifYes X101.here hx rfl (pc0 := 3) (pc' := 19) rfl (hb hby d22_3) rfl ((if0 _ _).trans (feq (by decide : ¬ (1 : Int32) = 0)).2) (by decide) (by decide) ?_
    show Steps p.tables e below (T101.setTop (mkF m 19 #[.val (.ref a1), .val (.int (Int32.ofNat kN)), .val (.int (Int32.ofNat nN)), .val (.int (0 : Int32)), .unset, .unset] [])) _
    refine XS.iloadN X101.here hx rfl (hb hby d22_19) rfl ?_
    show Steps p.tables e below (T101.setTop (mkF m 20 #[.val (.ref a1), .val (.int (Int32.ofNat kN)), .val (.int (Int32.ofNat nN)), .val (.int (0 : Int32)), .unset, .unset] [(.int (0 : Int32))])) _
    refine XS.ifYes X101.here hx rfl (pc0 := 20) (pc' := 28) rfl (hb hby d22_20) rfl ((if0 _ _).trans (teq (rfl : (0 : Int32) = 0)).1) (by decide) (by decide) ?_
    show Steps p.tables e below (T101.setTop (mkF m 28 #[.val (.ref a1), .val (.int (Int32.ofNat kN)), .val (.int (Int32.ofNat nN)), .val (.int (0 : Int32)), .unset, .unset] [])) _
    refine XS.aloadN X101.here hx rfl (hb hby d22_28) rfl rfl ?_
    show Steps p.tables e below (T101.setTop (mkF m 29 #[.val (.ref a1), .val (.int (Int32.ofNat kN)), .val (.int (Int32.ofNat nN)), .val (.int (0 : Int32)), .unset, .unset] [(.ref a1)])) _
    refine XS.iloadN X101.here hx rfl (hb hby d22_29) rfl ?_
    show Steps p.tables e below (T101.setTop (mkF m 30 #[.val (.ref a1), .val (.int (Int32.ofNat kN)), .val (.int (Int32.ofNat nN)), .val (.int (0 : Int32)), .unset, .unset] [(.int (Int32.ofNat kN)), (.ref a1)])) _
    refine st102 _ ?_
    show Steps p.tables e below (T102.setTop (mkF m 33 #[.val (.ref a1), .val (.int (Int32.ofNat kN)), .val (.int (Int32.ofNat nN)), .val (.int (0 : Int32)), .unset, .unset] [(.int (g kN))])) _
    refine XS.istore X102.here hx rfl (hb hby d22_33) rfl (l' := #[.val (.ref a1), .val (.int (Int32.ofNat kN)), .val (.int (Int32.ofNat nN)), .val (.int (0 : Int32)), .val (.int (g kN)), .unset]) rfl ?_
    show Steps p.tables e below (T102.setTop (mkF m 35 #[.val (.ref a1), .val (.int (Int32.ofNat kN)), .val (.int (Int32.ofNat nN)), .val (.int (0 : Int32)), .val (.int (g kN)), .unset] [])) _
    refine XS.iload X102.here hx rfl (hb hby d22_35) rfl ?_
    show Steps p.tables e below (T102.setTop (mkF m 37 #[.val (.ref a1), .val (.int (Int32.ofNat kN)), .val (.int (Int32.ofNat nN)), .val (.int (0 : Int32)), .val (.int (g kN)), .unset] [(.int (g kN))])) _
    refine st103 _ ?_
    show Steps p.tables e below (T103.setTop (mkF m 40 #[.val (.ref a1), .val (.int (Int32.ofNat kN)), .val (.int (Int32.ofNat nN)), .val (.int (0 : Int32)), .val (.int (g kN)), .unset] [(.int (1 : Int32))])) _
    refine XS.ifNo X103.here hx rfl (hb hby d22_40) rfl ((if0 _ _).trans (feq (by decide : ¬ (1 : Int32) = 0)).1) ?_
    show Steps p.tables e below (T103.setTop (mkF m 43 #[.val (.ref a1), .val (.int (Int32.ofNat kN)), .val (.int (Int32.ofNat nN)), .val (.int (0 : Int32)), .val (.int (g kN)), .unset] [])) _
    refine XS.iinc X103.here hx rfl (hb hby d22_43) rfl (l' := #[.val (.ref a1), .val (.int ((Int32.ofNat kN) + (1 : Int32))), .val (.int (Int32.ofNat nN)), .val (.int (0 : Int32)), .val (.int (g kN)), .unset]) rfl ?_
    exact k_)⟩
  obtain rfl : kk = Int32.ofNat (kN + 1) := by rw [hv_kk, own_of1]
  obtain ⟨_, _, ⟨T105, L105, k105, n105⟩, -, X105, ⟨Lc105, hQ105, l105, y105, z105⟩, st105⟩ := Jvm.LawKit.callS X103 hx (y := (⟨"java/lang/StringUTF16", "getChar", "([BI)C"⟩ : MethodName)) hown (mvT hZ (hw _ (List.mem_of_getElem? (i := 72) rfl))) (mvT hZ (hw _ (List.mem_of_getElem? (i := 73) rfl))) (mvT hZ (hw _ (List.mem_of_getElem? (i := 51) rfl))) (mvT hZ (hw _ (List.mem_of_getElem? (i := 74) rfl))) (by decide) (backOf (W := 0) (rmGC l Z a0 hw [] a1 (kN + 1) nN g h0 n0 Z0 S_a S_h S_l O b1 b3 (rg _ b3) V) hZ (hw _ (List.mem_of_getElem? (i := 74) rfl)) (hw _ (List.mem_of_getElem? (i := 51) rfl)) (by decide) (by decide)) (g := (mkF m 62 #[.val (.ref a1), .val (.int (Int32.ofNat (kN + 1))), .val (.int (Int32.ofNat nN)), .val (.int (0 : Int32)), .val (.int (g kN)), .unset] [(.int (Int32.ofNat (kN + 1))), (.ref a1)])) rfl (by rw [hml]; rfl) (argsL := [(.ref a1), (.int (Int32.ofNat (kN + 1)))]) (rest := []) (lenOf pd_5 rfl) rfl (by show 2 * 0 + _ ≤ _; exact Nat.le_of_eq rfl) (hb hby d22_62) (fun _ _ => ⟨rfl, e103, (by decide : 0 + 0 ≤ _), (by decide : 0 + 0 ≤ _)⟩)
  dsimp only [Pt.U, Pt.locs, Pt.cells, Pt.slots] at X105 l105 y105 z105 st105 hQ105
  subst l105 y105 z105
  obtain ⟨rfl, N105q, e105⟩ := hQ105
  have N105 := Fr.app N103 N105q
  obtain ⟨_, _, ⟨T106, L106, k106, n106⟩, -, X106, ⟨Lc106, hQ106, l106, y106, z106⟩, st106⟩ := Jvm.LawKit.callS X105 hx (y := (⟨"java/lang/Character", "isLowSurrogate", "(C)Z"⟩ : MethodName)) hown (mvT hZ (hw _ (List.mem_of_getElem? (i := 113) rfl))) (mvT hZ (hw _ (List.mem_of_getElem? (i := 114) rfl))) (mvT hZ (hw _ (List.mem_of_getElem? (i := 104) rfl))) (mvT hZ (hw _ (List.mem_of_getElem? (i := 115) rfl))) (by decide) (backOf (W := 0) (rmW1 l Z a0 hw [] (g (kN + 1)) h0 n0 Z0 H2) hZ (hw _ (List.mem_of_getElem? (i := 115) rfl)) (hw _ (List.mem_of_getElem? (i := 104) rfl)) (by decide) (by decide)) (g := (mkF m 69 #[.val (.ref a1), .val (.int (Int32.ofNat (kN + 1))), .val (.int (Int32.ofNat nN)), .val (.int (0 : Int32)), .val (.int (g kN)), .val (.int (g (kN + 1)))] [(.int (g (kN + 1)))])) rfl (by rw [hml]; rfl) (argsL := [(.int (g (kN + 1)))]) (rest := []) (lenOf pd_10 rfl) rfl (by show 2 * 0 + _ ≤ _; exact Nat.le_of_eq rfl) (hb hby d22_69) (fun _ _ => ⟨rfl, e105, (by decide : 0 + 0 ≤ _), (by decide : 0 + 0 ≤ _)⟩)
  dsimp only [Pt.U, Pt.locs, Pt.cells, Pt.slots] at X106 l106 y106 z106 st106 hQ106
  subst l106 y106 z106
  obtain ⟨rfl, N106q, e106⟩ := hQ106
  have N106 := Fr.app N105 N106q
  obtain ⟨_, _, ⟨T107, L107, k107, n107⟩, -, X107, ⟨Lc107, hQ107, l107, y107, z107⟩, st107⟩ := Jvm.LawKit.callS X106 hx (y := (⟨"java/lang/Character", "toCodePoint", "(CC)I"⟩ : MethodName)) hown (mvT hZ (hw _ (List.mem_of_getElem? (i := 117) rfl))) (mvT hZ (hw _ (List.mem_of_getElem? (i := 118) rfl))) (mvT hZ (hw _ (List.mem_of_getElem? (i := 104) rfl))) (mvT hZ (hw _ (List.mem_of_getElem? (i := 119) rfl))) (by decide) (backOf (W := 0) (rmTC l Z a0 hw [] (g kN) (g (kN + 1)) h0 n0 Z0 ) hZ (hw _ (List.mem_of_getElem? (i := 119) rfl)) (hw _ (List.mem_of_getElem? (i := 104) rfl)) (by decide) (by decide)) (g := (mkF m 79 #[.val (.ref a1), .val (.int (Int32.ofNat (kN + 1))), .val (.int (Int32.ofNat nN)), .val (.int (0 : Int32)), .val (.int (g kN)), .val (.int (g (kN + 1)))] [(.int (g (kN + 1))), (.int (g kN))])) rfl (by rw [hml]; rfl) (argsL := [(.int (g kN)), (.int (g (kN + 1)))]) (rest := []) (lenOf pd_11 rfl) rfl (by show 2 * 0 + _ ≤ _; exact Nat.le_of_eq rfl) (hb hby d22_79) (fun _ _ => ⟨rfl, e106, (by decide : 0 + 0 ≤ _), (by decide : 0 + 0 ≤ _)⟩)
  dsimp only [Pt.U, Pt.locs, Pt.cells, Pt.slots] at X107 l107 y107 z107 st107 hQ107
  subst l107 y107 z107
  obtain ⟨rfl, N107q, e107⟩ := hQ107
  have N107 := Fr.app N106 N107q
  have pre108 : ∀ t_, Steps p.tables e below (T107.setTop (mkF m 82 #[.val (.ref a1), .val (.int (Int32.ofNat (kN + 1))), .val (.int (Int32.ofNat nN)), .val (.int (0 : Int32)), .val (.int (g kN)), .val (.int (g (kN + 1)))] [(.int (own_cp (g kN) (g (kN + 1))))])) t_ → Steps p.tables e below (s₁.setTop (entryFrame m #[(.ref a1), (.int (Int32.ofNat kN)), (.int (Int32.ofNat nN)), (.int (0 : Int32))] 6)) t_ := fun t_ k_ => pre104 _ (by
    show Steps p.tables e below (T103.setTop (mkF m 46 #[.val (.ref a1), .val (.int (Int32.ofNat (kN + 1))), .val (.int (Int32.ofNat nN)), .val (.int (0 : Int32)), .val (.int (g kN)), .unset] [])) _
    refine XS.iloadN X103.here hx rfl (hb hby d22_46) rfl ?_
    show Steps p.tables e below (T103.setTop (mkF m 47 #[.val (.ref a1), .val (.int (Int32.ofNat (kN + 1))), .val (.int (Int32.ofNat nN)), .val (.int (0 : Int32)), .val (.int (g kN)), .unset] [(.int (Int32.ofNat (kN + 1)))])) _
    refine XS.iloadN X103.here hx rfl (hb hby d22_47) rfl ?_
    show Steps p.tables e below (T103.setTop (mkF m 48 #[.val (.ref a1), .val (.int (Int32.ofNat (kN + 1))), .val (.int (Int32.ofNat nN)), .val (.int (0 : Int32)), .val (.int (g kN)), .unset] [(.int (Int32.ofNat nN)), (.int (Int32.ofNat (kN + 1)))])) _
    refine XS.icmpNo X103.here hx rfl (hb hby d22_48) rfl (tlt ((own_oflt (by omega) (by omega)).mpr b3)).2.1 ?_
    show Steps p.tables e below (T103.setTop (mkF m 51 #[.val (.ref a1), .val (.int (Int32.ofNat (kN + 1))), .val (.int (Int32.ofNat nN)), .val (.int (0 : Int32)), .val (.int (g kN)), .unset] [])) _
    refine XS.iloadN X103.here hx rfl (hb hby d22_51) rfl ?_
    show Steps p.tables e below (T103.setTop (mkF m 52 #[.val (.ref a1), .val (.int (Int32.ofNat (kN + 1))), .val (.int (Int32.ofNat nN)), .val (.int (0 : Int32)), .val (.int (g kN)), .unset] [(.int (0 : Int32))])) _
    refine XS.ifYes X103.here hx rfl (pc0 := 52) (pc' := 60) rfl (hb hby d22_52) rfl ((if0 _ _).trans (teq (rfl : (0 : Int32) = 0)).1) (by decide) (by decide) ?_
    show Steps p.tables e below (T103.setTop (mkF m 60 #[.val (.ref a1), .val (.int (Int32.ofNat (kN + 1))), .val (.int (Int32.ofNat nN)), .val (.int (0 : Int32)), .val (.int (g kN)), .unset] [])) _
    refine XS.aloadN X103.here hx rfl (hb hby d22_60) rfl rfl ?_
    show Steps p.tables e below (T103.setTop (mkF m 61 #[.val (.ref a1), .val (.int (Int32.ofNat (kN + 1))), .val (.int (Int32.ofNat nN)), .val (.int (0 : Int32)), .val (.int (g kN)), .unset] [(.ref a1)])) _
    refine XS.iloadN X103.here hx rfl (hb hby d22_61) rfl ?_
    show Steps p.tables e below (T103.setTop (mkF m 62 #[.val (.ref a1), .val (.int (Int32.ofNat (kN + 1))), .val (.int (Int32.ofNat nN)), .val (.int (0 : Int32)), .val (.int (g kN)), .unset] [(.int (Int32.ofNat (kN + 1))), (.ref a1)])) _
    refine st105 _ ?_
    show Steps p.tables e below (T105.setTop (mkF m 65 #[.val (.ref a1), .val (.int (Int32.ofNat (kN + 1))), .val (.int (Int32.ofNat nN)), .val (.int (0 : Int32)), .val (.int (g kN)), .unset] [(.int (g (kN + 1)))])) _
    refine XS.istore X105.here hx rfl (hb hby d22_65) rfl (l' := #[.val (.ref a1), .val (.int (Int32.ofNat (kN + 1))), .val (.int (Int32.ofNat nN)), .val (.int (0 : Int32)), .val (.int (g kN)), .val (.int (g (kN + 1)))]) rfl ?_
    show Steps p.tables e below (T105.setTop (mkF m 67 #[.val (.ref a1), .val (.int (Int32.ofNat (kN + 1))), .val (.int (Int32.ofNat nN)), .val (.int (0 : Int32)), .val (.int (g kN)), .val (.int (g (kN + 1)))] [])) _
    refine XS.iload X105.here hx rfl (hb hby d22_67) rfl ?_
    show Steps p.tables e below (T105.setTop (mkF m 69 #[.val (.ref a1), .val (.int (Int32.ofNat (kN + 1))), .val (.int (Int32.ofNat nN)), .val (.int (0 : Int32)), .val (.int (g kN)), .val (.int (g (kN + 1)))] [(.int (g (kN + 1)))])) _
    refine st106 _ ?_
    show Steps p.tables e below (T106.setTop (mkF m 72 #[.val (.ref a1), .val (.int (Int32.ofNat (kN + 1))), .val (.int (Int32.ofNat nN)), .val (.int (0 : Int32)), .val (.int (g kN)), .val (.int (g (kN + 1)))] [(.int (1 : Int32))])) _
    refine XS.ifNo X106.here hx rfl (hb hby d22_72) rfl ((if0 _ _).trans (feq (by decide : ¬ (1 : Int32) = 0)).1) ?_
    show Steps p.tables e below (T106.setTop (mkF m 75 #[.val (.ref a1), .val (.int (Int32.ofNat (kN + 1))), .val (.int (Int32.ofNat nN)), .val (.int (0 : Int32)), .val (.int (g kN)), .val (.int (g (kN + 1)))] [])) _
    refine XS.iload X106.here hx rfl (hb hby d22_75) rfl ?_
    show Steps p.tables e below (T106.setTop (mkF m 77 #[.val (.ref a1), .val (.int (Int32.ofNat (kN + 1))), .val (.int (Int32.ofNat nN)), .val (.int (0 : Int32)), .val (.int (g kN)), .val (.int (g (kN + 1)))] [(.int (g kN))])) _
    refine XS.iload X106.here hx rfl (hb hby d22_77) rfl ?_
    show Steps p.tables e below (T106.setTop (mkF m 79 #[.val (.ref a1), .val (.int (Int32.ofNat (kN + 1))), .val (.int (Int32.ofNat nN)), .val (.int (0 : Int32)), .val (.int (g kN)), .val (.int (g (kN + 1)))] [(.int (g (kN + 1))), (.int (g kN))])) _
    refine st107 _ ?_
    exact k_)
  obtain ⟨fs, hr, hrun, hended, hW, hsame⟩ := X107.leave (v := some (.int (own_cp (g kN) (g (kN + 1))))) (fun h => by rw [Bd.returns] at h; cases h)
  refine ⟨_, _, pre108 _ ?_, hrun, hended, _, _, rfl, ?_, ⟨_, rfl⟩, hW, hsame.mono (by decide) (by decide)⟩
  · show Steps p.tables e below (T107.setTop (mkF m 82 #[.val (.ref a1), .val (.int (Int32.ofNat (kN + 1))), .val (.int (Int32.ofNat nN)), .val (.int (0 : Int32)), .val (.int (g kN)), .val (.int (g (kN + 1)))] [(.int (own_cp (g kN) (g (kN + 1))))])) _
    exact retI X107 hx Bd.returns (hb hby d22_82) hr
  · show QrmU2 Z a1 kN nN g h0 n0 _ T107.heap _
    rw [e107]
    exact ⟨rfl, N107, rfl⟩
theorem pd_12 : parseMethodDescriptor "([BIIZ)I" = some ⟨[(.array .byte), .int, .int, .boolean], some .int⟩ := by decide +kernel
theorem d21_0 : decode jdk_52_method_8_code 0 = .ok (.aload_n 0, 1) := by decide +kernel
theorem d21_1 : decode jdk_52_method_8_code 1 = .ok (.iload_n 1, 1) := by decide +kernel
theorem d21_2 : decode jdk_52_method_8_code 2 = .ok (.iload_n 2, 1) := by decide +kernel
theorem d21_3 : decode jdk_52_method_8_code 3 = .ok (.iconst 0, 1) := by decide +kernel
theorem d21_4 : decode jdk_52_method_8_code 4 = .ok (.invokestatic 88, 3) := by decide +kernel
theorem d21_7 : decode jdk_52_method_8_code 7 = .ok (.ireturn, 1) := by decide +kernel
theorem ef_rmV1 (m : MethodId) (x0 : Addr) (x1 : Int32) (x2 : Int32) : entryFrame m #[(.ref x0), (.int x1), (.int x2)] 3 = mkF m 0 #[.val (.ref x0), .val (.int x1), .val (.int x2)] [] := by first | (simp [entryFrame, mkF, argsToLocals, Value.category]; done) | rfl
def QrmV1 (Z : State) (a1 : Addr) (kN : Nat) (nN : Nat) (g : Nat → Int32) (h0 : Heap) (n0 : Nat) (v : Option Value) (h : Heap) (L : List Loc) : Prop := v = some (.int (g kN)) ∧ Fr n0 L ∧ h = h0
set_option maxRecDepth 65536 in
set_option maxHeartbeats 40000000 in
theorem rmV1 (l : Launch) (Z : State) (a0 : Array Value) (hw : ∀ d ∈ tables_1, d.before a0 Z = true) (ws : List Jvm.Cond) (a1 : Addr) (kN : Nat) (nN : Nat) (g : Nat → Int32) (h0 : Heap) (n0 : Nat) (Z0 : n0 ≤ h0.size) (S_a : Sta Z Z.heap "java/lang/StringUTF16" "$assertionsDisabled" "Z" (.int (1 : Int32))) (S_h : Sta Z Z.heap "java/lang/StringUTF16" "HI_BYTE_SHIFT" "I" (.int (0 : Int32))) (S_l : Sta Z Z.heap "java/lang/StringUTF16" "LO_BYTE_SHIFT" "I" (.int (8 : Int32))) (O : Old Z n0 h0) (b1 : nN ≤ 6) (b2 : kN < nN) (rg : own_rng nN g) (V : own_Af Z h0 a1 .byte (2 * nN) (own_b16 g)) (H1 : own_one (g kN)) :
    MetFree l (⟨"java/lang/StringUTF16", "codePointAt", "([BII)I"⟩ : MethodName) (head1 (Jvm.Cond.code (⟨"java/lang/StringUTF16", "codePointAt", "([BII)I"⟩ : MethodName) jdk_52_method_8_code 3 (some .int) :: ws) ({ frames := 2, cells := 0, slots := 0, locals := 30 } : Room)) (fun a U => a = #[(.ref a1), (.int (Int32.ofNat kN)), (.int (Int32.ofNat nN))] ∧ Z.Warmed39 U.vm ∧ U.heap = h0) (fun _ _ _ _ _ => True) (fun _ U o U' => ∃ v L, o = .returned v ∧ QrmV1 Z a1 kN nN g h0 n0 v U'.heap L ∧ FrameEnd U o U' L ({ frames := 2, cells := 0, slots := 0, locals := 30 } : Room).cells ({ frames := 2, cells := 0, slots := 0, locals := 30 } : Room).slots) := by
  refine MetFree.of_bodySF (plainFor_of_name pn_0) hisR ?_
  intro p e s m args below meth c s₁ Bd hml0 hP hK
  obtain ⟨rfl, hZ, hh⟩ := hP
  have hx := Bd.exec
  have hby := Bd.bytes
  have hml : c.maxLocals = 3 := hml0
  have hown : s.vm.findClass "java/lang/StringUTF16" = some m.cls := findClass_of_methodNamed Bd.named
  have hnm := (name_of_methodNamed Bd.named Bd.method).1
  have X0 : Stand p l e ({ frames := 2, cells := 0, slots := 0, locals := 30 } : Room) s m #[(.ref a1), (.int (Int32.ofNat kN)), (.int (Int32.ofNat nN))] below meth c s₁ [] 0 0 := Stand.of_body Bd
  have e0 : s₁.heap = h0 := by rw [← hh, Bd.state]; rfl
  have N0 := Fr.nil n0
  have pre0 : ∀ t_, Steps p.tables e below (s₁.setTop (mkF m 0 #[.val (.ref a1), .val (.int (Int32.ofNat kN)), .val (.int (Int32.ofNat nN))] [])) t_ → Steps p.tables e below (s₁.setTop (entryFrame m #[(.ref a1), (.int (Int32.ofNat kN)), (.int (Int32.ofNat nN))] 3)) t_ := fun t_ k_ => castTop (ef_rmV1 m a1 ((Int32.ofNat kN)) ((Int32.ofNat nN))) k_
  obtain ⟨_, _, ⟨T101, L101, k101, n101⟩, -, X101, ⟨Lc101, hQ101, l101, y101, z101⟩, st101⟩ := Jvm.LawKit.callS X0 hx (y := (⟨"java/lang/StringUTF16", "codePointAt", "([BIIZ)I"⟩ : MethodName)) hown (mvT hZ (hw _ (List.mem_of_getElem? (i := 99) rfl))) (mvT hZ (hw _ (List.mem_of_getElem? (i := 100) rfl))) (mvT hZ (hw _ (List.mem_of_getElem? (i := 51) rfl))) (mvT hZ (hw _ (List.mem_of_getElem? (i := 101) rfl))) (by decide) (backOf (W := 0) (rmU1 l Z a0 hw [] a1 kN nN g h0 n0 Z0 S_a S_h S_l O b1 b2 rg V H1) hZ (hw _ (List.mem_of_getElem? (i := 101) rfl)) (hw _ (List.mem_of_getElem? (i := 51) rfl)) (by decide) (by decide)) (g := (mkF m 4 #[.val (.ref a1), .val (.int (Int32.ofNat kN)), .val (.int (Int32.ofNat nN))] [(.int (0 : Int32)), (.int (Int32.ofNat nN)), (.int (Int32.ofNat kN)), (.ref a1)])) rfl (by rw [hml]; rfl) (argsL := [(.ref a1), (.int (Int32.ofNat kN)), (.int (Int32.ofNat nN)), (.int (0 : Int32))]) (rest := []) (lenOf pd_12 rfl) rfl (by show 2 * 0 + _ ≤ _; exact Nat.le_of_eq rfl) (hb hby d21_4) (fun _ _ => ⟨rfl, e0, (by decide : 0 + 0 ≤ _), (by decide : 0 + 0 ≤ _)⟩)
  dsimp only [Pt.U, Pt.locs, Pt.cells, Pt.slots] at X101 l101 y101 z101 st101 hQ101
  subst l101 y101 z101
  obtain ⟨rfl, N101q, e101⟩ := hQ101
  have N101 := Fr.app N0 N101q
  have pre102 : ∀ t_, Steps p.tables e below (T101.setTop (mkF m 7 #[.val (.ref a1), .val (.int (Int32.ofNat kN)), .val (.int (Int32.ofNat nN))] [(.int (g kN))])) t_ → Steps p.tables e below (s₁.setTop (entryFrame m #[(.ref a1), (.int (Int32.ofNat kN)), (.int (Int32.ofNat nN))] 3)) t_ := fun t_ k_ => pre0 _ (by
    show Steps p.tables e below (s₁.setTop (mkF m 0 #[.val (.ref a1), .val (.int (Int32.ofNat kN)), .val (.int (Int32.ofNat nN))] [])) _
    refine XS.aloadN X0.here hx rfl (hb hby d21_0) rfl rfl ?_
    show Steps p.tables e below (s₁.setTop (mkF m 1 #[.val (.ref a1), .val (.int (Int32.ofNat kN)), .val (.int (Int32.ofNat nN))] [(.ref a1)])) _
    refine XS.iloadN X0.here hx rfl (hb hby d21_1) rfl ?_
    show Steps p.tables e below (s₁.setTop (mkF m 2 #[.val (.ref a1), .val (.int (Int32.ofNat kN)), .val (.int (Int32.ofNat nN))] [(.int (Int32.ofNat kN)), (.ref a1)])) _
    refine XS.iloadN X0.here hx rfl (hb hby d21_2) rfl ?_
    show Steps p.tables e below (s₁.setTop (mkF m 3 #[.val (.ref a1), .val (.int (Int32.ofNat kN)), .val (.int (Int32.ofNat nN))] [(.int (Int32.ofNat nN)), (.int (Int32.ofNat kN)), (.ref a1)])) _
    refine XS.iconst X0.here hx rfl (hb hby d21_3) ?_
    show Steps p.tables e below (s₁.setTop (mkF m 4 #[.val (.ref a1), .val (.int (Int32.ofNat kN)), .val (.int (Int32.ofNat nN))] [(.int (0 : Int32)), (.int (Int32.ofNat nN)), (.int (Int32.ofNat kN)), (.ref a1)])) _
    refine st101 _ ?_
    exact k_)
  obtain ⟨fs, hr, hrun, hended, hW, hsame⟩ := X101.leave (v := some (.int (g kN))) (fun h => by rw [Bd.returns] at h; cases h)
  refine ⟨_, _, pre102 _ ?_, hrun, hended, _, _, rfl, ?_, ⟨_, rfl⟩, hW, hsame.mono (by decide) (by decide)⟩
  · show Steps p.tables e below (T101.setTop (mkF m 7 #[.val (.ref a1), .val (.int (Int32.ofNat kN)), .val (.int (Int32.ofNat nN))] [(.int (g kN))])) _
    exact retI X101 hx Bd.returns (hb hby d21_7) hr
  · show QrmV1 Z a1 kN nN g h0 n0 _ T101.heap _
    rw [e101]
    exact ⟨rfl, N101, rfl⟩
theorem ef_rmV2 (m : MethodId) (x0 : Addr) (x1 : Int32) (x2 : Int32) : entryFrame m #[(.ref x0), (.int x1), (.int x2)] 3 = mkF m 0 #[.val (.ref x0), .val (.int x1), .val (.int x2)] [] := by first | (simp [entryFrame, mkF, argsToLocals, Value.category]; done) | rfl
def QrmV2 (Z : State) (a1 : Addr) (kN : Nat) (nN : Nat) (g : Nat → Int32) (h0 : Heap) (n0 : Nat) (v : Option Value) (h : Heap) (L : List Loc) : Prop := v = some (.int (own_cp (g kN) (g (kN + 1)))) ∧ Fr n0 L ∧ h = h0
set_option maxRecDepth 65536 in
set_option maxHeartbeats 40000000 in
theorem rmV2 (l : Launch) (Z : State) (a0 : Array Value) (hw : ∀ d ∈ tables_1, d.before a0 Z = true) (ws : List Jvm.Cond) (a1 : Addr) (kN : Nat) (nN : Nat) (g : Nat → Int32) (h0 : Heap) (n0 : Nat) (Z0 : n0 ≤ h0.size) (S_a : Sta Z Z.heap "java/lang/StringUTF16" "$assertionsDisabled" "Z" (.int (1 : Int32))) (S_h : Sta Z Z.heap "java/lang/StringUTF16" "HI_BYTE_SHIFT" "I" (.int (0 : Int32))) (S_l : Sta Z Z.heap "java/lang/StringUTF16" "LO_BYTE_SHIFT" "I" (.int (8 : Int32))) (O : Old Z n0 h0) (b1 : nN ≤ 6) (b2 : kN < nN) (rg : own_rng nN g) (V : own_Af Z h0 a1 .byte (2 * nN) (own_b16 g)) (b3 : kN + 1 < nN) (H1 : own_hi (g kN)) (H2 : own_lo (g (kN + 1))) :
    MetFree l (⟨"java/lang/StringUTF16", "codePointAt", "([BII)I"⟩ : MethodName) (head1 (Jvm.Cond.code (⟨"java/lang/StringUTF16", "codePointAt", "([BII)I"⟩ : MethodName) jdk_52_method_8_code 3 (some .int) :: ws) ({ frames := 2, cells := 0, slots := 0, locals := 30 } : Room)) (fun a U => a = #[(.ref a1), (.int (Int32.ofNat kN)), (.int (Int32.ofNat nN))] ∧ Z.Warmed39 U.vm ∧ U.heap = h0) (fun _ _ _ _ _ => True) (fun _ U o U' => ∃ v L, o = .returned v ∧ QrmV2 Z a1 kN nN g h0 n0 v U'.heap L ∧ FrameEnd U o U' L ({ frames := 2, cells := 0, slots := 0, locals := 30 } : Room).cells ({ frames := 2, cells := 0, slots := 0, locals := 30 } : Room).slots) := by
  refine MetFree.of_bodySF (plainFor_of_name pn_0) hisR ?_
  intro p e s m args below meth c s₁ Bd hml0 hP hK
  obtain ⟨rfl, hZ, hh⟩ := hP
  have hx := Bd.exec
  have hby := Bd.bytes
  have hml : c.maxLocals = 3 := hml0
  have hown : s.vm.findClass "java/lang/StringUTF16" = some m.cls := findClass_of_methodNamed Bd.named
  have hnm := (name_of_methodNamed Bd.named Bd.method).1
  have X0 : Stand p l e ({ frames := 2, cells := 0, slots := 0, locals := 30 } : Room) s m #[(.ref a1), (.int (Int32.ofNat kN)), (.int (Int32.ofNat nN))] below meth c s₁ [] 0 0 := Stand.of_body Bd
  have e0 : s₁.heap = h0 := by rw [← hh, Bd.state]; rfl
  have N0 := Fr.nil n0
  have pre0 : ∀ t_, Steps p.tables e below (s₁.setTop (mkF m 0 #[.val (.ref a1), .val (.int (Int32.ofNat kN)), .val (.int (Int32.ofNat nN))] [])) t_ → Steps p.tables e below (s₁.setTop (entryFrame m #[(.ref a1), (.int (Int32.ofNat kN)), (.int (Int32.ofNat nN))] 3)) t_ := fun t_ k_ => castTop (ef_rmV2 m a1 ((Int32.ofNat kN)) ((Int32.ofNat nN))) k_
  obtain ⟨_, _, ⟨T101, L101, k101, n101⟩, -, X101, ⟨Lc101, hQ101, l101, y101, z101⟩, st101⟩ := Jvm.LawKit.callS X0 hx (y := (⟨"java/lang/StringUTF16", "codePointAt", "([BIIZ)I"⟩ : MethodName)) hown (mvT hZ (hw _ (List.mem_of_getElem? (i := 99) rfl))) (mvT hZ (hw _ (List.mem_of_getElem? (i := 100) rfl))) (mvT hZ (hw _ (List.mem_of_getElem? (i := 51) rfl))) (mvT hZ (hw _ (List.mem_of_getElem? (i := 101) rfl))) (by decide) (backOf (W := 0) (rmU2 l Z a0 hw [] a1 kN nN g h0 n0 Z0 S_a S_h S_l O b1 b2 rg V b3 H1 H2) hZ (hw _ (List.mem_of_getElem? (i := 101) rfl)) (hw _ (List.mem_of_getElem? (i := 51) rfl)) (by decide) (by decide)) (g := (mkF m 4 #[.val (.ref a1), .val (.int (Int32.ofNat kN)), .val (.int (Int32.ofNat nN))] [(.int (0 : Int32)), (.int (Int32.ofNat nN)), (.int (Int32.ofNat kN)), (.ref a1)])) rfl (by rw [hml]; rfl) (argsL := [(.ref a1), (.int (Int32.ofNat kN)), (.int (Int32.ofNat nN)), (.int (0 : Int32))]) (rest := []) (lenOf pd_12 rfl) rfl (by show 2 * 0 + _ ≤ _; exact Nat.le_of_eq rfl) (hb hby d21_4) (fun _ _ => ⟨rfl, e0, (by decide : 0 + 0 ≤ _), (by decide : 0 + 0 ≤ _)⟩)
  dsimp only [Pt.U, Pt.locs, Pt.cells, Pt.slots] at X101 l101 y101 z101 st101 hQ101
  subst l101 y101 z101
  obtain ⟨rfl, N101q, e101⟩ := hQ101
  have N101 := Fr.app N0 N101q
  have pre102 : ∀ t_, Steps p.tables e below (T101.setTop (mkF m 7 #[.val (.ref a1), .val (.int (Int32.ofNat kN)), .val (.int (Int32.ofNat nN))] [(.int (own_cp (g kN) (g (kN + 1))))])) t_ → Steps p.tables e below (s₁.setTop (entryFrame m #[(.ref a1), (.int (Int32.ofNat kN)), (.int (Int32.ofNat nN))] 3)) t_ := fun t_ k_ => pre0 _ (by
    show Steps p.tables e below (s₁.setTop (mkF m 0 #[.val (.ref a1), .val (.int (Int32.ofNat kN)), .val (.int (Int32.ofNat nN))] [])) _
    refine XS.aloadN X0.here hx rfl (hb hby d21_0) rfl rfl ?_
    show Steps p.tables e below (s₁.setTop (mkF m 1 #[.val (.ref a1), .val (.int (Int32.ofNat kN)), .val (.int (Int32.ofNat nN))] [(.ref a1)])) _
    refine XS.iloadN X0.here hx rfl (hb hby d21_1) rfl ?_
    show Steps p.tables e below (s₁.setTop (mkF m 2 #[.val (.ref a1), .val (.int (Int32.ofNat kN)), .val (.int (Int32.ofNat nN))] [(.int (Int32.ofNat kN)), (.ref a1)])) _
    refine XS.iloadN X0.here hx rfl (hb hby d21_2) rfl ?_
    show Steps p.tables e below (s₁.setTop (mkF m 3 #[.val (.ref a1), .val (.int (Int32.ofNat kN)), .val (.int (Int32.ofNat nN))] [(.int (Int32.ofNat nN)), (.int (Int32.ofNat kN)), (.ref a1)])) _
    refine XS.iconst X0.here hx rfl (hb hby d21_3) ?_
    show Steps p.tables e below (s₁.setTop (mkF m 4 #[.val (.ref a1), .val (.int (Int32.ofNat kN)), .val (.int (Int32.ofNat nN))] [(.int (0 : Int32)), (.int (Int32.ofNat nN)), (.int (Int32.ofNat kN)), (.ref a1)])) _
    refine st101 _ ?_
    exact k_)
  obtain ⟨fs, hr, hrun, hended, hW, hsame⟩ := X101.leave (v := some (.int (own_cp (g kN) (g (kN + 1))))) (fun h => by rw [Bd.returns] at h; cases h)
  refine ⟨_, _, pre102 _ ?_, hrun, hended, _, _, rfl, ?_, ⟨_, rfl⟩, hW, hsame.mono (by decide) (by decide)⟩
  · show Steps p.tables e below (T101.setTop (mkF m 7 #[.val (.ref a1), .val (.int (Int32.ofNat kN)), .val (.int (Int32.ofNat nN))] [(.int (own_cp (g kN) (g (kN + 1))))])) _
    exact retI X101 hx Bd.returns (hb hby d21_7) hr
  · show QrmV2 Z a1 kN nN g h0 n0 _ T101.heap _
    rw [e101]
    exact ⟨rfl, N101, rfl⟩
theorem pd_13 : parseMethodDescriptor "()Z" = some ⟨[], some .boolean⟩ := by decide +kernel
theorem pd_14 : parseMethodDescriptor "(II)V" = some ⟨[.int, .int], none⟩ := by decide +kernel
theorem pd_15 : parseMethodDescriptor "([BII)I" = some ⟨[(.array .byte), .int, .int], some .int⟩ := by decide +kernel
theorem d17_0 : decode jdk_42_method_57_code 0 = .ok (.aload_n 0, 1) := by decide +kernel
theorem d17_1 : decode jdk_42_method_57_code 1 = .ok (.invokevirtual 492, 3) := by decide +kernel
theorem d17_4 : decode jdk_42_method_57_code 4 = .ok (.ifCond .eq 23, 3) := by decide +kernel
theorem d17_7 : decode jdk_42_method_57_code 7 = .ok (.iload_n 1, 1) := by decide +kernel
theorem d17_8 : decode jdk_42_method_57_code 8 = .ok (.aload_n 0, 1) := by decide +kernel
theorem d17_9 : decode jdk_42_method_57_code 9 = .ok (.getfield 9, 3) := by decide +kernel
theorem d17_12 : decode jdk_42_method_57_code 12 = .ok (.arraylength, 1) := by decide +kernel
theorem d17_13 : decode jdk_42_method_57_code 13 = .ok (.invokestatic 499, 3) := by decide +kernel
theorem d17_16 : decode jdk_42_method_57_code 16 = .ok (.aload_n 0, 1) := by decide +kernel
theorem d17_17 : decode jdk_42_method_57_code 17 = .ok (.getfield 9, 3) := by decide +kernel
theorem d17_20 : decode jdk_42_method_57_code 20 = .ok (.iload_n 1, 1) := by decide +kernel
theorem d17_21 : decode jdk_42_method_57_code 21 = .ok (.baload, 1) := by decide +kernel
theorem d17_22 : decode jdk_42_method_57_code 22 = .ok (.sipush 255, 3) := by decide +kernel
theorem d17_25 : decode jdk_42_method_57_code 25 = .ok (.iand, 1) := by decide +kernel
theorem d17_26 : decode jdk_42_method_57_code 26 = .ok (.ireturn, 1) := by decide +kernel
theorem d17_27 : decode jdk_42_method_57_code 27 = .ok (.aload_n 0, 1) := by decide +kernel
theorem d17_28 : decode jdk_42_method_57_code 28 = .ok (.getfield 9, 3) := by decide +kernel
theorem d17_31 : decode jdk_42_method_57_code 31 = .ok (.arraylength, 1) := by decide +kernel
theorem d17_32 : decode jdk_42_method_57_code 32 = .ok (.iconst 1, 1) := by decide +kernel
theorem d17_33 : decode jdk_42_method_57_code 33 = .ok (.ishr, 1) := by decide +kernel
theorem d17_34 : decode jdk_42_method_57_code 34 = .ok (.istore_n 2, 1) := by decide +kernel
theorem d17_35 : decode jdk_42_method_57_code 35 = .ok (.iload_n 1, 1) := by decide +kernel
theorem d17_36 : decode jdk_42_method_57_code 36 = .ok (.iload_n 2, 1) := by decide +kernel
theorem d17_37 : decode jdk_42_method_57_code 37 = .ok (.invokestatic 499, 3) := by decide +kernel
theorem d17_40 : decode jdk_42_method_57_code 40 = .ok (.aload_n 0, 1) := by decide +kernel
theorem d17_41 : decode jdk_42_method_57_code 41 = .ok (.getfield 9, 3) := by decide +kernel
theorem d17_44 : decode jdk_42_method_57_code 44 = .ok (.iload_n 1, 1) := by decide +kernel
theorem d17_45 : decode jdk_42_method_57_code 45 = .ok (.iload_n 2, 1) := by decide +kernel
theorem d17_46 : decode jdk_42_method_57_code 46 = .ok (.invokestatic 502, 3) := by decide +kernel
theorem d17_49 : decode jdk_42_method_57_code 49 = .ok (.ireturn, 1) := by decide +kernel
theorem ef_rmA1 (m : MethodId) (x0 : Addr) (x1 : Int32) : entryFrame m #[(.ref x0), (.int x1)] 3 = mkF m 0 #[.val (.ref x0), .val (.int x1), .unset] [] := by first | (simp [entryFrame, mkF, argsToLocals, Value.category]; done) | rfl
def QrmA1 (Z : State) (a1 : Addr) (kN : Nat) (nN : Nat) (g : Nat → Int32) (zc : Int32) (fm : Value) (h0 : Heap) (n0 : Nat) (v : Option Value) (h : Heap) (L : List Loc) : Prop := v = some (.int (g kN)) ∧ Fr n0 L ∧ h = h0
set_option maxRecDepth 65536 in
set_option maxHeartbeats 40000000 in
theorem rmA1 (l : Launch) (Z : State) (a0 : Array Value) (hw : ∀ d ∈ tables_1, d.before a0 Z = true) (ws : List Jvm.Cond) (a1 : Addr) (kN : Nat) (nN : Nat) (g : Nat → Int32) (zc : Int32) (fm : Value) (h0 : Heap) (n0 : Nat) (Z0 : n0 ≤ h0.size) (S_a : Sta Z Z.heap "java/lang/StringUTF16" "$assertionsDisabled" "Z" (.int (1 : Int32))) (S_h : Sta Z Z.heap "java/lang/StringUTF16" "HI_BYTE_SHIFT" "I" (.int (0 : Int32))) (S_l : Sta Z Z.heap "java/lang/StringUTF16" "LO_BYTE_SHIFT" "I" (.int (8 : Int32))) (O : Old Z n0 h0) (S_c : Sta Z Z.heap "java/lang/String" "COMPACT_STRINGS" "Z" (.int zc)) (hzc : ¬ zc = 0) (S_f : Sta Z Z.heap "jdk/internal/util/Preconditions" "SIOOBE_FORMATTER" "Ljava/util/function/BiFunction;" fm) (hf : fm.isRef = true) (b1 : nN ≤ 6) (b2 : kN < nN) (rg : own_rng nN g) (TS : own_S Z h0 a1 nN g) (H1 : own_one (g kN)) :
    MetFree l (⟨"java/lang/String", "codePointAt", "(I)I"⟩ : MethodName) (head1 (Jvm.Cond.code (⟨"java/lang/String", "codePointAt", "(I)I"⟩ : MethodName) jdk_42_method_57_code 3 (some .int) :: ws) ({ frames := 3, cells := 0, slots := 0, locals := 44 } : Room)) (fun a U => a = #[(.ref a1), (.int (Int32.ofNat kN))] ∧ Z.Warmed39 U.vm ∧ U.heap = h0) (fun _ _ _ _ _ => True) (fun _ U o U' => ∃ v L, o = .returned v ∧ QrmA1 Z a1 kN nN g zc fm h0 n0 v U'.heap L ∧ FrameEnd U o U' L ({ frames := 3, cells := 0, slots := 0, locals := 44 } : Room).cells ({ frames := 3, cells := 0, slots := 0, locals := 44 } : Room).slots) := by
  refine MetFree.of_bodySF (plainFor_of_name pn_1) hisR ?_
  intro p e s m args below meth c s₁ Bd hml0 hP hK
  obtain ⟨rfl, hZ, hh⟩ := hP
  have hx := Bd.exec
  have hby := Bd.bytes
  have hml : c.maxLocals = 3 := hml0
  have hown : s.vm.findClass "java/lang/String" = some m.cls := findClass_of_methodNamed Bd.named
  have hnm := (name_of_methodNamed Bd.named Bd.method).1
  have X0 : Stand p l e ({ frames := 3, cells := 0, slots := 0, locals := 44 } : Room) s m #[(.ref a1), (.int (Int32.ofNat kN))] below meth c s₁ [] 0 0 := Stand.of_body Bd
  have e0 : s₁.heap = h0 := by rw [← hh, Bd.state]; rfl
  have N0 := Fr.nil n0
  have pre0 : ∀ t_, Steps p.tables e below (s₁.setTop (mkF m 0 #[.val (.ref a1), .val (.int (Int32.ofNat kN)), .unset] [])) t_ → Steps p.tables e below (s₁.setTop (entryFrame m #[(.ref a1), (.int (Int32.ofNat kN))] 3)) t_ := fun t_ k_ => castTop (ef_rmA1 m a1 ((Int32.ofNat kN))) k_
  obtain ⟨t, cd, N, d, Es, Fv, Fc, AF, EN⟩ := TS
  rcases EN with ⟨q1, q2, l8, ed⟩ | ⟨q1, q2, ed⟩
  · skip
    rw [q1] at Fc
    rw [q2] at AF
    obtain ⟨cl, Ar, Sz, Hs⟩ := AF
    have Sz2 : cl.slots.size = (Int32.ofNat nN).toNatClampNeg := by rw [Sz, own_ofc (by omega)]
    have hin := own_ofin (a := kN) Sz b2 (by omega)
    have hat := own_hat Hs b2 (by omega)
    obtain ⟨cq101, kq101, q101a, q101b, q101c⟩ := isOf hZ e0 Es
    obtain ⟨_, _, ⟨T101, L101, k101, n101⟩, -, X101, ⟨Lc101, hQ101, l101, y101, z101⟩, st101⟩ := X0.virtualBack hx (y := (⟨"java/lang/String", "isLatin1", "()Z"⟩ : MethodName)) (z := (⟨"java/lang/String", "isLatin1", "()Z"⟩ : MethodName)) hown (mvT hZ (hw _ (List.mem_of_getElem? (i := 83) rfl))) (mvT hZ (hw _ (List.mem_of_getElem? (i := 84) rfl))) (notFace_of_selects (args := #[]) (mvT hZ (hw _ (List.mem_of_getElem? (i := 86) rfl)))) (mvT hZ (hw _ (List.mem_of_getElem? (i := 86) rfl))) (mvT hZ (hw _ (List.mem_of_getElem? (i := 85) rfl))) (by decide) (backOf (W := 0) (rmL1 l Z a0 hw [] a1 zc h0 n0 Z0 Fc (S_c.ext O.2) hzc) hZ (hw _ (List.mem_of_getElem? (i := 87) rfl)) (hw _ (List.mem_of_getElem? (i := 7) rfl)) (by decide) (by decide)) q101a q101c (g := (mkF m 1 #[.val (.ref a1), .val (.int (Int32.ofNat kN)), .unset] [(.ref a1)])) rfl (by rw [hml]; rfl) (Steps.refl _) (argsL := []) (rest := []) (lenOf pd_13 rfl) rfl (by show 2 * 0 + _ ≤ _; exact Nat.le_of_eq rfl) (hb hby d17_1) (fun _ _ => ⟨rfl, e0, (by decide : 0 + 0 ≤ _), (by decide : 0 + 0 ≤ _)⟩)
    dsimp only [Pt.U, Pt.locs, Pt.cells, Pt.slots] at X101 l101 y101 z101 st101 hQ101
    subst l101 y101 z101
    obtain ⟨rfl, N101q, e101⟩ := hQ101
    have N101 := Fr.app N0 N101q
    obtain ⟨T102, X102, e102, st102⟩ := getF X101 hx hZ hown (host := "") (Or.inl (hw _ (List.mem_of_getElem? (i := 24) rfl))) Via.refl e101 Fv (g := (mkF m 9 #[.val (.ref a1), .val (.int (Int32.ofNat kN)), .unset] [(.ref a1), (.int (Int32.ofNat kN))])) rfl rfl (hb hby d17_9)
    obtain ⟨_, _, ⟨T103, L103, k103, n103⟩, -, X103, ⟨Lc103, hQ103, l103, y103, z103⟩, st103⟩ := Jvm.LawKit.callS X102 hx (y := (⟨"java/lang/String", "checkIndex", "(II)V"⟩ : MethodName)) hown (mvT hZ (hw _ (List.mem_of_getElem? (i := 88) rfl))) (mvT hZ (hw _ (List.mem_of_getElem? (i := 89) rfl))) (mvT hZ (hw _ (List.mem_of_getElem? (i := 7) rfl))) (mvT hZ (hw _ (List.mem_of_getElem? (i := 90) rfl))) (by decide) (backOf (W := 0) (rmCk l Z a0 hw [] kN nN fm h0 n0 Z0 (S_f.ext O.2) hf b2 b1) hZ (hw _ (List.mem_of_getElem? (i := 90) rfl)) (hw _ (List.mem_of_getElem? (i := 7) rfl)) (by decide) (by decide)) (g := (mkF m 13 #[.val (.ref a1), .val (.int (Int32.ofNat kN)), .unset] [(.int (Int32.ofNat nN)), (.int (Int32.ofNat kN))])) rfl (by rw [hml]; rfl) (argsL := [(.int (Int32.ofNat kN)), (.int (Int32.ofNat nN))]) (rest := []) (lenOf pd_14 rfl) rfl (by show 2 * 0 + _ ≤ _; exact Nat.le_of_eq rfl) (hb hby d17_13) (fun _ _ => ⟨rfl, e102, (by decide : 0 + 0 ≤ _), (by decide : 0 + 0 ≤ _)⟩)
    dsimp only [Pt.U, Pt.locs, Pt.cells, Pt.slots] at X103 l103 y103 z103 st103 hQ103
    subst l103 y103 z103
    obtain ⟨rfl, N103q, e103⟩ := hQ103
    have N103 := Fr.app N101 N103q
    obtain ⟨T104, X104, e104, st104⟩ := getF X103 hx hZ hown (host := "") (Or.inl (hw _ (List.mem_of_getElem? (i := 24) rfl))) Via.refl e103 Fv (g := (mkF m 17 #[.val (.ref a1), .val (.int (Int32.ofNat kN)), .unset] [(.ref a1)])) rfl rfl (hb hby d17_17)
    have pre105 : ∀ t_, Steps p.tables e below (T104.setTop (mkF m 26 #[.val (.ref a1), .val (.int (Int32.ofNat kN)), .unset] [(.int ((d kN) &&& (255 : Int32)))])) t_ → Steps p.tables e below (s₁.setTop (entryFrame m #[(.ref a1), (.int (Int32.ofNat kN))] 3)) t_ := fun t_ k_ => pre0 _ (by
      show Steps p.tables e below (s₁.setTop (mkF m 0 #[.val (.ref a1), .val (.int (Int32.ofNat kN)), .unset] [])) _
      refine XS.aloadN X0.here hx rfl (hb hby d17_0) rfl rfl ?_
      show Steps p.tables e below (s₁.setTop (mkF m 1 #[.val (.ref a1), .val (.int (Int32.ofNat kN)), .unset] [(.ref a1)])) _
      refine st101.trans ?_
      show Steps p.tables e below (T101.setTop (mkF m 4 #[.val (.ref a1), .val (.int (Int32.ofNat kN)), .unset] [(.int (1 : Int32))])) _
      refine XS.ifNo X101.here hx rfl (hb hby d17_4) rfl ((if0 _ _).trans (feq (by decide : ¬ (1 : Int32) = 0)).1) ?_
      show Steps p.tables e below (T101.setTop (mkF m 7 #[.val (.ref a1), .val (.int (Int32.ofNat kN)), .unset] [])) _
      refine XS.iloadN X101.here hx rfl (hb hby d17_7) rfl ?_
      show Steps p.tables e below (T101.setTop (mkF m 8 #[.val (.ref a1), .val (.int (Int32.ofNat kN)), .unset] [(.int (Int32.ofNat kN))])) _
      refine XS.aloadN X101.here hx rfl (hb hby d17_8) rfl rfl ?_
      show Steps p.tables e below (T101.setTop (mkF m 9 #[.val (.ref a1), .val (.int (Int32.ofNat kN)), .unset] [(.ref a1), (.int (Int32.ofNat kN))])) _
      refine st102 _ ?_
      show Steps p.tables e below (T102.setTop (mkF m 12 #[.val (.ref a1), .val (.int (Int32.ofNat kN)), .unset] [(.ref t), (.int (Int32.ofNat kN))])) _
      refine X102.arraylength hx (by rw [e102]; exact Ar.1) (State.isArrayOf_alike hZ.alike Ar.2.1) (g := (mkF m 12 #[.val (.ref a1), .val (.int (Int32.ofNat kN)), .unset] [(.ref t), (.int (Int32.ofNat kN))])) rfl rfl (hb hby d17_12) _ ?_
      rw [len_of Sz2 (own_ofn0 (a := nN) (by omega))]
      show Steps p.tables e below (T102.setTop (mkF m 13 #[.val (.ref a1), .val (.int (Int32.ofNat kN)), .unset] [(.int (Int32.ofNat nN)), (.int (Int32.ofNat kN))])) _
      refine st103 _ ?_
      show Steps p.tables e below (T103.setTop (mkF m 16 #[.val (.ref a1), .val (.int (Int32.ofNat kN)), .unset] [])) _
      refine XS.aloadN X103.here hx rfl (hb hby d17_16) rfl rfl ?_
      show Steps p.tables e below (T103.setTop (mkF m 17 #[.val (.ref a1), .val (.int (Int32.ofNat kN)), .unset] [(.ref a1)])) _
      refine st104 _ ?_
      show Steps p.tables e below (T104.setTop (mkF m 20 #[.val (.ref a1), .val (.int (Int32.ofNat kN)), .unset] [(.ref t)])) _
      refine XS.iloadN X104.here hx rfl (hb hby d17_20) rfl ?_
      show Steps p.tables e below (T104.setTop (mkF m 21 #[.val (.ref a1), .val (.int (Int32.ofNat kN)), .unset] [(.int (Int32.ofNat kN)), (.ref t)])) _
      refine X104.baloadBytes hx (j := (Int32.ofNat kN)) (v := (.int (d kN))) (by rw [e104]; exact Ar.1) (State.isArrayOf_alike hZ.alike Ar.2.1) Ar.2.2 hin hat (g := (mkF m 21 #[.val (.ref a1), .val (.int (Int32.ofNat kN)), .unset] [(.int (Int32.ofNat kN)), (.ref t)])) rfl rfl (hb hby d17_21) _ ?_
      show Steps p.tables e below (T104.setTop (mkF m 22 #[.val (.ref a1), .val (.int (Int32.ofNat kN)), .unset] [(.int (d kN))])) _
      refine XS.sipush X104.here hx rfl (hb hby d17_22) ?_
      show Steps p.tables e below (T104.setTop (mkF m 25 #[.val (.ref a1), .val (.int (Int32.ofNat kN)), .unset] [(.int (255 : Int32)), (.int (d kN))])) _
      refine XS.iand X104.here hx rfl (hb hby d17_25) rfl ?_
      exact k_)
    obtain ⟨fs, hr, hrun, hended, hW, hsame⟩ := X104.leave (v := some (.int ((d kN) &&& (255 : Int32)))) (fun h => by rw [Bd.returns] at h; cases h)
    refine ⟨_, _, pre105 _ ?_, hrun, hended, _, _, rfl, ?_, ⟨_, rfl⟩, hW, hsame.mono (by decide) (by decide)⟩
    · show Steps p.tables e below (T104.setTop (mkF m 26 #[.val (.ref a1), .val (.int (Int32.ofNat kN)), .unset] [(.int ((d kN) &&& (255 : Int32)))])) _
      exact retI X104 hx Bd.returns (hb hby d17_26) hr
    · show QrmA1 Z a1 kN nN g zc fm h0 n0 _ T104.heap _
      rw [e104]
      exact ⟨by rw [own_and8 (rg kN b2).1 (l8 kN b2) (ed kN b2)], N103, rfl⟩
  · skip
    rw [q1] at Fc
    rw [q2] at AF
    have AG := own_Afcongr AF ed
    obtain ⟨cl, Ar, Sz, Hs⟩ := id AG
    have Sz2 : cl.slots.size = (Int32.ofNat (2 * nN)).toNatClampNeg := by rw [Sz, own_ofc (by omega)]
    obtain ⟨cq106, kq106, q106a, q106b, q106c⟩ := isOf hZ e0 Es
    obtain ⟨_, _, ⟨T106, L106, k106, n106⟩, -, X106, ⟨Lc106, hQ106, l106, y106, z106⟩, st106⟩ := X0.virtualBack hx (y := (⟨"java/lang/String", "isLatin1", "()Z"⟩ : MethodName)) (z := (⟨"java/lang/String", "isLatin1", "()Z"⟩ : MethodName)) hown (mvT hZ (hw _ (List.mem_of_getElem? (i := 83) rfl))) (mvT hZ (hw _ (List.mem_of_getElem? (i := 84) rfl))) (notFace_of_selects (args := #[]) (mvT hZ (hw _ (List.mem_of_getElem? (i := 86) rfl)))) (mvT hZ (hw _ (List.mem_of_getElem? (i := 86) rfl))) (mvT hZ (hw _ (List.mem_of_getElem? (i := 85) rfl))) (by decide) (backOf (W := 0) (rmL0 l Z a0 hw [] a1 zc h0 n0 Z0 Fc (S_c.ext O.2) hzc) hZ (hw _ (List.mem_of_getElem? (i := 87) rfl)) (hw _ (List.mem_of_getElem? (i := 7) rfl)) (by decide) (by decide)) q106a q106c (g := (mkF m 1 #[.val (.ref a1), .val (.int (Int32.ofNat kN)), .unset] [(.ref a1)])) rfl (by rw [hml]; rfl) (Steps.refl _) (argsL := []) (rest := []) (lenOf pd_13 rfl) rfl (by show 2 * 0 + _ ≤ _; exact Nat.le_of_eq rfl) (hb hby d17_1) (fun _ _ => ⟨rfl, e0, (by decide : 0 + 0 ≤ _), (by decide : 0 + 0 ≤ _)⟩)
    dsimp only [Pt.U, Pt.locs, Pt.cells, Pt.slots] at X106 l106 y106 z106 st106 hQ106
    subst l106 y106 z106
    obtain ⟨rfl, N106q, e106⟩ := hQ106
    have N106 := Fr.app N0 N106q
    obtain ⟨T107, X107, e107, st107⟩ := getF X106 hx hZ hown (host := "") (Or.inl (hw _ (List.mem_of_getElem? (i := 24) rfl))) Via.refl e106 Fv (g := (mkF m 28 #[.val (.ref a1), .val (.int (Int32.ofNat kN)), .unset] [(.ref a1)])) rfl rfl (hb hby d17_28)
    obtain ⟨nn, hv_nn, pre108⟩ : ∃ z_ : Int32, z_ = ((Int32.ofNat (2 * nN)) >>> ((1 : Int32) &&& 31)) ∧ ∀ t_, Steps p.tables e below (T107.setTop (mkF m 35 #[.val (.ref a1), .val (.int (Int32.ofNat kN)), .val (.int z_)] [])) t_ → Steps p.tables e below (s₁.setTop (entryFrame m #[(.ref a1), (.int (Int32.ofNat kN))] 3)) t_ := ⟨_, rfl, fun t_ k_ => pre0 _ (by
      show Steps p.tables e below (s₁.setTop (mkF m 0 #[.val (.ref a1), .val (.int (Int32.ofNat kN)), .unset] [])) _
      refine XS.aloadN X0.here hx rfl (hb hby d17_0) rfl rfl ?_
      show Steps p.tables e below (s₁.setTop (mkF m 1 #[.val (.ref a1), .val (.int (Int32.ofNat kN)), .unset] [(.ref a1)])) _
      refine st106.trans ?_
      show Steps p.tables e below (T106.setTop (mkF m 4 #[.val (.ref a1), .val (.int (Int32.ofNat kN)), .unset] [(.int (0 : Int32))])) _
      refine XS.ifYes X106.here hx rfl (pc0 := 4) (pc' := 27) rfl (hb hby d17_4) rfl ((if0 _ _).trans (teq (rfl : (0 : Int32) = 0)).1) (by decide) (by decide) ?_
      show Steps p.tables e below (T106.setTop (mkF m 27 #[.val (.ref a1), .val (.int (Int32.ofNat kN)), .unset] [])) _
      refine XS.aloadN X106.here hx rfl (hb hby d17_27) rfl rfl ?_
      show Steps p.tables e below (T106.setTop (mkF m 28 #[.val (.ref a1), .val (.int (Int32.ofNat kN)), .unset] [(.ref a1)])) _
      refine st107 _ ?_
      show Steps p.tables e below (T107.setTop (mkF m 31 #[.val (.ref a1), .val (.int (Int32.ofNat kN)), .unset] [(.ref t)])) _
      refine X107.arraylength hx (by rw [e107]; exact Ar.1) (State.isArrayOf_alike hZ.alike Ar.2.1) (g := (mkF m 31 #[.val (.ref a1), .val (.int (Int32.ofNat kN)), .unset] [(.ref t)])) rfl rfl (hb hby d17_31) _ ?_
      rw [len_of Sz2 (own_ofn0 (a := 2 * nN) (by omega))]
      show Steps p.tables e below (T107.setTop (mkF m 32 #[.val (.ref a1), .val (.int (Int32.ofNat kN)), .unset] [(.int (Int32.ofNat (2 * nN)))])) _
      refine XS.iconst X107.here hx rfl (hb hby d17_32) ?_
      show Steps p.tables e below (T107.setTop (mkF m 33 #[.val (.ref a1), .val (.int (Int32.ofNat kN)), .unset] [(.int (1 : Int32)), (.int (Int32.ofNat (2 * nN)))])) _
      refine XS.ishr X107.here hx rfl (hb hby d17_33) rfl ?_
      show Steps p.tables e below (T107.setTop (mkF m 34 #[.val (.ref a1), .val (.int (Int32.ofNat kN)), .unset] [(.int ((Int32.ofNat (2 * nN)) >>> ((1 : Int32) &&& 31)))])) _
      refine XS.istoreN X107.here hx rfl (hb hby d17_34) rfl (l' := #[.val (.ref a1), .val (.int (Int32.ofNat kN)), .val (.int ((Int32.ofNat (2 * nN)) >>> ((1 : Int32) &&& 31)))]) rfl ?_
      exact k_)⟩
    obtain rfl : nn = Int32.ofNat nN := by rw [hv_nn, own_shr1 (by omega)]
    obtain ⟨_, _, ⟨T109, L109, k109, n109⟩, -, X109, ⟨Lc109, hQ109, l109, y109, z109⟩, st109⟩ := Jvm.LawKit.callS X107 hx (y := (⟨"java/lang/String", "checkIndex", "(II)V"⟩ : MethodName)) hown (mvT hZ (hw _ (List.mem_of_getElem? (i := 88) rfl))) (mvT hZ (hw _ (List.mem_of_getElem? (i := 89) rfl))) (mvT hZ (hw _ (List.mem_of_getElem? (i := 7) rfl))) (mvT hZ (hw _ (List.mem_of_getElem? (i := 90) rfl))) (by decide) (backOf (W := 0) (rmCk l Z a0 hw [] kN nN fm h0 n0 Z0 (S_f.ext O.2) hf b2 b1) hZ (hw _ (List.mem_of_getElem? (i := 90) rfl)) (hw _ (List.mem_of_getElem? (i := 7) rfl)) (by decide) (by decide)) (g := (mkF m 37 #[.val (.ref a1), .val (.int (Int32.ofNat kN)), .val (.int (Int32.ofNat nN))] [(.int (Int32.ofNat nN)), (.int (Int32.ofNat kN))])) rfl (by rw [hml]; rfl) (argsL := [(.int (Int32.ofNat kN)), (.int (Int32.ofNat nN))]) (rest := []) (lenOf pd_14 rfl) rfl (by show 2 * 0 + _ ≤ _; exact Nat.le_of_eq rfl) (hb hby d17_37) (fun _ _ => ⟨rfl, e107, (by decide : 0 + 0 ≤ _), (by decide : 0 + 0 ≤ _)⟩)
    dsimp only [Pt.U, Pt.locs, Pt.cells, Pt.slots] at X109 l109 y109 z109 st109 hQ109
    subst l109 y109 z109
    obtain ⟨rfl, N109q, e109⟩ := hQ109
    have N109 := Fr.app N106 N109q
    obtain ⟨T110, X110, e110, st110⟩ := getF X109 hx hZ hown (host := "") (Or.inl (hw _ (List.mem_of_getElem? (i := 24) rfl))) Via.refl e109 Fv (g := (mkF m 41 #[.val (.ref a1), .val (.int (Int32.ofNat kN)), .val (.int (Int32.ofNat nN))] [(.ref a1)])) rfl rfl (hb hby d17_41)
    obtain ⟨_, _, ⟨T111, L111, k111, n111⟩, -, X111, ⟨Lc111, hQ111, l111, y111, z111⟩, st111⟩ := Jvm.LawKit.callS X110 hx (y := (⟨"java/lang/StringUTF16", "codePointAt", "([BII)I"⟩ : MethodName)) hown (mvT hZ (hw _ (List.mem_of_getElem? (i := 96) rfl))) (mvT hZ (hw _ (List.mem_of_getElem? (i := 97) rfl))) (mvT hZ (hw _ (List.mem_of_getElem? (i := 51) rfl))) (mvT hZ (hw _ (List.mem_of_getElem? (i := 98) rfl))) (by decide) (backOf (W := 0) (rmV1 l Z a0 hw [] t kN nN g h0 n0 Z0 S_a S_h S_l O b1 b2 rg AG H1) hZ (hw _ (List.mem_of_getElem? (i := 98) rfl)) (hw _ (List.mem_of_getElem? (i := 51) rfl)) (by decide) (by decide)) (g := (mkF m 46 #[.val (.ref a1), .val (.int (Int32.ofNat kN)), .val (.int (Int32.ofNat nN))] [(.int (Int32.ofNat nN)), (.int (Int32.ofNat kN)), (.ref t)])) rfl (by rw [hml]; rfl) (argsL := [(.ref t), (.int (Int32.ofNat kN)), (.int (Int32.ofNat nN))]) (rest := []) (lenOf pd_15 rfl) rfl (by show 2 * 0 + _ ≤ _; exact Nat.le_of_eq rfl) (hb hby d17_46) (fun _ _ => ⟨rfl, e110, (by decide : 0 + 0 ≤ _), (by decide : 0 + 0 ≤ _)⟩)
    dsimp only [Pt.U, Pt.locs, Pt.cells, Pt.slots] at X111 l111 y111 z111 st111 hQ111
    subst l111 y111 z111
    obtain ⟨rfl, N111q, e111⟩ := hQ111
    have N111 := Fr.app N109 N111q
    have pre112 : ∀ t_, Steps p.tables e below (T111.setTop (mkF m 49 #[.val (.ref a1), .val (.int (Int32.ofNat kN)), .val (.int (Int32.ofNat nN))] [(.int (g kN))])) t_ → Steps p.tables e below (s₁.setTop (entryFrame m #[(.ref a1), (.int (Int32.ofNat kN))] 3)) t_ := fun t_ k_ => pre108 _ (by
      show Steps p.tables e below (T107.setTop (mkF m 35 #[.val (.ref a1), .val (.int (Int32.ofNat kN)), .val (.int (Int32.ofNat nN))] [])) _
      refine XS.iloadN X107.here hx rfl (hb hby d17_35) rfl ?_
      show Steps p.tables e below (T107.setTop (mkF m 36 #[.val (.ref a1), .val (.int (Int32.ofNat kN)), .val (.int (Int32.ofNat nN))] [(.int (Int32.ofNat kN))])) _
      refine XS.iloadN X107.here hx rfl (hb hby d17_36) rfl ?_
      show Steps p.tables e below (T107.setTop (mkF m 37 #[.val (.ref a1), .val (.int (Int32.ofNat kN)), .val (.int (Int32.ofNat nN))] [(.int (Int32.ofNat nN)), (.int (Int32.ofNat kN))])) _
      refine st109 _ ?_
      show Steps p.tables e below (T109.setTop (mkF m 40 #[.val (.ref a1), .val (.int (Int32.ofNat kN)), .val (.int (Int32.ofNat nN))] [])) _
      refine XS.aloadN X109.here hx rfl (hb hby d17_40) rfl rfl ?_
      show Steps p.tables e below (T109.setTop (mkF m 41 #[.val (.ref a1), .val (.int (Int32.ofNat kN)), .val (.int (Int32.ofNat nN))] [(.ref a1)])) _
      refine st110 _ ?_
      show Steps p.tables e below (T110.setTop (mkF m 44 #[.val (.ref a1), .val (.int (Int32.ofNat kN)), .val (.int (Int32.ofNat nN))] [(.ref t)])) _
      refine XS.iloadN X110.here hx rfl (hb hby d17_44) rfl ?_
      show Steps p.tables e below (T110.setTop (mkF m 45 #[.val (.ref a1), .val (.int (Int32.ofNat kN)), .val (.int (Int32.ofNat nN))] [(.int (Int32.ofNat kN)), (.ref t)])) _
      refine XS.iloadN X110.here hx rfl (hb hby d17_45) rfl ?_
      show Steps p.tables e below (T110.setTop (mkF m 46 #[.val (.ref a1), .val (.int (Int32.ofNat kN)), .val (.int (Int32.ofNat nN))] [(.int (Int32.ofNat nN)), (.int (Int32.ofNat kN)), (.ref t)])) _
      refine st111 _ ?_
      exact k_)
    obtain ⟨fs, hr, hrun, hended, hW, hsame⟩ := X111.leave (v := some (.int (g kN))) (fun h => by rw [Bd.returns] at h; cases h)
    refine ⟨_, _, pre112 _ ?_, hrun, hended, _, _, rfl, ?_, ⟨_, rfl⟩, hW, hsame.mono (by decide) (by decide)⟩
    · show Steps p.tables e below (T111.setTop (mkF m 49 #[.val (.ref a1), .val (.int (Int32.ofNat kN)), .val (.int (Int32.ofNat nN))] [(.int (g kN))])) _
      exact retI X111 hx Bd.returns (hb hby d17_49) hr
    · show QrmA1 Z a1 kN nN g zc fm h0 n0 _ T111.heap _
      rw [e111]
      exact ⟨rfl, N111, rfl⟩
theorem ef_rmA2 (m : MethodId) (x0 : Addr) (x1 : Int32) : entryFrame m #[(.ref x0), (.int x1)] 3 = mkF m 0 #[.val (.ref x0), .val (.int x1), .unset] [] := by first | (simp [entryFrame, mkF, argsToLocals, Value.category]; done) | rfl
def QrmA2 (Z : State) (a1 : Addr) (kN : Nat) (nN : Nat) (g : Nat → Int32) (zc : Int32) (fm : Value) (h0 : Heap) (n0 : Nat) (v : Option Value) (h : Heap) (L : List Loc) : Prop := v = some (.int (own_cp (g kN) (g (kN + 1)))) ∧ Fr n0 L ∧ h = h0
set_option maxRecDepth 65536 in
set_option maxHeartbeats 40000000 in
theorem rmA2 (l : Launch) (Z : State) (a0 : Array Value) (hw : ∀ d ∈ tables_1, d.before a0 Z = true) (ws : List Jvm.Cond) (a1 : Addr) (kN : Nat) (nN : Nat) (g : Nat → Int32) (zc : Int32) (fm : Value) (h0 : Heap) (n0 : Nat) (Z0 : n0 ≤ h0.size) (S_a : Sta Z Z.heap "java/lang/StringUTF16" "$assertionsDisabled" "Z" (.int (1 : Int32))) (S_h : Sta Z Z.heap "java/lang/StringUTF16" "HI_BYTE_SHIFT" "I" (.int (0 : Int32))) (S_l : Sta Z Z.heap "java/lang/StringUTF16" "LO_BYTE_SHIFT" "I" (.int (8 : Int32))) (O : Old Z n0 h0) (S_c : Sta Z Z.heap "java/lang/String" "COMPACT_STRINGS" "Z" (.int zc)) (hzc : ¬ zc = 0) (S_f : Sta Z Z.heap "jdk/internal/util/Preconditions" "SIOOBE_FORMATTER" "Ljava/util/function/BiFunction;" fm) (hf : fm.isRef = true) (b1 : nN ≤ 6) (b2 : kN < nN) (rg : own_rng nN g) (TS : own_S Z h0 a1 nN g) (b3 : kN + 1 < nN) (H1 : own_hi (g kN)) (H2 : own_lo (g (kN + 1))) :
    MetFree l (⟨"java/lang/String", "codePointAt", "(I)I"⟩ : MethodName) (head1 (Jvm.Cond.code (⟨"java/lang/String", "codePointAt", "(I)I"⟩ : MethodName) jdk_42_method_57_code 3 (some .int) :: ws) ({ frames := 3, cells := 0, slots := 0, locals := 44 } : Room)) (fun a U => a = #[(.ref a1), (.int (Int32.ofNat kN))] ∧ Z.Warmed39 U.vm ∧ U.heap = h0) (fun _ _ _ _ _ => True) (fun _ U o U' => ∃ v L, o = .returned v ∧ QrmA2 Z a1 kN nN g zc fm h0 n0 v U'.heap L ∧ FrameEnd U o U' L ({ frames := 3, cells := 0, slots := 0, locals := 44 } : Room).cells ({ frames := 3, cells := 0, slots := 0, locals := 44 } : Room).slots) := by
  refine MetFree.of_bodySF (plainFor_of_name pn_1) hisR ?_
  intro p e s m args below meth c s₁ Bd hml0 hP hK
  obtain ⟨rfl, hZ, hh⟩ := hP
  have hx := Bd.exec
  have hby := Bd.bytes
  have hml : c.maxLocals = 3 := hml0
  have hown : s.vm.findClass "java/lang/String" = some m.cls := findClass_of_methodNamed Bd.named
  have hnm := (name_of_methodNamed Bd.named Bd.method).1
  have X0 : Stand p l e ({ frames := 3, cells := 0, slots := 0, locals := 44 } : Room) s m #[(.ref a1), (.int (Int32.ofNat kN))] below meth c s₁ [] 0 0 := Stand.of_body Bd
  have e0 : s₁.heap = h0 := by rw [← hh, Bd.state]; rfl
  have N0 := Fr.nil n0
  have pre0 : ∀ t_, Steps p.tables e below (s₁.setTop (mkF m 0 #[.val (.ref a1), .val (.int (Int32.ofNat kN)), .unset] [])) t_ → Steps p.tables e below (s₁.setTop (entryFrame m #[(.ref a1), (.int (Int32.ofNat kN))] 3)) t_ := fun t_ k_ => castTop (ef_rmA2 m a1 ((Int32.ofNat kN))) k_
  obtain ⟨t, cd, N, d, Es, Fv, Fc, AF, EN⟩ := TS
  rcases EN with ⟨q1, q2, l8, ed⟩ | ⟨q1, q2, ed⟩
  · skip
    exact absurd (l8 kN b2) (by have := H1.1; omega)
  · skip
    rw [q1] at Fc
    rw [q2] at AF
    have AG := own_Afcongr AF ed
    obtain ⟨cl, Ar, Sz, Hs⟩ := id AG
    have Sz2 : cl.slots.size = (Int32.ofNat (2 * nN)).toNatClampNeg := by rw [Sz, own_ofc (by omega)]
    obtain ⟨cq101, kq101, q101a, q101b, q101c⟩ := isOf hZ e0 Es
    obtain ⟨_, _, ⟨T101, L101, k101, n101⟩, -, X101, ⟨Lc101, hQ101, l101, y101, z101⟩, st101⟩ := X0.virtualBack hx (y := (⟨"java/lang/String", "isLatin1", "()Z"⟩ : MethodName)) (z := (⟨"java/lang/String", "isLatin1", "()Z"⟩ : MethodName)) hown (mvT hZ (hw _ (List.mem_of_getElem? (i := 83) rfl))) (mvT hZ (hw _ (List.mem_of_getElem? (i := 84) rfl))) (notFace_of_selects (args := #[]) (mvT hZ (hw _ (List.mem_of_getElem? (i := 86) rfl)))) (mvT hZ (hw _ (List.mem_of_getElem? (i := 86) rfl))) (mvT hZ (hw _ (List.mem_of_getElem? (i := 85) rfl))) (by decide) (backOf (W := 0) (rmL0 l Z a0 hw [] a1 zc h0 n0 Z0 Fc (S_c.ext O.2) hzc) hZ (hw _ (List.mem_of_getElem? (i := 87) rfl)) (hw _ (List.mem_of_getElem? (i := 7) rfl)) (by decide) (by decide)) q101a q101c (g := (mkF m 1 #[.val (.ref a1), .val (.int (Int32.ofNat kN)), .unset] [(.ref a1)])) rfl (by rw [hml]; rfl) (Steps.refl _) (argsL := []) (rest := []) (lenOf pd_13 rfl) rfl (by show 2 * 0 + _ ≤ _; exact Nat.le_of_eq rfl) (hb hby d17_1) (fun _ _ => ⟨rfl, e0, (by decide : 0 + 0 ≤ _), (by decide : 0 + 0 ≤ _)⟩)
    dsimp only [Pt.U, Pt.locs, Pt.cells, Pt.slots] at X101 l101 y101 z101 st101 hQ101
    subst l101 y101 z101
    obtain ⟨rfl, N101q, e101⟩ := hQ101
    have N101 := Fr.app N0 N101q
    obtain ⟨T102, X102, e102, st102⟩ := getF X101 hx hZ hown (host := "") (Or.inl (hw _ (List.mem_of_getElem? (i := 24) rfl))) Via.refl e101 Fv (g := (mkF m 28 #[.val (.ref a1), .val (.int (Int32.ofNat kN)), .unset] [(.ref a1)])) rfl rfl (hb hby d17_28)
    obtain ⟨nn, hv_nn, pre103⟩ : ∃ z_ : Int32, z_ = ((Int32.ofNat (2 * nN)) >>> ((1 : Int32) &&& 31)) ∧ ∀ t_, Steps p.tables e below (T102.setTop (mkF m 35 #[.val (.ref a1), .val (.int (Int32.ofNat kN)), .val (.int z_)] [])) t_ → Steps p.tables e below (s₁.setTop (entryFrame m #[(.ref a1), (.int (Int32.ofNat kN))] 3)) t_ := ⟨_, rfl, fun t_ k_ => pre0 _ (by
      show Steps p.tables e below (s₁.setTop (mkF m 0 #[.val (.ref a1), .val (.int (Int32.ofNat kN)), .unset] [])) _
      refine XS.aloadN X0.here hx rfl (hb hby d17_0) rfl rfl ?_
      show Steps p.tables e below (s₁.setTop (mkF m 1 #[.val (.ref a1), .val (.int (Int32.ofNat kN)), .unset] [(.ref a1)])) _
      refine st101.trans ?_
      show Steps p.tables e below (T101.setTop (mkF m 4 #[.val (.ref a1), .val (.int (Int32.ofNat kN)), .unset] [(.int (0 : Int32))])) _
      refine XS.ifYes X101.here hx rfl (pc0 := 4) (pc' := 27) rfl (hb hby d17_4) rfl ((if0 _ _).trans (teq (rfl : (0 : Int32) = 0)).1) (by decide) (by decide) ?_
      show Steps p.tables e below (T101.setTop (mkF m 27 #[.val (.ref a1), .val (.int (Int32.ofNat kN)), .unset] [])) _
      refine XS.aloadN X101.here hx rfl (hb hby d17_27) rfl rfl ?_
      show Steps p.tables e below (T101.setTop (mkF m 28 #[.val (.ref a1), .val (.int (Int32.ofNat kN)), .unset] [(.ref a1)])) _
      refine st102 _ ?_
      show Steps p.tables e below (T102.setTop (mkF m 31 #[.val (.ref a1), .val (.int (Int32.ofNat kN)), .unset] [(.ref t)])) _
      refine X102.arraylength hx (by rw [e102]; exact Ar.1) (State.isArrayOf_alike hZ.alike Ar.2.1) (g := (mkF m 31 #[.val (.ref a1), .val (.int (Int32.ofNat kN)), .unset] [(.ref t)])) rfl rfl (hb hby d17_31) _ ?_
      rw [len_of Sz2 (own_ofn0 (a := 2 * nN) (by omega))]
      show Steps p.tables e below (T102.setTop (mkF m 32 #[.val (.ref a1), .val (.int (Int32.ofNat kN)), .unset] [(.int (Int32.ofNat (2 * nN)))])) _
      refine XS.iconst X102.here hx rfl (hb hby d17_32) ?_
      show Steps p.tables e below (T102.setTop (mkF m 33 #[.val (.ref a1), .val (.int (Int32.ofNat kN)), .unset] [(.int (1 : Int32)), (.int (Int32.ofNat (2 * nN)))])) _
      refine XS.ishr X102.here hx rfl (hb hby d17_33) rfl ?_
      show Steps p.tables e below (T102.setTop (mkF m 34 #[.val (.ref a1), .val (.int (Int32.ofNat kN)), .unset] [(.int ((Int32.ofNat (2 * nN)) >>> ((1 : Int32) &&& 31)))])) _
      refine XS.istoreN X102.here hx rfl (hb hby d17_34) rfl (l' := #[.val (.ref a1), .val (.int (Int32.ofNat kN)), .val (.int ((Int32.ofNat (2 * nN)) >>> ((1 : Int32) &&& 31)))]) rfl ?_
      exact k_)⟩
    obtain rfl : nn = Int32.ofNat nN := by rw [hv_nn, own_shr1 (by omega)]
    obtain ⟨_, _, ⟨T104, L104, k104, n104⟩, -, X104, ⟨Lc104, hQ104, l104, y104, z104⟩, st104⟩ := Jvm.LawKit.callS X102 hx (y := (⟨"java/lang/String", "checkIndex", "(II)V"⟩ : MethodName)) hown (mvT hZ (hw _ (List.mem_of_getElem? (i := 88) rfl))) (mvT hZ (hw _ (List.mem_of_getElem? (i := 89) rfl))) (mvT hZ (hw _ (List.mem_of_getElem? (i := 7) rfl))) (mvT hZ (hw _ (List.mem_of_getElem? (i := 90) rfl))) (by decide) (backOf (W := 0) (rmCk l Z a0 hw [] kN nN fm h0 n0 Z0 (S_f.ext O.2) hf b2 b1) hZ (hw _ (List.mem_of_getElem? (i := 90) rfl)) (hw _ (List.mem_of_getElem? (i := 7) rfl)) (by decide) (by decide)) (g := (mkF m 37 #[.val (.ref a1), .val (.int (Int32.ofNat kN)), .val (.int (Int32.ofNat nN))] [(.int (Int32.ofNat nN)), (.int (Int32.ofNat kN))])) rfl (by rw [hml]; rfl) (argsL := [(.int (Int32.ofNat kN)), (.int (Int32.ofNat nN))]) (rest := []) (lenOf pd_14 rfl) rfl (by show 2 * 0 + _ ≤ _; exact Nat.le_of_eq rfl) (hb hby d17_37) (fun _ _ => ⟨rfl, e102, (by decide : 0 + 0 ≤ _), (by decide : 0 + 0 ≤ _)⟩)
    dsimp only [Pt.U, Pt.locs, Pt.cells, Pt.slots] at X104 l104 y104 z104 st104 hQ104
    subst l104 y104 z104
    obtain ⟨rfl, N104q, e104⟩ := hQ104
    have N104 := Fr.app N101 N104q
    obtain ⟨T105, X105, e105, st105⟩ := getF X104 hx hZ hown (host := "") (Or.inl (hw _ (List.mem_of_getElem? (i := 24) rfl))) Via.refl e104 Fv (g := (mkF m 41 #[.val (.ref a1), .val (.int (Int32.ofNat kN)), .val (.int (Int32.ofNat nN))] [(.ref a1)])) rfl rfl (hb hby d17_41)
    obtain ⟨_, _, ⟨T106, L106, k106, n106⟩, -, X106, ⟨Lc106, hQ106, l106, y106, z106⟩, st106⟩ := Jvm.LawKit.callS X105 hx (y := (⟨"java/lang/StringUTF16", "codePointAt", "([BII)I"⟩ : MethodName)) hown (mvT hZ (hw _ (List.mem_of_getElem? (i := 96) rfl))) (mvT hZ (hw _ (List.mem_of_getElem? (i := 97) rfl))) (mvT hZ (hw _ (List.mem_of_getElem? (i := 51) rfl))) (mvT hZ (hw _ (List.mem_of_getElem? (i := 98) rfl))) (by decide) (backOf (W := 0) (rmV2 l Z a0 hw [] t kN nN g h0 n0 Z0 S_a S_h S_l O b1 b2 rg AG b3 H1 H2) hZ (hw _ (List.mem_of_getElem? (i := 98) rfl)) (hw _ (List.mem_of_getElem? (i := 51) rfl)) (by decide) (by decide)) (g := (mkF m 46 #[.val (.ref a1), .val (.int (Int32.ofNat kN)), .val (.int (Int32.ofNat nN))] [(.int (Int32.ofNat nN)), (.int (Int32.ofNat kN)), (.ref t)])) rfl (by rw [hml]; rfl) (argsL := [(.ref t), (.int (Int32.ofNat kN)), (.int (Int32.ofNat nN))]) (rest := []) (lenOf pd_15 rfl) rfl (by show 2 * 0 + _ ≤ _; exact Nat.le_of_eq rfl) (hb hby d17_46) (fun _ _ => ⟨rfl, e105, (by decide : 0 + 0 ≤ _), (by decide : 0 + 0 ≤ _)⟩)
    dsimp only [Pt.U, Pt.locs, Pt.cells, Pt.slots] at X106 l106 y106 z106 st106 hQ106
    subst l106 y106 z106
    obtain ⟨rfl, N106q, e106⟩ := hQ106
    have N106 := Fr.app N104 N106q
    have pre107 : ∀ t_, Steps p.tables e below (T106.setTop (mkF m 49 #[.val (.ref a1), .val (.int (Int32.ofNat kN)), .val (.int (Int32.ofNat nN))] [(.int (own_cp (g kN) (g (kN + 1))))])) t_ → Steps p.tables e below (s₁.setTop (entryFrame m #[(.ref a1), (.int (Int32.ofNat kN))] 3)) t_ := fun t_ k_ => pre103 _ (by
      show Steps p.tables e below (T102.setTop (mkF m 35 #[.val (.ref a1), .val (.int (Int32.ofNat kN)), .val (.int (Int32.ofNat nN))] [])) _
      refine XS.iloadN X102.here hx rfl (hb hby d17_35) rfl ?_
      show Steps p.tables e below (T102.setTop (mkF m 36 #[.val (.ref a1), .val (.int (Int32.ofNat kN)), .val (.int (Int32.ofNat nN))] [(.int (Int32.ofNat kN))])) _
      refine XS.iloadN X102.here hx rfl (hb hby d17_36) rfl ?_
      show Steps p.tables e below (T102.setTop (mkF m 37 #[.val (.ref a1), .val (.int (Int32.ofNat kN)), .val (.int (Int32.ofNat nN))] [(.int (Int32.ofNat nN)), (.int (Int32.ofNat kN))])) _
      refine st104 _ ?_
      show Steps p.tables e below (T104.setTop (mkF m 40 #[.val (.ref a1), .val (.int (Int32.ofNat kN)), .val (.int (Int32.ofNat nN))] [])) _
      refine XS.aloadN X104.here hx rfl (hb hby d17_40) rfl rfl ?_
      show Steps p.tables e below (T104.setTop (mkF m 41 #[.val (.ref a1), .val (.int (Int32.ofNat kN)), .val (.int (Int32.ofNat nN))] [(.ref a1)])) _
      refine st105 _ ?_
      show Steps p.tables e below (T105.setTop (mkF m 44 #[.val (.ref a1), .val (.int (Int32.ofNat kN)), .val (.int (Int32.ofNat nN))] [(.ref t)])) _
      refine XS.iloadN X105.here hx rfl (hb hby d17_44) rfl ?_
      show Steps p.tables e below (T105.setTop (mkF m 45 #[.val (.ref a1), .val (.int (Int32.ofNat kN)), .val (.int (Int32.ofNat nN))] [(.int (Int32.ofNat kN)), (.ref t)])) _
      refine XS.iloadN X105.here hx rfl (hb hby d17_45) rfl ?_
      show Steps p.tables e below (T105.setTop (mkF m 46 #[.val (.ref a1), .val (.int (Int32.ofNat kN)), .val (.int (Int32.ofNat nN))] [(.int (Int32.ofNat nN)), (.int (Int32.ofNat kN)), (.ref t)])) _
      refine st106 _ ?_
      exact k_)
    obtain ⟨fs, hr, hrun, hended, hW, hsame⟩ := X106.leave (v := some (.int (own_cp (g kN) (g (kN + 1))))) (fun h => by rw [Bd.returns] at h; cases h)
    refine ⟨_, _, pre107 _ ?_, hrun, hended, _, _, rfl, ?_, ⟨_, rfl⟩, hW, hsame.mono (by decide) (by decide)⟩
    · show Steps p.tables e below (T106.setTop (mkF m 49 #[.val (.ref a1), .val (.int (Int32.ofNat kN)), .val (.int (Int32.ofNat nN))] [(.int (own_cp (g kN) (g (kN + 1))))])) _
      exact retI X106 hx Bd.returns (hb hby d17_49) hr
    · show QrmA2 Z a1 kN nN g zc fm h0 n0 _ T106.heap _
      rw [e106]
      exact ⟨rfl, N106, rfl⟩
theorem d8_0 : decode method_3_code 0 = .ok (.iload_n 2, 1) := by decide +kernel
theorem d8_1 : decode method_3_code 1 = .ok (.iconst 1, 1) := by decide +kernel
theorem d8_2 : decode method_3_code 2 = .ok (.iand, 1) := by decide +kernel
theorem d8_3 : decode method_3_code 3 = .ok (.ifCond .eq 38, 3) := by decide +kernel
theorem d8_6 : decode method_3_code 6 = .ok (.aload_n 0, 1) := by decide +kernel
theorem d8_7 : decode method_3_code 7 = .ok (.iload_n 1, 1) := by decide +kernel
theorem d8_8 : decode method_3_code 8 = .ok (.ldc 25, 2) := by decide +kernel
theorem d8_10 : decode method_3_code 10 = .ok (.iload_n 2, 1) := by decide +kernel
theorem d8_11 : decode method_3_code 11 = .ok (.iconst 1, 1) := by decide +kernel
theorem d8_12 : decode method_3_code 12 = .ok (.iushr, 1) := by decide +kernel
theorem d8_13 : decode method_3_code 13 = .ok (.sipush 1023, 3) := by decide +kernel
theorem d8_16 : decode method_3_code 16 = .ok (.iand, 1) := by decide +kernel
theorem d8_17 : decode method_3_code 17 = .ok (.iadd, 1) := by decide +kernel
theorem d8_18 : decode method_3_code 18 = .ok (.i2c, 1) := by decide +kernel
theorem d8_19 : decode method_3_code 19 = .ok (.castore, 1) := by decide +kernel
theorem d8_20 : decode method_3_code 20 = .ok (.aload_n 0, 1) := by decide +kernel
theorem d8_21 : decode method_3_code 21 = .ok (.iload_n 1, 1) := by decide +kernel
theorem d8_22 : decode method_3_code 22 = .ok (.iconst 1, 1) := by decide +kernel
theorem d8_23 : decode method_3_code 23 = .ok (.iadd, 1) := by decide +kernel
theorem d8_24 : decode method_3_code 24 = .ok (.ldc 26, 2) := by decide +kernel
theorem d8_26 : decode method_3_code 26 = .ok (.iload_n 2, 1) := by decide +kernel
theorem d8_27 : decode method_3_code 27 = .ok (.bipush 11, 2) := by decide +kernel
theorem d8_29 : decode method_3_code 29 = .ok (.iushr, 1) := by decide +kernel
theorem d8_30 : decode method_3_code 30 = .ok (.sipush 1023, 3) := by decide +kernel
theorem d8_33 : decode method_3_code 33 = .ok (.iand, 1) := by decide +kernel
theorem d8_34 : decode method_3_code 34 = .ok (.iadd, 1) := by decide +kernel
theorem d8_35 : decode method_3_code 35 = .ok (.i2c, 1) := by decide +kernel
theorem d8_36 : decode method_3_code 36 = .ok (.castore, 1) := by decide +kernel
theorem d8_37 : decode method_3_code 37 = .ok (.iload_n 1, 1) := by decide +kernel
theorem d8_38 : decode method_3_code 38 = .ok (.iconst 2, 1) := by decide +kernel
theorem d8_39 : decode method_3_code 39 = .ok (.iadd, 1) := by decide +kernel
theorem d8_40 : decode method_3_code 40 = .ok (.ireturn, 1) := by decide +kernel
theorem d8_41 : decode method_3_code 41 = .ok (.iload_n 2, 1) := by decide +kernel
theorem d8_42 : decode method_3_code 42 = .ok (.iconst 1, 1) := by decide +kernel
theorem d8_43 : decode method_3_code 43 = .ok (.iushr, 1) := by decide +kernel
theorem d8_44 : decode method_3_code 44 = .ok (.ldc 27, 2) := by decide +kernel
theorem d8_46 : decode method_3_code 46 = .ok (.iand, 1) := by decide +kernel
theorem d8_47 : decode method_3_code 47 = .ok (.istore_n 3, 1) := by decide +kernel
theorem d8_48 : decode method_3_code 48 = .ok (.iload_n 3, 1) := by decide +kernel
theorem d8_49 : decode method_3_code 49 = .ok (.ifCond .ne 8, 3) := by decide +kernel
theorem d8_52 : decode method_3_code 52 = .ok (.iconst 1, 1) := by decide +kernel
theorem d8_53 : decode method_3_code 53 = .ok (.istore_n 3, 1) := by decide +kernel
theorem d8_54 : decode method_3_code 54 = .ok (.goto 21, 3) := by decide +kernel
theorem d8_57 : decode method_3_code 57 = .ok (.iload_n 3, 1) := by decide +kernel
theorem d8_58 : decode method_3_code 58 = .ok (.ldc 25, 2) := by decide +kernel
theorem d8_60 : decode method_3_code 60 = .ok (.if_icmp .lt 15, 3) := by decide +kernel
theorem d8_63 : decode method_3_code 63 = .ok (.iload_n 3, 1) := by decide +kernel
theorem d8_64 : decode method_3_code 64 = .ok (.ldc 28, 2) := by decide +kernel
theorem d8_66 : decode method_3_code 66 = .ok (.if_icmp .gt 9, 3) := by decide +kernel
theorem d8_69 : decode method_3_code 69 = .ok (.iload_n 3, 1) := by decide +kernel
theorem d8_70 : decode method_3_code 70 = .ok (.sipush 2048, 3) := by decide +kernel
theorem d8_73 : decode method_3_code 73 = .ok (.isub, 1) := by decide +kernel
theorem d8_74 : decode method_3_code 74 = .ok (.istore_n 3, 1) := by decide +kernel
theorem d8_75 : decode method_3_code 75 = .ok (.aload_n 0, 1) := by decide +kernel
theorem d8_76 : decode method_3_code 76 = .ok (.iload_n 1, 1) := by decide +kernel
theorem d8_77 : decode method_3_code 77 = .ok (.iload_n 3, 1) := by decide +kernel
theorem d8_78 : decode method_3_code 78 = .ok (.i2c, 1) := by decide +kernel
theorem d8_79 : decode method_3_code 79 = .ok (.castore, 1) := by decide +kernel
theorem d8_80 : decode method_3_code 80 = .ok (.iload_n 1, 1) := by decide +kernel
theorem d8_81 : decode method_3_code 81 = .ok (.iconst 1, 1) := by decide +kernel
theorem d8_82 : decode method_3_code 82 = .ok (.iadd, 1) := by decide +kernel
theorem d8_83 : decode method_3_code 83 = .ok (.ireturn, 1) := by decide +kernel
theorem pn_4 : plainName "com/example/ledgerpost/ledgerpost/StorableTextRequirePinLaw" = true := by first | (simp [plainName, overriddenIn]; done) | decide +kernel
theorem ef_rmPut (m : MethodId) (x0 : Addr) (x1 : Int32) (x2 : Int32) : entryFrame m #[(.ref x0), (.int x1), (.int x2)] 4 = mkF m 0 #[.val (.ref x0), .val (.int x1), .val (.int x2), .unset] [] := by first | (simp [entryFrame, mkF, argsToLocals, Value.category]; done) | rfl
def QrmPut (Z : State) (a1 : Addr) (p3 : Int32) (qN : Nat) (g : Nat → Int32) (ks : List Bool) (h0 : Heap) (n0 : Nat) (v : Option Value) (h : Heap) (L : List Loc) : Prop := ∃ (rN : Nat) (g' : Nat → Int32) (ks' : List Bool), v = some (.int (Int32.ofNat rN)) ∧ Fr n0 L ∧ Keep h0 h [a1] ∧ own_Af Z h a1 .char 6 g' ∧ own_W g' rN ks' 0 ∧ rN ≤ qN + 2
set_option maxRecDepth 65536 in
set_option maxHeartbeats 40000000 in
theorem rmPut (l : Launch) (Z : State) (a0 : Array Value) (hw : ∀ d ∈ tables_1, d.before a0 Z = true) (ws : List Jvm.Cond) (a1 : Addr) (p3 : Int32) (qN : Nat) (g : Nat → Int32) (ks : List Bool) (h0 : Heap) (n0 : Nat) (Z0 : n0 ≤ h0.size) (b4 : qN ≤ 4) (V : own_Af Z h0 a1 .char 6 g) (g_a1 : n0 ≤ a1) (Wg : own_W g qN ks 0) :
    MetFree l (⟨"com/example/ledgerpost/ledgerpost/StorableTextRequirePinLaw", "put", "([CII)I"⟩ : MethodName) (head1 (Jvm.Cond.code (⟨"com/example/ledgerpost/ledgerpost/StorableTextRequirePinLaw", "put", "([CII)I"⟩ : MethodName) method_3_code 4 (some .int) :: ws) ({ frames := 0, cells := 0, slots := 0, locals := 0 } : Room)) (fun a U => a = #[(.ref a1), (.int (Int32.ofNat qN)), (.int p3)] ∧ Z.Warmed39 U.vm ∧ U.heap = h0) (fun _ _ _ _ _ => True) (fun _ U o U' => ∃ v L, o = .returned v ∧ QrmPut Z a1 p3 qN g ks h0 n0 v U'.heap L ∧ FrameEnd U o U' L ({ frames := 0, cells := 0, slots := 0, locals := 0 } : Room).cells ({ frames := 0, cells := 0, slots := 0, locals := 0 } : Room).slots) := by
  refine MetFree.of_bodySF (plainFor_of_name pn_4) hisR ?_
  intro p e s m args below meth c s₁ Bd hml0 hP hK
  obtain ⟨rfl, hZ, hh⟩ := hP
  have hx := Bd.exec
  have hby := Bd.bytes
  have hml : c.maxLocals = 4 := hml0
  have hown : s.vm.findClass "com/example/ledgerpost/ledgerpost/StorableTextRequirePinLaw" = some m.cls := findClass_of_methodNamed Bd.named
  have hnm := (name_of_methodNamed Bd.named Bd.method).1
  have X0 : Stand p l e ({ frames := 0, cells := 0, slots := 0, locals := 0 } : Room) s m #[(.ref a1), (.int (Int32.ofNat qN)), (.int p3)] below meth c s₁ [] 0 0 := Stand.of_body Bd
  have e0 : s₁.heap = h0 := by rw [← hh, Bd.state]; rfl
  have N0 := Fr.nil n0
  have pre0 : ∀ t_, Steps p.tables e below (s₁.setTop (mkF m 0 #[.val (.ref a1), .val (.int (Int32.ofNat qN)), .val (.int p3), .unset] [])) t_ → Steps p.tables e below (s₁.setTop (entryFrame m #[(.ref a1), (.int (Int32.ofNat qN)), (.int p3)] 4)) t_ := fun t_ k_ => castTop (ef_rmPut m a1 ((Int32.ofNat qN)) p3) k_
  have pre101 : ∀ t_, Steps p.tables e below (s₁.setTop (mkF m 3 #[.val (.ref a1), .val (.int (Int32.ofNat qN)), .val (.int p3), .unset] [(.int (p3 &&& (1 : Int32)))])) t_ → Steps p.tables e below (s₁.setTop (entryFrame m #[(.ref a1), (.int (Int32.ofNat qN)), (.int p3)] 4)) t_ := fun t_ k_ => pre0 _ (by
    show Steps p.tables e below (s₁.setTop (mkF m 0 #[.val (.ref a1), .val (.int (Int32.ofNat qN)), .val (.int p3), .unset] [])) _
    refine XS.iloadN X0.here hx rfl (hb hby d8_0) rfl ?_
    show Steps p.tables e below (s₁.setTop (mkF m 1 #[.val (.ref a1), .val (.int (Int32.ofNat qN)), .val (.int p3), .unset] [(.int p3)])) _
    refine XS.iconst X0.here hx rfl (hb hby d8_1) ?_
    show Steps p.tables e below (s₁.setTop (mkF m 2 #[.val (.ref a1), .val (.int (Int32.ofNat qN)), .val (.int p3), .unset] [(.int (1 : Int32)), (.int p3)])) _
    refine XS.iand X0.here hx rfl (hb hby d8_2) rfl ?_
    exact k_)
  by_cases hp : (p3 &&& (1 : Int32)) = (0 : Int32)
  · skip
    obtain ⟨zz, hv_zz, pre102⟩ : ∃ z_ : Int32, z_ = (((p3.toUInt32 >>> ((1 : Int32) &&& 31).toUInt32).toInt32) &&& (65535 : Int32)) ∧ ∀ t_, Steps p.tables e below (s₁.setTop (mkF m 48 #[.val (.ref a1), .val (.int (Int32.ofNat qN)), .val (.int p3), .val (.int z_)] [])) t_ → Steps p.tables e below (s₁.setTop (entryFrame m #[(.ref a1), (.int (Int32.ofNat qN)), (.int p3)] 4)) t_ := ⟨_, rfl, fun t_ k_ => pre101 _ (by
      show Steps p.tables e below (s₁.setTop (mkF m 3 #[.val (.ref a1), .val (.int (Int32.ofNat qN)), .val (.int p3), .unset] [(.int (p3 &&& (1 : Int32)))])) _
      refine XS.ifYes X0.here hx rfl (pc0 := 3) (pc' := 41) rfl (hb hby d8_3) rfl ((if0 _ _).trans (teq hp).1) (by decide) (by decide) ?_
      show Steps p.tables e below (s₁.setTop (mkF m 41 #[.val (.ref a1), .val (.int (Int32.ofNat qN)), .val (.int p3), .unset] [])) _
      refine XS.iloadN X0.here hx rfl (hb hby d8_41) rfl ?_
      show Steps p.tables e below (s₁.setTop (mkF m 42 #[.val (.ref a1), .val (.int (Int32.ofNat qN)), .val (.int p3), .unset] [(.int p3)])) _
      refine XS.iconst X0.here hx rfl (hb hby d8_42) ?_
      show Steps p.tables e below (s₁.setTop (mkF m 43 #[.val (.ref a1), .val (.int (Int32.ofNat qN)), .val (.int p3), .unset] [(.int (1 : Int32)), (.int p3)])) _
      refine XS.iushr X0.here hx rfl (hb hby d8_43) rfl ?_
      show Steps p.tables e below (s₁.setTop (mkF m 44 #[.val (.ref a1), .val (.int (Int32.ofNat qN)), .val (.int p3), .unset] [(.int ((p3.toUInt32 >>> ((1 : Int32) &&& 31).toUInt32).toInt32))])) _
      refine X0.ldcInt hx hown (mvT hZ (hw _ (List.mem_of_getElem? (i := 45) rfl))) (g := (mkF m 44 #[.val (.ref a1), .val (.int (Int32.ofNat qN)), .val (.int p3), .unset] [(.int ((p3.toUInt32 >>> ((1 : Int32) &&& 31).toUInt32).toInt32))])) rfl (hb hby d8_44) _ ?_
      show Steps p.tables e below (s₁.setTop (mkF m 46 #[.val (.ref a1), .val (.int (Int32.ofNat qN)), .val (.int p3), .unset] [(.int (65535 : Int32)), (.int ((p3.toUInt32 >>> ((1 : Int32) &&& 31).toUInt32).toInt32))])) _
      refine XS.iand X0.here hx rfl (hb hby d8_46) rfl ?_
      show Steps p.tables e below (s₁.setTop (mkF m 47 #[.val (.ref a1), .val (.int (Int32.ofNat qN)), .val (.int p3), .unset] [(.int (((p3.toUInt32 >>> ((1 : Int32) &&& 31).toUInt32).toInt32) &&& (65535 : Int32)))])) _
      refine XS.istoreN X0.here hx rfl (hb hby d8_47) rfl (l' := #[.val (.ref a1), .val (.int (Int32.ofNat qN)), .val (.int p3), .val (.int (((p3.toUInt32 >>> ((1 : Int32) &&& 31).toUInt32).toInt32) &&& (65535 : Int32)))]) rfl ?_
      exact k_)⟩
    have bz : 0 ≤ zz.toInt ∧ zz.toInt < 65536 := by rw [hv_zz]; exact own_m16 _
    have pre103 : ∀ t_, Steps p.tables e below (s₁.setTop (mkF m 49 #[.val (.ref a1), .val (.int (Int32.ofNat qN)), .val (.int p3), .val (.int zz)] [(.int zz)])) t_ → Steps p.tables e below (s₁.setTop (entryFrame m #[(.ref a1), (.int (Int32.ofNat qN)), (.int p3)] 4)) t_ := fun t_ k_ => pre102 _ (by
      show Steps p.tables e below (s₁.setTop (mkF m 48 #[.val (.ref a1), .val (.int (Int32.ofNat qN)), .val (.int p3), .val (.int zz)] [])) _
      refine XS.iloadN X0.here hx rfl (hb hby d8_48) rfl ?_
      exact k_)
    by_cases h0z : zz = (0 : Int32)
    · skip
      have ho := own_z0
      obtain ⟨cl104, Ar104, Sz104, Hs104⟩ := V
      have hin104 : ¬ ((Int32.ofNat qN) < 0 ∨ cl104.slots.size ≤ ((Int32.ofNat qN)).toNatClampNeg) := by exact own_ofin Sz104 (by omega) (by omega)
      obtain ⟨T105, h105, X105, e105, W105, st105⟩ := stC X0 hx hZ e0 Ar104 (j := (Int32.ofNat qN)) hin104 (g := (mkF m 79 #[.val (.ref a1), .val (.int (Int32.ofNat qN)), .val (.int p3), .val (.int (1 : Int32))] [(.int ((1 : Int32).toUInt32.toUInt16.toUInt32.toInt32)), (.int (Int32.ofNat qN)), (.ref a1)])) rfl rfl (hb hby d8_79)
      rw [own_ofc (by omega), own_ncc (own_oner ho)] at W105
      have V105 := own_Afwr Ar104 Sz104 Hs104 W105 (by omega)
      have N105_ := Fr.snoc X105 N0 g_a1
      have pre106 : ∀ t_, Steps p.tables e below (T105.setTop (mkF m 83 #[.val (.ref a1), .val (.int (Int32.ofNat qN)), .val (.int p3), .val (.int (1 : Int32))] [(.int ((Int32.ofNat qN) + (1 : Int32)))])) t_ → Steps p.tables e below (s₁.setTop (entryFrame m #[(.ref a1), (.int (Int32.ofNat qN)), (.int p3)] 4)) t_ := fun t_ k_ => pre103 _ (by
        show Steps p.tables e below (s₁.setTop (mkF m 49 #[.val (.ref a1), .val (.int (Int32.ofNat qN)), .val (.int p3), .val (.int zz)] [(.int zz)])) _
        refine XS.ifNo X0.here hx rfl (hb hby d8_49) rfl ((if0 _ _).trans (teq h0z).2) ?_
        show Steps p.tables e below (s₁.setTop (mkF m 52 #[.val (.ref a1), .val (.int (Int32.ofNat qN)), .val (.int p3), .val (.int zz)] [])) _
        refine XS.iconst X0.here hx rfl (hb hby d8_52) ?_
        show Steps p.tables e below (s₁.setTop (mkF m 53 #[.val (.ref a1), .val (.int (Int32.ofNat qN)), .val (.int p3), .val (.int zz)] [(.int (1 : Int32))])) _
        refine XS.istoreN X0.here hx rfl (hb hby d8_53) rfl (l' := #[.val (.ref a1), .val (.int (Int32.ofNat qN)), .val (.int p3), .val (.int (1 : Int32))]) rfl ?_
        show Steps p.tables e below (s₁.setTop (mkF m 54 #[.val (.ref a1), .val (.int (Int32.ofNat qN)), .val (.int p3), .val (.int (1 : Int32))] [])) _
        refine XS.goto X0.here hx rfl (pc0 := 54) (pc' := 75) rfl (hb hby d8_54) (by decide) (by decide) ?_
        show Steps p.tables e below (s₁.setTop (mkF m 75 #[.val (.ref a1), .val (.int (Int32.ofNat qN)), .val (.int p3), .val (.int (1 : Int32))] [])) _
        refine XS.aloadN X0.here hx rfl (hb hby d8_75) rfl rfl ?_
        show Steps p.tables e below (s₁.setTop (mkF m 76 #[.val (.ref a1), .val (.int (Int32.ofNat qN)), .val (.int p3), .val (.int (1 : Int32))] [(.ref a1)])) _
        refine XS.iloadN X0.here hx rfl (hb hby d8_76) rfl ?_
        show Steps p.tables e below (s₁.setTop (mkF m 77 #[.val (.ref a1), .val (.int (Int32.ofNat qN)), .val (.int p3), .val (.int (1 : Int32))] [(.int (Int32.ofNat qN)), (.ref a1)])) _
        refine XS.iloadN X0.here hx rfl (hb hby d8_77) rfl ?_
        show Steps p.tables e below (s₁.setTop (mkF m 78 #[.val (.ref a1), .val (.int (Int32.ofNat qN)), .val (.int p3), .val (.int (1 : Int32))] [(.int (1 : Int32)), (.int (Int32.ofNat qN)), (.ref a1)])) _
        refine XS.i2c X0.here hx rfl (hb hby d8_78) rfl ?_
        show Steps p.tables e below (s₁.setTop (mkF m 79 #[.val (.ref a1), .val (.int (Int32.ofNat qN)), .val (.int p3), .val (.int (1 : Int32))] [(.int ((1 : Int32).toUInt32.toUInt16.toUInt32.toInt32)), (.int (Int32.ofNat qN)), (.ref a1)])) _
        refine st105 _ ?_
        show Steps p.tables e below (T105.setTop (mkF m 80 #[.val (.ref a1), .val (.int (Int32.ofNat qN)), .val (.int p3), .val (.int (1 : Int32))] [])) _
        refine XS.iloadN X105.here hx rfl (hb hby d8_80) rfl ?_
        show Steps p.tables e below (T105.setTop (mkF m 81 #[.val (.ref a1), .val (.int (Int32.ofNat qN)), .val (.int p3), .val (.int (1 : Int32))] [(.int (Int32.ofNat qN))])) _
        refine XS.iconst X105.here hx rfl (hb hby d8_81) ?_
        show Steps p.tables e below (T105.setTop (mkF m 82 #[.val (.ref a1), .val (.int (Int32.ofNat qN)), .val (.int p3), .val (.int (1 : Int32))] [(.int (1 : Int32)), (.int (Int32.ofNat qN))])) _
        refine XS.iadd X105.here hx rfl (hb hby d8_82) rfl ?_
        exact k_)
      obtain ⟨fs, hr, hrun, hended, hW, hsame⟩ := X105.leave (v := some (.int ((Int32.ofNat qN) + (1 : Int32)))) (fun h => by rw [Bd.returns] at h; cases h)
      refine ⟨_, _, pre106 _ ?_, hrun, hended, _, _, rfl, ?_, ⟨_, rfl⟩, hW, hsame.mono (by decide) (by decide)⟩
      · show Steps p.tables e below (T105.setTop (mkF m 83 #[.val (.ref a1), .val (.int (Int32.ofNat qN)), .val (.int p3), .val (.int (1 : Int32))] [(.int ((Int32.ofNat qN) + (1 : Int32)))])) _
        exact retI X105 hx Bd.returns (hb hby d8_83) hr
      · show QrmPut Z a1 p3 qN g ks h0 n0 _ T105.heap _
        rw [e105]
        exact ⟨qN + 1, _, _, by rw [own_of1], N105_, Keep.of_wr W105, V105, own_single Wg ho, by omega⟩
    · skip
      have pre107 : ∀ t_, Steps p.tables e below (s₁.setTop (mkF m 60 #[.val (.ref a1), .val (.int (Int32.ofNat qN)), .val (.int p3), .val (.int zz)] [(.int (55296 : Int32)), (.int zz)])) t_ → Steps p.tables e below (s₁.setTop (entryFrame m #[(.ref a1), (.int (Int32.ofNat qN)), (.int p3)] 4)) t_ := fun t_ k_ => pre103 _ (by
        show Steps p.tables e below (s₁.setTop (mkF m 49 #[.val (.ref a1), .val (.int (Int32.ofNat qN)), .val (.int p3), .val (.int zz)] [(.int zz)])) _
        refine XS.ifYes X0.here hx rfl (pc0 := 49) (pc' := 57) rfl (hb hby d8_49) rfl ((if0 _ _).trans (feq h0z).2) (by decide) (by decide) ?_
        show Steps p.tables e below (s₁.setTop (mkF m 57 #[.val (.ref a1), .val (.int (Int32.ofNat qN)), .val (.int p3), .val (.int zz)] [])) _
        refine XS.iloadN X0.here hx rfl (hb hby d8_57) rfl ?_
        show Steps p.tables e below (s₁.setTop (mkF m 58 #[.val (.ref a1), .val (.int (Int32.ofNat qN)), .val (.int p3), .val (.int zz)] [(.int zz)])) _
        refine X0.ldcInt hx hown (mvT hZ (hw _ (List.mem_of_getElem? (i := 46) rfl))) (g := (mkF m 58 #[.val (.ref a1), .val (.int (Int32.ofNat qN)), .val (.int p3), .val (.int zz)] [(.int zz)])) rfl (hb hby d8_58) _ ?_
        exact k_)
      by_cases h1z : zz < (55296 : Int32)
      · skip
        have ho := own_z1 bz h0z h1z
        obtain ⟨cl108, Ar108, Sz108, Hs108⟩ := V
        have hin108 : ¬ ((Int32.ofNat qN) < 0 ∨ cl108.slots.size ≤ ((Int32.ofNat qN)).toNatClampNeg) := by exact own_ofin Sz108 (by omega) (by omega)
        obtain ⟨T109, h109, X109, e109, W109, st109⟩ := stC X0 hx hZ e0 Ar108 (j := (Int32.ofNat qN)) hin108 (g := (mkF m 79 #[.val (.ref a1), .val (.int (Int32.ofNat qN)), .val (.int p3), .val (.int zz)] [(.int (zz.toUInt32.toUInt16.toUInt32.toInt32)), (.int (Int32.ofNat qN)), (.ref a1)])) rfl rfl (hb hby d8_79)
        rw [own_ofc (by omega), own_ncc (own_oner ho)] at W109
        have V109 := own_Afwr Ar108 Sz108 Hs108 W109 (by omega)
        have N109_ := Fr.snoc X109 N0 g_a1
        have pre110 : ∀ t_, Steps p.tables e below (T109.setTop (mkF m 83 #[.val (.ref a1), .val (.int (Int32.ofNat qN)), .val (.int p3), .val (.int zz)] [(.int ((Int32.ofNat qN) + (1 : Int32)))])) t_ → Steps p.tables e below (s₁.setTop (entryFrame m #[(.ref a1), (.int (Int32.ofNat qN)), (.int p3)] 4)) t_ := fun t_ k_ => pre107 _ (by
          show Steps p.tables e below (s₁.setTop (mkF m 60 #[.val (.ref a1), .val (.int (Int32.ofNat qN)), .val (.int p3), .val (.int zz)] [(.int (55296 : Int32)), (.int zz)])) _
          refine XS.icmpYes X0.here hx rfl (pc0 := 60) (pc' := 75) rfl (hb hby d8_60) rfl (tlt h1z).1 (by decide) (by decide) ?_
          show Steps p.tables e below (s₁.setTop (mkF m 75 #[.val (.ref a1), .val (.int (Int32.ofNat qN)), .val (.int p3), .val (.int zz)] [])) _
          refine XS.aloadN X0.here hx rfl (hb hby d8_75) rfl rfl ?_
          show Steps p.tables e below (s₁.setTop (mkF m 76 #[.val (.ref a1), .val (.int (Int32.ofNat qN)), .val (.int p3), .val (.int zz)] [(.ref a1)])) _
          refine XS.iloadN X0.here hx rfl (hb hby d8_76) rfl ?_
          show Steps p.tables e below (s₁.setTop (mkF m 77 #[.val (.ref a1), .val (.int (Int32.ofNat qN)), .val (.int p3), .val (.int zz)] [(.int (Int32.ofNat qN)), (.ref a1)])) _
          refine XS.iloadN X0.here hx rfl (hb hby d8_77) rfl ?_
          show Steps p.tables e below (s₁.setTop (mkF m 78 #[.val (.ref a1), .val (.int (Int32.ofNat qN)), .val (.int p3), .val (.int zz)] [(.int zz), (.int (Int32.ofNat qN)), (.ref a1)])) _
          refine XS.i2c X0.here hx rfl (hb hby d8_78) rfl ?_
          show Steps p.tables e below (s₁.setTop (mkF m 79 #[.val (.ref a1), .val (.int (Int32.ofNat qN)), .val (.int p3), .val (.int zz)] [(.int (zz.toUInt32.toUInt16.toUInt32.toInt32)), (.int (Int32.ofNat qN)), (.ref a1)])) _
          refine st109 _ ?_
          show Steps p.tables e below (T109.setTop (mkF m 80 #[.val (.ref a1), .val (.int (Int32.ofNat qN)), .val (.int p3), .val (.int zz)] [])) _
          refine XS.iloadN X109.here hx rfl (hb hby d8_80) rfl ?_
          show Steps p.tables e below (T109.setTop (mkF m 81 #[.val (.ref a1), .val (.int (Int32.ofNat qN)), .val (.int p3), .val (.int zz)] [(.int (Int32.ofNat qN))])) _
          refine XS.iconst X109.here hx rfl (hb hby d8_81) ?_
          show Steps p.tables e below (T109.setTop (mkF m 82 #[.val (.ref a1), .val (.int (Int32.ofNat qN)), .val (.int p3), .val (.int zz)] [(.int (1 : Int32)), (.int (Int32.ofNat qN))])) _
          refine XS.iadd X109.here hx rfl (hb hby d8_82) rfl ?_
          exact k_)
        obtain ⟨fs, hr, hrun, hended, hW, hsame⟩ := X109.leave (v := some (.int ((Int32.ofNat qN) + (1 : Int32)))) (fun h => by rw [Bd.returns] at h; cases h)
        refine ⟨_, _, pre110 _ ?_, hrun, hended, _, _, rfl, ?_, ⟨_, rfl⟩, hW, hsame.mono (by decide) (by decide)⟩
        · show Steps p.tables e below (T109.setTop (mkF m 83 #[.val (.ref a1), .val (.int (Int32.ofNat qN)), .val (.int p3), .val (.int zz)] [(.int ((Int32.ofNat qN) + (1 : Int32)))])) _
          exact retI X109 hx Bd.returns (hb hby d8_83) hr
        · show QrmPut Z a1 p3 qN g ks h0 n0 _ T109.heap _
          rw [e109]
          exact ⟨qN + 1, _, _, by rw [own_of1], N109_, Keep.of_wr W109, V109, own_single Wg ho, by omega⟩
      · skip
        have pre111 : ∀ t_, Steps p.tables e below (s₁.setTop (mkF m 66 #[.val (.ref a1), .val (.int (Int32.ofNat qN)), .val (.int p3), .val (.int zz)] [(.int (57343 : Int32)), (.int zz)])) t_ → Steps p.tables e below (s₁.setTop (entryFrame m #[(.ref a1), (.int (Int32.ofNat qN)), (.int p3)] 4)) t_ := fun t_ k_ => pre107 _ (by
          show Steps p.tables e below (s₁.setTop (mkF m 60 #[.val (.ref a1), .val (.int (Int32.ofNat qN)), .val (.int p3), .val (.int zz)] [(.int (55296 : Int32)), (.int zz)])) _
          refine XS.icmpNo X0.here hx rfl (hb hby d8_60) rfl (flt h1z).1 ?_
          show Steps p.tables e below (s₁.setTop (mkF m 63 #[.val (.ref a1), .val (.int (Int32.ofNat qN)), .val (.int p3), .val (.int zz)] [])) _
          refine XS.iloadN X0.here hx rfl (hb hby d8_63) rfl ?_
          show Steps p.tables e below (s₁.setTop (mkF m 64 #[.val (.ref a1), .val (.int (Int32.ofNat qN)), .val (.int p3), .val (.int zz)] [(.int zz)])) _
          refine X0.ldcInt hx hown (mvT hZ (hw _ (List.mem_of_getElem? (i := 47) rfl))) (g := (mkF m 64 #[.val (.ref a1), .val (.int (Int32.ofNat qN)), .val (.int p3), .val (.int zz)] [(.int zz)])) rfl (hb hby d8_64) _ ?_
          exact k_)
        by_cases h2z : (57343 : Int32) < zz
        · skip
          have ho := own_z2 bz h2z
          obtain ⟨cl112, Ar112, Sz112, Hs112⟩ := V
          have hin112 : ¬ ((Int32.ofNat qN) < 0 ∨ cl112.slots.size ≤ ((Int32.ofNat qN)).toNatClampNeg) := by exact own_ofin Sz112 (by omega) (by omega)
          obtain ⟨T113, h113, X113, e113, W113, st113⟩ := stC X0 hx hZ e0 Ar112 (j := (Int32.ofNat qN)) hin112 (g := (mkF m 79 #[.val (.ref a1), .val (.int (Int32.ofNat qN)), .val (.int p3), .val (.int zz)] [(.int (zz.toUInt32.toUInt16.toUInt32.toInt32)), (.int (Int32.ofNat qN)), (.ref a1)])) rfl rfl (hb hby d8_79)
          rw [own_ofc (by omega), own_ncc (own_oner ho)] at W113
          have V113 := own_Afwr Ar112 Sz112 Hs112 W113 (by omega)
          have N113_ := Fr.snoc X113 N0 g_a1
          have pre114 : ∀ t_, Steps p.tables e below (T113.setTop (mkF m 83 #[.val (.ref a1), .val (.int (Int32.ofNat qN)), .val (.int p3), .val (.int zz)] [(.int ((Int32.ofNat qN) + (1 : Int32)))])) t_ → Steps p.tables e below (s₁.setTop (entryFrame m #[(.ref a1), (.int (Int32.ofNat qN)), (.int p3)] 4)) t_ := fun t_ k_ => pre111 _ (by
            show Steps p.tables e below (s₁.setTop (mkF m 66 #[.val (.ref a1), .val (.int (Int32.ofNat qN)), .val (.int p3), .val (.int zz)] [(.int (57343 : Int32)), (.int zz)])) _
            refine XS.icmpYes X0.here hx rfl (pc0 := 66) (pc' := 75) rfl (hb hby d8_66) rfl (tlt h2z).2.2.1 (by decide) (by decide) ?_
            show Steps p.tables e below (s₁.setTop (mkF m 75 #[.val (.ref a1), .val (.int (Int32.ofNat qN)), .val (.int p3), .val (.int zz)] [])) _
            refine XS.aloadN X0.here hx rfl (hb hby d8_75) rfl rfl ?_
            show Steps p.tables e below (s₁.setTop (mkF m 76 #[.val (.ref a1), .val (.int (Int32.ofNat qN)), .val (.int p3), .val (.int zz)] [(.ref a1)])) _
            refine XS.iloadN X0.here hx rfl (hb hby d8_76) rfl ?_
            show Steps p.tables e below (s₁.setTop (mkF m 77 #[.val (.ref a1), .val (.int (Int32.ofNat qN)), .val (.int p3), .val (.int zz)] [(.int (Int32.ofNat qN)), (.ref a1)])) _
            refine XS.iloadN X0.here hx rfl (hb hby d8_77) rfl ?_
            show Steps p.tables e below (s₁.setTop (mkF m 78 #[.val (.ref a1), .val (.int (Int32.ofNat qN)), .val (.int p3), .val (.int zz)] [(.int zz), (.int (Int32.ofNat qN)), (.ref a1)])) _
            refine XS.i2c X0.here hx rfl (hb hby d8_78) rfl ?_
            show Steps p.tables e below (s₁.setTop (mkF m 79 #[.val (.ref a1), .val (.int (Int32.ofNat qN)), .val (.int p3), .val (.int zz)] [(.int (zz.toUInt32.toUInt16.toUInt32.toInt32)), (.int (Int32.ofNat qN)), (.ref a1)])) _
            refine st113 _ ?_
            show Steps p.tables e below (T113.setTop (mkF m 80 #[.val (.ref a1), .val (.int (Int32.ofNat qN)), .val (.int p3), .val (.int zz)] [])) _
            refine XS.iloadN X113.here hx rfl (hb hby d8_80) rfl ?_
            show Steps p.tables e below (T113.setTop (mkF m 81 #[.val (.ref a1), .val (.int (Int32.ofNat qN)), .val (.int p3), .val (.int zz)] [(.int (Int32.ofNat qN))])) _
            refine XS.iconst X113.here hx rfl (hb hby d8_81) ?_
            show Steps p.tables e below (T113.setTop (mkF m 82 #[.val (.ref a1), .val (.int (Int32.ofNat qN)), .val (.int p3), .val (.int zz)] [(.int (1 : Int32)), (.int (Int32.ofNat qN))])) _
            refine XS.iadd X113.here hx rfl (hb hby d8_82) rfl ?_
            exact k_)
          obtain ⟨fs, hr, hrun, hended, hW, hsame⟩ := X113.leave (v := some (.int ((Int32.ofNat qN) + (1 : Int32)))) (fun h => by rw [Bd.returns] at h; cases h)
          refine ⟨_, _, pre114 _ ?_, hrun, hended, _, _, rfl, ?_, ⟨_, rfl⟩, hW, hsame.mono (by decide) (by decide)⟩
          · show Steps p.tables e below (T113.setTop (mkF m 83 #[.val (.ref a1), .val (.int (Int32.ofNat qN)), .val (.int p3), .val (.int zz)] [(.int ((Int32.ofNat qN) + (1 : Int32)))])) _
            exact retI X113 hx Bd.returns (hb hby d8_83) hr
          · show QrmPut Z a1 p3 qN g ks h0 n0 _ T113.heap _
            rw [e113]
            exact ⟨qN + 1, _, _, by rw [own_of1], N113_, Keep.of_wr W113, V113, own_single Wg ho, by omega⟩
        · skip
          have ho := own_z3 h1z h2z
          obtain ⟨cl115, Ar115, Sz115, Hs115⟩ := V
          have hin115 : ¬ ((Int32.ofNat qN) < 0 ∨ cl115.slots.size ≤ ((Int32.ofNat qN)).toNatClampNeg) := by exact own_ofin Sz115 (by omega) (by omega)
          obtain ⟨T116, h116, X116, e116, W116, st116⟩ := stC X0 hx hZ e0 Ar115 (j := (Int32.ofNat qN)) hin115 (g := (mkF m 79 #[.val (.ref a1), .val (.int (Int32.ofNat qN)), .val (.int p3), .val (.int (zz - (2048 : Int32)))] [(.int ((zz - (2048 : Int32)).toUInt32.toUInt16.toUInt32.toInt32)), (.int (Int32.ofNat qN)), (.ref a1)])) rfl rfl (hb hby d8_79)
          rw [own_ofc (by omega), own_ncc (own_oner ho)] at W116
          have V116 := own_Afwr Ar115 Sz115 Hs115 W116 (by omega)
          have N116_ := Fr.snoc X116 N0 g_a1
          have pre117 : ∀ t_, Steps p.tables e below (T116.setTop (mkF m 83 #[.val (.ref a1), .val (.int (Int32.ofNat qN)), .val (.int p3), .val (.int (zz - (2048 : Int32)))] [(.int ((Int32.ofNat qN) + (1 : Int32)))])) t_ → Steps p.tables e below (s₁.setTop (entryFrame m #[(.ref a1), (.int (Int32.ofNat qN)), (.int p3)] 4)) t_ := fun t_ k_ => pre111 _ (by
            show Steps p.tables e below (s₁.setTop (mkF m 66 #[.val (.ref a1), .val (.int (Int32.ofNat qN)), .val (.int p3), .val (.int zz)] [(.int (57343 : Int32)), (.int zz)])) _
            refine XS.icmpNo X0.here hx rfl (hb hby d8_66) rfl (flt h2z).2.2.1 ?_
            show Steps p.tables e below (s₁.setTop (mkF m 69 #[.val (.ref a1), .val (.int (Int32.ofNat qN)), .val (.int p3), .val (.int zz)] [])) _
            refine XS.iloadN X0.here hx rfl (hb hby d8_69) rfl ?_
            show Steps p.tables e below (s₁.setTop (mkF m 70 #[.val (.ref a1), .val (.int (Int32.ofNat qN)), .val (.int p3), .val (.int zz)] [(.int zz)])) _
            refine XS.sipush X0.here hx rfl (hb hby d8_70) ?_
            show Steps p.tables e below (s₁.setTop (mkF m 73 #[.val (.ref a1), .val (.int (Int32.ofNat qN)), .val (.int p3), .val (.int zz)] [(.int (2048 : Int32)), (.int zz)])) _
            refine XS.isub X0.here hx rfl (hb hby d8_73) rfl ?_
            show Steps p.tables e below (s₁.setTop (mkF m 74 #[.val (.ref a1), .val (.int (Int32.ofNat qN)), .val (.int p3), .val (.int zz)] [(.int (zz - (2048 : Int32)))])) _
            refine XS.istoreN X0.here hx rfl (hb hby d8_74) rfl (l' := #[.val (.ref a1), .val (.int (Int32.ofNat qN)), .val (.int p3), .val (.int (zz - (2048 : Int32)))]) rfl ?_
            show Steps p.tables e below (s₁.setTop (mkF m 75 #[.val (.ref a1), .val (.int (Int32.ofNat qN)), .val (.int p3), .val (.int (zz - (2048 : Int32)))] [])) _
            refine XS.aloadN X0.here hx rfl (hb hby d8_75) rfl rfl ?_
            show Steps p.tables e below (s₁.setTop (mkF m 76 #[.val (.ref a1), .val (.int (Int32.ofNat qN)), .val (.int p3), .val (.int (zz - (2048 : Int32)))] [(.ref a1)])) _
            refine XS.iloadN X0.here hx rfl (hb hby d8_76) rfl ?_
            show Steps p.tables e below (s₁.setTop (mkF m 77 #[.val (.ref a1), .val (.int (Int32.ofNat qN)), .val (.int p3), .val (.int (zz - (2048 : Int32)))] [(.int (Int32.ofNat qN)), (.ref a1)])) _
            refine XS.iloadN X0.here hx rfl (hb hby d8_77) rfl ?_
            show Steps p.tables e below (s₁.setTop (mkF m 78 #[.val (.ref a1), .val (.int (Int32.ofNat qN)), .val (.int p3), .val (.int (zz - (2048 : Int32)))] [(.int (zz - (2048 : Int32))), (.int (Int32.ofNat qN)), (.ref a1)])) _
            refine XS.i2c X0.here hx rfl (hb hby d8_78) rfl ?_
            show Steps p.tables e below (s₁.setTop (mkF m 79 #[.val (.ref a1), .val (.int (Int32.ofNat qN)), .val (.int p3), .val (.int (zz - (2048 : Int32)))] [(.int ((zz - (2048 : Int32)).toUInt32.toUInt16.toUInt32.toInt32)), (.int (Int32.ofNat qN)), (.ref a1)])) _
            refine st116 _ ?_
            show Steps p.tables e below (T116.setTop (mkF m 80 #[.val (.ref a1), .val (.int (Int32.ofNat qN)), .val (.int p3), .val (.int (zz - (2048 : Int32)))] [])) _
            refine XS.iloadN X116.here hx rfl (hb hby d8_80) rfl ?_
            show Steps p.tables e below (T116.setTop (mkF m 81 #[.val (.ref a1), .val (.int (Int32.ofNat qN)), .val (.int p3), .val (.int (zz - (2048 : Int32)))] [(.int (Int32.ofNat qN))])) _
            refine XS.iconst X116.here hx rfl (hb hby d8_81) ?_
            show Steps p.tables e below (T116.setTop (mkF m 82 #[.val (.ref a1), .val (.int (Int32.ofNat qN)), .val (.int p3), .val (.int (zz - (2048 : Int32)))] [(.int (1 : Int32)), (.int (Int32.ofNat qN))])) _
            refine XS.iadd X116.here hx rfl (hb hby d8_82) rfl ?_
            exact k_)
          obtain ⟨fs, hr, hrun, hended, hW, hsame⟩ := X116.leave (v := some (.int ((Int32.ofNat qN) + (1 : Int32)))) (fun h => by rw [Bd.returns] at h; cases h)
          refine ⟨_, _, pre117 _ ?_, hrun, hended, _, _, rfl, ?_, ⟨_, rfl⟩, hW, hsame.mono (by decide) (by decide)⟩
          · show Steps p.tables e below (T116.setTop (mkF m 83 #[.val (.ref a1), .val (.int (Int32.ofNat qN)), .val (.int p3), .val (.int (zz - (2048 : Int32)))] [(.int ((Int32.ofNat qN) + (1 : Int32)))])) _
            exact retI X116 hx Bd.returns (hb hby d8_83) hr
          · show QrmPut Z a1 p3 qN g ks h0 n0 _ T116.heap _
            rw [e116]
            exact ⟨qN + 1, _, _, by rw [own_of1], N116_, Keep.of_wr W116, V116, own_single Wg ho, by omega⟩
  · skip
    have hu := own_phi (own_m10 ((p3.toUInt32 >>> ((1 : Int32) &&& 31).toUInt32).toInt32))
    have hl := own_plo (own_m10 ((p3.toUInt32 >>> ((11 : Int32) &&& 31).toUInt32).toInt32))
    obtain ⟨cl118, Ar118, Sz118, Hs118⟩ := V
    have hin118 : ¬ ((Int32.ofNat qN) < 0 ∨ cl118.slots.size ≤ ((Int32.ofNat qN)).toNatClampNeg) := by exact own_ofin Sz118 (by omega) (by omega)
    obtain ⟨T119, h119, X119, e119, W119, st119⟩ := stC X0 hx hZ e0 Ar118 (j := (Int32.ofNat qN)) hin118 (g := (mkF m 19 #[.val (.ref a1), .val (.int (Int32.ofNat qN)), .val (.int p3), .unset] [(.int (((55296 : Int32) + (((p3.toUInt32 >>> ((1 : Int32) &&& 31).toUInt32).toInt32) &&& (1023 : Int32))).toUInt32.toUInt16.toUInt32.toInt32)), (.int (Int32.ofNat qN)), (.ref a1)])) rfl rfl (hb hby d8_19)
    rw [own_ofc (by omega), own_ncc (own_hir hu)] at W119
    have V119 := own_Afwr Ar118 Sz118 Hs118 W119 (by omega)
    have N119_ := Fr.snoc X119 N0 g_a1
    obtain ⟨cl120, Ar120, Sz120, Hs120⟩ := V119
    have hin120 : ¬ (((Int32.ofNat qN) + (1 : Int32)) < 0 ∨ cl120.slots.size ≤ (((Int32.ofNat qN) + (1 : Int32))).toNatClampNeg) := by rw [own_of1]; exact own_ofin Sz120 (by omega) (by omega)
    obtain ⟨T121, h121, X121, e121, W121, st121⟩ := stC X119 hx hZ e119 Ar120 (j := ((Int32.ofNat qN) + (1 : Int32))) hin120 (g := (mkF m 36 #[.val (.ref a1), .val (.int (Int32.ofNat qN)), .val (.int p3), .unset] [(.int (((56320 : Int32) + (((p3.toUInt32 >>> ((11 : Int32) &&& 31).toUInt32).toInt32) &&& (1023 : Int32))).toUInt32.toUInt16.toUInt32.toInt32)), (.int ((Int32.ofNat qN) + (1 : Int32))), (.ref a1)])) rfl rfl (hb hby d8_36)
    rw [own_of1, own_ofc (by omega), own_ncc (own_lor hl)] at W121
    have V121 := own_Afwr Ar120 Sz120 Hs120 W121 (by omega)
    have N121_ := Fr.snoc X121 N119_ g_a1
    have pre122 : ∀ t_, Steps p.tables e below (T121.setTop (mkF m 40 #[.val (.ref a1), .val (.int (Int32.ofNat qN)), .val (.int p3), .unset] [(.int ((Int32.ofNat qN) + (2 : Int32)))])) t_ → Steps p.tables e below (s₁.setTop (entryFrame m #[(.ref a1), (.int (Int32.ofNat qN)), (.int p3)] 4)) t_ := fun t_ k_ => pre101 _ (by
      show Steps p.tables e below (s₁.setTop (mkF m 3 #[.val (.ref a1), .val (.int (Int32.ofNat qN)), .val (.int p3), .unset] [(.int (p3 &&& (1 : Int32)))])) _
      refine XS.ifNo X0.here hx rfl (hb hby d8_3) rfl ((if0 _ _).trans (feq hp).1) ?_
      show Steps p.tables e below (s₁.setTop (mkF m 6 #[.val (.ref a1), .val (.int (Int32.ofNat qN)), .val (.int p3), .unset] [])) _
      refine XS.aloadN X0.here hx rfl (hb hby d8_6) rfl rfl ?_
      show Steps p.tables e below (s₁.setTop (mkF m 7 #[.val (.ref a1), .val (.int (Int32.ofNat qN)), .val (.int p3), .unset] [(.ref a1)])) _
      refine XS.iloadN X0.here hx rfl (hb hby d8_7) rfl ?_
      show Steps p.tables e below (s₁.setTop (mkF m 8 #[.val (.ref a1), .val (.int (Int32.ofNat qN)), .val (.int p3), .unset] [(.int (Int32.ofNat qN)), (.ref a1)])) _
      refine X0.ldcInt hx hown (mvT hZ (hw _ (List.mem_of_getElem? (i := 46) rfl))) (g := (mkF m 8 #[.val (.ref a1), .val (.int (Int32.ofNat qN)), .val (.int p3), .unset] [(.int (Int32.ofNat qN)), (.ref a1)])) rfl (hb hby d8_8) _ ?_
      show Steps p.tables e below (s₁.setTop (mkF m 10 #[.val (.ref a1), .val (.int (Int32.ofNat qN)), .val (.int p3), .unset] [(.int (55296 : Int32)), (.int (Int32.ofNat qN)), (.ref a1)])) _
      refine XS.iloadN X0.here hx rfl (hb hby d8_10) rfl ?_
      show Steps p.tables e below (s₁.setTop (mkF m 11 #[.val (.ref a1), .val (.int (Int32.ofNat qN)), .val (.int p3), .unset] [(.int p3), (.int (55296 : Int32)), (.int (Int32.ofNat qN)), (.ref a1)])) _
      refine XS.iconst X0.here hx rfl (hb hby d8_11) ?_
      show Steps p.tables e below (s₁.setTop (mkF m 12 #[.val (.ref a1), .val (.int (Int32.ofNat qN)), .val (.int p3), .unset] [(.int (1 : Int32)), (.int p3), (.int (55296 : Int32)), (.int (Int32.ofNat qN)), (.ref a1)])) _
      refine XS.iushr X0.here hx rfl (hb hby d8_12) rfl ?_
      show Steps p.tables e below (s₁.setTop (mkF m 13 #[.val (.ref a1), .val (.int (Int32.ofNat qN)), .val (.int p3), .unset] [(.int ((p3.toUInt32 >>> ((1 : Int32) &&& 31).toUInt32).toInt32)), (.int (55296 : Int32)), (.int (Int32.ofNat qN)), (.ref a1)])) _
      refine XS.sipush X0.here hx rfl (hb hby d8_13) ?_
      show Steps p.tables e below (s₁.setTop (mkF m 16 #[.val (.ref a1), .val (.int (Int32.ofNat qN)), .val (.int p3), .unset] [(.int (1023 : Int32)), (.int ((p3.toUInt32 >>> ((1 : Int32) &&& 31).toUInt32).toInt32)), (.int (55296 : Int32)), (.int (Int32.ofNat qN)), (.ref a1)])) _
      refine XS.iand X0.here hx rfl (hb hby d8_16) rfl ?_
      show Steps p.tables e below (s₁.setTop (mkF m 17 #[.val (.ref a1), .val (.int (Int32.ofNat qN)), .val (.int p3), .unset] [(.int (((p3.toUInt32 >>> ((1 : Int32) &&& 31).toUInt32).toInt32) &&& (1023 : Int32))), (.int (55296 : Int32)), (.int (Int32.ofNat qN)), (.ref a1)])) _
      refine XS.iadd X0.here hx rfl (hb hby d8_17) rfl ?_
      show Steps p.tables e below (s₁.setTop (mkF m 18 #[.val (.ref a1), .val (.int (Int32.ofNat qN)), .val (.int p3), .unset] [(.int ((55296 : Int32) + (((p3.toUInt32 >>> ((1 : Int32) &&& 31).toUInt32).toInt32) &&& (1023 : Int32)))), (.int (Int32.ofNat qN)), (.ref a1)])) _
      refine XS.i2c X0.here hx rfl (hb hby d8_18) rfl ?_
      show Steps p.tables e below (s₁.setTop (mkF m 19 #[.val (.ref a1), .val (.int (Int32.ofNat qN)), .val (.int p3), .unset] [(.int (((55296 : Int32) + (((p3.toUInt32 >>> ((1 : Int32) &&& 31).toUInt32).toInt32) &&& (1023 : Int32))).toUInt32.toUInt16.toUInt32.toInt32)), (.int (Int32.ofNat qN)), (.ref a1)])) _
      refine st119 _ ?_
      show Steps p.tables e below (T119.setTop (mkF m 20 #[.val (.ref a1), .val (.int (Int32.ofNat qN)), .val (.int p3), .unset] [])) _
      refine XS.aloadN X119.here hx rfl (hb hby d8_20) rfl rfl ?_
      show Steps p.tables e below (T119.setTop (mkF m 21 #[.val (.ref a1), .val (.int (Int32.ofNat qN)), .val (.int p3), .unset] [(.ref a1)])) _
      refine XS.iloadN X119.here hx rfl (hb hby d8_21) rfl ?_
      show Steps p.tables e below (T119.setTop (mkF m 22 #[.val (.ref a1), .val (.int (Int32.ofNat qN)), .val (.int p3), .unset] [(.int (Int32.ofNat qN)), (.ref a1)])) _
      refine XS.iconst X119.here hx rfl (hb hby d8_22) ?_
      show Steps p.tables e below (T119.setTop (mkF m 23 #[.val (.ref a1), .val (.int (Int32.ofNat qN)), .val (.int p3), .unset] [(.int (1 : Int32)), (.int (Int32.ofNat qN)), (.ref a1)])) _
      refine XS.iadd X119.here hx rfl (hb hby d8_23) rfl ?_
      show Steps p.tables e below (T119.setTop (mkF m 24 #[.val (.ref a1), .val (.int (Int32.ofNat qN)), .val (.int p3), .unset] [(.int ((Int32.ofNat qN) + (1 : Int32))), (.ref a1)])) _
      refine X119.ldcInt hx hown (mvT hZ (hw _ (List.mem_of_getElem? (i := 48) rfl))) (g := (mkF m 24 #[.val (.ref a1), .val (.int (Int32.ofNat qN)), .val (.int p3), .unset] [(.int ((Int32.ofNat qN) + (1 : Int32))), (.ref a1)])) rfl (hb hby d8_24) _ ?_
      show Steps p.tables e below (T119.setTop (mkF m 26 #[.val (.ref a1), .val (.int (Int32.ofNat qN)), .val (.int p3), .unset] [(.int (56320 : Int32)), (.int ((Int32.ofNat qN) + (1 : Int32))), (.ref a1)])) _
      refine XS.iloadN X119.here hx rfl (hb hby d8_26) rfl ?_
      show Steps p.tables e below (T119.setTop (mkF m 27 #[.val (.ref a1), .val (.int (Int32.ofNat qN)), .val (.int p3), .unset] [(.int p3), (.int (56320 : Int32)), (.int ((Int32.ofNat qN) + (1 : Int32))), (.ref a1)])) _
      refine XS.bipush X119.here hx rfl (hb hby d8_27) ?_
      show Steps p.tables e below (T119.setTop (mkF m 29 #[.val (.ref a1), .val (.int (Int32.ofNat qN)), .val (.int p3), .unset] [(.int (11 : Int32)), (.int p3), (.int (56320 : Int32)), (.int ((Int32.ofNat qN) + (1 : Int32))), (.ref a1)])) _
      refine XS.iushr X119.here hx rfl (hb hby d8_29) rfl ?_
      show Steps p.tables e below (T119.setTop (mkF m 30 #[.val (.ref a1), .val (.int (Int32.ofNat qN)), .val (.int p3), .unset] [(.int ((p3.toUInt32 >>> ((11 : Int32) &&& 31).toUInt32).toInt32)), (.int (56320 : Int32)), (.int ((Int32.ofNat qN) + (1 : Int32))), (.ref a1)])) _
      refine XS.sipush X119.here hx rfl (hb hby d8_30) ?_
      show Steps p.tables e below (T119.setTop (mkF m 33 #[.val (.ref a1), .val (.int (Int32.ofNat qN)), .val (.int p3), .unset] [(.int (1023 : Int32)), (.int ((p3.toUInt32 >>> ((11 : Int32) &&& 31).toUInt32).toInt32)), (.int (56320 : Int32)), (.int ((Int32.ofNat qN) + (1 : Int32))), (.ref a1)])) _
      refine XS.iand X119.here hx rfl (hb hby d8_33) rfl ?_
      show Steps p.tables e below (T119.setTop (mkF m 34 #[.val (.ref a1), .val (.int (Int32.ofNat qN)), .val (.int p3), .unset] [(.int (((p3.toUInt32 >>> ((11 : Int32) &&& 31).toUInt32).toInt32) &&& (1023 : Int32))), (.int (56320 : Int32)), (.int ((Int32.ofNat qN) + (1 : Int32))), (.ref a1)])) _
      refine XS.iadd X119.here hx rfl (hb hby d8_34) rfl ?_
      show Steps p.tables e below (T119.setTop (mkF m 35 #[.val (.ref a1), .val (.int (Int32.ofNat qN)), .val (.int p3), .unset] [(.int ((56320 : Int32) + (((p3.toUInt32 >>> ((11 : Int32) &&& 31).toUInt32).toInt32) &&& (1023 : Int32)))), (.int ((Int32.ofNat qN) + (1 : Int32))), (.ref a1)])) _
      refine XS.i2c X119.here hx rfl (hb hby d8_35) rfl ?_
      show Steps p.tables e below (T119.setTop (mkF m 36 #[.val (.ref a1), .val (.int (Int32.ofNat qN)), .val (.int p3), .unset] [(.int (((56320 : Int32) + (((p3.toUInt32 >>> ((11 : Int32) &&& 31).toUInt32).toInt32) &&& (1023 : Int32))).toUInt32.toUInt16.toUInt32.toInt32)), (.int ((Int32.ofNat qN) + (1 : Int32))), (.ref a1)])) _
      refine st121 _ ?_
      show Steps p.tables e below (T121.setTop (mkF m 37 #[.val (.ref a1), .val (.int (Int32.ofNat qN)), .val (.int p3), .unset] [])) _
      refine XS.iloadN X121.here hx rfl (hb hby d8_37) rfl ?_
      show Steps p.tables e below (T121.setTop (mkF m 38 #[.val (.ref a1), .val (.int (Int32.ofNat qN)), .val (.int p3), .unset] [(.int (Int32.ofNat qN))])) _
      refine XS.iconst X121.here hx rfl (hb hby d8_38) ?_
      show Steps p.tables e below (T121.setTop (mkF m 39 #[.val (.ref a1), .val (.int (Int32.ofNat qN)), .val (.int p3), .unset] [(.int (2 : Int32)), (.int (Int32.ofNat qN))])) _
      refine XS.iadd X121.here hx rfl (hb hby d8_39) rfl ?_
      exact k_)
    obtain ⟨fs, hr, hrun, hended, hW, hsame⟩ := X121.leave (v := some (.int ((Int32.ofNat qN) + (2 : Int32)))) (fun h => by rw [Bd.returns] at h; cases h)
    refine ⟨_, _, pre122 _ ?_, hrun, hended, _, _, rfl, ?_, ⟨_, rfl⟩, hW, hsame.mono (by decide) (by decide)⟩
    · show Steps p.tables e below (T121.setTop (mkF m 40 #[.val (.ref a1), .val (.int (Int32.ofNat qN)), .val (.int p3), .unset] [(.int ((Int32.ofNat qN) + (2 : Int32)))])) _
      exact retI X121 hx Bd.returns (hb hby d8_40) hr
    · show QrmPut Z a1 p3 qN g ks h0 n0 _ T121.heap _
      rw [e121]
      exact ⟨qN + 2, _, _, by rw [own_of2], N121_, (Keep.of_wr W119).trans (Keep.of_wr W121) (fun _ q => Or.inl q), V121, own_pair Wg hu hl, by omega⟩
theorem pd_16 : parseMethodDescriptor "([C)V" = some ⟨[(.array .char)], none⟩ := by decide +kernel
theorem d1_0 : decode method_4_code 0 = .ok (.iload_n 1, 1) := by decide +kernel
theorem d1_1 : decode method_4_code 1 = .ok (.ifCond .ne 14, 3) := by decide +kernel
theorem d1_4 : decode method_4_code 4 = .ok (.new 29, 3) := by decide +kernel
theorem d1_7 : decode method_4_code 7 = .ok (.dup, 1) := by decide +kernel
theorem d1_8 : decode method_4_code 8 = .ok (.iconst 0, 1) := by decide +kernel
theorem d1_9 : decode method_4_code 9 = .ok (.newarray .char, 2) := by decide +kernel
theorem d1_11 : decode method_4_code 11 = .ok (.invokespecial 31, 3) := by decide +kernel
theorem d1_14 : decode method_4_code 14 = .ok (.areturn, 1) := by decide +kernel
theorem d1_15 : decode method_4_code 15 = .ok (.iload_n 1, 1) := by decide +kernel
theorem d1_16 : decode method_4_code 16 = .ok (.iconst 1, 1) := by decide +kernel
theorem d1_17 : decode method_4_code 17 = .ok (.if_icmp .ne 20, 3) := by decide +kernel
theorem d1_20 : decode method_4_code 20 = .ok (.new 29, 3) := by decide +kernel
theorem d1_23 : decode method_4_code 23 = .ok (.dup, 1) := by decide +kernel
theorem d1_24 : decode method_4_code 24 = .ok (.iconst 1, 1) := by decide +kernel
theorem d1_25 : decode method_4_code 25 = .ok (.newarray .char, 2) := by decide +kernel
theorem d1_27 : decode method_4_code 27 = .ok (.dup, 1) := by decide +kernel
theorem d1_28 : decode method_4_code 28 = .ok (.iconst 0, 1) := by decide +kernel
theorem d1_29 : decode method_4_code 29 = .ok (.aload_n 0, 1) := by decide +kernel
theorem d1_30 : decode method_4_code 30 = .ok (.iconst 0, 1) := by decide +kernel
theorem d1_31 : decode method_4_code 31 = .ok (.caload, 1) := by decide +kernel
theorem d1_32 : decode method_4_code 32 = .ok (.castore, 1) := by decide +kernel
theorem d1_33 : decode method_4_code 33 = .ok (.invokespecial 31, 3) := by decide +kernel
theorem d1_36 : decode method_4_code 36 = .ok (.areturn, 1) := by decide +kernel
theorem d1_37 : decode method_4_code 37 = .ok (.iload_n 1, 1) := by decide +kernel
theorem d1_38 : decode method_4_code 38 = .ok (.iconst 2, 1) := by decide +kernel
theorem d1_39 : decode method_4_code 39 = .ok (.if_icmp .ne 26, 3) := by decide +kernel
theorem d1_42 : decode method_4_code 42 = .ok (.new 29, 3) := by decide +kernel
theorem d1_45 : decode method_4_code 45 = .ok (.dup, 1) := by decide +kernel
theorem d1_46 : decode method_4_code 46 = .ok (.iconst 2, 1) := by decide +kernel
theorem d1_47 : decode method_4_code 47 = .ok (.newarray .char, 2) := by decide +kernel
theorem d1_49 : decode method_4_code 49 = .ok (.dup, 1) := by decide +kernel
theorem d1_50 : decode method_4_code 50 = .ok (.iconst 0, 1) := by decide +kernel
theorem d1_51 : decode method_4_code 51 = .ok (.aload_n 0, 1) := by decide +kernel
theorem d1_52 : decode method_4_code 52 = .ok (.iconst 0, 1) := by decide +kernel
theorem d1_53 : decode method_4_code 53 = .ok (.caload, 1) := by decide +kernel
theorem d1_54 : decode method_4_code 54 = .ok (.castore, 1) := by decide +kernel
theorem d1_55 : decode method_4_code 55 = .ok (.dup, 1) := by decide +kernel
theorem d1_56 : decode method_4_code 56 = .ok (.iconst 1, 1) := by decide +kernel
theorem d1_57 : decode method_4_code 57 = .ok (.aload_n 0, 1) := by decide +kernel
theorem d1_58 : decode method_4_code 58 = .ok (.iconst 1, 1) := by decide +kernel
theorem d1_59 : decode method_4_code 59 = .ok (.caload, 1) := by decide +kernel
theorem d1_60 : decode method_4_code 60 = .ok (.castore, 1) := by decide +kernel
theorem d1_61 : decode method_4_code 61 = .ok (.invokespecial 31, 3) := by decide +kernel
theorem d1_64 : decode method_4_code 64 = .ok (.areturn, 1) := by decide +kernel
theorem d1_65 : decode method_4_code 65 = .ok (.iload_n 1, 1) := by decide +kernel
theorem d1_66 : decode method_4_code 66 = .ok (.iconst 3, 1) := by decide +kernel
theorem d1_67 : decode method_4_code 67 = .ok (.if_icmp .ne 32, 3) := by decide +kernel
theorem d1_70 : decode method_4_code 70 = .ok (.new 29, 3) := by decide +kernel
theorem d1_73 : decode method_4_code 73 = .ok (.dup, 1) := by decide +kernel
theorem d1_74 : decode method_4_code 74 = .ok (.iconst 3, 1) := by decide +kernel
theorem d1_75 : decode method_4_code 75 = .ok (.newarray .char, 2) := by decide +kernel
theorem d1_77 : decode method_4_code 77 = .ok (.dup, 1) := by decide +kernel
theorem d1_78 : decode method_4_code 78 = .ok (.iconst 0, 1) := by decide +kernel
theorem d1_79 : decode method_4_code 79 = .ok (.aload_n 0, 1) := by decide +kernel
theorem d1_80 : decode method_4_code 80 = .ok (.iconst 0, 1) := by decide +kernel
theorem d1_81 : decode method_4_code 81 = .ok (.caload, 1) := by decide +kernel
theorem d1_82 : decode method_4_code 82 = .ok (.castore, 1) := by decide +kernel
theorem d1_83 : decode method_4_code 83 = .ok (.dup, 1) := by decide +kernel
theorem d1_84 : decode method_4_code 84 = .ok (.iconst 1, 1) := by decide +kernel
theorem d1_85 : decode method_4_code 85 = .ok (.aload_n 0, 1) := by decide +kernel
theorem d1_86 : decode method_4_code 86 = .ok (.iconst 1, 1) := by decide +kernel
theorem d1_87 : decode method_4_code 87 = .ok (.caload, 1) := by decide +kernel
theorem d1_88 : decode method_4_code 88 = .ok (.castore, 1) := by decide +kernel
theorem d1_89 : decode method_4_code 89 = .ok (.dup, 1) := by decide +kernel
theorem d1_90 : decode method_4_code 90 = .ok (.iconst 2, 1) := by decide +kernel
theorem d1_91 : decode method_4_code 91 = .ok (.aload_n 0, 1) := by decide +kernel
theorem d1_92 : decode method_4_code 92 = .ok (.iconst 2, 1) := by decide +kernel
theorem d1_93 : decode method_4_code 93 = .ok (.caload, 1) := by decide +kernel
theorem d1_94 : decode method_4_code 94 = .ok (.castore, 1) := by decide +kernel
theorem d1_95 : decode method_4_code 95 = .ok (.invokespecial 31, 3) := by decide +kernel
theorem d1_98 : decode method_4_code 98 = .ok (.areturn, 1) := by decide +kernel
theorem d1_99 : decode method_4_code 99 = .ok (.iload_n 1, 1) := by decide +kernel
theorem d1_100 : decode method_4_code 100 = .ok (.iconst 4, 1) := by decide +kernel
theorem d1_101 : decode method_4_code 101 = .ok (.if_icmp .ne 38, 3) := by decide +kernel
theorem d1_104 : decode method_4_code 104 = .ok (.new 29, 3) := by decide +kernel
theorem d1_107 : decode method_4_code 107 = .ok (.dup, 1) := by decide +kernel
theorem d1_108 : decode method_4_code 108 = .ok (.iconst 4, 1) := by decide +kernel
theorem d1_109 : decode method_4_code 109 = .ok (.newarray .char, 2) := by decide +kernel
theorem d1_111 : decode method_4_code 111 = .ok (.dup, 1) := by decide +kernel
theorem d1_112 : decode method_4_code 112 = .ok (.iconst 0, 1) := by decide +kernel
theorem d1_113 : decode method_4_code 113 = .ok (.aload_n 0, 1) := by decide +kernel
theorem d1_114 : decode method_4_code 114 = .ok (.iconst 0, 1) := by decide +kernel
theorem d1_115 : decode method_4_code 115 = .ok (.caload, 1) := by decide +kernel
theorem d1_116 : decode method_4_code 116 = .ok (.castore, 1) := by decide +kernel
theorem d1_117 : decode method_4_code 117 = .ok (.dup, 1) := by decide +kernel
theorem d1_118 : decode method_4_code 118 = .ok (.iconst 1, 1) := by decide +kernel
theorem d1_119 : decode method_4_code 119 = .ok (.aload_n 0, 1) := by decide +kernel
theorem d1_120 : decode method_4_code 120 = .ok (.iconst 1, 1) := by decide +kernel
theorem d1_121 : decode method_4_code 121 = .ok (.caload, 1) := by decide +kernel
theorem d1_122 : decode method_4_code 122 = .ok (.castore, 1) := by decide +kernel
theorem d1_123 : decode method_4_code 123 = .ok (.dup, 1) := by decide +kernel
theorem d1_124 : decode method_4_code 124 = .ok (.iconst 2, 1) := by decide +kernel
theorem d1_125 : decode method_4_code 125 = .ok (.aload_n 0, 1) := by decide +kernel
theorem d1_126 : decode method_4_code 126 = .ok (.iconst 2, 1) := by decide +kernel
theorem d1_127 : decode method_4_code 127 = .ok (.caload, 1) := by decide +kernel
theorem d1_128 : decode method_4_code 128 = .ok (.castore, 1) := by decide +kernel
theorem d1_129 : decode method_4_code 129 = .ok (.dup, 1) := by decide +kernel
theorem d1_130 : decode method_4_code 130 = .ok (.iconst 3, 1) := by decide +kernel
theorem d1_131 : decode method_4_code 131 = .ok (.aload_n 0, 1) := by decide +kernel
theorem d1_132 : decode method_4_code 132 = .ok (.iconst 3, 1) := by decide +kernel
theorem d1_133 : decode method_4_code 133 = .ok (.caload, 1) := by decide +kernel
theorem d1_134 : decode method_4_code 134 = .ok (.castore, 1) := by decide +kernel
theorem d1_135 : decode method_4_code 135 = .ok (.invokespecial 31, 3) := by decide +kernel
theorem d1_138 : decode method_4_code 138 = .ok (.areturn, 1) := by decide +kernel
theorem d1_139 : decode method_4_code 139 = .ok (.iload_n 1, 1) := by decide +kernel
theorem d1_140 : decode method_4_code 140 = .ok (.iconst 5, 1) := by decide +kernel
theorem d1_141 : decode method_4_code 141 = .ok (.if_icmp .ne 44, 3) := by decide +kernel
theorem d1_144 : decode method_4_code 144 = .ok (.new 29, 3) := by decide +kernel
theorem d1_147 : decode method_4_code 147 = .ok (.dup, 1) := by decide +kernel
theorem d1_148 : decode method_4_code 148 = .ok (.iconst 5, 1) := by decide +kernel
theorem d1_149 : decode method_4_code 149 = .ok (.newarray .char, 2) := by decide +kernel
theorem d1_151 : decode method_4_code 151 = .ok (.dup, 1) := by decide +kernel
theorem d1_152 : decode method_4_code 152 = .ok (.iconst 0, 1) := by decide +kernel
theorem d1_153 : decode method_4_code 153 = .ok (.aload_n 0, 1) := by decide +kernel
theorem d1_154 : decode method_4_code 154 = .ok (.iconst 0, 1) := by decide +kernel
theorem d1_155 : decode method_4_code 155 = .ok (.caload, 1) := by decide +kernel
theorem d1_156 : decode method_4_code 156 = .ok (.castore, 1) := by decide +kernel
theorem d1_157 : decode method_4_code 157 = .ok (.dup, 1) := by decide +kernel
theorem d1_158 : decode method_4_code 158 = .ok (.iconst 1, 1) := by decide +kernel
theorem d1_159 : decode method_4_code 159 = .ok (.aload_n 0, 1) := by decide +kernel
theorem d1_160 : decode method_4_code 160 = .ok (.iconst 1, 1) := by decide +kernel
theorem d1_161 : decode method_4_code 161 = .ok (.caload, 1) := by decide +kernel
theorem d1_162 : decode method_4_code 162 = .ok (.castore, 1) := by decide +kernel
theorem d1_163 : decode method_4_code 163 = .ok (.dup, 1) := by decide +kernel
theorem d1_164 : decode method_4_code 164 = .ok (.iconst 2, 1) := by decide +kernel
theorem d1_165 : decode method_4_code 165 = .ok (.aload_n 0, 1) := by decide +kernel
theorem d1_166 : decode method_4_code 166 = .ok (.iconst 2, 1) := by decide +kernel
theorem d1_167 : decode method_4_code 167 = .ok (.caload, 1) := by decide +kernel
theorem d1_168 : decode method_4_code 168 = .ok (.castore, 1) := by decide +kernel
theorem d1_169 : decode method_4_code 169 = .ok (.dup, 1) := by decide +kernel
theorem d1_170 : decode method_4_code 170 = .ok (.iconst 3, 1) := by decide +kernel
theorem d1_171 : decode method_4_code 171 = .ok (.aload_n 0, 1) := by decide +kernel
theorem d1_172 : decode method_4_code 172 = .ok (.iconst 3, 1) := by decide +kernel
theorem d1_173 : decode method_4_code 173 = .ok (.caload, 1) := by decide +kernel
theorem d1_174 : decode method_4_code 174 = .ok (.castore, 1) := by decide +kernel
theorem d1_175 : decode method_4_code 175 = .ok (.dup, 1) := by decide +kernel
theorem d1_176 : decode method_4_code 176 = .ok (.iconst 4, 1) := by decide +kernel
theorem d1_177 : decode method_4_code 177 = .ok (.aload_n 0, 1) := by decide +kernel
theorem d1_178 : decode method_4_code 178 = .ok (.iconst 4, 1) := by decide +kernel
theorem d1_179 : decode method_4_code 179 = .ok (.caload, 1) := by decide +kernel
theorem d1_180 : decode method_4_code 180 = .ok (.castore, 1) := by decide +kernel
theorem d1_181 : decode method_4_code 181 = .ok (.invokespecial 31, 3) := by decide +kernel
theorem d1_184 : decode method_4_code 184 = .ok (.areturn, 1) := by decide +kernel
theorem d1_185 : decode method_4_code 185 = .ok (.new 29, 3) := by decide +kernel
theorem d1_188 : decode method_4_code 188 = .ok (.dup, 1) := by decide +kernel
theorem d1_189 : decode method_4_code 189 = .ok (.bipush 6, 2) := by decide +kernel
theorem d1_191 : decode method_4_code 191 = .ok (.newarray .char, 2) := by decide +kernel
theorem d1_193 : decode method_4_code 193 = .ok (.dup, 1) := by decide +kernel
theorem d1_194 : decode method_4_code 194 = .ok (.iconst 0, 1) := by decide +kernel
theorem d1_195 : decode method_4_code 195 = .ok (.aload_n 0, 1) := by decide +kernel
theorem d1_196 : decode method_4_code 196 = .ok (.iconst 0, 1) := by decide +kernel
theorem d1_197 : decode method_4_code 197 = .ok (.caload, 1) := by decide +kernel
theorem d1_198 : decode method_4_code 198 = .ok (.castore, 1) := by decide +kernel
theorem d1_199 : decode method_4_code 199 = .ok (.dup, 1) := by decide +kernel
theorem d1_200 : decode method_4_code 200 = .ok (.iconst 1, 1) := by decide +kernel
theorem d1_201 : decode method_4_code 201 = .ok (.aload_n 0, 1) := by decide +kernel
theorem d1_202 : decode method_4_code 202 = .ok (.iconst 1, 1) := by decide +kernel
theorem d1_203 : decode method_4_code 203 = .ok (.caload, 1) := by decide +kernel
theorem d1_204 : decode method_4_code 204 = .ok (.castore, 1) := by decide +kernel
theorem d1_205 : decode method_4_code 205 = .ok (.dup, 1) := by decide +kernel
theorem d1_206 : decode method_4_code 206 = .ok (.iconst 2, 1) := by decide +kernel
theorem d1_207 : decode method_4_code 207 = .ok (.aload_n 0, 1) := by decide +kernel
theorem d1_208 : decode method_4_code 208 = .ok (.iconst 2, 1) := by decide +kernel
theorem d1_209 : decode method_4_code 209 = .ok (.caload, 1) := by decide +kernel
theorem d1_210 : decode method_4_code 210 = .ok (.castore, 1) := by decide +kernel
theorem d1_211 : decode method_4_code 211 = .ok (.dup, 1) := by decide +kernel
theorem d1_212 : decode method_4_code 212 = .ok (.iconst 3, 1) := by decide +kernel
theorem d1_213 : decode method_4_code 213 = .ok (.aload_n 0, 1) := by decide +kernel
theorem d1_214 : decode method_4_code 214 = .ok (.iconst 3, 1) := by decide +kernel
theorem d1_215 : decode method_4_code 215 = .ok (.caload, 1) := by decide +kernel
theorem d1_216 : decode method_4_code 216 = .ok (.castore, 1) := by decide +kernel
theorem d1_217 : decode method_4_code 217 = .ok (.dup, 1) := by decide +kernel
theorem d1_218 : decode method_4_code 218 = .ok (.iconst 4, 1) := by decide +kernel
theorem d1_219 : decode method_4_code 219 = .ok (.aload_n 0, 1) := by decide +kernel
theorem d1_220 : decode method_4_code 220 = .ok (.iconst 4, 1) := by decide +kernel
theorem d1_221 : decode method_4_code 221 = .ok (.caload, 1) := by decide +kernel
theorem d1_222 : decode method_4_code 222 = .ok (.castore, 1) := by decide +kernel
theorem d1_223 : decode method_4_code 223 = .ok (.dup, 1) := by decide +kernel
theorem d1_224 : decode method_4_code 224 = .ok (.iconst 5, 1) := by decide +kernel
theorem d1_225 : decode method_4_code 225 = .ok (.aload_n 0, 1) := by decide +kernel
theorem d1_226 : decode method_4_code 226 = .ok (.iconst 5, 1) := by decide +kernel
theorem d1_227 : decode method_4_code 227 = .ok (.caload, 1) := by decide +kernel
theorem d1_228 : decode method_4_code 228 = .ok (.castore, 1) := by decide +kernel
theorem d1_229 : decode method_4_code 229 = .ok (.invokespecial 31, 3) := by decide +kernel
theorem d1_232 : decode method_4_code 232 = .ok (.areturn, 1) := by decide +kernel
theorem ef_rmMk (m : MethodId) (x0 : Addr) (x1 : Int32) : entryFrame m #[(.ref x0), (.int x1)] 2 = mkF m 0 #[.val (.ref x0), .val (.int x1)] [] := by first | (simp [entryFrame, mkF, argsToLocals, Value.category]; done) | rfl
def QrmMk (Z : State) (a1 : Addr) (rN : Nat) (g : Nat → Int32) (zc : Int32) (ks : List Bool) (h0 : Heap) (n0 : Nat) (v : Option Value) (h : Heap) (L : List Loc) : Prop := ∃ x : Addr, v = some (.ref x) ∧ Fr n0 L ∧ Keep h0 h [] ∧ own_S Z h x rN g ∧ h0.size ≤ x
set_option maxRecDepth 65536 in
set_option maxHeartbeats 40000000 in
theorem rmMk (l : Launch) (Z : State) (a0 : Array Value) (hw : ∀ d ∈ tables_1, d.before a0 Z = true) (ws : List Jvm.Cond) (a1 : Addr) (rN : Nat) (g : Nat → Int32) (zc : Int32) (ks : List Bool) (h0 : Heap) (n0 : Nat) (Z0 : n0 ≤ h0.size) (S_a : Sta Z Z.heap "java/lang/StringUTF16" "$assertionsDisabled" "Z" (.int (1 : Int32))) (S_h : Sta Z Z.heap "java/lang/StringUTF16" "HI_BYTE_SHIFT" "I" (.int (0 : Int32))) (S_l : Sta Z Z.heap "java/lang/StringUTF16" "LO_BYTE_SHIFT" "I" (.int (8 : Int32))) (O : Old Z n0 h0) (S_c : Sta Z Z.heap "java/lang/String" "COMPACT_STRINGS" "Z" (.int zc)) (hzc : ¬ zc = 0) (b6 : rN ≤ 6) (V : own_Af Z h0 a1 .char 6 g) (Wg : own_W g rN ks 0) :
    MetFree l (⟨"com/example/ledgerpost/ledgerpost/StorableTextRequirePinLaw", "make", "([CI)Ljava/lang/String;"⟩ : MethodName) (head1 (Jvm.Cond.code (⟨"com/example/ledgerpost/ledgerpost/StorableTextRequirePinLaw", "make", "([CI)Ljava/lang/String;"⟩ : MethodName) method_4_code 2 (some (.object "java/lang/String")) :: ws) ({ frames := 6, cells := 6, slots := 28, locals := 88 } : Room)) (fun a U => a = #[(.ref a1), (.int (Int32.ofNat rN))] ∧ Z.Warmed39 U.vm ∧ U.heap = h0 ∧ CHv Z own_EL U.vm h0) (fun _ _ _ _ _ => True) (fun _ U o U' => ∃ v L, o = .returned v ∧ QrmMk Z a1 rN g zc ks h0 n0 v U'.heap L ∧ CHr Z own_EL U.vm U.heap U'.vm U'.heap ∧ ReturnedEndW U o U' L ({ frames := 6, cells := 6, slots := 28, locals := 88 } : Room).cells ({ frames := 6, cells := 6, slots := 28, locals := 88 } : Room).slots) := by
  refine MetFree.of_bodySF (plainFor_of_name pn_4) hisR ?_
  intro p e s m args below meth c s₁ Bd hml0 hP hK
  obtain ⟨rfl, hZ, hh, hH⟩ := hP
  have hx := Bd.exec
  have hby := Bd.bytes
  have hml : c.maxLocals = 2 := hml0
  have hown : s.vm.findClass "com/example/ledgerpost/ledgerpost/StorableTextRequirePinLaw" = some m.cls := findClass_of_methodNamed Bd.named
  have hnm := (name_of_methodNamed Bd.named Bd.method).1
  have X0 : Stand p l e ({ frames := 6, cells := 6, slots := 28, locals := 88 } : Room) s m #[(.ref a1), (.int (Int32.ofNat rN))] below meth c s₁ [] 0 0 := Stand.of_body Bd
  have e0 : s₁.heap = h0 := by rw [← hh, Bd.state]; rfl
  have N0 := Fr.nil n0
  have pre0 : ∀ t_, Steps p.tables e below (s₁.setTop (mkF m 0 #[.val (.ref a1), .val (.int (Int32.ofNat rN))] [])) t_ → Steps p.tables e below (s₁.setTop (entryFrame m #[(.ref a1), (.int (Int32.ofNat rN))] 2)) t_ := fun t_ k_ => castTop (ef_rmMk m a1 ((Int32.ofNat rN))) k_
  have rg : own_rng rN g := fun j hj => own_Wrng ks 0 Wg j (Nat.zero_le _) hj
  have pre101 : ∀ t_, Steps p.tables e below (s₁.setTop (mkF m 1 #[.val (.ref a1), .val (.int (Int32.ofNat rN))] [(.int (Int32.ofNat rN))])) t_ → Steps p.tables e below (s₁.setTop (entryFrame m #[(.ref a1), (.int (Int32.ofNat rN))] 2)) t_ := fun t_ k_ => pre0 _ (by
    show Steps p.tables e below (s₁.setTop (mkF m 0 #[.val (.ref a1), .val (.int (Int32.ofNat rN))] [])) _
    refine XS.iloadN X0.here hx rfl (hb hby d1_0) rfl ?_
    exact k_)
  by_cases hN0 : rN = 0
  · skip
    obtain ⟨T102, h102, X102, e102, Ext_x, E_x, D_x, -, st102⟩ := newO X0 hx hZ hown (hw _ (List.mem_of_getElem? (i := 5) rfl)) (hw _ (List.mem_of_getElem? (i := 6) rfl)) (hw _ (List.mem_of_getElem? (i := 7) rfl)) e0 (g := (mkF m 4 #[.val (.ref a1), .val (.int (Int32.ofNat rN))] [])) rfl (hb hby d1_4) (by decide) (by decide)
    obtain ⟨x, eq_x⟩ : ∃ z, z = h0.size := ⟨_, rfl⟩
    rw [← eq_x] at E_x D_x st102
    have g_x : n0 ≤ x := Nat.le_trans Z0 (Nat.le_of_eq eq_x.symm)
    have O_103 := O.ext Ext_x
    have Z104 : n0 ≤ h102.size := Nat.le_trans Z0 (Ext_x.1)
    have ch105 := (CHr.refl hH).trans (CHr.ext Ext_x (CHr.refl hH).1)
    have Fv_x : Fld Z h102 x "java/lang/String" "value" "[B" .null := D_x (Or.inr (hw _ (List.mem_of_getElem? (i := 20) rfl))) (ty := (.array .byte)) (by decide)
    have Fc_x : Fld Z h102 x "java/lang/String" "coder" "B" (.int (0 : Int32)) := D_x (Or.inr (hw _ (List.mem_of_getElem? (i := 21) rfl))) (ty := .byte) (by decide)
    have K0_x := (Keep.refl h0 []).ext Ext_x
    obtain ⟨T106, h106, k_ch, X106, e106, Ext_ch, A_ch, st106⟩ := newP X102 hx hZ (hw _ (List.mem_of_getElem? (i := 0) rfl)) e102 (g := (mkF m 9 #[.val (.ref a1), .val (.int (Int32.ofNat rN))] [(.int (0 : Int32)), (.ref x), (.ref x)])) rfl (hb hby d1_9) rfl (by decide) (cap := 0) (by decide) (by decide) (by decide) (by decide)
    obtain ⟨ch, eq_ch⟩ : ∃ z, z = h102.size := ⟨_, rfl⟩
    rw [← eq_ch] at A_ch st106
    have g_ch : n0 ≤ ch := Nat.le_trans Z104 (Nat.le_of_eq eq_ch.symm)
    have O_107 := O_103.ext Ext_ch
    have ne_x_ch : x ≠ ch := Nat.ne_of_lt (Nat.lt_of_lt_of_le E_x.lt (Nat.le_of_eq eq_ch.symm))
    have E_x_108 := E_x.ext Ext_ch
    have Fv_x_109 := Fv_x.ext Ext_ch
    have Fc_x_110 := Fc_x.ext Ext_ch
    have KK_111 := K0_x.ext Ext_ch
    have Z112 : n0 ≤ h106.size := Nat.le_trans Z104 (Ext_ch.1)
    have ch113 := ch105.trans (CHr.ext Ext_ch ch105.1)
    have V_ch : Arv Z h106 ch k_ch .char (0 : Int32) [] (.int (0 : Int32)) := Arv.new A_ch (by decide)
    have sz_ch : h0.size ≤ ch := Nat.le_trans K0_x.1 (Nat.le_of_eq eq_ch.symm)
    obtain ⟨_, _, ⟨T114, L114, k114, n114⟩, -, X114, hS114, hle114, ⟨Lc114, hQ114, l114, y114, z114, hC114⟩, st114⟩ := Jvm.Stand.specialBackS (s := (s.setVm s.vm)) X106 hx (y := (⟨"java/lang/String", "<init>", "([C)V"⟩ : MethodName)) rfl hown (mvT hZ (hw _ (List.mem_of_getElem? (i := 8) rfl))) (mvT hZ (hw _ (List.mem_of_getElem? (i := 9) rfl))) (mvT hZ (hw _ (List.mem_of_getElem? (i := 10) rfl))) (by decide) (backOfSH (s := s) (vm0 := s.vm) (W := 1) (rmS1 l Z a0 hw [] x ch k_ch h106 n0 Z112 E_x_108 Fv_x_109 Fc_x_110 g_x V_ch) hZ (hw _ (List.mem_of_getElem? (i := 10) rfl)) (hw _ (List.mem_of_getElem? (i := 7) rfl)) (by decide) (by decide) (own_EW hw) ch113.1) (g := (mkF m 11 #[.val (.ref a1), .val (.int (Int32.ofNat rN))] [(.ref ch), (.ref x), (.ref x)])) rfl (by rw [hml]; rfl) (Steps.refl _) (a := x) (argsL := [(.ref ch)]) (rest := [(.ref x)]) (lenOf pd_16 rfl) rfl (by show 2 * 0 + _ ≤ _; exact Nat.le_of_eq rfl) (hb hby d1_11) (fun _ _ => ⟨rfl, e106, (by decide : 2 + 4 ≤ _), (by decide : 4 + 8 ≤ _)⟩)
    dsimp only [Pt.U, Pt.locs, Pt.cells, Pt.slots] at X114 l114 y114 z114 st114 hQ114 hS114 hle114 hC114
    subst l114 y114 z114
    have hle114' : h106.size ≤ T114.heap.size := by have q := hle114; rw [e106] at q; exact q
    obtain ⟨X114', hS114', hZ114, hown114⟩ := rebS (s := s) (vm0 := s.vm) ((State.WarmedH.refl s).since 0) (Nat.zero_le _) X114 hS114 hle114' hZ hown
    obtain ⟨rfl, N114q, K114, tb114, kb114, Es114, Vs114, Cs114, As114⟩ := hQ114
    have N114 := Fr.app N0 N114q
    have ch115 := ch113.trans hC114
    have SX : own_S Z T114.heap x 0 g := own_S0 Es114 Vs114 Cs114 As114
    have K_x := KK_111.trans K114 (allS (Or.inr (Nat.le_of_eq eq_x.symm)) all0)
    have Z116 : n0 ≤ T114.heap.size := Nat.le_trans Z112 (K114.1)
    have pre117 : ∀ t_, Steps p.tables e below (T114.setTop (mkF m 14 #[.val (.ref a1), .val (.int (Int32.ofNat rN))] [(.ref x)])) t_ → Steps p.tables e below (s₁.setTop (entryFrame m #[(.ref a1), (.int (Int32.ofNat rN))] 2)) t_ := fun t_ k_ => pre101 _ (by
      show Steps p.tables e below (s₁.setTop (mkF m 1 #[.val (.ref a1), .val (.int (Int32.ofNat rN))] [(.int (Int32.ofNat rN))])) _
      refine XS.ifNo X0.here hx rfl (hb hby d1_1) rfl ((if0 _ _).trans (teq (congrArg Int32.ofNat hN0 : Int32.ofNat rN = (0 : Int32))).2) ?_
      show Steps p.tables e below (s₁.setTop (mkF m 4 #[.val (.ref a1), .val (.int (Int32.ofNat rN))] [])) _
      refine st102 _ ?_
      show Steps p.tables e below (T102.setTop (mkF m 7 #[.val (.ref a1), .val (.int (Int32.ofNat rN))] [(.ref x)])) _
      refine XS.dup X102.here hx rfl (hb hby d1_7) rfl rfl ?_
      show Steps p.tables e below (T102.setTop (mkF m 8 #[.val (.ref a1), .val (.int (Int32.ofNat rN))] [(.ref x), (.ref x)])) _
      refine XS.iconst X102.here hx rfl (hb hby d1_8) ?_
      show Steps p.tables e below (T102.setTop (mkF m 9 #[.val (.ref a1), .val (.int (Int32.ofNat rN))] [(.int (0 : Int32)), (.ref x), (.ref x)])) _
      refine st106 _ ?_
      show Steps p.tables e below (T106.setTop (mkF m 11 #[.val (.ref a1), .val (.int (Int32.ofNat rN))] [(.ref ch), (.ref x), (.ref x)])) _
      refine st114.trans ?_
      exact k_)
    obtain ⟨fs, hr, hrun, hended, hWr, hW1, hW2, hsame⟩ := Jvm.Stand.leaveW (s := s) X114' hS114' (by exact (Nat.le_refl _)) (v := some (.ref x)) (fun h => by rw [Bd.returns] at h; cases h)
    refine ⟨_, _, pre117 _ ?_, hrun, hended, _, _, rfl, ?_, (by show CHr Z own_EL s.vm s.heap T114.vm T114.heap; rw [hh]; exact ch115.trans (CHv.at (s := s) (vm0 := T114.vm) X114' hZ114 (own_EW hw) ch115.1)), hWr, hW1, hW2, hsame.mono (by decide) (by decide)⟩
    · show Steps p.tables e below (T114.setTop (mkF m 14 #[.val (.ref a1), .val (.int (Int32.ofNat rN))] [(.ref x)])) _
      jvm_step X114'.here [X114'.here.top, hx, (hb hby d1_14), X114'.method', Bd.returns, Value.isRef, FieldType.isReference]
      first | (intro acts; rw [hr _ acts rfl rfl rfl]) | rw [hr _ _ rfl rfl rfl]
      exact Steps.refl _
    · show QrmMk Z a1 rN g zc ks h0 n0 _ T114.heap _
      exact ⟨x, rfl, N114, K_x, by rw [hN0]; exact SX, Nat.le_of_eq eq_x.symm⟩
  · skip
    have pre118 : ∀ t_, Steps p.tables e below (s₁.setTop (mkF m 17 #[.val (.ref a1), .val (.int (Int32.ofNat rN))] [(.int (1 : Int32)), (.int (Int32.ofNat rN))])) t_ → Steps p.tables e below (s₁.setTop (entryFrame m #[(.ref a1), (.int (Int32.ofNat rN))] 2)) t_ := fun t_ k_ => pre101 _ (by
      show Steps p.tables e below (s₁.setTop (mkF m 1 #[.val (.ref a1), .val (.int (Int32.ofNat rN))] [(.int (Int32.ofNat rN))])) _
      refine XS.ifYes X0.here hx rfl (pc0 := 1) (pc' := 15) rfl (hb hby d1_1) rfl ((if0 _ _).trans (feq (own_ofne (b := 0) (by omega) (by omega) hN0 : ¬ Int32.ofNat rN = (0 : Int32))).2) (by decide) (by decide) ?_
      show Steps p.tables e below (s₁.setTop (mkF m 15 #[.val (.ref a1), .val (.int (Int32.ofNat rN))] [])) _
      refine XS.iloadN X0.here hx rfl (hb hby d1_15) rfl ?_
      show Steps p.tables e below (s₁.setTop (mkF m 16 #[.val (.ref a1), .val (.int (Int32.ofNat rN))] [(.int (Int32.ofNat rN))])) _
      refine XS.iconst X0.here hx rfl (hb hby d1_16) ?_
      exact k_)
    by_cases hN1 : rN = 1
    · skip
      obtain ⟨T119, h119, X119, e119, Ext_x, E_x, D_x, -, st119⟩ := newO X0 hx hZ hown (hw _ (List.mem_of_getElem? (i := 5) rfl)) (hw _ (List.mem_of_getElem? (i := 6) rfl)) (hw _ (List.mem_of_getElem? (i := 7) rfl)) e0 (g := (mkF m 20 #[.val (.ref a1), .val (.int (Int32.ofNat rN))] [])) rfl (hb hby d1_20) (by decide) (by decide)
      obtain ⟨x, eq_x⟩ : ∃ z, z = h0.size := ⟨_, rfl⟩
      rw [← eq_x] at E_x D_x st119
      have g_x : n0 ≤ x := Nat.le_trans Z0 (Nat.le_of_eq eq_x.symm)
      have O_120 := O.ext Ext_x
      have Z121 : n0 ≤ h119.size := Nat.le_trans Z0 (Ext_x.1)
      have Fv_x : Fld Z h119 x "java/lang/String" "value" "[B" .null := D_x (Or.inr (hw _ (List.mem_of_getElem? (i := 20) rfl))) (ty := (.array .byte)) (by decide)
      have Fc_x : Fld Z h119 x "java/lang/String" "coder" "B" (.int (0 : Int32)) := D_x (Or.inr (hw _ (List.mem_of_getElem? (i := 21) rfl))) (ty := .byte) (by decide)
      have K0_x := (Keep.refl h0 []).ext Ext_x
      obtain ⟨T122, h122, k_ch, X122, e122, Ext_ch, A_ch, st122⟩ := newP X119 hx hZ (hw _ (List.mem_of_getElem? (i := 0) rfl)) e119 (g := (mkF m 25 #[.val (.ref a1), .val (.int (Int32.ofNat rN))] [(.int (1 : Int32)), (.ref x), (.ref x)])) rfl (hb hby d1_25) rfl (by decide) (cap := 1) (by decide) (by decide) (by decide) (by decide)
      obtain ⟨ch, eq_ch⟩ : ∃ z, z = h119.size := ⟨_, rfl⟩
      rw [← eq_ch] at A_ch st122
      have g_ch : n0 ≤ ch := Nat.le_trans Z121 (Nat.le_of_eq eq_ch.symm)
      have O_123 := O_120.ext Ext_ch
      have ne_x_ch : x ≠ ch := Nat.ne_of_lt (Nat.lt_of_lt_of_le E_x.lt (Nat.le_of_eq eq_ch.symm))
      have E_x_124 := E_x.ext Ext_ch
      have Fv_x_125 := Fv_x.ext Ext_ch
      have Fc_x_126 := Fc_x.ext Ext_ch
      have KK_127 := K0_x.ext Ext_ch
      have Z128 : n0 ≤ h122.size := Nat.le_trans Z121 (Ext_ch.1)
      have V_ch : Arv Z h122 ch k_ch .char (1 : Int32) [(.int (0 : Int32))] (.int (0 : Int32)) := (Arv.new A_ch (by decide)).pad (pad_rep [] (.int (0 : Int32)) 1)
      have sz_ch : h0.size ≤ ch := Nat.le_trans K0_x.1 (Nat.le_of_eq eq_ch.symm)
      obtain ⟨cl129, Ar129, Sz129, Hs129⟩ := own_Afkeep V KK_127 nin0
      have hin129 : ¬ ((0 : Int32) < 0 ∨ cl129.slots.size ≤ (0 : Int32).toNatClampNeg) := own_ofin (a := 0) Sz129 (by omega) (by omega)
      have hat129 : cl129.slots[(0 : Int32).toNatClampNeg]? = some (.int (g 0)) := own_hat Hs129 (j := 0) (by omega) (by omega)
      obtain ⟨cl130, Ar130, qk130, Sz130, Ng130, Hs130, Gs130⟩ := V_ch
      have hin130 : ¬ ((0 : Int32) < 0 ∨ cl130.slots.size ≤ ((0 : Int32)).toNatClampNeg) := inb_of Sz130 ⟨by decide, by decide⟩
      obtain ⟨T131, h131, X131, e131, W131, st131⟩ := stC X122 hx hZ e122 Ar130 (j := (0 : Int32)) hin130 (g := (mkF m 32 #[.val (.ref a1), .val (.int (Int32.ofNat rN))] [(.int (g 0)), (.int (0 : Int32)), (.ref ch), (.ref ch), (.ref x), (.ref x)])) rfl rfl (hb hby d1_32)
      have O_132 := O_123.wr W131 g_ch
      have E_x_133 := E_x_124.wr W131
      have Fv_x_134 := Fv_x_125.other W131 (Or.inl ne_x_ch)
      have Fc_x_135 := Fc_x_126.other W131 (Or.inl ne_x_ch)
      have KK_136 := KK_127.wr W131 (Or.inr sz_ch)
      have V_ch_131 : Arv Z h131 ch k_ch .char (1 : Int32) [(.int (nar .char (g 0)))] (.int (0 : Int32)) := Arv.set Ar130 qk130 Sz130 Ng130 Hs130 Gs130 (fits_nar_char _) W131 0 rfl (Nat.le_of_ble_eq_true rfl)
      have N131 := Fr.snoc X131 N0 g_ch
      have Z138 : n0 ≤ h131.size := Nat.le_trans Z128 ((Keep.of_wr W131).1)
      have VC := V_ch_131
      rw [own_nc (rg 0 (by omega))] at VC
      have AC := own_AfA (n := 1) (g := g) VC (by omega) (fun j hj => match j, hj with | 0, _ => rfl | (j + 1), h => absurd h (by omega))
      obtain ⟨_, _, ⟨T139, L139, k139, n139⟩, -, X139, ⟨Lc139, hQ139, l139, y139, z139⟩, st139⟩ := X131.specialBack hx (y := (⟨"java/lang/String", "<init>", "([C)V"⟩ : MethodName)) rfl hown (mvT hZ (hw _ (List.mem_of_getElem? (i := 8) rfl))) (mvT hZ (hw _ (List.mem_of_getElem? (i := 9) rfl))) (mvT hZ (hw _ (List.mem_of_getElem? (i := 10) rfl))) (by decide) (backOf (W := 1) (rmI1 l Z a0 hw [] x ch 1 g zc h131 n0 Z138 E_x_133 Fv_x_134 Fc_x_135 g_x S_a S_h S_l O_132 S_c hzc (by omega) (by omega) (fun j hj => rg j (by omega)) AC) hZ (hw _ (List.mem_of_getElem? (i := 10) rfl)) (hw _ (List.mem_of_getElem? (i := 7) rfl)) (by decide) (by decide)) (g := (mkF m 33 #[.val (.ref a1), .val (.int (Int32.ofNat rN))] [(.ref ch), (.ref x), (.ref x)])) rfl (by rw [hml]; rfl) (Steps.refl _) (a := x) (argsL := [(.ref ch)]) (rest := [(.ref x)]) (lenOf pd_16 rfl) rfl (by show 2 * 0 + _ ≤ _; exact Nat.le_of_eq rfl) (hb hby d1_33) (fun _ _ => ⟨rfl, e131, (by decide : 2 + 2 ≤ _), (by decide : 5 + 18 ≤ _)⟩)
      dsimp only [Pt.U, Pt.locs, Pt.cells, Pt.slots] at X139 l139 y139 z139 st139 hQ139
      subst l139 y139 z139
      obtain ⟨rfl, N139q, K139, SX⟩ := hQ139
      have N139 := Fr.app N131 N139q
      have K_x := KK_136.trans K139 (allS (Or.inr (Nat.le_of_eq eq_x.symm)) all0)
      have Z140 : n0 ≤ T139.heap.size := Nat.le_trans Z138 (K139.1)
      have pre141 : ∀ t_, Steps p.tables e below (T139.setTop (mkF m 36 #[.val (.ref a1), .val (.int (Int32.ofNat rN))] [(.ref x)])) t_ → Steps p.tables e below (s₁.setTop (entryFrame m #[(.ref a1), (.int (Int32.ofNat rN))] 2)) t_ := fun t_ k_ => pre118 _ (by
        show Steps p.tables e below (s₁.setTop (mkF m 17 #[.val (.ref a1), .val (.int (Int32.ofNat rN))] [(.int (1 : Int32)), (.int (Int32.ofNat rN))])) _
        refine XS.icmpNo X0.here hx rfl (hb hby d1_17) rfl (teq (congrArg Int32.ofNat hN1 : Int32.ofNat rN = (1 : Int32))).2 ?_
        show Steps p.tables e below (s₁.setTop (mkF m 20 #[.val (.ref a1), .val (.int (Int32.ofNat rN))] [])) _
        refine st119 _ ?_
        show Steps p.tables e below (T119.setTop (mkF m 23 #[.val (.ref a1), .val (.int (Int32.ofNat rN))] [(.ref x)])) _
        refine XS.dup X119.here hx rfl (hb hby d1_23) rfl rfl ?_
        show Steps p.tables e below (T119.setTop (mkF m 24 #[.val (.ref a1), .val (.int (Int32.ofNat rN))] [(.ref x), (.ref x)])) _
        refine XS.iconst X119.here hx rfl (hb hby d1_24) ?_
        show Steps p.tables e below (T119.setTop (mkF m 25 #[.val (.ref a1), .val (.int (Int32.ofNat rN))] [(.int (1 : Int32)), (.ref x), (.ref x)])) _
        refine st122 _ ?_
        show Steps p.tables e below (T122.setTop (mkF m 27 #[.val (.ref a1), .val (.int (Int32.ofNat rN))] [(.ref ch), (.ref x), (.ref x)])) _
        refine XS.dup X122.here hx rfl (hb hby d1_27) rfl rfl ?_
        show Steps p.tables e below (T122.setTop (mkF m 28 #[.val (.ref a1), .val (.int (Int32.ofNat rN))] [(.ref ch), (.ref ch), (.ref x), (.ref x)])) _
        refine XS.iconst X122.here hx rfl (hb hby d1_28) ?_
        show Steps p.tables e below (T122.setTop (mkF m 29 #[.val (.ref a1), .val (.int (Int32.ofNat rN))] [(.int (0 : Int32)), (.ref ch), (.ref ch), (.ref x), (.ref x)])) _
        refine XS.aloadN X122.here hx rfl (hb hby d1_29) rfl rfl ?_
        show Steps p.tables e below (T122.setTop (mkF m 30 #[.val (.ref a1), .val (.int (Int32.ofNat rN))] [(.ref a1), (.int (0 : Int32)), (.ref ch), (.ref ch), (.ref x), (.ref x)])) _
        refine XS.iconst X122.here hx rfl (hb hby d1_30) ?_
        show Steps p.tables e below (T122.setTop (mkF m 31 #[.val (.ref a1), .val (.int (Int32.ofNat rN))] [(.int (0 : Int32)), (.ref a1), (.int (0 : Int32)), (.ref ch), (.ref ch), (.ref x), (.ref x)])) _
        refine X122.caload hx (j := (0 : Int32)) (v := (.int (g 0))) (by rw [e122]; exact Ar129.1) (State.isArrayOf_alike hZ.alike Ar129.2.1) Ar129.2.2 hin129 hat129 (g := (mkF m 31 #[.val (.ref a1), .val (.int (Int32.ofNat rN))] [(.int (0 : Int32)), (.ref a1), (.int (0 : Int32)), (.ref ch), (.ref ch), (.ref x), (.ref x)])) rfl rfl (hb hby d1_31) _ ?_
        show Steps p.tables e below (T122.setTop (mkF m 32 #[.val (.ref a1), .val (.int (Int32.ofNat rN))] [(.int (g 0)), (.int (0 : Int32)), (.ref ch), (.ref ch), (.ref x), (.ref x)])) _
        refine st131 _ ?_
        show Steps p.tables e below (T131.setTop (mkF m 33 #[.val (.ref a1), .val (.int (Int32.ofNat rN))] [(.ref ch), (.ref x), (.ref x)])) _
        refine st139.trans ?_
        exact k_)
      obtain ⟨fs, hr, hrun, hended, hW, hsame⟩ := X139.leave (v := some (.ref x)) (fun h => by rw [Bd.returns] at h; cases h)
      refine ⟨_, _, pre141 _ ?_, hrun, hended, _, _, rfl, ?_, (by show CHr Z own_EL s.vm s.heap T139.vm T139.heap; rw [hh]; exact (CHr.keep K_x (fun _ q => nomatch q) hH).trans (CHv.at (s := s) (vm0 := s.vm) X139 hZ (own_EW hw) (CHr.keep K_x (fun _ q => nomatch q) hH).1)), ReturnedEndW.of_narrow ⟨_, rfl⟩ hW (hsame.mono (by decide) (by decide))⟩
      · show Steps p.tables e below (T139.setTop (mkF m 36 #[.val (.ref a1), .val (.int (Int32.ofNat rN))] [(.ref x)])) _
        jvm_step X139.here [X139.here.top, hx, (hb hby d1_36), X139.method', Bd.returns, Value.isRef, FieldType.isReference]
        first | (intro acts; rw [hr _ acts rfl rfl rfl]) | rw [hr _ _ rfl rfl rfl]
        exact Steps.refl _
      · show QrmMk Z a1 rN g zc ks h0 n0 _ T139.heap _
        exact ⟨x, rfl, N139, K_x, by rw [hN1]; exact SX, Nat.le_of_eq eq_x.symm⟩
    · skip
      have pre142 : ∀ t_, Steps p.tables e below (s₁.setTop (mkF m 39 #[.val (.ref a1), .val (.int (Int32.ofNat rN))] [(.int (2 : Int32)), (.int (Int32.ofNat rN))])) t_ → Steps p.tables e below (s₁.setTop (entryFrame m #[(.ref a1), (.int (Int32.ofNat rN))] 2)) t_ := fun t_ k_ => pre118 _ (by
        show Steps p.tables e below (s₁.setTop (mkF m 17 #[.val (.ref a1), .val (.int (Int32.ofNat rN))] [(.int (1 : Int32)), (.int (Int32.ofNat rN))])) _
        refine XS.icmpYes X0.here hx rfl (pc0 := 17) (pc' := 37) rfl (hb hby d1_17) rfl (feq (own_ofne (b := 1) (by omega) (by omega) hN1 : ¬ Int32.ofNat rN = (1 : Int32))).2 (by decide) (by decide) ?_
        show Steps p.tables e below (s₁.setTop (mkF m 37 #[.val (.ref a1), .val (.int (Int32.ofNat rN))] [])) _
        refine XS.iloadN X0.here hx rfl (hb hby d1_37) rfl ?_
        show Steps p.tables e below (s₁.setTop (mkF m 38 #[.val (.ref a1), .val (.int (Int32.ofNat rN))] [(.int (Int32.ofNat rN))])) _
        refine XS.iconst X0.here hx rfl (hb hby d1_38) ?_
        exact k_)
      by_cases hN2 : rN = 2
      · skip
        obtain ⟨T143, h143, X143, e143, Ext_x, E_x, D_x, -, st143⟩ := newO X0 hx hZ hown (hw _ (List.mem_of_getElem? (i := 5) rfl)) (hw _ (List.mem_of_getElem? (i := 6) rfl)) (hw _ (List.mem_of_getElem? (i := 7) rfl)) e0 (g := (mkF m 42 #[.val (.ref a1), .val (.int (Int32.ofNat rN))] [])) rfl (hb hby d1_42) (by decide) (by decide)
        obtain ⟨x, eq_x⟩ : ∃ z, z = h0.size := ⟨_, rfl⟩
        rw [← eq_x] at E_x D_x st143
        have g_x : n0 ≤ x := Nat.le_trans Z0 (Nat.le_of_eq eq_x.symm)
        have O_144 := O.ext Ext_x
        have Z145 : n0 ≤ h143.size := Nat.le_trans Z0 (Ext_x.1)
        have Fv_x : Fld Z h143 x "java/lang/String" "value" "[B" .null := D_x (Or.inr (hw _ (List.mem_of_getElem? (i := 20) rfl))) (ty := (.array .byte)) (by decide)
        have Fc_x : Fld Z h143 x "java/lang/String" "coder" "B" (.int (0 : Int32)) := D_x (Or.inr (hw _ (List.mem_of_getElem? (i := 21) rfl))) (ty := .byte) (by decide)
        have K0_x := (Keep.refl h0 []).ext Ext_x
        obtain ⟨T146, h146, k_ch, X146, e146, Ext_ch, A_ch, st146⟩ := newP X143 hx hZ (hw _ (List.mem_of_getElem? (i := 0) rfl)) e143 (g := (mkF m 47 #[.val (.ref a1), .val (.int (Int32.ofNat rN))] [(.int (2 : Int32)), (.ref x), (.ref x)])) rfl (hb hby d1_47) rfl (by decide) (cap := 2) (by decide) (by decide) (by decide) (by decide)
        obtain ⟨ch, eq_ch⟩ : ∃ z, z = h143.size := ⟨_, rfl⟩
        rw [← eq_ch] at A_ch st146
        have g_ch : n0 ≤ ch := Nat.le_trans Z145 (Nat.le_of_eq eq_ch.symm)
        have O_147 := O_144.ext Ext_ch
        have ne_x_ch : x ≠ ch := Nat.ne_of_lt (Nat.lt_of_lt_of_le E_x.lt (Nat.le_of_eq eq_ch.symm))
        have E_x_148 := E_x.ext Ext_ch
        have Fv_x_149 := Fv_x.ext Ext_ch
        have Fc_x_150 := Fc_x.ext Ext_ch
        have KK_151 := K0_x.ext Ext_ch
        have Z152 : n0 ≤ h146.size := Nat.le_trans Z145 (Ext_ch.1)
        have V_ch : Arv Z h146 ch k_ch .char (2 : Int32) [(.int (0 : Int32)), (.int (0 : Int32))] (.int (0 : Int32)) := (Arv.new A_ch (by decide)).pad (pad_rep [] (.int (0 : Int32)) 2)
        have sz_ch : h0.size ≤ ch := Nat.le_trans K0_x.1 (Nat.le_of_eq eq_ch.symm)
        obtain ⟨cl153, Ar153, Sz153, Hs153⟩ := own_Afkeep V KK_151 nin0
        have hin153 : ¬ ((0 : Int32) < 0 ∨ cl153.slots.size ≤ (0 : Int32).toNatClampNeg) := own_ofin (a := 0) Sz153 (by omega) (by omega)
        have hat153 : cl153.slots[(0 : Int32).toNatClampNeg]? = some (.int (g 0)) := own_hat Hs153 (j := 0) (by omega) (by omega)
        obtain ⟨cl154, Ar154, qk154, Sz154, Ng154, Hs154, Gs154⟩ := V_ch
        have hin154 : ¬ ((0 : Int32) < 0 ∨ cl154.slots.size ≤ ((0 : Int32)).toNatClampNeg) := inb_of Sz154 ⟨by decide, by decide⟩
        obtain ⟨T155, h155, X155, e155, W155, st155⟩ := stC X146 hx hZ e146 Ar154 (j := (0 : Int32)) hin154 (g := (mkF m 54 #[.val (.ref a1), .val (.int (Int32.ofNat rN))] [(.int (g 0)), (.int (0 : Int32)), (.ref ch), (.ref ch), (.ref x), (.ref x)])) rfl rfl (hb hby d1_54)
        have O_156 := O_147.wr W155 g_ch
        have E_x_157 := E_x_148.wr W155
        have Fv_x_158 := Fv_x_149.other W155 (Or.inl ne_x_ch)
        have Fc_x_159 := Fc_x_150.other W155 (Or.inl ne_x_ch)
        have KK_160 := KK_151.wr W155 (Or.inr sz_ch)
        have V_ch_155 : Arv Z h155 ch k_ch .char (2 : Int32) [(.int (nar .char (g 0))), (.int (0 : Int32))] (.int (0 : Int32)) := Arv.set Ar154 qk154 Sz154 Ng154 Hs154 Gs154 (fits_nar_char _) W155 0 rfl (Nat.le_of_ble_eq_true rfl)
        have N155 := Fr.snoc X155 N0 g_ch
        have Z162 : n0 ≤ h155.size := Nat.le_trans Z152 ((Keep.of_wr W155).1)
        obtain ⟨cl163, Ar163, Sz163, Hs163⟩ := own_Afkeep V KK_160 nin0
        have hin163 : ¬ ((1 : Int32) < 0 ∨ cl163.slots.size ≤ (1 : Int32).toNatClampNeg) := own_ofin (a := 1) Sz163 (by omega) (by omega)
        have hat163 : cl163.slots[(1 : Int32).toNatClampNeg]? = some (.int (g 1)) := own_hat Hs163 (j := 1) (by omega) (by omega)
        obtain ⟨cl164, Ar164, qk164, Sz164, Ng164, Hs164, Gs164⟩ := V_ch_155
        have hin164 : ¬ ((1 : Int32) < 0 ∨ cl164.slots.size ≤ ((1 : Int32)).toNatClampNeg) := inb_of Sz164 ⟨by decide, by decide⟩
        obtain ⟨T165, h165, X165, e165, W165, st165⟩ := stC X155 hx hZ e155 Ar164 (j := (1 : Int32)) hin164 (g := (mkF m 60 #[.val (.ref a1), .val (.int (Int32.ofNat rN))] [(.int (g 1)), (.int (1 : Int32)), (.ref ch), (.ref ch), (.ref x), (.ref x)])) rfl rfl (hb hby d1_60)
        have O_166 := O_156.wr W165 g_ch
        have E_x_167 := E_x_157.wr W165
        have Fv_x_168 := Fv_x_158.other W165 (Or.inl ne_x_ch)
        have Fc_x_169 := Fc_x_159.other W165 (Or.inl ne_x_ch)
        have KK_170 := KK_160.wr W165 (Or.inr sz_ch)
        have V_ch_165 : Arv Z h165 ch k_ch .char (2 : Int32) [(.int (nar .char (g 0))), (.int (nar .char (g 1)))] (.int (0 : Int32)) := Arv.set Ar164 qk164 Sz164 Ng164 Hs164 Gs164 (fits_nar_char _) W165 1 rfl (Nat.le_of_ble_eq_true rfl)
        have N165 := Fr.snoc X165 N155 g_ch
        have Z172 : n0 ≤ h165.size := Nat.le_trans Z162 ((Keep.of_wr W165).1)
        have VC := V_ch_165
        rw [own_nc (rg 0 (by omega)), own_nc (rg 1 (by omega))] at VC
        have AC := own_AfA (n := 2) (g := g) VC (by omega) (fun j hj => match j, hj with | 0, _ => rfl | 1, _ => rfl | (j + 2), h => absurd h (by omega))
        obtain ⟨_, _, ⟨T173, L173, k173, n173⟩, -, X173, ⟨Lc173, hQ173, l173, y173, z173⟩, st173⟩ := X165.specialBack hx (y := (⟨"java/lang/String", "<init>", "([C)V"⟩ : MethodName)) rfl hown (mvT hZ (hw _ (List.mem_of_getElem? (i := 8) rfl))) (mvT hZ (hw _ (List.mem_of_getElem? (i := 9) rfl))) (mvT hZ (hw _ (List.mem_of_getElem? (i := 10) rfl))) (by decide) (backOf (W := 1) (rmI1 l Z a0 hw [] x ch 2 g zc h165 n0 Z172 E_x_167 Fv_x_168 Fc_x_169 g_x S_a S_h S_l O_166 S_c hzc (by omega) (by omega) (fun j hj => rg j (by omega)) AC) hZ (hw _ (List.mem_of_getElem? (i := 10) rfl)) (hw _ (List.mem_of_getElem? (i := 7) rfl)) (by decide) (by decide)) (g := (mkF m 61 #[.val (.ref a1), .val (.int (Int32.ofNat rN))] [(.ref ch), (.ref x), (.ref x)])) rfl (by rw [hml]; rfl) (Steps.refl _) (a := x) (argsL := [(.ref ch)]) (rest := [(.ref x)]) (lenOf pd_16 rfl) rfl (by show 2 * 0 + _ ≤ _; exact Nat.le_of_eq rfl) (hb hby d1_61) (fun _ _ => ⟨rfl, e165, (by decide : 2 + 2 ≤ _), (by decide : 6 + 18 ≤ _)⟩)
        dsimp only [Pt.U, Pt.locs, Pt.cells, Pt.slots] at X173 l173 y173 z173 st173 hQ173
        subst l173 y173 z173
        obtain ⟨rfl, N173q, K173, SX⟩ := hQ173
        have N173 := Fr.app N165 N173q
        have K_x := KK_170.trans K173 (allS (Or.inr (Nat.le_of_eq eq_x.symm)) all0)
        have Z174 : n0 ≤ T173.heap.size := Nat.le_trans Z172 (K173.1)
        have pre175 : ∀ t_, Steps p.tables e below (T173.setTop (mkF m 64 #[.val (.ref a1), .val (.int (Int32.ofNat rN))] [(.ref x)])) t_ → Steps p.tables e below (s₁.setTop (entryFrame m #[(.ref a1), (.int (Int32.ofNat rN))] 2)) t_ := fun t_ k_ => pre142 _ (by
          show Steps p.tables e below (s₁.setTop (mkF m 39 #[.val (.ref a1), .val (.int (Int32.ofNat rN))] [(.int (2 : Int32)), (.int (Int32.ofNat rN))])) _
          refine XS.icmpNo X0.here hx rfl (hb hby d1_39) rfl (teq (congrArg Int32.ofNat hN2 : Int32.ofNat rN = (2 : Int32))).2 ?_
          show Steps p.tables e below (s₁.setTop (mkF m 42 #[.val (.ref a1), .val (.int (Int32.ofNat rN))] [])) _
          refine st143 _ ?_
          show Steps p.tables e below (T143.setTop (mkF m 45 #[.val (.ref a1), .val (.int (Int32.ofNat rN))] [(.ref x)])) _
          refine XS.dup X143.here hx rfl (hb hby d1_45) rfl rfl ?_
          show Steps p.tables e below (T143.setTop (mkF m 46 #[.val (.ref a1), .val (.int (Int32.ofNat rN))] [(.ref x), (.ref x)])) _
          refine XS.iconst X143.here hx rfl (hb hby d1_46) ?_
          show Steps p.tables e below (T143.setTop (mkF m 47 #[.val (.ref a1), .val (.int (Int32.ofNat rN))] [(.int (2 : Int32)), (.ref x), (.ref x)])) _
          refine st146 _ ?_
          show Steps p.tables e below (T146.setTop (mkF m 49 #[.val (.ref a1), .val (.int (Int32.ofNat rN))] [(.ref ch), (.ref x), (.ref x)])) _
          refine XS.dup X146.here hx rfl (hb hby d1_49) rfl rfl ?_
          show Steps p.tables e below (T146.setTop (mkF m 50 #[.val (.ref a1), .val (.int (Int32.ofNat rN))] [(.ref ch), (.ref ch), (.ref x), (.ref x)])) _
          refine XS.iconst X146.here hx rfl (hb hby d1_50) ?_
          show Steps p.tables e below (T146.setTop (mkF m 51 #[.val (.ref a1), .val (.int (Int32.ofNat rN))] [(.int (0 : Int32)), (.ref ch), (.ref ch), (.ref x), (.ref x)])) _
          refine XS.aloadN X146.here hx rfl (hb hby d1_51) rfl rfl ?_
          show Steps p.tables e below (T146.setTop (mkF m 52 #[.val (.ref a1), .val (.int (Int32.ofNat rN))] [(.ref a1), (.int (0 : Int32)), (.ref ch), (.ref ch), (.ref x), (.ref x)])) _
          refine XS.iconst X146.here hx rfl (hb hby d1_52) ?_
          show Steps p.tables e below (T146.setTop (mkF m 53 #[.val (.ref a1), .val (.int (Int32.ofNat rN))] [(.int (0 : Int32)), (.ref a1), (.int (0 : Int32)), (.ref ch), (.ref ch), (.ref x), (.ref x)])) _
          refine X146.caload hx (j := (0 : Int32)) (v := (.int (g 0))) (by rw [e146]; exact Ar153.1) (State.isArrayOf_alike hZ.alike Ar153.2.1) Ar153.2.2 hin153 hat153 (g := (mkF m 53 #[.val (.ref a1), .val (.int (Int32.ofNat rN))] [(.int (0 : Int32)), (.ref a1), (.int (0 : Int32)), (.ref ch), (.ref ch), (.ref x), (.ref x)])) rfl rfl (hb hby d1_53) _ ?_
          show Steps p.tables e below (T146.setTop (mkF m 54 #[.val (.ref a1), .val (.int (Int32.ofNat rN))] [(.int (g 0)), (.int (0 : Int32)), (.ref ch), (.ref ch), (.ref x), (.ref x)])) _
          refine st155 _ ?_
          show Steps p.tables e below (T155.setTop (mkF m 55 #[.val (.ref a1), .val (.int (Int32.ofNat rN))] [(.ref ch), (.ref x), (.ref x)])) _
          refine XS.dup X155.here hx rfl (hb hby d1_55) rfl rfl ?_
          show Steps p.tables e below (T155.setTop (mkF m 56 #[.val (.ref a1), .val (.int (Int32.ofNat rN))] [(.ref ch), (.ref ch), (.ref x), (.ref x)])) _
          refine XS.iconst X155.here hx rfl (hb hby d1_56) ?_
          show Steps p.tables e below (T155.setTop (mkF m 57 #[.val (.ref a1), .val (.int (Int32.ofNat rN))] [(.int (1 : Int32)), (.ref ch), (.ref ch), (.ref x), (.ref x)])) _
          refine XS.aloadN X155.here hx rfl (hb hby d1_57) rfl rfl ?_
          show Steps p.tables e below (T155.setTop (mkF m 58 #[.val (.ref a1), .val (.int (Int32.ofNat rN))] [(.ref a1), (.int (1 : Int32)), (.ref ch), (.ref ch), (.ref x), (.ref x)])) _
          refine XS.iconst X155.here hx rfl (hb hby d1_58) ?_
          show Steps p.tables e below (T155.setTop (mkF m 59 #[.val (.ref a1), .val (.int (Int32.ofNat rN))] [(.int (1 : Int32)), (.ref a1), (.int (1 : Int32)), (.ref ch), (.ref ch), (.ref x), (.ref x)])) _
          refine X155.caload hx (j := (1 : Int32)) (v := (.int (g 1))) (by rw [e155]; exact Ar163.1) (State.isArrayOf_alike hZ.alike Ar163.2.1) Ar163.2.2 hin163 hat163 (g := (mkF m 59 #[.val (.ref a1), .val (.int (Int32.ofNat rN))] [(.int (1 : Int32)), (.ref a1), (.int (1 : Int32)), (.ref ch), (.ref ch), (.ref x), (.ref x)])) rfl rfl (hb hby d1_59) _ ?_
          show Steps p.tables e below (T155.setTop (mkF m 60 #[.val (.ref a1), .val (.int (Int32.ofNat rN))] [(.int (g 1)), (.int (1 : Int32)), (.ref ch), (.ref ch), (.ref x), (.ref x)])) _
          refine st165 _ ?_
          show Steps p.tables e below (T165.setTop (mkF m 61 #[.val (.ref a1), .val (.int (Int32.ofNat rN))] [(.ref ch), (.ref x), (.ref x)])) _
          refine st173.trans ?_
          exact k_)
        obtain ⟨fs, hr, hrun, hended, hW, hsame⟩ := X173.leave (v := some (.ref x)) (fun h => by rw [Bd.returns] at h; cases h)
        refine ⟨_, _, pre175 _ ?_, hrun, hended, _, _, rfl, ?_, (by show CHr Z own_EL s.vm s.heap T173.vm T173.heap; rw [hh]; exact (CHr.keep K_x (fun _ q => nomatch q) hH).trans (CHv.at (s := s) (vm0 := s.vm) X173 hZ (own_EW hw) (CHr.keep K_x (fun _ q => nomatch q) hH).1)), ReturnedEndW.of_narrow ⟨_, rfl⟩ hW (hsame.mono (by decide) (by decide))⟩
        · show Steps p.tables e below (T173.setTop (mkF m 64 #[.val (.ref a1), .val (.int (Int32.ofNat rN))] [(.ref x)])) _
          jvm_step X173.here [X173.here.top, hx, (hb hby d1_64), X173.method', Bd.returns, Value.isRef, FieldType.isReference]
          first | (intro acts; rw [hr _ acts rfl rfl rfl]) | rw [hr _ _ rfl rfl rfl]
          exact Steps.refl _
        · show QrmMk Z a1 rN g zc ks h0 n0 _ T173.heap _
          exact ⟨x, rfl, N173, K_x, by rw [hN2]; exact SX, Nat.le_of_eq eq_x.symm⟩
      · skip
        have pre176 : ∀ t_, Steps p.tables e below (s₁.setTop (mkF m 67 #[.val (.ref a1), .val (.int (Int32.ofNat rN))] [(.int (3 : Int32)), (.int (Int32.ofNat rN))])) t_ → Steps p.tables e below (s₁.setTop (entryFrame m #[(.ref a1), (.int (Int32.ofNat rN))] 2)) t_ := fun t_ k_ => pre142 _ (by
          show Steps p.tables e below (s₁.setTop (mkF m 39 #[.val (.ref a1), .val (.int (Int32.ofNat rN))] [(.int (2 : Int32)), (.int (Int32.ofNat rN))])) _
          refine XS.icmpYes X0.here hx rfl (pc0 := 39) (pc' := 65) rfl (hb hby d1_39) rfl (feq (own_ofne (b := 2) (by omega) (by omega) hN2 : ¬ Int32.ofNat rN = (2 : Int32))).2 (by decide) (by decide) ?_
          show Steps p.tables e below (s₁.setTop (mkF m 65 #[.val (.ref a1), .val (.int (Int32.ofNat rN))] [])) _
          refine XS.iloadN X0.here hx rfl (hb hby d1_65) rfl ?_
          show Steps p.tables e below (s₁.setTop (mkF m 66 #[.val (.ref a1), .val (.int (Int32.ofNat rN))] [(.int (Int32.ofNat rN))])) _
          refine XS.iconst X0.here hx rfl (hb hby d1_66) ?_
          exact k_)
        by_cases hN3 : rN = 3
        · skip
          obtain ⟨T177, h177, X177, e177, Ext_x, E_x, D_x, -, st177⟩ := newO X0 hx hZ hown (hw _ (List.mem_of_getElem? (i := 5) rfl)) (hw _ (List.mem_of_getElem? (i := 6) rfl)) (hw _ (List.mem_of_getElem? (i := 7) rfl)) e0 (g := (mkF m 70 #[.val (.ref a1), .val (.int (Int32.ofNat rN))] [])) rfl (hb hby d1_70) (by decide) (by decide)
          obtain ⟨x, eq_x⟩ : ∃ z, z = h0.size := ⟨_, rfl⟩
          rw [← eq_x] at E_x D_x st177
          have g_x : n0 ≤ x := Nat.le_trans Z0 (Nat.le_of_eq eq_x.symm)
          have O_178 := O.ext Ext_x
          have Z179 : n0 ≤ h177.size := Nat.le_trans Z0 (Ext_x.1)
          have Fv_x : Fld Z h177 x "java/lang/String" "value" "[B" .null := D_x (Or.inr (hw _ (List.mem_of_getElem? (i := 20) rfl))) (ty := (.array .byte)) (by decide)
          have Fc_x : Fld Z h177 x "java/lang/String" "coder" "B" (.int (0 : Int32)) := D_x (Or.inr (hw _ (List.mem_of_getElem? (i := 21) rfl))) (ty := .byte) (by decide)
          have K0_x := (Keep.refl h0 []).ext Ext_x
          obtain ⟨T180, h180, k_ch, X180, e180, Ext_ch, A_ch, st180⟩ := newP X177 hx hZ (hw _ (List.mem_of_getElem? (i := 0) rfl)) e177 (g := (mkF m 75 #[.val (.ref a1), .val (.int (Int32.ofNat rN))] [(.int (3 : Int32)), (.ref x), (.ref x)])) rfl (hb hby d1_75) rfl (by decide) (cap := 3) (by decide) (by decide) (by decide) (by decide)
          obtain ⟨ch, eq_ch⟩ : ∃ z, z = h177.size := ⟨_, rfl⟩
          rw [← eq_ch] at A_ch st180
          have g_ch : n0 ≤ ch := Nat.le_trans Z179 (Nat.le_of_eq eq_ch.symm)
          have O_181 := O_178.ext Ext_ch
          have ne_x_ch : x ≠ ch := Nat.ne_of_lt (Nat.lt_of_lt_of_le E_x.lt (Nat.le_of_eq eq_ch.symm))
          have E_x_182 := E_x.ext Ext_ch
          have Fv_x_183 := Fv_x.ext Ext_ch
          have Fc_x_184 := Fc_x.ext Ext_ch
          have KK_185 := K0_x.ext Ext_ch
          have Z186 : n0 ≤ h180.size := Nat.le_trans Z179 (Ext_ch.1)
          have V_ch : Arv Z h180 ch k_ch .char (3 : Int32) [(.int (0 : Int32)), (.int (0 : Int32)), (.int (0 : Int32))] (.int (0 : Int32)) := (Arv.new A_ch (by decide)).pad (pad_rep [] (.int (0 : Int32)) 3)
          have sz_ch : h0.size ≤ ch := Nat.le_trans K0_x.1 (Nat.le_of_eq eq_ch.symm)
          obtain ⟨cl187, Ar187, Sz187, Hs187⟩ := own_Afkeep V KK_185 nin0
          have hin187 : ¬ ((0 : Int32) < 0 ∨ cl187.slots.size ≤ (0 : Int32).toNatClampNeg) := own_ofin (a := 0) Sz187 (by omega) (by omega)
          have hat187 : cl187.slots[(0 : Int32).toNatClampNeg]? = some (.int (g 0)) := own_hat Hs187 (j := 0) (by omega) (by omega)
          obtain ⟨cl188, Ar188, qk188, Sz188, Ng188, Hs188, Gs188⟩ := V_ch
          have hin188 : ¬ ((0 : Int32) < 0 ∨ cl188.slots.size ≤ ((0 : Int32)).toNatClampNeg) := inb_of Sz188 ⟨by decide, by decide⟩
          obtain ⟨T189, h189, X189, e189, W189, st189⟩ := stC X180 hx hZ e180 Ar188 (j := (0 : Int32)) hin188 (g := (mkF m 82 #[.val (.ref a1), .val (.int (Int32.ofNat rN))] [(.int (g 0)), (.int (0 : Int32)), (.ref ch), (.ref ch), (.ref x), (.ref x)])) rfl rfl (hb hby d1_82)
          have O_190 := O_181.wr W189 g_ch
          have E_x_191 := E_x_182.wr W189
          have Fv_x_192 := Fv_x_183.other W189 (Or.inl ne_x_ch)
          have Fc_x_193 := Fc_x_184.other W189 (Or.inl ne_x_ch)
          have KK_194 := KK_185.wr W189 (Or.inr sz_ch)
          have V_ch_189 : Arv Z h189 ch k_ch .char (3 : Int32) [(.int (nar .char (g 0))), (.int (0 : Int32)), (.int (0 : Int32))] (.int (0 : Int32)) := Arv.set Ar188 qk188 Sz188 Ng188 Hs188 Gs188 (fits_nar_char _) W189 0 rfl (Nat.le_of_ble_eq_true rfl)
          have N189 := Fr.snoc X189 N0 g_ch
          have Z196 : n0 ≤ h189.size := Nat.le_trans Z186 ((Keep.of_wr W189).1)
          obtain ⟨cl197, Ar197, Sz197, Hs197⟩ := own_Afkeep V KK_194 nin0
          have hin197 : ¬ ((1 : Int32) < 0 ∨ cl197.slots.size ≤ (1 : Int32).toNatClampNeg) := own_ofin (a := 1) Sz197 (by omega) (by omega)
          have hat197 : cl197.slots[(1 : Int32).toNatClampNeg]? = some (.int (g 1)) := own_hat Hs197 (j := 1) (by omega) (by omega)
          obtain ⟨cl198, Ar198, qk198, Sz198, Ng198, Hs198, Gs198⟩ := V_ch_189
          have hin198 : ¬ ((1 : Int32) < 0 ∨ cl198.slots.size ≤ ((1 : Int32)).toNatClampNeg) := inb_of Sz198 ⟨by decide, by decide⟩
          obtain ⟨T199, h199, X199, e199, W199, st199⟩ := stC X189 hx hZ e189 Ar198 (j := (1 : Int32)) hin198 (g := (mkF m 88 #[.val (.ref a1), .val (.int (Int32.ofNat rN))] [(.int (g 1)), (.int (1 : Int32)), (.ref ch), (.ref ch), (.ref x), (.ref x)])) rfl rfl (hb hby d1_88)
          have O_200 := O_190.wr W199 g_ch
          have E_x_201 := E_x_191.wr W199
          have Fv_x_202 := Fv_x_192.other W199 (Or.inl ne_x_ch)
          have Fc_x_203 := Fc_x_193.other W199 (Or.inl ne_x_ch)
          have KK_204 := KK_194.wr W199 (Or.inr sz_ch)
          have V_ch_199 : Arv Z h199 ch k_ch .char (3 : Int32) [(.int (nar .char (g 0))), (.int (nar .char (g 1))), (.int (0 : Int32))] (.int (0 : Int32)) := Arv.set Ar198 qk198 Sz198 Ng198 Hs198 Gs198 (fits_nar_char _) W199 1 rfl (Nat.le_of_ble_eq_true rfl)
          have N199 := Fr.snoc X199 N189 g_ch
          have Z206 : n0 ≤ h199.size := Nat.le_trans Z196 ((Keep.of_wr W199).1)
          obtain ⟨cl207, Ar207, Sz207, Hs207⟩ := own_Afkeep V KK_204 nin0
          have hin207 : ¬ ((2 : Int32) < 0 ∨ cl207.slots.size ≤ (2 : Int32).toNatClampNeg) := own_ofin (a := 2) Sz207 (by omega) (by omega)
          have hat207 : cl207.slots[(2 : Int32).toNatClampNeg]? = some (.int (g 2)) := own_hat Hs207 (j := 2) (by omega) (by omega)
          obtain ⟨cl208, Ar208, qk208, Sz208, Ng208, Hs208, Gs208⟩ := V_ch_199
          have hin208 : ¬ ((2 : Int32) < 0 ∨ cl208.slots.size ≤ ((2 : Int32)).toNatClampNeg) := inb_of Sz208 ⟨by decide, by decide⟩
          obtain ⟨T209, h209, X209, e209, W209, st209⟩ := stC X199 hx hZ e199 Ar208 (j := (2 : Int32)) hin208 (g := (mkF m 94 #[.val (.ref a1), .val (.int (Int32.ofNat rN))] [(.int (g 2)), (.int (2 : Int32)), (.ref ch), (.ref ch), (.ref x), (.ref x)])) rfl rfl (hb hby d1_94)
          have O_210 := O_200.wr W209 g_ch
          have E_x_211 := E_x_201.wr W209
          have Fv_x_212 := Fv_x_202.other W209 (Or.inl ne_x_ch)
          have Fc_x_213 := Fc_x_203.other W209 (Or.inl ne_x_ch)
          have KK_214 := KK_204.wr W209 (Or.inr sz_ch)
          have V_ch_209 : Arv Z h209 ch k_ch .char (3 : Int32) [(.int (nar .char (g 0))), (.int (nar .char (g 1))), (.int (nar .char (g 2)))] (.int (0 : Int32)) := Arv.set Ar208 qk208 Sz208 Ng208 Hs208 Gs208 (fits_nar_char _) W209 2 rfl (Nat.le_of_ble_eq_true rfl)
          have N209 := Fr.snoc X209 N199 g_ch
          have Z216 : n0 ≤ h209.size := Nat.le_trans Z206 ((Keep.of_wr W209).1)
          have VC := V_ch_209
          rw [own_nc (rg 0 (by omega)), own_nc (rg 1 (by omega)), own_nc (rg 2 (by omega))] at VC
          have AC := own_AfA (n := 3) (g := g) VC (by omega) (fun j hj => match j, hj with | 0, _ => rfl | 1, _ => rfl | 2, _ => rfl | (j + 3), h => absurd h (by omega))
          obtain ⟨_, _, ⟨T217, L217, k217, n217⟩, -, X217, ⟨Lc217, hQ217, l217, y217, z217⟩, st217⟩ := X209.specialBack hx (y := (⟨"java/lang/String", "<init>", "([C)V"⟩ : MethodName)) rfl hown (mvT hZ (hw _ (List.mem_of_getElem? (i := 8) rfl))) (mvT hZ (hw _ (List.mem_of_getElem? (i := 9) rfl))) (mvT hZ (hw _ (List.mem_of_getElem? (i := 10) rfl))) (by decide) (backOf (W := 1) (rmI1 l Z a0 hw [] x ch 3 g zc h209 n0 Z216 E_x_211 Fv_x_212 Fc_x_213 g_x S_a S_h S_l O_210 S_c hzc (by omega) (by omega) (fun j hj => rg j (by omega)) AC) hZ (hw _ (List.mem_of_getElem? (i := 10) rfl)) (hw _ (List.mem_of_getElem? (i := 7) rfl)) (by decide) (by decide)) (g := (mkF m 95 #[.val (.ref a1), .val (.int (Int32.ofNat rN))] [(.ref ch), (.ref x), (.ref x)])) rfl (by rw [hml]; rfl) (Steps.refl _) (a := x) (argsL := [(.ref ch)]) (rest := [(.ref x)]) (lenOf pd_16 rfl) rfl (by show 2 * 0 + _ ≤ _; exact Nat.le_of_eq rfl) (hb hby d1_95) (fun _ _ => ⟨rfl, e209, (by decide : 2 + 2 ≤ _), (by decide : 7 + 18 ≤ _)⟩)
          dsimp only [Pt.U, Pt.locs, Pt.cells, Pt.slots] at X217 l217 y217 z217 st217 hQ217
          subst l217 y217 z217
          obtain ⟨rfl, N217q, K217, SX⟩ := hQ217
          have N217 := Fr.app N209 N217q
          have K_x := KK_214.trans K217 (allS (Or.inr (Nat.le_of_eq eq_x.symm)) all0)
          have Z218 : n0 ≤ T217.heap.size := Nat.le_trans Z216 (K217.1)
          have pre219 : ∀ t_, Steps p.tables e below (T217.setTop (mkF m 98 #[.val (.ref a1), .val (.int (Int32.ofNat rN))] [(.ref x)])) t_ → Steps p.tables e below (s₁.setTop (entryFrame m #[(.ref a1), (.int (Int32.ofNat rN))] 2)) t_ := fun t_ k_ => pre176 _ (by
            show Steps p.tables e below (s₁.setTop (mkF m 67 #[.val (.ref a1), .val (.int (Int32.ofNat rN))] [(.int (3 : Int32)), (.int (Int32.ofNat rN))])) _
            refine XS.icmpNo X0.here hx rfl (hb hby d1_67) rfl (teq (congrArg Int32.ofNat hN3 : Int32.ofNat rN = (3 : Int32))).2 ?_
            show Steps p.tables e below (s₁.setTop (mkF m 70 #[.val (.ref a1), .val (.int (Int32.ofNat rN))] [])) _
            refine st177 _ ?_
            show Steps p.tables e below (T177.setTop (mkF m 73 #[.val (.ref a1), .val (.int (Int32.ofNat rN))] [(.ref x)])) _
            refine XS.dup X177.here hx rfl (hb hby d1_73) rfl rfl ?_
            show Steps p.tables e below (T177.setTop (mkF m 74 #[.val (.ref a1), .val (.int (Int32.ofNat rN))] [(.ref x), (.ref x)])) _
            refine XS.iconst X177.here hx rfl (hb hby d1_74) ?_
            show Steps p.tables e below (T177.setTop (mkF m 75 #[.val (.ref a1), .val (.int (Int32.ofNat rN))] [(.int (3 : Int32)), (.ref x), (.ref x)])) _
            refine st180 _ ?_
            show Steps p.tables e below (T180.setTop (mkF m 77 #[.val (.ref a1), .val (.int (Int32.ofNat rN))] [(.ref ch), (.ref x), (.ref x)])) _
            refine XS.dup X180.here hx rfl (hb hby d1_77) rfl rfl ?_
            show Steps p.tables e below (T180.setTop (mkF m 78 #[.val (.ref a1), .val (.int (Int32.ofNat rN))] [(.ref ch), (.ref ch), (.ref x), (.ref x)])) _
            refine XS.iconst X180.here hx rfl (hb hby d1_78) ?_
            show Steps p.tables e below (T180.setTop (mkF m 79 #[.val (.ref a1), .val (.int (Int32.ofNat rN))] [(.int (0 : Int32)), (.ref ch), (.ref ch), (.ref x), (.ref x)])) _
            refine XS.aloadN X180.here hx rfl (hb hby d1_79) rfl rfl ?_
            show Steps p.tables e below (T180.setTop (mkF m 80 #[.val (.ref a1), .val (.int (Int32.ofNat rN))] [(.ref a1), (.int (0 : Int32)), (.ref ch), (.ref ch), (.ref x), (.ref x)])) _
            refine XS.iconst X180.here hx rfl (hb hby d1_80) ?_
            show Steps p.tables e below (T180.setTop (mkF m 81 #[.val (.ref a1), .val (.int (Int32.ofNat rN))] [(.int (0 : Int32)), (.ref a1), (.int (0 : Int32)), (.ref ch), (.ref ch), (.ref x), (.ref x)])) _
            refine X180.caload hx (j := (0 : Int32)) (v := (.int (g 0))) (by rw [e180]; exact Ar187.1) (State.isArrayOf_alike hZ.alike Ar187.2.1) Ar187.2.2 hin187 hat187 (g := (mkF m 81 #[.val (.ref a1), .val (.int (Int32.ofNat rN))] [(.int (0 : Int32)), (.ref a1), (.int (0 : Int32)), (.ref ch), (.ref ch), (.ref x), (.ref x)])) rfl rfl (hb hby d1_81) _ ?_
            show Steps p.tables e below (T180.setTop (mkF m 82 #[.val (.ref a1), .val (.int (Int32.ofNat rN))] [(.int (g 0)), (.int (0 : Int32)), (.ref ch), (.ref ch), (.ref x), (.ref x)])) _
            refine st189 _ ?_
            show Steps p.tables e below (T189.setTop (mkF m 83 #[.val (.ref a1), .val (.int (Int32.ofNat rN))] [(.ref ch), (.ref x), (.ref x)])) _
            refine XS.dup X189.here hx rfl (hb hby d1_83) rfl rfl ?_
            show Steps p.tables e below (T189.setTop (mkF m 84 #[.val (.ref a1), .val (.int (Int32.ofNat rN))] [(.ref ch), (.ref ch), (.ref x), (.ref x)])) _
            refine XS.iconst X189.here hx rfl (hb hby d1_84) ?_
            show Steps p.tables e below (T189.setTop (mkF m 85 #[.val (.ref a1), .val (.int (Int32.ofNat rN))] [(.int (1 : Int32)), (.ref ch), (.ref ch), (.ref x), (.ref x)])) _
            refine XS.aloadN X189.here hx rfl (hb hby d1_85) rfl rfl ?_
            show Steps p.tables e below (T189.setTop (mkF m 86 #[.val (.ref a1), .val (.int (Int32.ofNat rN))] [(.ref a1), (.int (1 : Int32)), (.ref ch), (.ref ch), (.ref x), (.ref x)])) _
            refine XS.iconst X189.here hx rfl (hb hby d1_86) ?_
            show Steps p.tables e below (T189.setTop (mkF m 87 #[.val (.ref a1), .val (.int (Int32.ofNat rN))] [(.int (1 : Int32)), (.ref a1), (.int (1 : Int32)), (.ref ch), (.ref ch), (.ref x), (.ref x)])) _
            refine X189.caload hx (j := (1 : Int32)) (v := (.int (g 1))) (by rw [e189]; exact Ar197.1) (State.isArrayOf_alike hZ.alike Ar197.2.1) Ar197.2.2 hin197 hat197 (g := (mkF m 87 #[.val (.ref a1), .val (.int (Int32.ofNat rN))] [(.int (1 : Int32)), (.ref a1), (.int (1 : Int32)), (.ref ch), (.ref ch), (.ref x), (.ref x)])) rfl rfl (hb hby d1_87) _ ?_
            show Steps p.tables e below (T189.setTop (mkF m 88 #[.val (.ref a1), .val (.int (Int32.ofNat rN))] [(.int (g 1)), (.int (1 : Int32)), (.ref ch), (.ref ch), (.ref x), (.ref x)])) _
            refine st199 _ ?_
            show Steps p.tables e below (T199.setTop (mkF m 89 #[.val (.ref a1), .val (.int (Int32.ofNat rN))] [(.ref ch), (.ref x), (.ref x)])) _
            refine XS.dup X199.here hx rfl (hb hby d1_89) rfl rfl ?_
            show Steps p.tables e below (T199.setTop (mkF m 90 #[.val (.ref a1), .val (.int (Int32.ofNat rN))] [(.ref ch), (.ref ch), (.ref x), (.ref x)])) _
            refine XS.iconst X199.here hx rfl (hb hby d1_90) ?_
            show Steps p.tables e below (T199.setTop (mkF m 91 #[.val (.ref a1), .val (.int (Int32.ofNat rN))] [(.int (2 : Int32)), (.ref ch), (.ref ch), (.ref x), (.ref x)])) _
            refine XS.aloadN X199.here hx rfl (hb hby d1_91) rfl rfl ?_
            show Steps p.tables e below (T199.setTop (mkF m 92 #[.val (.ref a1), .val (.int (Int32.ofNat rN))] [(.ref a1), (.int (2 : Int32)), (.ref ch), (.ref ch), (.ref x), (.ref x)])) _
            refine XS.iconst X199.here hx rfl (hb hby d1_92) ?_
            show Steps p.tables e below (T199.setTop (mkF m 93 #[.val (.ref a1), .val (.int (Int32.ofNat rN))] [(.int (2 : Int32)), (.ref a1), (.int (2 : Int32)), (.ref ch), (.ref ch), (.ref x), (.ref x)])) _
            refine X199.caload hx (j := (2 : Int32)) (v := (.int (g 2))) (by rw [e199]; exact Ar207.1) (State.isArrayOf_alike hZ.alike Ar207.2.1) Ar207.2.2 hin207 hat207 (g := (mkF m 93 #[.val (.ref a1), .val (.int (Int32.ofNat rN))] [(.int (2 : Int32)), (.ref a1), (.int (2 : Int32)), (.ref ch), (.ref ch), (.ref x), (.ref x)])) rfl rfl (hb hby d1_93) _ ?_
            show Steps p.tables e below (T199.setTop (mkF m 94 #[.val (.ref a1), .val (.int (Int32.ofNat rN))] [(.int (g 2)), (.int (2 : Int32)), (.ref ch), (.ref ch), (.ref x), (.ref x)])) _
            refine st209 _ ?_
            show Steps p.tables e below (T209.setTop (mkF m 95 #[.val (.ref a1), .val (.int (Int32.ofNat rN))] [(.ref ch), (.ref x), (.ref x)])) _
            refine st217.trans ?_
            exact k_)
          obtain ⟨fs, hr, hrun, hended, hW, hsame⟩ := X217.leave (v := some (.ref x)) (fun h => by rw [Bd.returns] at h; cases h)
          refine ⟨_, _, pre219 _ ?_, hrun, hended, _, _, rfl, ?_, (by show CHr Z own_EL s.vm s.heap T217.vm T217.heap; rw [hh]; exact (CHr.keep K_x (fun _ q => nomatch q) hH).trans (CHv.at (s := s) (vm0 := s.vm) X217 hZ (own_EW hw) (CHr.keep K_x (fun _ q => nomatch q) hH).1)), ReturnedEndW.of_narrow ⟨_, rfl⟩ hW (hsame.mono (by decide) (by decide))⟩
          · show Steps p.tables e below (T217.setTop (mkF m 98 #[.val (.ref a1), .val (.int (Int32.ofNat rN))] [(.ref x)])) _
            jvm_step X217.here [X217.here.top, hx, (hb hby d1_98), X217.method', Bd.returns, Value.isRef, FieldType.isReference]
            first | (intro acts; rw [hr _ acts rfl rfl rfl]) | rw [hr _ _ rfl rfl rfl]
            exact Steps.refl _
          · show QrmMk Z a1 rN g zc ks h0 n0 _ T217.heap _
            exact ⟨x, rfl, N217, K_x, by rw [hN3]; exact SX, Nat.le_of_eq eq_x.symm⟩
        · skip
          have pre220 : ∀ t_, Steps p.tables e below (s₁.setTop (mkF m 101 #[.val (.ref a1), .val (.int (Int32.ofNat rN))] [(.int (4 : Int32)), (.int (Int32.ofNat rN))])) t_ → Steps p.tables e below (s₁.setTop (entryFrame m #[(.ref a1), (.int (Int32.ofNat rN))] 2)) t_ := fun t_ k_ => pre176 _ (by
            show Steps p.tables e below (s₁.setTop (mkF m 67 #[.val (.ref a1), .val (.int (Int32.ofNat rN))] [(.int (3 : Int32)), (.int (Int32.ofNat rN))])) _
            refine XS.icmpYes X0.here hx rfl (pc0 := 67) (pc' := 99) rfl (hb hby d1_67) rfl (feq (own_ofne (b := 3) (by omega) (by omega) hN3 : ¬ Int32.ofNat rN = (3 : Int32))).2 (by decide) (by decide) ?_
            show Steps p.tables e below (s₁.setTop (mkF m 99 #[.val (.ref a1), .val (.int (Int32.ofNat rN))] [])) _
            refine XS.iloadN X0.here hx rfl (hb hby d1_99) rfl ?_
            show Steps p.tables e below (s₁.setTop (mkF m 100 #[.val (.ref a1), .val (.int (Int32.ofNat rN))] [(.int (Int32.ofNat rN))])) _
            refine XS.iconst X0.here hx rfl (hb hby d1_100) ?_
            exact k_)
          by_cases hN4 : rN = 4
          · skip
            obtain ⟨T221, h221, X221, e221, Ext_x, E_x, D_x, -, st221⟩ := newO X0 hx hZ hown (hw _ (List.mem_of_getElem? (i := 5) rfl)) (hw _ (List.mem_of_getElem? (i := 6) rfl)) (hw _ (List.mem_of_getElem? (i := 7) rfl)) e0 (g := (mkF m 104 #[.val (.ref a1), .val (.int (Int32.ofNat rN))] [])) rfl (hb hby d1_104) (by decide) (by decide)
            obtain ⟨x, eq_x⟩ : ∃ z, z = h0.size := ⟨_, rfl⟩
            rw [← eq_x] at E_x D_x st221
            have g_x : n0 ≤ x := Nat.le_trans Z0 (Nat.le_of_eq eq_x.symm)
            have O_222 := O.ext Ext_x
            have Z223 : n0 ≤ h221.size := Nat.le_trans Z0 (Ext_x.1)
            have Fv_x : Fld Z h221 x "java/lang/String" "value" "[B" .null := D_x (Or.inr (hw _ (List.mem_of_getElem? (i := 20) rfl))) (ty := (.array .byte)) (by decide)
            have Fc_x : Fld Z h221 x "java/lang/String" "coder" "B" (.int (0 : Int32)) := D_x (Or.inr (hw _ (List.mem_of_getElem? (i := 21) rfl))) (ty := .byte) (by decide)
            have K0_x := (Keep.refl h0 []).ext Ext_x
            obtain ⟨T224, h224, k_ch, X224, e224, Ext_ch, A_ch, st224⟩ := newP X221 hx hZ (hw _ (List.mem_of_getElem? (i := 0) rfl)) e221 (g := (mkF m 109 #[.val (.ref a1), .val (.int (Int32.ofNat rN))] [(.int (4 : Int32)), (.ref x), (.ref x)])) rfl (hb hby d1_109) rfl (by decide) (cap := 4) (by decide) (by decide) (by decide) (by decide)
            obtain ⟨ch, eq_ch⟩ : ∃ z, z = h221.size := ⟨_, rfl⟩
            rw [← eq_ch] at A_ch st224
            have g_ch : n0 ≤ ch := Nat.le_trans Z223 (Nat.le_of_eq eq_ch.symm)
            have O_225 := O_222.ext Ext_ch
            have ne_x_ch : x ≠ ch := Nat.ne_of_lt (Nat.lt_of_lt_of_le E_x.lt (Nat.le_of_eq eq_ch.symm))
            have E_x_226 := E_x.ext Ext_ch
            have Fv_x_227 := Fv_x.ext Ext_ch
            have Fc_x_228 := Fc_x.ext Ext_ch
            have KK_229 := K0_x.ext Ext_ch
            have Z230 : n0 ≤ h224.size := Nat.le_trans Z223 (Ext_ch.1)
            have V_ch : Arv Z h224 ch k_ch .char (4 : Int32) [(.int (0 : Int32)), (.int (0 : Int32)), (.int (0 : Int32)), (.int (0 : Int32))] (.int (0 : Int32)) := (Arv.new A_ch (by decide)).pad (pad_rep [] (.int (0 : Int32)) 4)
            have sz_ch : h0.size ≤ ch := Nat.le_trans K0_x.1 (Nat.le_of_eq eq_ch.symm)
            obtain ⟨cl231, Ar231, Sz231, Hs231⟩ := own_Afkeep V KK_229 nin0
            have hin231 : ¬ ((0 : Int32) < 0 ∨ cl231.slots.size ≤ (0 : Int32).toNatClampNeg) := own_ofin (a := 0) Sz231 (by omega) (by omega)
            have hat231 : cl231.slots[(0 : Int32).toNatClampNeg]? = some (.int (g 0)) := own_hat Hs231 (j := 0) (by omega) (by omega)
            obtain ⟨cl232, Ar232, qk232, Sz232, Ng232, Hs232, Gs232⟩ := V_ch
            have hin232 : ¬ ((0 : Int32) < 0 ∨ cl232.slots.size ≤ ((0 : Int32)).toNatClampNeg) := inb_of Sz232 ⟨by decide, by decide⟩
            obtain ⟨T233, h233, X233, e233, W233, st233⟩ := stC X224 hx hZ e224 Ar232 (j := (0 : Int32)) hin232 (g := (mkF m 116 #[.val (.ref a1), .val (.int (Int32.ofNat rN))] [(.int (g 0)), (.int (0 : Int32)), (.ref ch), (.ref ch), (.ref x), (.ref x)])) rfl rfl (hb hby d1_116)
            have O_234 := O_225.wr W233 g_ch
            have E_x_235 := E_x_226.wr W233
            have Fv_x_236 := Fv_x_227.other W233 (Or.inl ne_x_ch)
            have Fc_x_237 := Fc_x_228.other W233 (Or.inl ne_x_ch)
            have KK_238 := KK_229.wr W233 (Or.inr sz_ch)
            have V_ch_233 : Arv Z h233 ch k_ch .char (4 : Int32) [(.int (nar .char (g 0))), (.int (0 : Int32)), (.int (0 : Int32)), (.int (0 : Int32))] (.int (0 : Int32)) := Arv.set Ar232 qk232 Sz232 Ng232 Hs232 Gs232 (fits_nar_char _) W233 0 rfl (Nat.le_of_ble_eq_true rfl)
            have N233 := Fr.snoc X233 N0 g_ch
            have Z240 : n0 ≤ h233.size := Nat.le_trans Z230 ((Keep.of_wr W233).1)
            obtain ⟨cl241, Ar241, Sz241, Hs241⟩ := own_Afkeep V KK_238 nin0
            have hin241 : ¬ ((1 : Int32) < 0 ∨ cl241.slots.size ≤ (1 : Int32).toNatClampNeg) := own_ofin (a := 1) Sz241 (by omega) (by omega)
            have hat241 : cl241.slots[(1 : Int32).toNatClampNeg]? = some (.int (g 1)) := own_hat Hs241 (j := 1) (by omega) (by omega)
            obtain ⟨cl242, Ar242, qk242, Sz242, Ng242, Hs242, Gs242⟩ := V_ch_233
            have hin242 : ¬ ((1 : Int32) < 0 ∨ cl242.slots.size ≤ ((1 : Int32)).toNatClampNeg) := inb_of Sz242 ⟨by decide, by decide⟩
            obtain ⟨T243, h243, X243, e243, W243, st243⟩ := stC X233 hx hZ e233 Ar242 (j := (1 : Int32)) hin242 (g := (mkF m 122 #[.val (.ref a1), .val (.int (Int32.ofNat rN))] [(.int (g 1)), (.int (1 : Int32)), (.ref ch), (.ref ch), (.ref x), (.ref x)])) rfl rfl (hb hby d1_122)
            have O_244 := O_234.wr W243 g_ch
            have E_x_245 := E_x_235.wr W243
            have Fv_x_246 := Fv_x_236.other W243 (Or.inl ne_x_ch)
            have Fc_x_247 := Fc_x_237.other W243 (Or.inl ne_x_ch)
            have KK_248 := KK_238.wr W243 (Or.inr sz_ch)
            have V_ch_243 : Arv Z h243 ch k_ch .char (4 : Int32) [(.int (nar .char (g 0))), (.int (nar .char (g 1))), (.int (0 : Int32)), (.int (0 : Int32))] (.int (0 : Int32)) := Arv.set Ar242 qk242 Sz242 Ng242 Hs242 Gs242 (fits_nar_char _) W243 1 rfl (Nat.le_of_ble_eq_true rfl)
            have N243 := Fr.snoc X243 N233 g_ch
            have Z250 : n0 ≤ h243.size := Nat.le_trans Z240 ((Keep.of_wr W243).1)
            obtain ⟨cl251, Ar251, Sz251, Hs251⟩ := own_Afkeep V KK_248 nin0
            have hin251 : ¬ ((2 : Int32) < 0 ∨ cl251.slots.size ≤ (2 : Int32).toNatClampNeg) := own_ofin (a := 2) Sz251 (by omega) (by omega)
            have hat251 : cl251.slots[(2 : Int32).toNatClampNeg]? = some (.int (g 2)) := own_hat Hs251 (j := 2) (by omega) (by omega)
            obtain ⟨cl252, Ar252, qk252, Sz252, Ng252, Hs252, Gs252⟩ := V_ch_243
            have hin252 : ¬ ((2 : Int32) < 0 ∨ cl252.slots.size ≤ ((2 : Int32)).toNatClampNeg) := inb_of Sz252 ⟨by decide, by decide⟩
            obtain ⟨T253, h253, X253, e253, W253, st253⟩ := stC X243 hx hZ e243 Ar252 (j := (2 : Int32)) hin252 (g := (mkF m 128 #[.val (.ref a1), .val (.int (Int32.ofNat rN))] [(.int (g 2)), (.int (2 : Int32)), (.ref ch), (.ref ch), (.ref x), (.ref x)])) rfl rfl (hb hby d1_128)
            have O_254 := O_244.wr W253 g_ch
            have E_x_255 := E_x_245.wr W253
            have Fv_x_256 := Fv_x_246.other W253 (Or.inl ne_x_ch)
            have Fc_x_257 := Fc_x_247.other W253 (Or.inl ne_x_ch)
            have KK_258 := KK_248.wr W253 (Or.inr sz_ch)
            have V_ch_253 : Arv Z h253 ch k_ch .char (4 : Int32) [(.int (nar .char (g 0))), (.int (nar .char (g 1))), (.int (nar .char (g 2))), (.int (0 : Int32))] (.int (0 : Int32)) := Arv.set Ar252 qk252 Sz252 Ng252 Hs252 Gs252 (fits_nar_char _) W253 2 rfl (Nat.le_of_ble_eq_true rfl)
            have N253 := Fr.snoc X253 N243 g_ch
            have Z260 : n0 ≤ h253.size := Nat.le_trans Z250 ((Keep.of_wr W253).1)
            obtain ⟨cl261, Ar261, Sz261, Hs261⟩ := own_Afkeep V KK_258 nin0
            have hin261 : ¬ ((3 : Int32) < 0 ∨ cl261.slots.size ≤ (3 : Int32).toNatClampNeg) := own_ofin (a := 3) Sz261 (by omega) (by omega)
            have hat261 : cl261.slots[(3 : Int32).toNatClampNeg]? = some (.int (g 3)) := own_hat Hs261 (j := 3) (by omega) (by omega)
            obtain ⟨cl262, Ar262, qk262, Sz262, Ng262, Hs262, Gs262⟩ := V_ch_253
            have hin262 : ¬ ((3 : Int32) < 0 ∨ cl262.slots.size ≤ ((3 : Int32)).toNatClampNeg) := inb_of Sz262 ⟨by decide, by decide⟩
            obtain ⟨T263, h263, X263, e263, W263, st263⟩ := stC X253 hx hZ e253 Ar262 (j := (3 : Int32)) hin262 (g := (mkF m 134 #[.val (.ref a1), .val (.int (Int32.ofNat rN))] [(.int (g 3)), (.int (3 : Int32)), (.ref ch), (.ref ch), (.ref x), (.ref x)])) rfl rfl (hb hby d1_134)
            have O_264 := O_254.wr W263 g_ch
            have E_x_265 := E_x_255.wr W263
            have Fv_x_266 := Fv_x_256.other W263 (Or.inl ne_x_ch)
            have Fc_x_267 := Fc_x_257.other W263 (Or.inl ne_x_ch)
            have KK_268 := KK_258.wr W263 (Or.inr sz_ch)
            have V_ch_263 : Arv Z h263 ch k_ch .char (4 : Int32) [(.int (nar .char (g 0))), (.int (nar .char (g 1))), (.int (nar .char (g 2))), (.int (nar .char (g 3)))] (.int (0 : Int32)) := Arv.set Ar262 qk262 Sz262 Ng262 Hs262 Gs262 (fits_nar_char _) W263 3 rfl (Nat.le_of_ble_eq_true rfl)
            have N263 := Fr.snoc X263 N253 g_ch
            have Z270 : n0 ≤ h263.size := Nat.le_trans Z260 ((Keep.of_wr W263).1)
            have VC := V_ch_263
            rw [own_nc (rg 0 (by omega)), own_nc (rg 1 (by omega)), own_nc (rg 2 (by omega)), own_nc (rg 3 (by omega))] at VC
            have AC := own_AfA (n := 4) (g := g) VC (by omega) (fun j hj => match j, hj with | 0, _ => rfl | 1, _ => rfl | 2, _ => rfl | 3, _ => rfl | (j + 4), h => absurd h (by omega))
            obtain ⟨_, _, ⟨T271, L271, k271, n271⟩, -, X271, ⟨Lc271, hQ271, l271, y271, z271⟩, st271⟩ := X263.specialBack hx (y := (⟨"java/lang/String", "<init>", "([C)V"⟩ : MethodName)) rfl hown (mvT hZ (hw _ (List.mem_of_getElem? (i := 8) rfl))) (mvT hZ (hw _ (List.mem_of_getElem? (i := 9) rfl))) (mvT hZ (hw _ (List.mem_of_getElem? (i := 10) rfl))) (by decide) (backOf (W := 1) (rmI1 l Z a0 hw [] x ch 4 g zc h263 n0 Z270 E_x_265 Fv_x_266 Fc_x_267 g_x S_a S_h S_l O_264 S_c hzc (by omega) (by omega) (fun j hj => rg j (by omega)) AC) hZ (hw _ (List.mem_of_getElem? (i := 10) rfl)) (hw _ (List.mem_of_getElem? (i := 7) rfl)) (by decide) (by decide)) (g := (mkF m 135 #[.val (.ref a1), .val (.int (Int32.ofNat rN))] [(.ref ch), (.ref x), (.ref x)])) rfl (by rw [hml]; rfl) (Steps.refl _) (a := x) (argsL := [(.ref ch)]) (rest := [(.ref x)]) (lenOf pd_16 rfl) rfl (by show 2 * 0 + _ ≤ _; exact Nat.le_of_eq rfl) (hb hby d1_135) (fun _ _ => ⟨rfl, e263, (by decide : 2 + 2 ≤ _), (by decide : 8 + 18 ≤ _)⟩)
            dsimp only [Pt.U, Pt.locs, Pt.cells, Pt.slots] at X271 l271 y271 z271 st271 hQ271
            subst l271 y271 z271
            obtain ⟨rfl, N271q, K271, SX⟩ := hQ271
            have N271 := Fr.app N263 N271q
            have K_x := KK_268.trans K271 (allS (Or.inr (Nat.le_of_eq eq_x.symm)) all0)
            have Z272 : n0 ≤ T271.heap.size := Nat.le_trans Z270 (K271.1)
            have pre273 : ∀ t_, Steps p.tables e below (T271.setTop (mkF m 138 #[.val (.ref a1), .val (.int (Int32.ofNat rN))] [(.ref x)])) t_ → Steps p.tables e below (s₁.setTop (entryFrame m #[(.ref a1), (.int (Int32.ofNat rN))] 2)) t_ := fun t_ k_ => pre220 _ (by
              show Steps p.tables e below (s₁.setTop (mkF m 101 #[.val (.ref a1), .val (.int (Int32.ofNat rN))] [(.int (4 : Int32)), (.int (Int32.ofNat rN))])) _
              refine XS.icmpNo X0.here hx rfl (hb hby d1_101) rfl (teq (congrArg Int32.ofNat hN4 : Int32.ofNat rN = (4 : Int32))).2 ?_
              show Steps p.tables e below (s₁.setTop (mkF m 104 #[.val (.ref a1), .val (.int (Int32.ofNat rN))] [])) _
              refine st221 _ ?_
              show Steps p.tables e below (T221.setTop (mkF m 107 #[.val (.ref a1), .val (.int (Int32.ofNat rN))] [(.ref x)])) _
              refine XS.dup X221.here hx rfl (hb hby d1_107) rfl rfl ?_
              show Steps p.tables e below (T221.setTop (mkF m 108 #[.val (.ref a1), .val (.int (Int32.ofNat rN))] [(.ref x), (.ref x)])) _
              refine XS.iconst X221.here hx rfl (hb hby d1_108) ?_
              show Steps p.tables e below (T221.setTop (mkF m 109 #[.val (.ref a1), .val (.int (Int32.ofNat rN))] [(.int (4 : Int32)), (.ref x), (.ref x)])) _
              refine st224 _ ?_
              show Steps p.tables e below (T224.setTop (mkF m 111 #[.val (.ref a1), .val (.int (Int32.ofNat rN))] [(.ref ch), (.ref x), (.ref x)])) _
              refine XS.dup X224.here hx rfl (hb hby d1_111) rfl rfl ?_
              show Steps p.tables e below (T224.setTop (mkF m 112 #[.val (.ref a1), .val (.int (Int32.ofNat rN))] [(.ref ch), (.ref ch), (.ref x), (.ref x)])) _
              refine XS.iconst X224.here hx rfl (hb hby d1_112) ?_
              show Steps p.tables e below (T224.setTop (mkF m 113 #[.val (.ref a1), .val (.int (Int32.ofNat rN))] [(.int (0 : Int32)), (.ref ch), (.ref ch), (.ref x), (.ref x)])) _
              refine XS.aloadN X224.here hx rfl (hb hby d1_113) rfl rfl ?_
              show Steps p.tables e below (T224.setTop (mkF m 114 #[.val (.ref a1), .val (.int (Int32.ofNat rN))] [(.ref a1), (.int (0 : Int32)), (.ref ch), (.ref ch), (.ref x), (.ref x)])) _
              refine XS.iconst X224.here hx rfl (hb hby d1_114) ?_
              show Steps p.tables e below (T224.setTop (mkF m 115 #[.val (.ref a1), .val (.int (Int32.ofNat rN))] [(.int (0 : Int32)), (.ref a1), (.int (0 : Int32)), (.ref ch), (.ref ch), (.ref x), (.ref x)])) _
              refine X224.caload hx (j := (0 : Int32)) (v := (.int (g 0))) (by rw [e224]; exact Ar231.1) (State.isArrayOf_alike hZ.alike Ar231.2.1) Ar231.2.2 hin231 hat231 (g := (mkF m 115 #[.val (.ref a1), .val (.int (Int32.ofNat rN))] [(.int (0 : Int32)), (.ref a1), (.int (0 : Int32)), (.ref ch), (.ref ch), (.ref x), (.ref x)])) rfl rfl (hb hby d1_115) _ ?_
              show Steps p.tables e below (T224.setTop (mkF m 116 #[.val (.ref a1), .val (.int (Int32.ofNat rN))] [(.int (g 0)), (.int (0 : Int32)), (.ref ch), (.ref ch), (.ref x), (.ref x)])) _
              refine st233 _ ?_
              show Steps p.tables e below (T233.setTop (mkF m 117 #[.val (.ref a1), .val (.int (Int32.ofNat rN))] [(.ref ch), (.ref x), (.ref x)])) _
              refine XS.dup X233.here hx rfl (hb hby d1_117) rfl rfl ?_
              show Steps p.tables e below (T233.setTop (mkF m 118 #[.val (.ref a1), .val (.int (Int32.ofNat rN))] [(.ref ch), (.ref ch), (.ref x), (.ref x)])) _
              refine XS.iconst X233.here hx rfl (hb hby d1_118) ?_
              show Steps p.tables e below (T233.setTop (mkF m 119 #[.val (.ref a1), .val (.int (Int32.ofNat rN))] [(.int (1 : Int32)), (.ref ch), (.ref ch), (.ref x), (.ref x)])) _
              refine XS.aloadN X233.here hx rfl (hb hby d1_119) rfl rfl ?_
              show Steps p.tables e below (T233.setTop (mkF m 120 #[.val (.ref a1), .val (.int (Int32.ofNat rN))] [(.ref a1), (.int (1 : Int32)), (.ref ch), (.ref ch), (.ref x), (.ref x)])) _
              refine XS.iconst X233.here hx rfl (hb hby d1_120) ?_
              show Steps p.tables e below (T233.setTop (mkF m 121 #[.val (.ref a1), .val (.int (Int32.ofNat rN))] [(.int (1 : Int32)), (.ref a1), (.int (1 : Int32)), (.ref ch), (.ref ch), (.ref x), (.ref x)])) _
              refine X233.caload hx (j := (1 : Int32)) (v := (.int (g 1))) (by rw [e233]; exact Ar241.1) (State.isArrayOf_alike hZ.alike Ar241.2.1) Ar241.2.2 hin241 hat241 (g := (mkF m 121 #[.val (.ref a1), .val (.int (Int32.ofNat rN))] [(.int (1 : Int32)), (.ref a1), (.int (1 : Int32)), (.ref ch), (.ref ch), (.ref x), (.ref x)])) rfl rfl (hb hby d1_121) _ ?_
              show Steps p.tables e below (T233.setTop (mkF m 122 #[.val (.ref a1), .val (.int (Int32.ofNat rN))] [(.int (g 1)), (.int (1 : Int32)), (.ref ch), (.ref ch), (.ref x), (.ref x)])) _
              refine st243 _ ?_
              show Steps p.tables e below (T243.setTop (mkF m 123 #[.val (.ref a1), .val (.int (Int32.ofNat rN))] [(.ref ch), (.ref x), (.ref x)])) _
              refine XS.dup X243.here hx rfl (hb hby d1_123) rfl rfl ?_
              show Steps p.tables e below (T243.setTop (mkF m 124 #[.val (.ref a1), .val (.int (Int32.ofNat rN))] [(.ref ch), (.ref ch), (.ref x), (.ref x)])) _
              refine XS.iconst X243.here hx rfl (hb hby d1_124) ?_
              show Steps p.tables e below (T243.setTop (mkF m 125 #[.val (.ref a1), .val (.int (Int32.ofNat rN))] [(.int (2 : Int32)), (.ref ch), (.ref ch), (.ref x), (.ref x)])) _
              refine XS.aloadN X243.here hx rfl (hb hby d1_125) rfl rfl ?_
              show Steps p.tables e below (T243.setTop (mkF m 126 #[.val (.ref a1), .val (.int (Int32.ofNat rN))] [(.ref a1), (.int (2 : Int32)), (.ref ch), (.ref ch), (.ref x), (.ref x)])) _
              refine XS.iconst X243.here hx rfl (hb hby d1_126) ?_
              show Steps p.tables e below (T243.setTop (mkF m 127 #[.val (.ref a1), .val (.int (Int32.ofNat rN))] [(.int (2 : Int32)), (.ref a1), (.int (2 : Int32)), (.ref ch), (.ref ch), (.ref x), (.ref x)])) _
              refine X243.caload hx (j := (2 : Int32)) (v := (.int (g 2))) (by rw [e243]; exact Ar251.1) (State.isArrayOf_alike hZ.alike Ar251.2.1) Ar251.2.2 hin251 hat251 (g := (mkF m 127 #[.val (.ref a1), .val (.int (Int32.ofNat rN))] [(.int (2 : Int32)), (.ref a1), (.int (2 : Int32)), (.ref ch), (.ref ch), (.ref x), (.ref x)])) rfl rfl (hb hby d1_127) _ ?_
              show Steps p.tables e below (T243.setTop (mkF m 128 #[.val (.ref a1), .val (.int (Int32.ofNat rN))] [(.int (g 2)), (.int (2 : Int32)), (.ref ch), (.ref ch), (.ref x), (.ref x)])) _
              refine st253 _ ?_
              show Steps p.tables e below (T253.setTop (mkF m 129 #[.val (.ref a1), .val (.int (Int32.ofNat rN))] [(.ref ch), (.ref x), (.ref x)])) _
              refine XS.dup X253.here hx rfl (hb hby d1_129) rfl rfl ?_
              show Steps p.tables e below (T253.setTop (mkF m 130 #[.val (.ref a1), .val (.int (Int32.ofNat rN))] [(.ref ch), (.ref ch), (.ref x), (.ref x)])) _
              refine XS.iconst X253.here hx rfl (hb hby d1_130) ?_
              show Steps p.tables e below (T253.setTop (mkF m 131 #[.val (.ref a1), .val (.int (Int32.ofNat rN))] [(.int (3 : Int32)), (.ref ch), (.ref ch), (.ref x), (.ref x)])) _
              refine XS.aloadN X253.here hx rfl (hb hby d1_131) rfl rfl ?_
              show Steps p.tables e below (T253.setTop (mkF m 132 #[.val (.ref a1), .val (.int (Int32.ofNat rN))] [(.ref a1), (.int (3 : Int32)), (.ref ch), (.ref ch), (.ref x), (.ref x)])) _
              refine XS.iconst X253.here hx rfl (hb hby d1_132) ?_
              show Steps p.tables e below (T253.setTop (mkF m 133 #[.val (.ref a1), .val (.int (Int32.ofNat rN))] [(.int (3 : Int32)), (.ref a1), (.int (3 : Int32)), (.ref ch), (.ref ch), (.ref x), (.ref x)])) _
              refine X253.caload hx (j := (3 : Int32)) (v := (.int (g 3))) (by rw [e253]; exact Ar261.1) (State.isArrayOf_alike hZ.alike Ar261.2.1) Ar261.2.2 hin261 hat261 (g := (mkF m 133 #[.val (.ref a1), .val (.int (Int32.ofNat rN))] [(.int (3 : Int32)), (.ref a1), (.int (3 : Int32)), (.ref ch), (.ref ch), (.ref x), (.ref x)])) rfl rfl (hb hby d1_133) _ ?_
              show Steps p.tables e below (T253.setTop (mkF m 134 #[.val (.ref a1), .val (.int (Int32.ofNat rN))] [(.int (g 3)), (.int (3 : Int32)), (.ref ch), (.ref ch), (.ref x), (.ref x)])) _
              refine st263 _ ?_
              show Steps p.tables e below (T263.setTop (mkF m 135 #[.val (.ref a1), .val (.int (Int32.ofNat rN))] [(.ref ch), (.ref x), (.ref x)])) _
              refine st271.trans ?_
              exact k_)
            obtain ⟨fs, hr, hrun, hended, hW, hsame⟩ := X271.leave (v := some (.ref x)) (fun h => by rw [Bd.returns] at h; cases h)
            refine ⟨_, _, pre273 _ ?_, hrun, hended, _, _, rfl, ?_, (by show CHr Z own_EL s.vm s.heap T271.vm T271.heap; rw [hh]; exact (CHr.keep K_x (fun _ q => nomatch q) hH).trans (CHv.at (s := s) (vm0 := s.vm) X271 hZ (own_EW hw) (CHr.keep K_x (fun _ q => nomatch q) hH).1)), ReturnedEndW.of_narrow ⟨_, rfl⟩ hW (hsame.mono (by decide) (by decide))⟩
            · show Steps p.tables e below (T271.setTop (mkF m 138 #[.val (.ref a1), .val (.int (Int32.ofNat rN))] [(.ref x)])) _
              jvm_step X271.here [X271.here.top, hx, (hb hby d1_138), X271.method', Bd.returns, Value.isRef, FieldType.isReference]
              first | (intro acts; rw [hr _ acts rfl rfl rfl]) | rw [hr _ _ rfl rfl rfl]
              exact Steps.refl _
            · show QrmMk Z a1 rN g zc ks h0 n0 _ T271.heap _
              exact ⟨x, rfl, N271, K_x, by rw [hN4]; exact SX, Nat.le_of_eq eq_x.symm⟩
          · skip
            have pre274 : ∀ t_, Steps p.tables e below (s₁.setTop (mkF m 141 #[.val (.ref a1), .val (.int (Int32.ofNat rN))] [(.int (5 : Int32)), (.int (Int32.ofNat rN))])) t_ → Steps p.tables e below (s₁.setTop (entryFrame m #[(.ref a1), (.int (Int32.ofNat rN))] 2)) t_ := fun t_ k_ => pre220 _ (by
              show Steps p.tables e below (s₁.setTop (mkF m 101 #[.val (.ref a1), .val (.int (Int32.ofNat rN))] [(.int (4 : Int32)), (.int (Int32.ofNat rN))])) _
              refine XS.icmpYes X0.here hx rfl (pc0 := 101) (pc' := 139) rfl (hb hby d1_101) rfl (feq (own_ofne (b := 4) (by omega) (by omega) hN4 : ¬ Int32.ofNat rN = (4 : Int32))).2 (by decide) (by decide) ?_
              show Steps p.tables e below (s₁.setTop (mkF m 139 #[.val (.ref a1), .val (.int (Int32.ofNat rN))] [])) _
              refine XS.iloadN X0.here hx rfl (hb hby d1_139) rfl ?_
              show Steps p.tables e below (s₁.setTop (mkF m 140 #[.val (.ref a1), .val (.int (Int32.ofNat rN))] [(.int (Int32.ofNat rN))])) _
              refine XS.iconst X0.here hx rfl (hb hby d1_140) ?_
              exact k_)
            by_cases hN5 : rN = 5
            · skip
              obtain ⟨T275, h275, X275, e275, Ext_x, E_x, D_x, -, st275⟩ := newO X0 hx hZ hown (hw _ (List.mem_of_getElem? (i := 5) rfl)) (hw _ (List.mem_of_getElem? (i := 6) rfl)) (hw _ (List.mem_of_getElem? (i := 7) rfl)) e0 (g := (mkF m 144 #[.val (.ref a1), .val (.int (Int32.ofNat rN))] [])) rfl (hb hby d1_144) (by decide) (by decide)
              obtain ⟨x, eq_x⟩ : ∃ z, z = h0.size := ⟨_, rfl⟩
              rw [← eq_x] at E_x D_x st275
              have g_x : n0 ≤ x := Nat.le_trans Z0 (Nat.le_of_eq eq_x.symm)
              have O_276 := O.ext Ext_x
              have Z277 : n0 ≤ h275.size := Nat.le_trans Z0 (Ext_x.1)
              have Fv_x : Fld Z h275 x "java/lang/String" "value" "[B" .null := D_x (Or.inr (hw _ (List.mem_of_getElem? (i := 20) rfl))) (ty := (.array .byte)) (by decide)
              have Fc_x : Fld Z h275 x "java/lang/String" "coder" "B" (.int (0 : Int32)) := D_x (Or.inr (hw _ (List.mem_of_getElem? (i := 21) rfl))) (ty := .byte) (by decide)
              have K0_x := (Keep.refl h0 []).ext Ext_x
              obtain ⟨T278, h278, k_ch, X278, e278, Ext_ch, A_ch, st278⟩ := newP X275 hx hZ (hw _ (List.mem_of_getElem? (i := 0) rfl)) e275 (g := (mkF m 149 #[.val (.ref a1), .val (.int (Int32.ofNat rN))] [(.int (5 : Int32)), (.ref x), (.ref x)])) rfl (hb hby d1_149) rfl (by decide) (cap := 5) (by decide) (by decide) (by decide) (by decide)
              obtain ⟨ch, eq_ch⟩ : ∃ z, z = h275.size := ⟨_, rfl⟩
              rw [← eq_ch] at A_ch st278
              have g_ch : n0 ≤ ch := Nat.le_trans Z277 (Nat.le_of_eq eq_ch.symm)
              have O_279 := O_276.ext Ext_ch
              have ne_x_ch : x ≠ ch := Nat.ne_of_lt (Nat.lt_of_lt_of_le E_x.lt (Nat.le_of_eq eq_ch.symm))
              have E_x_280 := E_x.ext Ext_ch
              have Fv_x_281 := Fv_x.ext Ext_ch
              have Fc_x_282 := Fc_x.ext Ext_ch
              have KK_283 := K0_x.ext Ext_ch
              have Z284 : n0 ≤ h278.size := Nat.le_trans Z277 (Ext_ch.1)
              have V_ch : Arv Z h278 ch k_ch .char (5 : Int32) [(.int (0 : Int32)), (.int (0 : Int32)), (.int (0 : Int32)), (.int (0 : Int32)), (.int (0 : Int32))] (.int (0 : Int32)) := (Arv.new A_ch (by decide)).pad (pad_rep [] (.int (0 : Int32)) 5)
              have sz_ch : h0.size ≤ ch := Nat.le_trans K0_x.1 (Nat.le_of_eq eq_ch.symm)
              obtain ⟨cl285, Ar285, Sz285, Hs285⟩ := own_Afkeep V KK_283 nin0
              have hin285 : ¬ ((0 : Int32) < 0 ∨ cl285.slots.size ≤ (0 : Int32).toNatClampNeg) := own_ofin (a := 0) Sz285 (by omega) (by omega)
              have hat285 : cl285.slots[(0 : Int32).toNatClampNeg]? = some (.int (g 0)) := own_hat Hs285 (j := 0) (by omega) (by omega)
              obtain ⟨cl286, Ar286, qk286, Sz286, Ng286, Hs286, Gs286⟩ := V_ch
              have hin286 : ¬ ((0 : Int32) < 0 ∨ cl286.slots.size ≤ ((0 : Int32)).toNatClampNeg) := inb_of Sz286 ⟨by decide, by decide⟩
              obtain ⟨T287, h287, X287, e287, W287, st287⟩ := stC X278 hx hZ e278 Ar286 (j := (0 : Int32)) hin286 (g := (mkF m 156 #[.val (.ref a1), .val (.int (Int32.ofNat rN))] [(.int (g 0)), (.int (0 : Int32)), (.ref ch), (.ref ch), (.ref x), (.ref x)])) rfl rfl (hb hby d1_156)
              have O_288 := O_279.wr W287 g_ch
              have E_x_289 := E_x_280.wr W287
              have Fv_x_290 := Fv_x_281.other W287 (Or.inl ne_x_ch)
              have Fc_x_291 := Fc_x_282.other W287 (Or.inl ne_x_ch)
              have KK_292 := KK_283.wr W287 (Or.inr sz_ch)
              have V_ch_287 : Arv Z h287 ch k_ch .char (5 : Int32) [(.int (nar .char (g 0))), (.int (0 : Int32)), (.int (0 : Int32)), (.int (0 : Int32)), (.int (0 : Int32))] (.int (0 : Int32)) := Arv.set Ar286 qk286 Sz286 Ng286 Hs286 Gs286 (fits_nar_char _) W287 0 rfl (Nat.le_of_ble_eq_true rfl)
              have N287 := Fr.snoc X287 N0 g_ch
              have Z294 : n0 ≤ h287.size := Nat.le_trans Z284 ((Keep.of_wr W287).1)
              obtain ⟨cl295, Ar295, Sz295, Hs295⟩ := own_Afkeep V KK_292 nin0
              have hin295 : ¬ ((1 : Int32) < 0 ∨ cl295.slots.size ≤ (1 : Int32).toNatClampNeg) := own_ofin (a := 1) Sz295 (by omega) (by omega)
              have hat295 : cl295.slots[(1 : Int32).toNatClampNeg]? = some (.int (g 1)) := own_hat Hs295 (j := 1) (by omega) (by omega)
              obtain ⟨cl296, Ar296, qk296, Sz296, Ng296, Hs296, Gs296⟩ := V_ch_287
              have hin296 : ¬ ((1 : Int32) < 0 ∨ cl296.slots.size ≤ ((1 : Int32)).toNatClampNeg) := inb_of Sz296 ⟨by decide, by decide⟩
              obtain ⟨T297, h297, X297, e297, W297, st297⟩ := stC X287 hx hZ e287 Ar296 (j := (1 : Int32)) hin296 (g := (mkF m 162 #[.val (.ref a1), .val (.int (Int32.ofNat rN))] [(.int (g 1)), (.int (1 : Int32)), (.ref ch), (.ref ch), (.ref x), (.ref x)])) rfl rfl (hb hby d1_162)
              have O_298 := O_288.wr W297 g_ch
              have E_x_299 := E_x_289.wr W297
              have Fv_x_300 := Fv_x_290.other W297 (Or.inl ne_x_ch)
              have Fc_x_301 := Fc_x_291.other W297 (Or.inl ne_x_ch)
              have KK_302 := KK_292.wr W297 (Or.inr sz_ch)
              have V_ch_297 : Arv Z h297 ch k_ch .char (5 : Int32) [(.int (nar .char (g 0))), (.int (nar .char (g 1))), (.int (0 : Int32)), (.int (0 : Int32)), (.int (0 : Int32))] (.int (0 : Int32)) := Arv.set Ar296 qk296 Sz296 Ng296 Hs296 Gs296 (fits_nar_char _) W297 1 rfl (Nat.le_of_ble_eq_true rfl)
              have N297 := Fr.snoc X297 N287 g_ch
              have Z304 : n0 ≤ h297.size := Nat.le_trans Z294 ((Keep.of_wr W297).1)
              obtain ⟨cl305, Ar305, Sz305, Hs305⟩ := own_Afkeep V KK_302 nin0
              have hin305 : ¬ ((2 : Int32) < 0 ∨ cl305.slots.size ≤ (2 : Int32).toNatClampNeg) := own_ofin (a := 2) Sz305 (by omega) (by omega)
              have hat305 : cl305.slots[(2 : Int32).toNatClampNeg]? = some (.int (g 2)) := own_hat Hs305 (j := 2) (by omega) (by omega)
              obtain ⟨cl306, Ar306, qk306, Sz306, Ng306, Hs306, Gs306⟩ := V_ch_297
              have hin306 : ¬ ((2 : Int32) < 0 ∨ cl306.slots.size ≤ ((2 : Int32)).toNatClampNeg) := inb_of Sz306 ⟨by decide, by decide⟩
              obtain ⟨T307, h307, X307, e307, W307, st307⟩ := stC X297 hx hZ e297 Ar306 (j := (2 : Int32)) hin306 (g := (mkF m 168 #[.val (.ref a1), .val (.int (Int32.ofNat rN))] [(.int (g 2)), (.int (2 : Int32)), (.ref ch), (.ref ch), (.ref x), (.ref x)])) rfl rfl (hb hby d1_168)
              have O_308 := O_298.wr W307 g_ch
              have E_x_309 := E_x_299.wr W307
              have Fv_x_310 := Fv_x_300.other W307 (Or.inl ne_x_ch)
              have Fc_x_311 := Fc_x_301.other W307 (Or.inl ne_x_ch)
              have KK_312 := KK_302.wr W307 (Or.inr sz_ch)
              have V_ch_307 : Arv Z h307 ch k_ch .char (5 : Int32) [(.int (nar .char (g 0))), (.int (nar .char (g 1))), (.int (nar .char (g 2))), (.int (0 : Int32)), (.int (0 : Int32))] (.int (0 : Int32)) := Arv.set Ar306 qk306 Sz306 Ng306 Hs306 Gs306 (fits_nar_char _) W307 2 rfl (Nat.le_of_ble_eq_true rfl)
              have N307 := Fr.snoc X307 N297 g_ch
              have Z314 : n0 ≤ h307.size := Nat.le_trans Z304 ((Keep.of_wr W307).1)
              obtain ⟨cl315, Ar315, Sz315, Hs315⟩ := own_Afkeep V KK_312 nin0
              have hin315 : ¬ ((3 : Int32) < 0 ∨ cl315.slots.size ≤ (3 : Int32).toNatClampNeg) := own_ofin (a := 3) Sz315 (by omega) (by omega)
              have hat315 : cl315.slots[(3 : Int32).toNatClampNeg]? = some (.int (g 3)) := own_hat Hs315 (j := 3) (by omega) (by omega)
              obtain ⟨cl316, Ar316, qk316, Sz316, Ng316, Hs316, Gs316⟩ := V_ch_307
              have hin316 : ¬ ((3 : Int32) < 0 ∨ cl316.slots.size ≤ ((3 : Int32)).toNatClampNeg) := inb_of Sz316 ⟨by decide, by decide⟩
              obtain ⟨T317, h317, X317, e317, W317, st317⟩ := stC X307 hx hZ e307 Ar316 (j := (3 : Int32)) hin316 (g := (mkF m 174 #[.val (.ref a1), .val (.int (Int32.ofNat rN))] [(.int (g 3)), (.int (3 : Int32)), (.ref ch), (.ref ch), (.ref x), (.ref x)])) rfl rfl (hb hby d1_174)
              have O_318 := O_308.wr W317 g_ch
              have E_x_319 := E_x_309.wr W317
              have Fv_x_320 := Fv_x_310.other W317 (Or.inl ne_x_ch)
              have Fc_x_321 := Fc_x_311.other W317 (Or.inl ne_x_ch)
              have KK_322 := KK_312.wr W317 (Or.inr sz_ch)
              have V_ch_317 : Arv Z h317 ch k_ch .char (5 : Int32) [(.int (nar .char (g 0))), (.int (nar .char (g 1))), (.int (nar .char (g 2))), (.int (nar .char (g 3))), (.int (0 : Int32))] (.int (0 : Int32)) := Arv.set Ar316 qk316 Sz316 Ng316 Hs316 Gs316 (fits_nar_char _) W317 3 rfl (Nat.le_of_ble_eq_true rfl)
              have N317 := Fr.snoc X317 N307 g_ch
              have Z324 : n0 ≤ h317.size := Nat.le_trans Z314 ((Keep.of_wr W317).1)
              have pre325 : ∀ t_, Steps p.tables e below (T317.setTop (mkF m 176 #[.val (.ref a1), .val (.int (Int32.ofNat rN))] [(.ref ch), (.ref ch), (.ref x), (.ref x)])) t_ → Steps p.tables e below (s₁.setTop (entryFrame m #[(.ref a1), (.int (Int32.ofNat rN))] 2)) t_ := fun t_ k_ => pre274 _ (by
                show Steps p.tables e below (s₁.setTop (mkF m 141 #[.val (.ref a1), .val (.int (Int32.ofNat rN))] [(.int (5 : Int32)), (.int (Int32.ofNat rN))])) _
                refine XS.icmpNo X0.here hx rfl (hb hby d1_141) rfl (teq (congrArg Int32.ofNat hN5 : Int32.ofNat rN = (5 : Int32))).2 ?_
                show Steps p.tables e below (s₁.setTop (mkF m 144 #[.val (.ref a1), .val (.int (Int32.ofNat rN))] [])) _
                refine st275 _ ?_
                show Steps p.tables e below (T275.setTop (mkF m 147 #[.val (.ref a1), .val (.int (Int32.ofNat rN))] [(.ref x)])) _
                refine XS.dup X275.here hx rfl (hb hby d1_147) rfl rfl ?_
                show Steps p.tables e below (T275.setTop (mkF m 148 #[.val (.ref a1), .val (.int (Int32.ofNat rN))] [(.ref x), (.ref x)])) _
                refine XS.iconst X275.here hx rfl (hb hby d1_148) ?_
                show Steps p.tables e below (T275.setTop (mkF m 149 #[.val (.ref a1), .val (.int (Int32.ofNat rN))] [(.int (5 : Int32)), (.ref x), (.ref x)])) _
                refine st278 _ ?_
                show Steps p.tables e below (T278.setTop (mkF m 151 #[.val (.ref a1), .val (.int (Int32.ofNat rN))] [(.ref ch), (.ref x), (.ref x)])) _
                refine XS.dup X278.here hx rfl (hb hby d1_151) rfl rfl ?_
                show Steps p.tables e below (T278.setTop (mkF m 152 #[.val (.ref a1), .val (.int (Int32.ofNat rN))] [(.ref ch), (.ref ch), (.ref x), (.ref x)])) _
                refine XS.iconst X278.here hx rfl (hb hby d1_152) ?_
                show Steps p.tables e below (T278.setTop (mkF m 153 #[.val (.ref a1), .val (.int (Int32.ofNat rN))] [(.int (0 : Int32)), (.ref ch), (.ref ch), (.ref x), (.ref x)])) _
                refine XS.aloadN X278.here hx rfl (hb hby d1_153) rfl rfl ?_
                show Steps p.tables e below (T278.setTop (mkF m 154 #[.val (.ref a1), .val (.int (Int32.ofNat rN))] [(.ref a1), (.int (0 : Int32)), (.ref ch), (.ref ch), (.ref x), (.ref x)])) _
                refine XS.iconst X278.here hx rfl (hb hby d1_154) ?_
                show Steps p.tables e below (T278.setTop (mkF m 155 #[.val (.ref a1), .val (.int (Int32.ofNat rN))] [(.int (0 : Int32)), (.ref a1), (.int (0 : Int32)), (.ref ch), (.ref ch), (.ref x), (.ref x)])) _
                refine X278.caload hx (j := (0 : Int32)) (v := (.int (g 0))) (by rw [e278]; exact Ar285.1) (State.isArrayOf_alike hZ.alike Ar285.2.1) Ar285.2.2 hin285 hat285 (g := (mkF m 155 #[.val (.ref a1), .val (.int (Int32.ofNat rN))] [(.int (0 : Int32)), (.ref a1), (.int (0 : Int32)), (.ref ch), (.ref ch), (.ref x), (.ref x)])) rfl rfl (hb hby d1_155) _ ?_
                show Steps p.tables e below (T278.setTop (mkF m 156 #[.val (.ref a1), .val (.int (Int32.ofNat rN))] [(.int (g 0)), (.int (0 : Int32)), (.ref ch), (.ref ch), (.ref x), (.ref x)])) _
                refine st287 _ ?_
                show Steps p.tables e below (T287.setTop (mkF m 157 #[.val (.ref a1), .val (.int (Int32.ofNat rN))] [(.ref ch), (.ref x), (.ref x)])) _
                refine XS.dup X287.here hx rfl (hb hby d1_157) rfl rfl ?_
                show Steps p.tables e below (T287.setTop (mkF m 158 #[.val (.ref a1), .val (.int (Int32.ofNat rN))] [(.ref ch), (.ref ch), (.ref x), (.ref x)])) _
                refine XS.iconst X287.here hx rfl (hb hby d1_158) ?_
                show Steps p.tables e below (T287.setTop (mkF m 159 #[.val (.ref a1), .val (.int (Int32.ofNat rN))] [(.int (1 : Int32)), (.ref ch), (.ref ch), (.ref x), (.ref x)])) _
                refine XS.aloadN X287.here hx rfl (hb hby d1_159) rfl rfl ?_
                show Steps p.tables e below (T287.setTop (mkF m 160 #[.val (.ref a1), .val (.int (Int32.ofNat rN))] [(.ref a1), (.int (1 : Int32)), (.ref ch), (.ref ch), (.ref x), (.ref x)])) _
                refine XS.iconst X287.here hx rfl (hb hby d1_160) ?_
                show Steps p.tables e below (T287.setTop (mkF m 161 #[.val (.ref a1), .val (.int (Int32.ofNat rN))] [(.int (1 : Int32)), (.ref a1), (.int (1 : Int32)), (.ref ch), (.ref ch), (.ref x), (.ref x)])) _
                refine X287.caload hx (j := (1 : Int32)) (v := (.int (g 1))) (by rw [e287]; exact Ar295.1) (State.isArrayOf_alike hZ.alike Ar295.2.1) Ar295.2.2 hin295 hat295 (g := (mkF m 161 #[.val (.ref a1), .val (.int (Int32.ofNat rN))] [(.int (1 : Int32)), (.ref a1), (.int (1 : Int32)), (.ref ch), (.ref ch), (.ref x), (.ref x)])) rfl rfl (hb hby d1_161) _ ?_
                show Steps p.tables e below (T287.setTop (mkF m 162 #[.val (.ref a1), .val (.int (Int32.ofNat rN))] [(.int (g 1)), (.int (1 : Int32)), (.ref ch), (.ref ch), (.ref x), (.ref x)])) _
                refine st297 _ ?_
                show Steps p.tables e below (T297.setTop (mkF m 163 #[.val (.ref a1), .val (.int (Int32.ofNat rN))] [(.ref ch), (.ref x), (.ref x)])) _
                refine XS.dup X297.here hx rfl (hb hby d1_163) rfl rfl ?_
                show Steps p.tables e below (T297.setTop (mkF m 164 #[.val (.ref a1), .val (.int (Int32.ofNat rN))] [(.ref ch), (.ref ch), (.ref x), (.ref x)])) _
                refine XS.iconst X297.here hx rfl (hb hby d1_164) ?_
                show Steps p.tables e below (T297.setTop (mkF m 165 #[.val (.ref a1), .val (.int (Int32.ofNat rN))] [(.int (2 : Int32)), (.ref ch), (.ref ch), (.ref x), (.ref x)])) _
                refine XS.aloadN X297.here hx rfl (hb hby d1_165) rfl rfl ?_
                show Steps p.tables e below (T297.setTop (mkF m 166 #[.val (.ref a1), .val (.int (Int32.ofNat rN))] [(.ref a1), (.int (2 : Int32)), (.ref ch), (.ref ch), (.ref x), (.ref x)])) _
                refine XS.iconst X297.here hx rfl (hb hby d1_166) ?_
                show Steps p.tables e below (T297.setTop (mkF m 167 #[.val (.ref a1), .val (.int (Int32.ofNat rN))] [(.int (2 : Int32)), (.ref a1), (.int (2 : Int32)), (.ref ch), (.ref ch), (.ref x), (.ref x)])) _
                refine X297.caload hx (j := (2 : Int32)) (v := (.int (g 2))) (by rw [e297]; exact Ar305.1) (State.isArrayOf_alike hZ.alike Ar305.2.1) Ar305.2.2 hin305 hat305 (g := (mkF m 167 #[.val (.ref a1), .val (.int (Int32.ofNat rN))] [(.int (2 : Int32)), (.ref a1), (.int (2 : Int32)), (.ref ch), (.ref ch), (.ref x), (.ref x)])) rfl rfl (hb hby d1_167) _ ?_
                show Steps p.tables e below (T297.setTop (mkF m 168 #[.val (.ref a1), .val (.int (Int32.ofNat rN))] [(.int (g 2)), (.int (2 : Int32)), (.ref ch), (.ref ch), (.ref x), (.ref x)])) _
                refine st307 _ ?_
                show Steps p.tables e below (T307.setTop (mkF m 169 #[.val (.ref a1), .val (.int (Int32.ofNat rN))] [(.ref ch), (.ref x), (.ref x)])) _
                refine XS.dup X307.here hx rfl (hb hby d1_169) rfl rfl ?_
                show Steps p.tables e below (T307.setTop (mkF m 170 #[.val (.ref a1), .val (.int (Int32.ofNat rN))] [(.ref ch), (.ref ch), (.ref x), (.ref x)])) _
                refine XS.iconst X307.here hx rfl (hb hby d1_170) ?_
                show Steps p.tables e below (T307.setTop (mkF m 171 #[.val (.ref a1), .val (.int (Int32.ofNat rN))] [(.int (3 : Int32)), (.ref ch), (.ref ch), (.ref x), (.ref x)])) _
                refine XS.aloadN X307.here hx rfl (hb hby d1_171) rfl rfl ?_
                show Steps p.tables e below (T307.setTop (mkF m 172 #[.val (.ref a1), .val (.int (Int32.ofNat rN))] [(.ref a1), (.int (3 : Int32)), (.ref ch), (.ref ch), (.ref x), (.ref x)])) _
                refine XS.iconst X307.here hx rfl (hb hby d1_172) ?_
                show Steps p.tables e below (T307.setTop (mkF m 173 #[.val (.ref a1), .val (.int (Int32.ofNat rN))] [(.int (3 : Int32)), (.ref a1), (.int (3 : Int32)), (.ref ch), (.ref ch), (.ref x), (.ref x)])) _
                refine X307.caload hx (j := (3 : Int32)) (v := (.int (g 3))) (by rw [e307]; exact Ar315.1) (State.isArrayOf_alike hZ.alike Ar315.2.1) Ar315.2.2 hin315 hat315 (g := (mkF m 173 #[.val (.ref a1), .val (.int (Int32.ofNat rN))] [(.int (3 : Int32)), (.ref a1), (.int (3 : Int32)), (.ref ch), (.ref ch), (.ref x), (.ref x)])) rfl rfl (hb hby d1_173) _ ?_
                show Steps p.tables e below (T307.setTop (mkF m 174 #[.val (.ref a1), .val (.int (Int32.ofNat rN))] [(.int (g 3)), (.int (3 : Int32)), (.ref ch), (.ref ch), (.ref x), (.ref x)])) _
                refine st317 _ ?_
                show Steps p.tables e below (T317.setTop (mkF m 175 #[.val (.ref a1), .val (.int (Int32.ofNat rN))] [(.ref ch), (.ref x), (.ref x)])) _
                refine XS.dup X317.here hx rfl (hb hby d1_175) rfl rfl ?_
                exact k_)
              obtain ⟨cl326, Ar326, Sz326, Hs326⟩ := own_Afkeep V KK_322 nin0
              have hin326 : ¬ ((4 : Int32) < 0 ∨ cl326.slots.size ≤ (4 : Int32).toNatClampNeg) := own_ofin (a := 4) Sz326 (by omega) (by omega)
              have hat326 : cl326.slots[(4 : Int32).toNatClampNeg]? = some (.int (g 4)) := own_hat Hs326 (j := 4) (by omega) (by omega)
              obtain ⟨cl327, Ar327, qk327, Sz327, Ng327, Hs327, Gs327⟩ := V_ch_317
              have hin327 : ¬ ((4 : Int32) < 0 ∨ cl327.slots.size ≤ ((4 : Int32)).toNatClampNeg) := inb_of Sz327 ⟨by decide, by decide⟩
              obtain ⟨T328, h328, X328, e328, W328, st328⟩ := stC X317 hx hZ e317 Ar327 (j := (4 : Int32)) hin327 (g := (mkF m 180 #[.val (.ref a1), .val (.int (Int32.ofNat rN))] [(.int (g 4)), (.int (4 : Int32)), (.ref ch), (.ref ch), (.ref x), (.ref x)])) rfl rfl (hb hby d1_180)
              have O_329 := O_318.wr W328 g_ch
              have E_x_330 := E_x_319.wr W328
              have Fv_x_331 := Fv_x_320.other W328 (Or.inl ne_x_ch)
              have Fc_x_332 := Fc_x_321.other W328 (Or.inl ne_x_ch)
              have KK_333 := KK_322.wr W328 (Or.inr sz_ch)
              have V_ch_328 : Arv Z h328 ch k_ch .char (5 : Int32) [(.int (nar .char (g 0))), (.int (nar .char (g 1))), (.int (nar .char (g 2))), (.int (nar .char (g 3))), (.int (nar .char (g 4)))] (.int (0 : Int32)) := Arv.set Ar327 qk327 Sz327 Ng327 Hs327 Gs327 (fits_nar_char _) W328 4 rfl (Nat.le_of_ble_eq_true rfl)
              have N328 := Fr.snoc X328 N317 g_ch
              have Z335 : n0 ≤ h328.size := Nat.le_trans Z324 ((Keep.of_wr W328).1)
              have VC := V_ch_328
              rw [own_nc (rg 0 (by omega)), own_nc (rg 1 (by omega)), own_nc (rg 2 (by omega)), own_nc (rg 3 (by omega)), own_nc (rg 4 (by omega))] at VC
              have AC := own_AfA (n := 5) (g := g) VC (by omega) (fun j hj => match j, hj with | 0, _ => rfl | 1, _ => rfl | 2, _ => rfl | 3, _ => rfl | 4, _ => rfl | (j + 5), h => absurd h (by omega))
              obtain ⟨_, _, ⟨T336, L336, k336, n336⟩, -, X336, ⟨Lc336, hQ336, l336, y336, z336⟩, st336⟩ := X328.specialBack hx (y := (⟨"java/lang/String", "<init>", "([C)V"⟩ : MethodName)) rfl hown (mvT hZ (hw _ (List.mem_of_getElem? (i := 8) rfl))) (mvT hZ (hw _ (List.mem_of_getElem? (i := 9) rfl))) (mvT hZ (hw _ (List.mem_of_getElem? (i := 10) rfl))) (by decide) (backOf (W := 1) (rmI1 l Z a0 hw [] x ch 5 g zc h328 n0 Z335 E_x_330 Fv_x_331 Fc_x_332 g_x S_a S_h S_l O_329 S_c hzc (by omega) (by omega) (fun j hj => rg j (by omega)) AC) hZ (hw _ (List.mem_of_getElem? (i := 10) rfl)) (hw _ (List.mem_of_getElem? (i := 7) rfl)) (by decide) (by decide)) (g := (mkF m 181 #[.val (.ref a1), .val (.int (Int32.ofNat rN))] [(.ref ch), (.ref x), (.ref x)])) rfl (by rw [hml]; rfl) (Steps.refl _) (a := x) (argsL := [(.ref ch)]) (rest := [(.ref x)]) (lenOf pd_16 rfl) rfl (by show 2 * 0 + _ ≤ _; exact Nat.le_of_eq rfl) (hb hby d1_181) (fun _ _ => ⟨rfl, e328, (by decide : 2 + 2 ≤ _), (by decide : 9 + 18 ≤ _)⟩)
              dsimp only [Pt.U, Pt.locs, Pt.cells, Pt.slots] at X336 l336 y336 z336 st336 hQ336
              subst l336 y336 z336
              obtain ⟨rfl, N336q, K336, SX⟩ := hQ336
              have N336 := Fr.app N328 N336q
              have K_x := KK_333.trans K336 (allS (Or.inr (Nat.le_of_eq eq_x.symm)) all0)
              have Z337 : n0 ≤ T336.heap.size := Nat.le_trans Z335 (K336.1)
              have pre338 : ∀ t_, Steps p.tables e below (T336.setTop (mkF m 184 #[.val (.ref a1), .val (.int (Int32.ofNat rN))] [(.ref x)])) t_ → Steps p.tables e below (s₁.setTop (entryFrame m #[(.ref a1), (.int (Int32.ofNat rN))] 2)) t_ := fun t_ k_ => pre325 _ (by
                show Steps p.tables e below (T317.setTop (mkF m 176 #[.val (.ref a1), .val (.int (Int32.ofNat rN))] [(.ref ch), (.ref ch), (.ref x), (.ref x)])) _
                refine XS.iconst X317.here hx rfl (hb hby d1_176) ?_
                show Steps p.tables e below (T317.setTop (mkF m 177 #[.val (.ref a1), .val (.int (Int32.ofNat rN))] [(.int (4 : Int32)), (.ref ch), (.ref ch), (.ref x), (.ref x)])) _
                refine XS.aloadN X317.here hx rfl (hb hby d1_177) rfl rfl ?_
                show Steps p.tables e below (T317.setTop (mkF m 178 #[.val (.ref a1), .val (.int (Int32.ofNat rN))] [(.ref a1), (.int (4 : Int32)), (.ref ch), (.ref ch), (.ref x), (.ref x)])) _
                refine XS.iconst X317.here hx rfl (hb hby d1_178) ?_
                show Steps p.tables e below (T317.setTop (mkF m 179 #[.val (.ref a1), .val (.int (Int32.ofNat rN))] [(.int (4 : Int32)), (.ref a1), (.int (4 : Int32)), (.ref ch), (.ref ch), (.ref x), (.ref x)])) _
                refine X317.caload hx (j := (4 : Int32)) (v := (.int (g 4))) (by rw [e317]; exact Ar326.1) (State.isArrayOf_alike hZ.alike Ar326.2.1) Ar326.2.2 hin326 hat326 (g := (mkF m 179 #[.val (.ref a1), .val (.int (Int32.ofNat rN))] [(.int (4 : Int32)), (.ref a1), (.int (4 : Int32)), (.ref ch), (.ref ch), (.ref x), (.ref x)])) rfl rfl (hb hby d1_179) _ ?_
                show Steps p.tables e below (T317.setTop (mkF m 180 #[.val (.ref a1), .val (.int (Int32.ofNat rN))] [(.int (g 4)), (.int (4 : Int32)), (.ref ch), (.ref ch), (.ref x), (.ref x)])) _
                refine st328 _ ?_
                show Steps p.tables e below (T328.setTop (mkF m 181 #[.val (.ref a1), .val (.int (Int32.ofNat rN))] [(.ref ch), (.ref x), (.ref x)])) _
                refine st336.trans ?_
                exact k_)
              obtain ⟨fs, hr, hrun, hended, hW, hsame⟩ := X336.leave (v := some (.ref x)) (fun h => by rw [Bd.returns] at h; cases h)
              refine ⟨_, _, pre338 _ ?_, hrun, hended, _, _, rfl, ?_, (by show CHr Z own_EL s.vm s.heap T336.vm T336.heap; rw [hh]; exact (CHr.keep K_x (fun _ q => nomatch q) hH).trans (CHv.at (s := s) (vm0 := s.vm) X336 hZ (own_EW hw) (CHr.keep K_x (fun _ q => nomatch q) hH).1)), ReturnedEndW.of_narrow ⟨_, rfl⟩ hW (hsame.mono (by decide) (by decide))⟩
              · show Steps p.tables e below (T336.setTop (mkF m 184 #[.val (.ref a1), .val (.int (Int32.ofNat rN))] [(.ref x)])) _
                jvm_step X336.here [X336.here.top, hx, (hb hby d1_184), X336.method', Bd.returns, Value.isRef, FieldType.isReference]
                first | (intro acts; rw [hr _ acts rfl rfl rfl]) | rw [hr _ _ rfl rfl rfl]
                exact Steps.refl _
              · show QrmMk Z a1 rN g zc ks h0 n0 _ T336.heap _
                exact ⟨x, rfl, N336, K_x, by rw [hN5]; exact SX, Nat.le_of_eq eq_x.symm⟩
            · skip
              have hN6 : rN = 6 := by omega
              obtain ⟨T339, h339, X339, e339, Ext_x, E_x, D_x, -, st339⟩ := newO X0 hx hZ hown (hw _ (List.mem_of_getElem? (i := 5) rfl)) (hw _ (List.mem_of_getElem? (i := 6) rfl)) (hw _ (List.mem_of_getElem? (i := 7) rfl)) e0 (g := (mkF m 185 #[.val (.ref a1), .val (.int (Int32.ofNat rN))] [])) rfl (hb hby d1_185) (by decide) (by decide)
              obtain ⟨x, eq_x⟩ : ∃ z, z = h0.size := ⟨_, rfl⟩
              rw [← eq_x] at E_x D_x st339
              have g_x : n0 ≤ x := Nat.le_trans Z0 (Nat.le_of_eq eq_x.symm)
              have O_340 := O.ext Ext_x
              have Z341 : n0 ≤ h339.size := Nat.le_trans Z0 (Ext_x.1)
              have Fv_x : Fld Z h339 x "java/lang/String" "value" "[B" .null := D_x (Or.inr (hw _ (List.mem_of_getElem? (i := 20) rfl))) (ty := (.array .byte)) (by decide)
              have Fc_x : Fld Z h339 x "java/lang/String" "coder" "B" (.int (0 : Int32)) := D_x (Or.inr (hw _ (List.mem_of_getElem? (i := 21) rfl))) (ty := .byte) (by decide)
              have K0_x := (Keep.refl h0 []).ext Ext_x
              obtain ⟨T342, h342, k_ch, X342, e342, Ext_ch, A_ch, st342⟩ := newP X339 hx hZ (hw _ (List.mem_of_getElem? (i := 0) rfl)) e339 (g := (mkF m 191 #[.val (.ref a1), .val (.int (Int32.ofNat rN))] [(.int (6 : Int32)), (.ref x), (.ref x)])) rfl (hb hby d1_191) rfl (by decide) (cap := 6) (by decide) (by decide) (by decide) (by decide)
              obtain ⟨ch, eq_ch⟩ : ∃ z, z = h339.size := ⟨_, rfl⟩
              rw [← eq_ch] at A_ch st342
              have g_ch : n0 ≤ ch := Nat.le_trans Z341 (Nat.le_of_eq eq_ch.symm)
              have O_343 := O_340.ext Ext_ch
              have ne_x_ch : x ≠ ch := Nat.ne_of_lt (Nat.lt_of_lt_of_le E_x.lt (Nat.le_of_eq eq_ch.symm))
              have E_x_344 := E_x.ext Ext_ch
              have Fv_x_345 := Fv_x.ext Ext_ch
              have Fc_x_346 := Fc_x.ext Ext_ch
              have KK_347 := K0_x.ext Ext_ch
              have Z348 : n0 ≤ h342.size := Nat.le_trans Z341 (Ext_ch.1)
              have V_ch : Arv Z h342 ch k_ch .char (6 : Int32) [(.int (0 : Int32)), (.int (0 : Int32)), (.int (0 : Int32)), (.int (0 : Int32)), (.int (0 : Int32)), (.int (0 : Int32))] (.int (0 : Int32)) := (Arv.new A_ch (by decide)).pad (pad_rep [] (.int (0 : Int32)) 6)
              have sz_ch : h0.size ≤ ch := Nat.le_trans K0_x.1 (Nat.le_of_eq eq_ch.symm)
              obtain ⟨cl349, Ar349, Sz349, Hs349⟩ := own_Afkeep V KK_347 nin0
              have hin349 : ¬ ((0 : Int32) < 0 ∨ cl349.slots.size ≤ (0 : Int32).toNatClampNeg) := own_ofin (a := 0) Sz349 (by omega) (by omega)
              have hat349 : cl349.slots[(0 : Int32).toNatClampNeg]? = some (.int (g 0)) := own_hat Hs349 (j := 0) (by omega) (by omega)
              obtain ⟨cl350, Ar350, qk350, Sz350, Ng350, Hs350, Gs350⟩ := V_ch
              have hin350 : ¬ ((0 : Int32) < 0 ∨ cl350.slots.size ≤ ((0 : Int32)).toNatClampNeg) := inb_of Sz350 ⟨by decide, by decide⟩
              obtain ⟨T351, h351, X351, e351, W351, st351⟩ := stC X342 hx hZ e342 Ar350 (j := (0 : Int32)) hin350 (g := (mkF m 198 #[.val (.ref a1), .val (.int (Int32.ofNat rN))] [(.int (g 0)), (.int (0 : Int32)), (.ref ch), (.ref ch), (.ref x), (.ref x)])) rfl rfl (hb hby d1_198)
              have O_352 := O_343.wr W351 g_ch
              have E_x_353 := E_x_344.wr W351
              have Fv_x_354 := Fv_x_345.other W351 (Or.inl ne_x_ch)
              have Fc_x_355 := Fc_x_346.other W351 (Or.inl ne_x_ch)
              have KK_356 := KK_347.wr W351 (Or.inr sz_ch)
              have V_ch_351 : Arv Z h351 ch k_ch .char (6 : Int32) [(.int (nar .char (g 0))), (.int (0 : Int32)), (.int (0 : Int32)), (.int (0 : Int32)), (.int (0 : Int32)), (.int (0 : Int32))] (.int (0 : Int32)) := Arv.set Ar350 qk350 Sz350 Ng350 Hs350 Gs350 (fits_nar_char _) W351 0 rfl (Nat.le_of_ble_eq_true rfl)
              have N351 := Fr.snoc X351 N0 g_ch
              have Z358 : n0 ≤ h351.size := Nat.le_trans Z348 ((Keep.of_wr W351).1)
              obtain ⟨cl359, Ar359, Sz359, Hs359⟩ := own_Afkeep V KK_356 nin0
              have hin359 : ¬ ((1 : Int32) < 0 ∨ cl359.slots.size ≤ (1 : Int32).toNatClampNeg) := own_ofin (a := 1) Sz359 (by omega) (by omega)
              have hat359 : cl359.slots[(1 : Int32).toNatClampNeg]? = some (.int (g 1)) := own_hat Hs359 (j := 1) (by omega) (by omega)
              obtain ⟨cl360, Ar360, qk360, Sz360, Ng360, Hs360, Gs360⟩ := V_ch_351
              have hin360 : ¬ ((1 : Int32) < 0 ∨ cl360.slots.size ≤ ((1 : Int32)).toNatClampNeg) := inb_of Sz360 ⟨by decide, by decide⟩
              obtain ⟨T361, h361, X361, e361, W361, st361⟩ := stC X351 hx hZ e351 Ar360 (j := (1 : Int32)) hin360 (g := (mkF m 204 #[.val (.ref a1), .val (.int (Int32.ofNat rN))] [(.int (g 1)), (.int (1 : Int32)), (.ref ch), (.ref ch), (.ref x), (.ref x)])) rfl rfl (hb hby d1_204)
              have O_362 := O_352.wr W361 g_ch
              have E_x_363 := E_x_353.wr W361
              have Fv_x_364 := Fv_x_354.other W361 (Or.inl ne_x_ch)
              have Fc_x_365 := Fc_x_355.other W361 (Or.inl ne_x_ch)
              have KK_366 := KK_356.wr W361 (Or.inr sz_ch)
              have V_ch_361 : Arv Z h361 ch k_ch .char (6 : Int32) [(.int (nar .char (g 0))), (.int (nar .char (g 1))), (.int (0 : Int32)), (.int (0 : Int32)), (.int (0 : Int32)), (.int (0 : Int32))] (.int (0 : Int32)) := Arv.set Ar360 qk360 Sz360 Ng360 Hs360 Gs360 (fits_nar_char _) W361 1 rfl (Nat.le_of_ble_eq_true rfl)
              have N361 := Fr.snoc X361 N351 g_ch
              have Z368 : n0 ≤ h361.size := Nat.le_trans Z358 ((Keep.of_wr W361).1)
              obtain ⟨cl369, Ar369, Sz369, Hs369⟩ := own_Afkeep V KK_366 nin0
              have hin369 : ¬ ((2 : Int32) < 0 ∨ cl369.slots.size ≤ (2 : Int32).toNatClampNeg) := own_ofin (a := 2) Sz369 (by omega) (by omega)
              have hat369 : cl369.slots[(2 : Int32).toNatClampNeg]? = some (.int (g 2)) := own_hat Hs369 (j := 2) (by omega) (by omega)
              obtain ⟨cl370, Ar370, qk370, Sz370, Ng370, Hs370, Gs370⟩ := V_ch_361
              have hin370 : ¬ ((2 : Int32) < 0 ∨ cl370.slots.size ≤ ((2 : Int32)).toNatClampNeg) := inb_of Sz370 ⟨by decide, by decide⟩
              obtain ⟨T371, h371, X371, e371, W371, st371⟩ := stC X361 hx hZ e361 Ar370 (j := (2 : Int32)) hin370 (g := (mkF m 210 #[.val (.ref a1), .val (.int (Int32.ofNat rN))] [(.int (g 2)), (.int (2 : Int32)), (.ref ch), (.ref ch), (.ref x), (.ref x)])) rfl rfl (hb hby d1_210)
              have O_372 := O_362.wr W371 g_ch
              have E_x_373 := E_x_363.wr W371
              have Fv_x_374 := Fv_x_364.other W371 (Or.inl ne_x_ch)
              have Fc_x_375 := Fc_x_365.other W371 (Or.inl ne_x_ch)
              have KK_376 := KK_366.wr W371 (Or.inr sz_ch)
              have V_ch_371 : Arv Z h371 ch k_ch .char (6 : Int32) [(.int (nar .char (g 0))), (.int (nar .char (g 1))), (.int (nar .char (g 2))), (.int (0 : Int32)), (.int (0 : Int32)), (.int (0 : Int32))] (.int (0 : Int32)) := Arv.set Ar370 qk370 Sz370 Ng370 Hs370 Gs370 (fits_nar_char _) W371 2 rfl (Nat.le_of_ble_eq_true rfl)
              have N371 := Fr.snoc X371 N361 g_ch
              have Z378 : n0 ≤ h371.size := Nat.le_trans Z368 ((Keep.of_wr W371).1)
              obtain ⟨cl379, Ar379, Sz379, Hs379⟩ := own_Afkeep V KK_376 nin0
              have hin379 : ¬ ((3 : Int32) < 0 ∨ cl379.slots.size ≤ (3 : Int32).toNatClampNeg) := own_ofin (a := 3) Sz379 (by omega) (by omega)
              have hat379 : cl379.slots[(3 : Int32).toNatClampNeg]? = some (.int (g 3)) := own_hat Hs379 (j := 3) (by omega) (by omega)
              obtain ⟨cl380, Ar380, qk380, Sz380, Ng380, Hs380, Gs380⟩ := V_ch_371
              have hin380 : ¬ ((3 : Int32) < 0 ∨ cl380.slots.size ≤ ((3 : Int32)).toNatClampNeg) := inb_of Sz380 ⟨by decide, by decide⟩
              obtain ⟨T381, h381, X381, e381, W381, st381⟩ := stC X371 hx hZ e371 Ar380 (j := (3 : Int32)) hin380 (g := (mkF m 216 #[.val (.ref a1), .val (.int (Int32.ofNat rN))] [(.int (g 3)), (.int (3 : Int32)), (.ref ch), (.ref ch), (.ref x), (.ref x)])) rfl rfl (hb hby d1_216)
              have O_382 := O_372.wr W381 g_ch
              have E_x_383 := E_x_373.wr W381
              have Fv_x_384 := Fv_x_374.other W381 (Or.inl ne_x_ch)
              have Fc_x_385 := Fc_x_375.other W381 (Or.inl ne_x_ch)
              have KK_386 := KK_376.wr W381 (Or.inr sz_ch)
              have V_ch_381 : Arv Z h381 ch k_ch .char (6 : Int32) [(.int (nar .char (g 0))), (.int (nar .char (g 1))), (.int (nar .char (g 2))), (.int (nar .char (g 3))), (.int (0 : Int32)), (.int (0 : Int32))] (.int (0 : Int32)) := Arv.set Ar380 qk380 Sz380 Ng380 Hs380 Gs380 (fits_nar_char _) W381 3 rfl (Nat.le_of_ble_eq_true rfl)
              have N381 := Fr.snoc X381 N371 g_ch
              have Z388 : n0 ≤ h381.size := Nat.le_trans Z378 ((Keep.of_wr W381).1)
              have pre389 : ∀ t_, Steps p.tables e below (T381.setTop (mkF m 218 #[.val (.ref a1), .val (.int (Int32.ofNat rN))] [(.ref ch), (.ref ch), (.ref x), (.ref x)])) t_ → Steps p.tables e below (s₁.setTop (entryFrame m #[(.ref a1), (.int (Int32.ofNat rN))] 2)) t_ := fun t_ k_ => pre274 _ (by
                show Steps p.tables e below (s₁.setTop (mkF m 141 #[.val (.ref a1), .val (.int (Int32.ofNat rN))] [(.int (5 : Int32)), (.int (Int32.ofNat rN))])) _
                refine XS.icmpYes X0.here hx rfl (pc0 := 141) (pc' := 185) rfl (hb hby d1_141) rfl (feq (own_ofne (b := 5) (by omega) (by omega) hN5 : ¬ Int32.ofNat rN = (5 : Int32))).2 (by decide) (by decide) ?_
                show Steps p.tables e below (s₁.setTop (mkF m 185 #[.val (.ref a1), .val (.int (Int32.ofNat rN))] [])) _
                refine st339 _ ?_
                show Steps p.tables e below (T339.setTop (mkF m 188 #[.val (.ref a1), .val (.int (Int32.ofNat rN))] [(.ref x)])) _
                refine XS.dup X339.here hx rfl (hb hby d1_188) rfl rfl ?_
                show Steps p.tables e below (T339.setTop (mkF m 189 #[.val (.ref a1), .val (.int (Int32.ofNat rN))] [(.ref x), (.ref x)])) _
                refine XS.bipush X339.here hx rfl (hb hby d1_189) ?_
                show Steps p.tables e below (T339.setTop (mkF m 191 #[.val (.ref a1), .val (.int (Int32.ofNat rN))] [(.int (6 : Int32)), (.ref x), (.ref x)])) _
                refine st342 _ ?_
                show Steps p.tables e below (T342.setTop (mkF m 193 #[.val (.ref a1), .val (.int (Int32.ofNat rN))] [(.ref ch), (.ref x), (.ref x)])) _
                refine XS.dup X342.here hx rfl (hb hby d1_193) rfl rfl ?_
                show Steps p.tables e below (T342.setTop (mkF m 194 #[.val (.ref a1), .val (.int (Int32.ofNat rN))] [(.ref ch), (.ref ch), (.ref x), (.ref x)])) _
                refine XS.iconst X342.here hx rfl (hb hby d1_194) ?_
                show Steps p.tables e below (T342.setTop (mkF m 195 #[.val (.ref a1), .val (.int (Int32.ofNat rN))] [(.int (0 : Int32)), (.ref ch), (.ref ch), (.ref x), (.ref x)])) _
                refine XS.aloadN X342.here hx rfl (hb hby d1_195) rfl rfl ?_
                show Steps p.tables e below (T342.setTop (mkF m 196 #[.val (.ref a1), .val (.int (Int32.ofNat rN))] [(.ref a1), (.int (0 : Int32)), (.ref ch), (.ref ch), (.ref x), (.ref x)])) _
                refine XS.iconst X342.here hx rfl (hb hby d1_196) ?_
                show Steps p.tables e below (T342.setTop (mkF m 197 #[.val (.ref a1), .val (.int (Int32.ofNat rN))] [(.int (0 : Int32)), (.ref a1), (.int (0 : Int32)), (.ref ch), (.ref ch), (.ref x), (.ref x)])) _
                refine X342.caload hx (j := (0 : Int32)) (v := (.int (g 0))) (by rw [e342]; exact Ar349.1) (State.isArrayOf_alike hZ.alike Ar349.2.1) Ar349.2.2 hin349 hat349 (g := (mkF m 197 #[.val (.ref a1), .val (.int (Int32.ofNat rN))] [(.int (0 : Int32)), (.ref a1), (.int (0 : Int32)), (.ref ch), (.ref ch), (.ref x), (.ref x)])) rfl rfl (hb hby d1_197) _ ?_
                show Steps p.tables e below (T342.setTop (mkF m 198 #[.val (.ref a1), .val (.int (Int32.ofNat rN))] [(.int (g 0)), (.int (0 : Int32)), (.ref ch), (.ref ch), (.ref x), (.ref x)])) _
                refine st351 _ ?_
                show Steps p.tables e below (T351.setTop (mkF m 199 #[.val (.ref a1), .val (.int (Int32.ofNat rN))] [(.ref ch), (.ref x), (.ref x)])) _
                refine XS.dup X351.here hx rfl (hb hby d1_199) rfl rfl ?_
                show Steps p.tables e below (T351.setTop (mkF m 200 #[.val (.ref a1), .val (.int (Int32.ofNat rN))] [(.ref ch), (.ref ch), (.ref x), (.ref x)])) _
                refine XS.iconst X351.here hx rfl (hb hby d1_200) ?_
                show Steps p.tables e below (T351.setTop (mkF m 201 #[.val (.ref a1), .val (.int (Int32.ofNat rN))] [(.int (1 : Int32)), (.ref ch), (.ref ch), (.ref x), (.ref x)])) _
                refine XS.aloadN X351.here hx rfl (hb hby d1_201) rfl rfl ?_
                show Steps p.tables e below (T351.setTop (mkF m 202 #[.val (.ref a1), .val (.int (Int32.ofNat rN))] [(.ref a1), (.int (1 : Int32)), (.ref ch), (.ref ch), (.ref x), (.ref x)])) _
                refine XS.iconst X351.here hx rfl (hb hby d1_202) ?_
                show Steps p.tables e below (T351.setTop (mkF m 203 #[.val (.ref a1), .val (.int (Int32.ofNat rN))] [(.int (1 : Int32)), (.ref a1), (.int (1 : Int32)), (.ref ch), (.ref ch), (.ref x), (.ref x)])) _
                refine X351.caload hx (j := (1 : Int32)) (v := (.int (g 1))) (by rw [e351]; exact Ar359.1) (State.isArrayOf_alike hZ.alike Ar359.2.1) Ar359.2.2 hin359 hat359 (g := (mkF m 203 #[.val (.ref a1), .val (.int (Int32.ofNat rN))] [(.int (1 : Int32)), (.ref a1), (.int (1 : Int32)), (.ref ch), (.ref ch), (.ref x), (.ref x)])) rfl rfl (hb hby d1_203) _ ?_
                show Steps p.tables e below (T351.setTop (mkF m 204 #[.val (.ref a1), .val (.int (Int32.ofNat rN))] [(.int (g 1)), (.int (1 : Int32)), (.ref ch), (.ref ch), (.ref x), (.ref x)])) _
                refine st361 _ ?_
                show Steps p.tables e below (T361.setTop (mkF m 205 #[.val (.ref a1), .val (.int (Int32.ofNat rN))] [(.ref ch), (.ref x), (.ref x)])) _
                refine XS.dup X361.here hx rfl (hb hby d1_205) rfl rfl ?_
                show Steps p.tables e below (T361.setTop (mkF m 206 #[.val (.ref a1), .val (.int (Int32.ofNat rN))] [(.ref ch), (.ref ch), (.ref x), (.ref x)])) _
                refine XS.iconst X361.here hx rfl (hb hby d1_206) ?_
                show Steps p.tables e below (T361.setTop (mkF m 207 #[.val (.ref a1), .val (.int (Int32.ofNat rN))] [(.int (2 : Int32)), (.ref ch), (.ref ch), (.ref x), (.ref x)])) _
                refine XS.aloadN X361.here hx rfl (hb hby d1_207) rfl rfl ?_
                show Steps p.tables e below (T361.setTop (mkF m 208 #[.val (.ref a1), .val (.int (Int32.ofNat rN))] [(.ref a1), (.int (2 : Int32)), (.ref ch), (.ref ch), (.ref x), (.ref x)])) _
                refine XS.iconst X361.here hx rfl (hb hby d1_208) ?_
                show Steps p.tables e below (T361.setTop (mkF m 209 #[.val (.ref a1), .val (.int (Int32.ofNat rN))] [(.int (2 : Int32)), (.ref a1), (.int (2 : Int32)), (.ref ch), (.ref ch), (.ref x), (.ref x)])) _
                refine X361.caload hx (j := (2 : Int32)) (v := (.int (g 2))) (by rw [e361]; exact Ar369.1) (State.isArrayOf_alike hZ.alike Ar369.2.1) Ar369.2.2 hin369 hat369 (g := (mkF m 209 #[.val (.ref a1), .val (.int (Int32.ofNat rN))] [(.int (2 : Int32)), (.ref a1), (.int (2 : Int32)), (.ref ch), (.ref ch), (.ref x), (.ref x)])) rfl rfl (hb hby d1_209) _ ?_
                show Steps p.tables e below (T361.setTop (mkF m 210 #[.val (.ref a1), .val (.int (Int32.ofNat rN))] [(.int (g 2)), (.int (2 : Int32)), (.ref ch), (.ref ch), (.ref x), (.ref x)])) _
                refine st371 _ ?_
                show Steps p.tables e below (T371.setTop (mkF m 211 #[.val (.ref a1), .val (.int (Int32.ofNat rN))] [(.ref ch), (.ref x), (.ref x)])) _
                refine XS.dup X371.here hx rfl (hb hby d1_211) rfl rfl ?_
                show Steps p.tables e below (T371.setTop (mkF m 212 #[.val (.ref a1), .val (.int (Int32.ofNat rN))] [(.ref ch), (.ref ch), (.ref x), (.ref x)])) _
                refine XS.iconst X371.here hx rfl (hb hby d1_212) ?_
                show Steps p.tables e below (T371.setTop (mkF m 213 #[.val (.ref a1), .val (.int (Int32.ofNat rN))] [(.int (3 : Int32)), (.ref ch), (.ref ch), (.ref x), (.ref x)])) _
                refine XS.aloadN X371.here hx rfl (hb hby d1_213) rfl rfl ?_
                show Steps p.tables e below (T371.setTop (mkF m 214 #[.val (.ref a1), .val (.int (Int32.ofNat rN))] [(.ref a1), (.int (3 : Int32)), (.ref ch), (.ref ch), (.ref x), (.ref x)])) _
                refine XS.iconst X371.here hx rfl (hb hby d1_214) ?_
                show Steps p.tables e below (T371.setTop (mkF m 215 #[.val (.ref a1), .val (.int (Int32.ofNat rN))] [(.int (3 : Int32)), (.ref a1), (.int (3 : Int32)), (.ref ch), (.ref ch), (.ref x), (.ref x)])) _
                refine X371.caload hx (j := (3 : Int32)) (v := (.int (g 3))) (by rw [e371]; exact Ar379.1) (State.isArrayOf_alike hZ.alike Ar379.2.1) Ar379.2.2 hin379 hat379 (g := (mkF m 215 #[.val (.ref a1), .val (.int (Int32.ofNat rN))] [(.int (3 : Int32)), (.ref a1), (.int (3 : Int32)), (.ref ch), (.ref ch), (.ref x), (.ref x)])) rfl rfl (hb hby d1_215) _ ?_
                show Steps p.tables e below (T371.setTop (mkF m 216 #[.val (.ref a1), .val (.int (Int32.ofNat rN))] [(.int (g 3)), (.int (3 : Int32)), (.ref ch), (.ref ch), (.ref x), (.ref x)])) _
                refine st381 _ ?_
                show Steps p.tables e below (T381.setTop (mkF m 217 #[.val (.ref a1), .val (.int (Int32.ofNat rN))] [(.ref ch), (.ref x), (.ref x)])) _
                refine XS.dup X381.here hx rfl (hb hby d1_217) rfl rfl ?_
                exact k_)
              obtain ⟨cl390, Ar390, Sz390, Hs390⟩ := own_Afkeep V KK_386 nin0
              have hin390 : ¬ ((4 : Int32) < 0 ∨ cl390.slots.size ≤ (4 : Int32).toNatClampNeg) := own_ofin (a := 4) Sz390 (by omega) (by omega)
              have hat390 : cl390.slots[(4 : Int32).toNatClampNeg]? = some (.int (g 4)) := own_hat Hs390 (j := 4) (by omega) (by omega)
              obtain ⟨cl391, Ar391, qk391, Sz391, Ng391, Hs391, Gs391⟩ := V_ch_381
              have hin391 : ¬ ((4 : Int32) < 0 ∨ cl391.slots.size ≤ ((4 : Int32)).toNatClampNeg) := inb_of Sz391 ⟨by decide, by decide⟩
              obtain ⟨T392, h392, X392, e392, W392, st392⟩ := stC X381 hx hZ e381 Ar391 (j := (4 : Int32)) hin391 (g := (mkF m 222 #[.val (.ref a1), .val (.int (Int32.ofNat rN))] [(.int (g 4)), (.int (4 : Int32)), (.ref ch), (.ref ch), (.ref x), (.ref x)])) rfl rfl (hb hby d1_222)
              have O_393 := O_382.wr W392 g_ch
              have E_x_394 := E_x_383.wr W392
              have Fv_x_395 := Fv_x_384.other W392 (Or.inl ne_x_ch)
              have Fc_x_396 := Fc_x_385.other W392 (Or.inl ne_x_ch)
              have KK_397 := KK_386.wr W392 (Or.inr sz_ch)
              have V_ch_392 : Arv Z h392 ch k_ch .char (6 : Int32) [(.int (nar .char (g 0))), (.int (nar .char (g 1))), (.int (nar .char (g 2))), (.int (nar .char (g 3))), (.int (nar .char (g 4))), (.int (0 : Int32))] (.int (0 : Int32)) := Arv.set Ar391 qk391 Sz391 Ng391 Hs391 Gs391 (fits_nar_char _) W392 4 rfl (Nat.le_of_ble_eq_true rfl)
              have N392 := Fr.snoc X392 N381 g_ch
              have Z399 : n0 ≤ h392.size := Nat.le_trans Z388 ((Keep.of_wr W392).1)
              obtain ⟨cl400, Ar400, Sz400, Hs400⟩ := own_Afkeep V KK_397 nin0
              have hin400 : ¬ ((5 : Int32) < 0 ∨ cl400.slots.size ≤ (5 : Int32).toNatClampNeg) := own_ofin (a := 5) Sz400 (by omega) (by omega)
              have hat400 : cl400.slots[(5 : Int32).toNatClampNeg]? = some (.int (g 5)) := own_hat Hs400 (j := 5) (by omega) (by omega)
              obtain ⟨cl401, Ar401, qk401, Sz401, Ng401, Hs401, Gs401⟩ := V_ch_392
              have hin401 : ¬ ((5 : Int32) < 0 ∨ cl401.slots.size ≤ ((5 : Int32)).toNatClampNeg) := inb_of Sz401 ⟨by decide, by decide⟩
              obtain ⟨T402, h402, X402, e402, W402, st402⟩ := stC X392 hx hZ e392 Ar401 (j := (5 : Int32)) hin401 (g := (mkF m 228 #[.val (.ref a1), .val (.int (Int32.ofNat rN))] [(.int (g 5)), (.int (5 : Int32)), (.ref ch), (.ref ch), (.ref x), (.ref x)])) rfl rfl (hb hby d1_228)
              have O_403 := O_393.wr W402 g_ch
              have E_x_404 := E_x_394.wr W402
              have Fv_x_405 := Fv_x_395.other W402 (Or.inl ne_x_ch)
              have Fc_x_406 := Fc_x_396.other W402 (Or.inl ne_x_ch)
              have KK_407 := KK_397.wr W402 (Or.inr sz_ch)
              have V_ch_402 : Arv Z h402 ch k_ch .char (6 : Int32) [(.int (nar .char (g 0))), (.int (nar .char (g 1))), (.int (nar .char (g 2))), (.int (nar .char (g 3))), (.int (nar .char (g 4))), (.int (nar .char (g 5)))] (.int (0 : Int32)) := Arv.set Ar401 qk401 Sz401 Ng401 Hs401 Gs401 (fits_nar_char _) W402 5 rfl (Nat.le_of_ble_eq_true rfl)
              have N402 := Fr.snoc X402 N392 g_ch
              have Z409 : n0 ≤ h402.size := Nat.le_trans Z399 ((Keep.of_wr W402).1)
              have VC := V_ch_402
              rw [own_nc (rg 0 (by omega)), own_nc (rg 1 (by omega)), own_nc (rg 2 (by omega)), own_nc (rg 3 (by omega)), own_nc (rg 4 (by omega)), own_nc (rg 5 (by omega))] at VC
              have AC := own_AfA (n := 6) (g := g) VC (by omega) (fun j hj => match j, hj with | 0, _ => rfl | 1, _ => rfl | 2, _ => rfl | 3, _ => rfl | 4, _ => rfl | 5, _ => rfl | (j + 6), h => absurd h (by omega))
              obtain ⟨_, _, ⟨T410, L410, k410, n410⟩, -, X410, ⟨Lc410, hQ410, l410, y410, z410⟩, st410⟩ := X402.specialBack hx (y := (⟨"java/lang/String", "<init>", "([C)V"⟩ : MethodName)) rfl hown (mvT hZ (hw _ (List.mem_of_getElem? (i := 8) rfl))) (mvT hZ (hw _ (List.mem_of_getElem? (i := 9) rfl))) (mvT hZ (hw _ (List.mem_of_getElem? (i := 10) rfl))) (by decide) (backOf (W := 1) (rmI1 l Z a0 hw [] x ch 6 g zc h402 n0 Z409 E_x_404 Fv_x_405 Fc_x_406 g_x S_a S_h S_l O_403 S_c hzc (by omega) (by omega) (fun j hj => rg j (by omega)) AC) hZ (hw _ (List.mem_of_getElem? (i := 10) rfl)) (hw _ (List.mem_of_getElem? (i := 7) rfl)) (by decide) (by decide)) (g := (mkF m 229 #[.val (.ref a1), .val (.int (Int32.ofNat rN))] [(.ref ch), (.ref x), (.ref x)])) rfl (by rw [hml]; rfl) (Steps.refl _) (a := x) (argsL := [(.ref ch)]) (rest := [(.ref x)]) (lenOf pd_16 rfl) rfl (by show 2 * 0 + _ ≤ _; exact Nat.le_of_eq rfl) (hb hby d1_229) (fun _ _ => ⟨rfl, e402, (by decide : 2 + 2 ≤ _), (by decide : 10 + 18 ≤ _)⟩)
              dsimp only [Pt.U, Pt.locs, Pt.cells, Pt.slots] at X410 l410 y410 z410 st410 hQ410
              subst l410 y410 z410
              obtain ⟨rfl, N410q, K410, SX⟩ := hQ410
              have N410 := Fr.app N402 N410q
              have K_x := KK_407.trans K410 (allS (Or.inr (Nat.le_of_eq eq_x.symm)) all0)
              have Z411 : n0 ≤ T410.heap.size := Nat.le_trans Z409 (K410.1)
              have pre412 : ∀ t_, Steps p.tables e below (T410.setTop (mkF m 232 #[.val (.ref a1), .val (.int (Int32.ofNat rN))] [(.ref x)])) t_ → Steps p.tables e below (s₁.setTop (entryFrame m #[(.ref a1), (.int (Int32.ofNat rN))] 2)) t_ := fun t_ k_ => pre389 _ (by
                show Steps p.tables e below (T381.setTop (mkF m 218 #[.val (.ref a1), .val (.int (Int32.ofNat rN))] [(.ref ch), (.ref ch), (.ref x), (.ref x)])) _
                refine XS.iconst X381.here hx rfl (hb hby d1_218) ?_
                show Steps p.tables e below (T381.setTop (mkF m 219 #[.val (.ref a1), .val (.int (Int32.ofNat rN))] [(.int (4 : Int32)), (.ref ch), (.ref ch), (.ref x), (.ref x)])) _
                refine XS.aloadN X381.here hx rfl (hb hby d1_219) rfl rfl ?_
                show Steps p.tables e below (T381.setTop (mkF m 220 #[.val (.ref a1), .val (.int (Int32.ofNat rN))] [(.ref a1), (.int (4 : Int32)), (.ref ch), (.ref ch), (.ref x), (.ref x)])) _
                refine XS.iconst X381.here hx rfl (hb hby d1_220) ?_
                show Steps p.tables e below (T381.setTop (mkF m 221 #[.val (.ref a1), .val (.int (Int32.ofNat rN))] [(.int (4 : Int32)), (.ref a1), (.int (4 : Int32)), (.ref ch), (.ref ch), (.ref x), (.ref x)])) _
                refine X381.caload hx (j := (4 : Int32)) (v := (.int (g 4))) (by rw [e381]; exact Ar390.1) (State.isArrayOf_alike hZ.alike Ar390.2.1) Ar390.2.2 hin390 hat390 (g := (mkF m 221 #[.val (.ref a1), .val (.int (Int32.ofNat rN))] [(.int (4 : Int32)), (.ref a1), (.int (4 : Int32)), (.ref ch), (.ref ch), (.ref x), (.ref x)])) rfl rfl (hb hby d1_221) _ ?_
                show Steps p.tables e below (T381.setTop (mkF m 222 #[.val (.ref a1), .val (.int (Int32.ofNat rN))] [(.int (g 4)), (.int (4 : Int32)), (.ref ch), (.ref ch), (.ref x), (.ref x)])) _
                refine st392 _ ?_
                show Steps p.tables e below (T392.setTop (mkF m 223 #[.val (.ref a1), .val (.int (Int32.ofNat rN))] [(.ref ch), (.ref x), (.ref x)])) _
                refine XS.dup X392.here hx rfl (hb hby d1_223) rfl rfl ?_
                show Steps p.tables e below (T392.setTop (mkF m 224 #[.val (.ref a1), .val (.int (Int32.ofNat rN))] [(.ref ch), (.ref ch), (.ref x), (.ref x)])) _
                refine XS.iconst X392.here hx rfl (hb hby d1_224) ?_
                show Steps p.tables e below (T392.setTop (mkF m 225 #[.val (.ref a1), .val (.int (Int32.ofNat rN))] [(.int (5 : Int32)), (.ref ch), (.ref ch), (.ref x), (.ref x)])) _
                refine XS.aloadN X392.here hx rfl (hb hby d1_225) rfl rfl ?_
                show Steps p.tables e below (T392.setTop (mkF m 226 #[.val (.ref a1), .val (.int (Int32.ofNat rN))] [(.ref a1), (.int (5 : Int32)), (.ref ch), (.ref ch), (.ref x), (.ref x)])) _
                refine XS.iconst X392.here hx rfl (hb hby d1_226) ?_
                show Steps p.tables e below (T392.setTop (mkF m 227 #[.val (.ref a1), .val (.int (Int32.ofNat rN))] [(.int (5 : Int32)), (.ref a1), (.int (5 : Int32)), (.ref ch), (.ref ch), (.ref x), (.ref x)])) _
                refine X392.caload hx (j := (5 : Int32)) (v := (.int (g 5))) (by rw [e392]; exact Ar400.1) (State.isArrayOf_alike hZ.alike Ar400.2.1) Ar400.2.2 hin400 hat400 (g := (mkF m 227 #[.val (.ref a1), .val (.int (Int32.ofNat rN))] [(.int (5 : Int32)), (.ref a1), (.int (5 : Int32)), (.ref ch), (.ref ch), (.ref x), (.ref x)])) rfl rfl (hb hby d1_227) _ ?_
                show Steps p.tables e below (T392.setTop (mkF m 228 #[.val (.ref a1), .val (.int (Int32.ofNat rN))] [(.int (g 5)), (.int (5 : Int32)), (.ref ch), (.ref ch), (.ref x), (.ref x)])) _
                refine st402 _ ?_
                show Steps p.tables e below (T402.setTop (mkF m 229 #[.val (.ref a1), .val (.int (Int32.ofNat rN))] [(.ref ch), (.ref x), (.ref x)])) _
                refine st410.trans ?_
                exact k_)
              obtain ⟨fs, hr, hrun, hended, hW, hsame⟩ := X410.leave (v := some (.ref x)) (fun h => by rw [Bd.returns] at h; cases h)
              refine ⟨_, _, pre412 _ ?_, hrun, hended, _, _, rfl, ?_, (by show CHr Z own_EL s.vm s.heap T410.vm T410.heap; rw [hh]; exact (CHr.keep K_x (fun _ q => nomatch q) hH).trans (CHv.at (s := s) (vm0 := s.vm) X410 hZ (own_EW hw) (CHr.keep K_x (fun _ q => nomatch q) hH).1)), ReturnedEndW.of_narrow ⟨_, rfl⟩ hW (hsame.mono (by decide) (by decide))⟩
              · show Steps p.tables e below (T410.setTop (mkF m 232 #[.val (.ref a1), .val (.int (Int32.ofNat rN))] [(.ref x)])) _
                jvm_step X410.here [X410.here.top, hx, (hb hby d1_232), X410.method', Bd.returns, Value.isRef, FieldType.isReference]
                first | (intro acts; rw [hr _ acts rfl rfl rfl]) | rw [hr _ _ rfl rfl rfl]
                exact Steps.refl _
              · show QrmMk Z a1 rN g zc ks h0 n0 _ T410.heap _
                exact ⟨x, rfl, N410, K_x, by rw [hN6]; exact SX, Nat.le_of_eq eq_x.symm⟩
theorem d5_0 : decode prog_25_method_2_code 0 = .ok (.aload_n 1, 1) := by decide +kernel
theorem d5_1 : decode prog_25_method_2_code 1 = .ok (.ifnonnull 5, 3) := by decide +kernel
theorem d5_4 : decode prog_25_method_2_code 4 = .ok (.aconst_null, 1) := by decide +kernel
theorem d5_5 : decode prog_25_method_2_code 5 = .ok (.areturn, 1) := by decide +kernel
theorem pn_5 : plainName "com/example/ledgerpost/ledgerpost/StorableText" = true := by first | (simp [plainName, overriddenIn]; done) | decide +kernel
theorem ef_rmRn (m : MethodId) (x0 : Addr) : entryFrame m #[(.ref x0), .null] 4 = mkF m 0 #[.val (.ref x0), .val .null, .unset, .unset] [] := by first | (simp [entryFrame, mkF, argsToLocals, Value.category]; done) | rfl
def QrmRn (Z : State) (a1 : Addr) (h0 : Heap) (n0 : Nat) (v : Option Value) (h : Heap) (L : List Loc) : Prop := v = some .null ∧ Fr n0 L ∧ h = h0
set_option maxRecDepth 65536 in
set_option maxHeartbeats 40000000 in
theorem rmRn (l : Launch) (Z : State) (a0 : Array Value) (hw : ∀ d ∈ tables_1, d.before a0 Z = true) (ws : List Jvm.Cond) (a1 : Addr) (h0 : Heap) (n0 : Nat) (Z0 : n0 ≤ h0.size) :
    MetFree l (⟨"com/example/ledgerpost/ledgerpost/StorableText", "require", "(Ljava/lang/String;Ljava/lang/String;)Ljava/lang/String;"⟩ : MethodName) (head1 (Jvm.Cond.code (⟨"com/example/ledgerpost/ledgerpost/StorableText", "require", "(Ljava/lang/String;Ljava/lang/String;)Ljava/lang/String;"⟩ : MethodName) prog_25_method_2_code 4 (some (.object "java/lang/String")) :: ws) ({ frames := 0, cells := 0, slots := 0, locals := 0 } : Room)) (fun a U => a = #[(.ref a1), .null] ∧ Z.Warmed39 U.vm ∧ U.heap = h0) (fun _ _ _ _ _ => True) (fun _ U o U' => ∃ v L, o = .returned v ∧ QrmRn Z a1 h0 n0 v U'.heap L ∧ FrameEnd U o U' L ({ frames := 0, cells := 0, slots := 0, locals := 0 } : Room).cells ({ frames := 0, cells := 0, slots := 0, locals := 0 } : Room).slots) := by
  refine MetFree.of_bodySF (plainFor_of_name pn_5) hisR ?_
  intro p e s m args below meth c s₁ Bd hml0 hP hK
  obtain ⟨rfl, hZ, hh⟩ := hP
  have hx := Bd.exec
  have hby := Bd.bytes
  have hml : c.maxLocals = 4 := hml0
  have hown : s.vm.findClass "com/example/ledgerpost/ledgerpost/StorableText" = some m.cls := findClass_of_methodNamed Bd.named
  have hnm := (name_of_methodNamed Bd.named Bd.method).1
  have X0 : Stand p l e ({ frames := 0, cells := 0, slots := 0, locals := 0 } : Room) s m #[(.ref a1), .null] below meth c s₁ [] 0 0 := Stand.of_body Bd
  have e0 : s₁.heap = h0 := by rw [← hh, Bd.state]; rfl
  have N0 := Fr.nil n0
  have pre0 : ∀ t_, Steps p.tables e below (s₁.setTop (mkF m 0 #[.val (.ref a1), .val .null, .unset, .unset] [])) t_ → Steps p.tables e below (s₁.setTop (entryFrame m #[(.ref a1), .null] 4)) t_ := fun t_ k_ => castTop (ef_rmRn m a1) k_
  have pre101 : ∀ t_, Steps p.tables e below (s₁.setTop (mkF m 5 #[.val (.ref a1), .val .null, .unset, .unset] [.null])) t_ → Steps p.tables e below (s₁.setTop (entryFrame m #[(.ref a1), .null] 4)) t_ := fun t_ k_ => pre0 _ (by
    show Steps p.tables e below (s₁.setTop (mkF m 0 #[.val (.ref a1), .val .null, .unset, .unset] [])) _
    refine XS.aloadN X0.here hx rfl (hb hby d5_0) rfl rfl ?_
    show Steps p.tables e below (s₁.setTop (mkF m 1 #[.val (.ref a1), .val .null, .unset, .unset] [.null])) _
    refine XS.ifnonnullNo X0.here hx rfl (hb hby d5_1) rfl ?_
    show Steps p.tables e below (s₁.setTop (mkF m 4 #[.val (.ref a1), .val .null, .unset, .unset] [])) _
    refine XS.aconstNull X0.here hx rfl (hb hby d5_4) ?_
    exact k_)
  obtain ⟨fs, hr, hrun, hended, hW, hsame⟩ := X0.leave (v := some .null) (fun h => by rw [Bd.returns] at h; cases h)
  refine ⟨_, _, pre101 _ ?_, hrun, hended, _, _, rfl, ?_, ⟨_, rfl⟩, hW, hsame.mono (by decide) (by decide)⟩
  · show Steps p.tables e below (s₁.setTop (mkF m 5 #[.val (.ref a1), .val .null, .unset, .unset] [.null])) _
    jvm_step X0.here [X0.here.top, hx, (hb hby d5_5), X0.method', Bd.returns, Value.isRef, FieldType.isReference]
    first | (intro acts; rw [hr _ acts rfl rfl rfl]) | rw [hr _ _ rfl rfl rfl]
    exact Steps.refl _
  · show QrmRn Z a1 h0 n0 _ s₁.heap _
    rw [e0]
    exact ⟨rfl, N0, rfl⟩
theorem pd_17 : parseMethodDescriptor "()I" = some ⟨[], some .int⟩ := by decide +kernel
theorem d5_6 : decode prog_25_method_2_code 6 = .ok (.iconst 0, 1) := by decide +kernel
theorem d5_7 : decode prog_25_method_2_code 7 = .ok (.istore_n 2, 1) := by decide +kernel
theorem d5_8 : decode prog_25_method_2_code 8 = .ok (.iload_n 2, 1) := by decide +kernel
theorem d5_9 : decode prog_25_method_2_code 9 = .ok (.aload_n 1, 1) := by decide +kernel
theorem d5_10 : decode prog_25_method_2_code 10 = .ok (.invokevirtual 7, 3) := by decide +kernel
theorem d5_13 : decode prog_25_method_2_code 13 = .ok (.if_icmp .ge 65, 3) := by decide +kernel
theorem d5_16 : decode prog_25_method_2_code 16 = .ok (.aload_n 1, 1) := by decide +kernel
theorem d5_17 : decode prog_25_method_2_code 17 = .ok (.iload_n 2, 1) := by decide +kernel
theorem d5_18 : decode prog_25_method_2_code 18 = .ok (.invokevirtual 13, 3) := by decide +kernel
theorem d5_21 : decode prog_25_method_2_code 21 = .ok (.istore_n 3, 1) := by decide +kernel
theorem d5_22 : decode prog_25_method_2_code 22 = .ok (.iload_n 3, 1) := by decide +kernel
theorem d5_23 : decode prog_25_method_2_code 23 = .ok (.ifCond .ne 18, 3) := by decide +kernel
theorem d5_41 : decode prog_25_method_2_code 41 = .ok (.iload_n 3, 1) := by decide +kernel
theorem d5_42 : decode prog_25_method_2_code 42 = .ok (.ldc 28, 2) := by decide +kernel
theorem d5_44 : decode prog_25_method_2_code 44 = .ok (.if_icmp .lt 24, 3) := by decide +kernel
theorem d5_47 : decode prog_25_method_2_code 47 = .ok (.iload_n 3, 1) := by decide +kernel
theorem d5_48 : decode prog_25_method_2_code 48 = .ok (.ldc 29, 2) := by decide +kernel
theorem d5_50 : decode prog_25_method_2_code 50 = .ok (.if_icmp .gt 18, 3) := by decide +kernel
theorem d5_68 : decode prog_25_method_2_code 68 = .ok (.iload_n 2, 1) := by decide +kernel
theorem d5_69 : decode prog_25_method_2_code 69 = .ok (.iload_n 3, 1) := by decide +kernel
theorem d5_70 : decode prog_25_method_2_code 70 = .ok (.invokestatic 31, 3) := by decide +kernel
theorem d5_73 : decode prog_25_method_2_code 73 = .ok (.iadd, 1) := by decide +kernel
theorem d5_74 : decode prog_25_method_2_code 74 = .ok (.istore_n 2, 1) := by decide +kernel
theorem d5_75 : decode prog_25_method_2_code 75 = .ok (.goto (-67), 3) := by decide +kernel
theorem d5_78 : decode prog_25_method_2_code 78 = .ok (.aload_n 1, 1) := by decide +kernel
theorem d5_79 : decode prog_25_method_2_code 79 = .ok (.areturn, 1) := by decide +kernel
theorem ef_rmRq (m : MethodId) (x0 : Addr) (x1 : Addr) : entryFrame m #[(.ref x0), (.ref x1)] 4 = mkF m 0 #[.val (.ref x0), .val (.ref x1), .unset, .unset] [] := by first | (simp [entryFrame, mkF, argsToLocals, Value.category]; done) | rfl
def QrmRq (Z : State) (a1 : Addr) (a2 : Addr) (nN : Nat) (g : Nat → Int32) (zc : Int32) (fm : Value) (ks : List Bool) (h0 : Heap) (n0 : Nat) (v : Option Value) (h : Heap) (L : List Loc) : Prop := v = some (.ref a2) ∧ Fr n0 L ∧ h = h0
set_option maxRecDepth 65536 in
set_option maxHeartbeats 40000000 in
theorem rmRq (l : Launch) (Z : State) (a0 : Array Value) (hw : ∀ d ∈ tables_1, d.before a0 Z = true) (ws : List Jvm.Cond) (a1 : Addr) (a2 : Addr) (nN : Nat) (g : Nat → Int32) (zc : Int32) (fm : Value) (ks : List Bool) (h0 : Heap) (n0 : Nat) (Z0 : n0 ≤ h0.size) (S_a : Sta Z Z.heap "java/lang/StringUTF16" "$assertionsDisabled" "Z" (.int (1 : Int32))) (S_h : Sta Z Z.heap "java/lang/StringUTF16" "HI_BYTE_SHIFT" "I" (.int (0 : Int32))) (S_l : Sta Z Z.heap "java/lang/StringUTF16" "LO_BYTE_SHIFT" "I" (.int (8 : Int32))) (O : Old Z n0 h0) (S_c : Sta Z Z.heap "java/lang/String" "COMPACT_STRINGS" "Z" (.int zc)) (hzc : ¬ zc = 0) (S_f : Sta Z Z.heap "jdk/internal/util/Preconditions" "SIOOBE_FORMATTER" "Ljava/util/function/BiFunction;" fm) (hf : fm.isRef = true) (b1 : nN ≤ 6) (TS : own_S Z h0 a2 nN g) (Wg : own_W g nN ks 0) :
    MetFree l (⟨"com/example/ledgerpost/ledgerpost/StorableText", "require", "(Ljava/lang/String;Ljava/lang/String;)Ljava/lang/String;"⟩ : MethodName) (head1 (Jvm.Cond.code (⟨"com/example/ledgerpost/ledgerpost/StorableText", "require", "(Ljava/lang/String;Ljava/lang/String;)Ljava/lang/String;"⟩ : MethodName) prog_25_method_2_code 4 (some (.object "java/lang/String")) :: ws) ({ frames := 4, cells := 0, slots := 0, locals := 58 } : Room)) (fun a U => a = #[(.ref a1), (.ref a2)] ∧ Z.Warmed39 U.vm ∧ U.heap = h0) (fun _ _ _ _ _ => True) (fun _ U o U' => ∃ v L, o = .returned v ∧ QrmRq Z a1 a2 nN g zc fm ks h0 n0 v U'.heap L ∧ FrameEnd U o U' L ({ frames := 4, cells := 0, slots := 0, locals := 58 } : Room).cells ({ frames := 4, cells := 0, slots := 0, locals := 58 } : Room).slots) := by
  refine MetFree.of_bodySF (plainFor_of_name pn_5) hisR ?_
  intro p e s m args below meth c s₁ Bd hml0 hP hK
  obtain ⟨rfl, hZ, hh⟩ := hP
  have hx := Bd.exec
  have hby := Bd.bytes
  have hml : c.maxLocals = 4 := hml0
  have hown : s.vm.findClass "com/example/ledgerpost/ledgerpost/StorableText" = some m.cls := findClass_of_methodNamed Bd.named
  have hnm := (name_of_methodNamed Bd.named Bd.method).1
  have X0 : Stand p l e ({ frames := 4, cells := 0, slots := 0, locals := 58 } : Room) s m #[(.ref a1), (.ref a2)] below meth c s₁ [] 0 0 := Stand.of_body Bd
  have e0 : s₁.heap = h0 := by rw [← hh, Bd.state]; rfl
  have N0 := Fr.nil n0
  have pre0 : ∀ t_, Steps p.tables e below (s₁.setTop (mkF m 0 #[.val (.ref a1), .val (.ref a2), .unset, .unset] [])) t_ → Steps p.tables e below (s₁.setTop (entryFrame m #[(.ref a1), (.ref a2)] 4)) t_ := fun t_ k_ => castTop (ef_rmRq m a1 a2) k_
  have rg : own_rng nN g := fun j hj => own_Wrng ks 0 Wg j (Nat.zero_le _) hj
  have Es := own_Se TS
  have loop : ∀ (js : List Bool) (k : Nat) (lx : Slot) (T1 : State) (lc : List Loc), own_fr lx → own_W g nN js k → Stand p l e ({ frames := 4, cells := 0, slots := 0, locals := 58 } : Room) s m #[(.ref a1), (.ref a2)] below meth c T1 lc 0 0 → T1.heap = h0 → Fr n0 lc →
      ∃ (lx' : Slot) (T' : State) (lc' : List Loc), Stand p l e ({ frames := 4, cells := 0, slots := 0, locals := 58 } : Room) s m #[(.ref a1), (.ref a2)] below meth c T' lc' 0 0 ∧ T'.heap = h0 ∧ Fr n0 lc' ∧
        ∀ t_, Steps p.tables e below (T'.setTop (mkF m 78 #[.val (.ref a1), .val (.ref a2), .val (.int (Int32.ofNat nN)), lx'] [])) t_ → Steps p.tables e below (T1.setTop (mkF m 8 #[.val (.ref a1), .val (.ref a2), .val (.int (Int32.ofNat k)), lx] [])) t_ := by
    intro js
    induction js with
    | nil =>
      intro k lx T1 lc h_lx Wk X1 e1 N1
      have pre101 : ∀ t_, Steps p.tables e below (T1.setTop (mkF m 8 #[.val (.ref a1), .val (.ref a2), .val (.int (Int32.ofNat k)), lx] [])) t_ → Steps p.tables e below (T1.setTop (mkF m 8 #[.val (.ref a1), .val (.ref a2), .val (.int (Int32.ofNat k)), lx] [])) t_ := fun _ k_ => k_
      obtain ⟨cq102, kq102, q102a, q102b, q102c⟩ := isOf hZ e1 Es
      obtain ⟨_, _, ⟨T102, L102, k102, n102⟩, -, X102, ⟨Lc102, hQ102, l102, y102, z102⟩, st102⟩ := X1.virtualBack hx (y := (⟨"java/lang/String", "length", "()I"⟩ : MethodName)) (z := (⟨"java/lang/String", "length", "()I"⟩ : MethodName)) hown (mvT hZ (hw _ (List.mem_of_getElem? (i := 31) rfl))) (mvT hZ (hw _ (List.mem_of_getElem? (i := 32) rfl))) (notFace_of_selects (args := #[]) (mvT hZ (hw _ (List.mem_of_getElem? (i := 34) rfl)))) (mvT hZ (hw _ (List.mem_of_getElem? (i := 34) rfl))) (mvT hZ (hw _ (List.mem_of_getElem? (i := 33) rfl))) (by decide) (backOf (W := 1) (rmLn l Z a0 hw [] a2 nN g zc h0 n0 Z0 b1 TS (S_c.ext O.2) hzc) hZ (hw _ (List.mem_of_getElem? (i := 35) rfl)) (hw _ (List.mem_of_getElem? (i := 7) rfl)) (by decide) (by decide)) q102a q102c (g := (mkF m 10 #[.val (.ref a1), .val (.ref a2), .val (.int (Int32.ofNat k)), lx] [(.ref a2), (.int (Int32.ofNat k))])) rfl (by rw [hml]; rfl) (Steps.refl _) (argsL := []) (rest := [(.int (Int32.ofNat k))]) (lenOf pd_17 rfl) rfl (by show 2 * 0 + _ ≤ _; exact Nat.le_of_eq rfl) (hb hby d5_10) (fun _ _ => ⟨rfl, e1, (by decide : 0 + 0 ≤ _), (by decide : 0 + 0 ≤ _)⟩)
      dsimp only [Pt.U, Pt.locs, Pt.cells, Pt.slots] at X102 l102 y102 z102 st102 hQ102
      subst l102 y102 z102
      obtain ⟨rfl, N102q, e102⟩ := hQ102
      have N102 := Fr.app N1 N102q
      have ek : k = nN := Wk
      have pre103 : ∀ t_, Steps p.tables e below (T102.setTop (mkF m 78 #[.val (.ref a1), .val (.ref a2), .val (.int (Int32.ofNat k)), lx] [])) t_ → Steps p.tables e below (T1.setTop (mkF m 8 #[.val (.ref a1), .val (.ref a2), .val (.int (Int32.ofNat k)), lx] [])) t_ := fun t_ k_ => pre101 _ (by
        show Steps p.tables e below (T1.setTop (mkF m 8 #[.val (.ref a1), .val (.ref a2), .val (.int (Int32.ofNat k)), lx] [])) _
        refine XS.iloadN X1.here hx rfl (hb hby d5_8) rfl ?_
        show Steps p.tables e below (T1.setTop (mkF m 9 #[.val (.ref a1), .val (.ref a2), .val (.int (Int32.ofNat k)), lx] [(.int (Int32.ofNat k))])) _
        refine XS.aloadN X1.here hx rfl (hb hby d5_9) rfl rfl ?_
        show Steps p.tables e below (T1.setTop (mkF m 10 #[.val (.ref a1), .val (.ref a2), .val (.int (Int32.ofNat k)), lx] [(.ref a2), (.int (Int32.ofNat k))])) _
        refine st102.trans ?_
        show Steps p.tables e below (T102.setTop (mkF m 13 #[.val (.ref a1), .val (.ref a2), .val (.int (Int32.ofNat k)), lx] [(.int (Int32.ofNat nN)), (.int (Int32.ofNat k))])) _
        refine XS.icmpYes X102.here hx rfl (pc0 := 13) (pc' := 78) rfl (hb hby d5_13) rfl (flt (by rw [own_oflt (by omega) (by omega)]; omega)).2.1 (by decide) (by decide) ?_
        exact k_)
      refine ⟨lx, _, _, X102, e102, N102, fun t_ k_ => pre103 t_ ?_⟩
      rw [ek]
      exact k_
    | cons kb js ih =>
      cases kb with
      | false =>
        intro k lx T1 lc h_lx Wk X1 e1 N1
        have pre104 : ∀ t_, Steps p.tables e below (T1.setTop (mkF m 8 #[.val (.ref a1), .val (.ref a2), .val (.int (Int32.ofNat k)), lx] [])) t_ → Steps p.tables e below (T1.setTop (mkF m 8 #[.val (.ref a1), .val (.ref a2), .val (.int (Int32.ofNat k)), lx] [])) t_ := fun _ k_ => k_
        obtain ⟨cq105, kq105, q105a, q105b, q105c⟩ := isOf hZ e1 Es
        obtain ⟨_, _, ⟨T105, L105, k105, n105⟩, -, X105, ⟨Lc105, hQ105, l105, y105, z105⟩, st105⟩ := X1.virtualBack hx (y := (⟨"java/lang/String", "length", "()I"⟩ : MethodName)) (z := (⟨"java/lang/String", "length", "()I"⟩ : MethodName)) hown (mvT hZ (hw _ (List.mem_of_getElem? (i := 31) rfl))) (mvT hZ (hw _ (List.mem_of_getElem? (i := 32) rfl))) (notFace_of_selects (args := #[]) (mvT hZ (hw _ (List.mem_of_getElem? (i := 34) rfl)))) (mvT hZ (hw _ (List.mem_of_getElem? (i := 34) rfl))) (mvT hZ (hw _ (List.mem_of_getElem? (i := 33) rfl))) (by decide) (backOf (W := 1) (rmLn l Z a0 hw [] a2 nN g zc h0 n0 Z0 b1 TS (S_c.ext O.2) hzc) hZ (hw _ (List.mem_of_getElem? (i := 35) rfl)) (hw _ (List.mem_of_getElem? (i := 7) rfl)) (by decide) (by decide)) q105a q105c (g := (mkF m 10 #[.val (.ref a1), .val (.ref a2), .val (.int (Int32.ofNat k)), lx] [(.ref a2), (.int (Int32.ofNat k))])) rfl (by rw [hml]; rfl) (Steps.refl _) (argsL := []) (rest := [(.int (Int32.ofNat k))]) (lenOf pd_17 rfl) rfl (by show 2 * 0 + _ ≤ _; exact Nat.le_of_eq rfl) (hb hby d5_10) (fun _ _ => ⟨rfl, e1, (by decide : 0 + 0 ≤ _), (by decide : 0 + 0 ≤ _)⟩)
        dsimp only [Pt.U, Pt.locs, Pt.cells, Pt.slots] at X105 l105 y105 z105 st105 hQ105
        subst l105 y105 z105
        obtain ⟨rfl, N105q, e105⟩ := hQ105
        have N105 := Fr.app N1 N105q
        have lk := own_Wle _ _ Wk.2
        obtain ⟨cq106, kq106, q106a, q106b, q106c⟩ := isOf hZ e105 Es
        obtain ⟨_, _, ⟨T106, L106, k106, n106⟩, -, X106, ⟨Lc106, hQ106, l106, y106, z106⟩, st106⟩ := X105.virtualBack hx (y := (⟨"java/lang/String", "codePointAt", "(I)I"⟩ : MethodName)) (z := (⟨"java/lang/String", "codePointAt", "(I)I"⟩ : MethodName)) hown (mvT hZ (hw _ (List.mem_of_getElem? (i := 78) rfl))) (mvT hZ (hw _ (List.mem_of_getElem? (i := 79) rfl))) (notFace_of_selects (args := #[]) (mvT hZ (hw _ (List.mem_of_getElem? (i := 81) rfl)))) (mvT hZ (hw _ (List.mem_of_getElem? (i := 81) rfl))) (mvT hZ (hw _ (List.mem_of_getElem? (i := 80) rfl))) (by decide) (backOf (W := 0) (rmA1 l Z a0 hw [] a2 k nN g zc fm h0 n0 Z0 S_a S_h S_l O S_c hzc S_f hf b1 (by omega) rg TS Wk.1) hZ (hw _ (List.mem_of_getElem? (i := 82) rfl)) (hw _ (List.mem_of_getElem? (i := 7) rfl)) (by decide) (by decide)) q106a q106c (g := (mkF m 18 #[.val (.ref a1), .val (.ref a2), .val (.int (Int32.ofNat k)), lx] [(.int (Int32.ofNat k)), (.ref a2)])) rfl (by rw [hml]; rfl) (Steps.refl _) (argsL := [(.int (Int32.ofNat k))]) (rest := []) (lenOf pd_0 rfl) rfl (by show 2 * 0 + _ ≤ _; exact Nat.le_of_eq rfl) (hb hby d5_18) (fun _ _ => ⟨rfl, e105, (by decide : 0 + 0 ≤ _), (by decide : 0 + 0 ≤ _)⟩)
        dsimp only [Pt.U, Pt.locs, Pt.cells, Pt.slots] at X106 l106 y106 z106 st106 hQ106
        subst l106 y106 z106
        obtain ⟨rfl, N106q, e106⟩ := hQ106
        have N106 := Fr.app N105 N106q
        have pre107 : ∀ t_, Steps p.tables e below (T106.setTop (mkF m 44 #[.val (.ref a1), .val (.ref a2), .val (.int (Int32.ofNat k)), .val (.int (g k))] [(.int (55296 : Int32)), (.int (g k))])) t_ → Steps p.tables e below (T1.setTop (mkF m 8 #[.val (.ref a1), .val (.ref a2), .val (.int (Int32.ofNat k)), lx] [])) t_ := fun t_ k_ => pre104 _ (by
          show Steps p.tables e below (T1.setTop (mkF m 8 #[.val (.ref a1), .val (.ref a2), .val (.int (Int32.ofNat k)), lx] [])) _
          refine XS.iloadN X1.here hx rfl (hb hby d5_8) rfl ?_
          show Steps p.tables e below (T1.setTop (mkF m 9 #[.val (.ref a1), .val (.ref a2), .val (.int (Int32.ofNat k)), lx] [(.int (Int32.ofNat k))])) _
          refine XS.aloadN X1.here hx rfl (hb hby d5_9) rfl rfl ?_
          show Steps p.tables e below (T1.setTop (mkF m 10 #[.val (.ref a1), .val (.ref a2), .val (.int (Int32.ofNat k)), lx] [(.ref a2), (.int (Int32.ofNat k))])) _
          refine st105.trans ?_
          show Steps p.tables e below (T105.setTop (mkF m 13 #[.val (.ref a1), .val (.ref a2), .val (.int (Int32.ofNat k)), lx] [(.int (Int32.ofNat nN)), (.int (Int32.ofNat k))])) _
          refine XS.icmpNo X105.here hx rfl (hb hby d5_13) rfl (tlt ((own_oflt (by omega) (by omega)).mpr (by omega))).2.1 ?_
          show Steps p.tables e below (T105.setTop (mkF m 16 #[.val (.ref a1), .val (.ref a2), .val (.int (Int32.ofNat k)), lx] [])) _
          refine XS.aloadN X105.here hx rfl (hb hby d5_16) rfl rfl ?_
          show Steps p.tables e below (T105.setTop (mkF m 17 #[.val (.ref a1), .val (.ref a2), .val (.int (Int32.ofNat k)), lx] [(.ref a2)])) _
          refine XS.iloadN X105.here hx rfl (hb hby d5_17) rfl ?_
          show Steps p.tables e below (T105.setTop (mkF m 18 #[.val (.ref a1), .val (.ref a2), .val (.int (Int32.ofNat k)), lx] [(.int (Int32.ofNat k)), (.ref a2)])) _
          refine st106.trans ?_
          show Steps p.tables e below (T106.setTop (mkF m 21 #[.val (.ref a1), .val (.ref a2), .val (.int (Int32.ofNat k)), lx] [(.int (g k))])) _
          refine XS.istoreN X106.here hx rfl (hb hby d5_21) rfl (l' := #[.val (.ref a1), .val (.ref a2), .val (.int (Int32.ofNat k)), .val (.int (g k))]) (by rcases h_lx with q | ⟨z, q⟩ <;> rw [q] <;> rfl) ?_
          show Steps p.tables e below (T106.setTop (mkF m 22 #[.val (.ref a1), .val (.ref a2), .val (.int (Int32.ofNat k)), .val (.int (g k))] [])) _
          refine XS.iloadN X106.here hx rfl (hb hby d5_22) rfl ?_
          show Steps p.tables e below (T106.setTop (mkF m 23 #[.val (.ref a1), .val (.ref a2), .val (.int (Int32.ofNat k)), .val (.int (g k))] [(.int (g k))])) _
          refine XS.ifYes X106.here hx rfl (pc0 := 23) (pc' := 41) rfl (hb hby d5_23) rfl ((if0 _ _).trans (feq (own_one0 Wk.1)).2) (by decide) (by decide) ?_
          show Steps p.tables e below (T106.setTop (mkF m 41 #[.val (.ref a1), .val (.ref a2), .val (.int (Int32.ofNat k)), .val (.int (g k))] [])) _
          refine XS.iloadN X106.here hx rfl (hb hby d5_41) rfl ?_
          show Steps p.tables e below (T106.setTop (mkF m 42 #[.val (.ref a1), .val (.ref a2), .val (.int (Int32.ofNat k)), .val (.int (g k))] [(.int (g k))])) _
          refine X106.ldcInt hx hown (mvT hZ (hw _ (List.mem_of_getElem? (i := 107) rfl))) (g := (mkF m 42 #[.val (.ref a1), .val (.ref a2), .val (.int (Int32.ofNat k)), .val (.int (g k))] [(.int (g k))])) rfl (hb hby d5_42) _ ?_
          exact k_)
        by_cases hlt : (g k) < (55296 : Int32)
        · skip
          obtain ⟨_, _, ⟨T108, L108, k108, n108⟩, -, X108, ⟨Lc108, hQ108, l108, y108, z108⟩, st108⟩ := Jvm.LawKit.callS X106 hx (y := (⟨"java/lang/Character", "charCount", "(I)I"⟩ : MethodName)) hown (mvT hZ (hw _ (List.mem_of_getElem? (i := 108) rfl))) (mvT hZ (hw _ (List.mem_of_getElem? (i := 109) rfl))) (mvT hZ (hw _ (List.mem_of_getElem? (i := 104) rfl))) (mvT hZ (hw _ (List.mem_of_getElem? (i := 110) rfl))) (by decide) (backOf (W := 1) (rmN1 l Z a0 hw [] (g k) h0 n0 Z0 (own_onec Wk.1)) hZ (hw _ (List.mem_of_getElem? (i := 110) rfl)) (hw _ (List.mem_of_getElem? (i := 104) rfl)) (by decide) (by decide)) (g := (mkF m 70 #[.val (.ref a1), .val (.ref a2), .val (.int (Int32.ofNat k)), .val (.int (g k))] [(.int (g k)), (.int (Int32.ofNat k))])) rfl (by rw [hml]; rfl) (argsL := [(.int (g k))]) (rest := [(.int (Int32.ofNat k))]) (lenOf pd_0 rfl) rfl (by show 2 * 0 + _ ≤ _; exact Nat.le_of_eq rfl) (hb hby d5_70) (fun _ _ => ⟨rfl, e106, (by decide : 0 + 0 ≤ _), (by decide : 0 + 0 ≤ _)⟩)
          dsimp only [Pt.U, Pt.locs, Pt.cells, Pt.slots] at X108 l108 y108 z108 st108 hQ108
          subst l108 y108 z108
          obtain ⟨rfl, N108q, e108⟩ := hQ108
          have N108 := Fr.app N106 N108q
          have pre109 : ∀ t_, Steps p.tables e below (T108.setTop (mkF m 8 #[.val (.ref a1), .val (.ref a2), .val (.int ((Int32.ofNat k) + (1 : Int32))), .val (.int (g k))] [])) t_ → Steps p.tables e below (T1.setTop (mkF m 8 #[.val (.ref a1), .val (.ref a2), .val (.int (Int32.ofNat k)), lx] [])) t_ := fun t_ k_ => pre107 _ (by
            show Steps p.tables e below (T106.setTop (mkF m 44 #[.val (.ref a1), .val (.ref a2), .val (.int (Int32.ofNat k)), .val (.int (g k))] [(.int (55296 : Int32)), (.int (g k))])) _
            refine XS.icmpYes X106.here hx rfl (pc0 := 44) (pc' := 68) rfl (hb hby d5_44) rfl (tlt hlt).1 (by decide) (by decide) ?_
            show Steps p.tables e below (T106.setTop (mkF m 68 #[.val (.ref a1), .val (.ref a2), .val (.int (Int32.ofNat k)), .val (.int (g k))] [])) _
            refine XS.iloadN X106.here hx rfl (hb hby d5_68) rfl ?_
            show Steps p.tables e below (T106.setTop (mkF m 69 #[.val (.ref a1), .val (.ref a2), .val (.int (Int32.ofNat k)), .val (.int (g k))] [(.int (Int32.ofNat k))])) _
            refine XS.iloadN X106.here hx rfl (hb hby d5_69) rfl ?_
            show Steps p.tables e below (T106.setTop (mkF m 70 #[.val (.ref a1), .val (.ref a2), .val (.int (Int32.ofNat k)), .val (.int (g k))] [(.int (g k)), (.int (Int32.ofNat k))])) _
            refine st108 _ ?_
            show Steps p.tables e below (T108.setTop (mkF m 73 #[.val (.ref a1), .val (.ref a2), .val (.int (Int32.ofNat k)), .val (.int (g k))] [(.int (1 : Int32)), (.int (Int32.ofNat k))])) _
            refine XS.iadd X108.here hx rfl (hb hby d5_73) rfl ?_
            show Steps p.tables e below (T108.setTop (mkF m 74 #[.val (.ref a1), .val (.ref a2), .val (.int (Int32.ofNat k)), .val (.int (g k))] [(.int ((Int32.ofNat k) + (1 : Int32)))])) _
            refine XS.istoreN X108.here hx rfl (hb hby d5_74) rfl (l' := #[.val (.ref a1), .val (.ref a2), .val (.int ((Int32.ofNat k) + (1 : Int32))), .val (.int (g k))]) rfl ?_
            show Steps p.tables e below (T108.setTop (mkF m 75 #[.val (.ref a1), .val (.ref a2), .val (.int ((Int32.ofNat k) + (1 : Int32))), .val (.int (g k))] [])) _
            refine XS.goto X108.here hx rfl (pc0 := 75) (pc' := 8) rfl (hb hby d5_75) (by decide) (by decide) ?_
            exact k_)
          obtain ⟨lx', T', lc', X', e', N', st'⟩ := ih (k + 1) (.val (.int (g k))) _ _ (Or.inr ⟨_, rfl⟩) Wk.2 X108 e108 N108
          refine ⟨lx', T', lc', X', e', N', fun t_ k_ => pre109 _ ?_⟩
          rw [own_of1]
          exact st' t_ k_
        · skip
          obtain ⟨_, _, ⟨T110, L110, k110, n110⟩, -, X110, ⟨Lc110, hQ110, l110, y110, z110⟩, st110⟩ := Jvm.LawKit.callS X106 hx (y := (⟨"java/lang/Character", "charCount", "(I)I"⟩ : MethodName)) hown (mvT hZ (hw _ (List.mem_of_getElem? (i := 108) rfl))) (mvT hZ (hw _ (List.mem_of_getElem? (i := 109) rfl))) (mvT hZ (hw _ (List.mem_of_getElem? (i := 104) rfl))) (mvT hZ (hw _ (List.mem_of_getElem? (i := 110) rfl))) (by decide) (backOf (W := 1) (rmN1 l Z a0 hw [] (g k) h0 n0 Z0 (own_onec Wk.1)) hZ (hw _ (List.mem_of_getElem? (i := 110) rfl)) (hw _ (List.mem_of_getElem? (i := 104) rfl)) (by decide) (by decide)) (g := (mkF m 70 #[.val (.ref a1), .val (.ref a2), .val (.int (Int32.ofNat k)), .val (.int (g k))] [(.int (g k)), (.int (Int32.ofNat k))])) rfl (by rw [hml]; rfl) (argsL := [(.int (g k))]) (rest := [(.int (Int32.ofNat k))]) (lenOf pd_0 rfl) rfl (by show 2 * 0 + _ ≤ _; exact Nat.le_of_eq rfl) (hb hby d5_70) (fun _ _ => ⟨rfl, e106, (by decide : 0 + 0 ≤ _), (by decide : 0 + 0 ≤ _)⟩)
          dsimp only [Pt.U, Pt.locs, Pt.cells, Pt.slots] at X110 l110 y110 z110 st110 hQ110
          subst l110 y110 z110
          obtain ⟨rfl, N110q, e110⟩ := hQ110
          have N110 := Fr.app N106 N110q
          have pre111 : ∀ t_, Steps p.tables e below (T110.setTop (mkF m 8 #[.val (.ref a1), .val (.ref a2), .val (.int ((Int32.ofNat k) + (1 : Int32))), .val (.int (g k))] [])) t_ → Steps p.tables e below (T1.setTop (mkF m 8 #[.val (.ref a1), .val (.ref a2), .val (.int (Int32.ofNat k)), lx] [])) t_ := fun t_ k_ => pre107 _ (by
            show Steps p.tables e below (T106.setTop (mkF m 44 #[.val (.ref a1), .val (.ref a2), .val (.int (Int32.ofNat k)), .val (.int (g k))] [(.int (55296 : Int32)), (.int (g k))])) _
            refine XS.icmpNo X106.here hx rfl (hb hby d5_44) rfl (flt hlt).1 ?_
            show Steps p.tables e below (T106.setTop (mkF m 47 #[.val (.ref a1), .val (.ref a2), .val (.int (Int32.ofNat k)), .val (.int (g k))] [])) _
            refine XS.iloadN X106.here hx rfl (hb hby d5_47) rfl ?_
            show Steps p.tables e below (T106.setTop (mkF m 48 #[.val (.ref a1), .val (.ref a2), .val (.int (Int32.ofNat k)), .val (.int (g k))] [(.int (g k))])) _
            refine X106.ldcInt hx hown (mvT hZ (hw _ (List.mem_of_getElem? (i := 121) rfl))) (g := (mkF m 48 #[.val (.ref a1), .val (.ref a2), .val (.int (Int32.ofNat k)), .val (.int (g k))] [(.int (g k))])) rfl (hb hby d5_48) _ ?_
            show Steps p.tables e below (T106.setTop (mkF m 50 #[.val (.ref a1), .val (.ref a2), .val (.int (Int32.ofNat k)), .val (.int (g k))] [(.int (57343 : Int32)), (.int (g k))])) _
            refine XS.icmpYes X106.here hx rfl (pc0 := 50) (pc' := 68) rfl (hb hby d5_50) rfl (tlt (own_one57 Wk.1 hlt)).2.2.1 (by decide) (by decide) ?_
            show Steps p.tables e below (T106.setTop (mkF m 68 #[.val (.ref a1), .val (.ref a2), .val (.int (Int32.ofNat k)), .val (.int (g k))] [])) _
            refine XS.iloadN X106.here hx rfl (hb hby d5_68) rfl ?_
            show Steps p.tables e below (T106.setTop (mkF m 69 #[.val (.ref a1), .val (.ref a2), .val (.int (Int32.ofNat k)), .val (.int (g k))] [(.int (Int32.ofNat k))])) _
            refine XS.iloadN X106.here hx rfl (hb hby d5_69) rfl ?_
            show Steps p.tables e below (T106.setTop (mkF m 70 #[.val (.ref a1), .val (.ref a2), .val (.int (Int32.ofNat k)), .val (.int (g k))] [(.int (g k)), (.int (Int32.ofNat k))])) _
            refine st110 _ ?_
            show Steps p.tables e below (T110.setTop (mkF m 73 #[.val (.ref a1), .val (.ref a2), .val (.int (Int32.ofNat k)), .val (.int (g k))] [(.int (1 : Int32)), (.int (Int32.ofNat k))])) _
            refine XS.iadd X110.here hx rfl (hb hby d5_73) rfl ?_
            show Steps p.tables e below (T110.setTop (mkF m 74 #[.val (.ref a1), .val (.ref a2), .val (.int (Int32.ofNat k)), .val (.int (g k))] [(.int ((Int32.ofNat k) + (1 : Int32)))])) _
            refine XS.istoreN X110.here hx rfl (hb hby d5_74) rfl (l' := #[.val (.ref a1), .val (.ref a2), .val (.int ((Int32.ofNat k) + (1 : Int32))), .val (.int (g k))]) rfl ?_
            show Steps p.tables e below (T110.setTop (mkF m 75 #[.val (.ref a1), .val (.ref a2), .val (.int ((Int32.ofNat k) + (1 : Int32))), .val (.int (g k))] [])) _
            refine XS.goto X110.here hx rfl (pc0 := 75) (pc' := 8) rfl (hb hby d5_75) (by decide) (by decide) ?_
            exact k_)
          obtain ⟨lx', T', lc', X', e', N', st'⟩ := ih (k + 1) (.val (.int (g k))) _ _ (Or.inr ⟨_, rfl⟩) Wk.2 X110 e110 N110
          refine ⟨lx', T', lc', X', e', N', fun t_ k_ => pre111 _ ?_⟩
          rw [own_of1]
          exact st' t_ k_
      | true =>
        intro k lx T1 lc h_lx Wk X1 e1 N1
        have pre112 : ∀ t_, Steps p.tables e below (T1.setTop (mkF m 8 #[.val (.ref a1), .val (.ref a2), .val (.int (Int32.ofNat k)), lx] [])) t_ → Steps p.tables e below (T1.setTop (mkF m 8 #[.val (.ref a1), .val (.ref a2), .val (.int (Int32.ofNat k)), lx] [])) t_ := fun _ k_ => k_
        obtain ⟨cq113, kq113, q113a, q113b, q113c⟩ := isOf hZ e1 Es
        obtain ⟨_, _, ⟨T113, L113, k113, n113⟩, -, X113, ⟨Lc113, hQ113, l113, y113, z113⟩, st113⟩ := X1.virtualBack hx (y := (⟨"java/lang/String", "length", "()I"⟩ : MethodName)) (z := (⟨"java/lang/String", "length", "()I"⟩ : MethodName)) hown (mvT hZ (hw _ (List.mem_of_getElem? (i := 31) rfl))) (mvT hZ (hw _ (List.mem_of_getElem? (i := 32) rfl))) (notFace_of_selects (args := #[]) (mvT hZ (hw _ (List.mem_of_getElem? (i := 34) rfl)))) (mvT hZ (hw _ (List.mem_of_getElem? (i := 34) rfl))) (mvT hZ (hw _ (List.mem_of_getElem? (i := 33) rfl))) (by decide) (backOf (W := 1) (rmLn l Z a0 hw [] a2 nN g zc h0 n0 Z0 b1 TS (S_c.ext O.2) hzc) hZ (hw _ (List.mem_of_getElem? (i := 35) rfl)) (hw _ (List.mem_of_getElem? (i := 7) rfl)) (by decide) (by decide)) q113a q113c (g := (mkF m 10 #[.val (.ref a1), .val (.ref a2), .val (.int (Int32.ofNat k)), lx] [(.ref a2), (.int (Int32.ofNat k))])) rfl (by rw [hml]; rfl) (Steps.refl _) (argsL := []) (rest := [(.int (Int32.ofNat k))]) (lenOf pd_17 rfl) rfl (by show 2 * 0 + _ ≤ _; exact Nat.le_of_eq rfl) (hb hby d5_10) (fun _ _ => ⟨rfl, e1, (by decide : 0 + 0 ≤ _), (by decide : 0 + 0 ≤ _)⟩)
        dsimp only [Pt.U, Pt.locs, Pt.cells, Pt.slots] at X113 l113 y113 z113 st113 hQ113
        subst l113 y113 z113
        obtain ⟨rfl, N113q, e113⟩ := hQ113
        have N113 := Fr.app N1 N113q
        have lk := own_Wle _ _ Wk.2.2
        have cg := own_cpge Wk.1 Wk.2.1
        obtain ⟨cq114, kq114, q114a, q114b, q114c⟩ := isOf hZ e113 Es
        obtain ⟨_, _, ⟨T114, L114, k114, n114⟩, -, X114, ⟨Lc114, hQ114, l114, y114, z114⟩, st114⟩ := X113.virtualBack hx (y := (⟨"java/lang/String", "codePointAt", "(I)I"⟩ : MethodName)) (z := (⟨"java/lang/String", "codePointAt", "(I)I"⟩ : MethodName)) hown (mvT hZ (hw _ (List.mem_of_getElem? (i := 78) rfl))) (mvT hZ (hw _ (List.mem_of_getElem? (i := 79) rfl))) (notFace_of_selects (args := #[]) (mvT hZ (hw _ (List.mem_of_getElem? (i := 81) rfl)))) (mvT hZ (hw _ (List.mem_of_getElem? (i := 81) rfl))) (mvT hZ (hw _ (List.mem_of_getElem? (i := 80) rfl))) (by decide) (backOf (W := 0) (rmA2 l Z a0 hw [] a2 k nN g zc fm h0 n0 Z0 S_a S_h S_l O S_c hzc S_f hf b1 (by omega) rg TS (by omega) Wk.1 Wk.2.1) hZ (hw _ (List.mem_of_getElem? (i := 82) rfl)) (hw _ (List.mem_of_getElem? (i := 7) rfl)) (by decide) (by decide)) q114a q114c (g := (mkF m 18 #[.val (.ref a1), .val (.ref a2), .val (.int (Int32.ofNat k)), lx] [(.int (Int32.ofNat k)), (.ref a2)])) rfl (by rw [hml]; rfl) (Steps.refl _) (argsL := [(.int (Int32.ofNat k))]) (rest := []) (lenOf pd_0 rfl) rfl (by show 2 * 0 + _ ≤ _; exact Nat.le_of_eq rfl) (hb hby d5_18) (fun _ _ => ⟨rfl, e113, (by decide : 0 + 0 ≤ _), (by decide : 0 + 0 ≤ _)⟩)
        dsimp only [Pt.U, Pt.locs, Pt.cells, Pt.slots] at X114 l114 y114 z114 st114 hQ114
        subst l114 y114 z114
        obtain ⟨rfl, N114q, e114⟩ := hQ114
        have N114 := Fr.app N113 N114q
        obtain ⟨_, _, ⟨T115, L115, k115, n115⟩, -, X115, ⟨Lc115, hQ115, l115, y115, z115⟩, st115⟩ := Jvm.LawKit.callS X114 hx (y := (⟨"java/lang/Character", "charCount", "(I)I"⟩ : MethodName)) hown (mvT hZ (hw _ (List.mem_of_getElem? (i := 108) rfl))) (mvT hZ (hw _ (List.mem_of_getElem? (i := 109) rfl))) (mvT hZ (hw _ (List.mem_of_getElem? (i := 104) rfl))) (mvT hZ (hw _ (List.mem_of_getElem? (i := 110) rfl))) (by decide) (backOf (W := 1) (rmN2 l Z a0 hw [] (own_cp (g k) (g (k + 1))) h0 n0 Z0 (own_cp65 cg)) hZ (hw _ (List.mem_of_getElem? (i := 110) rfl)) (hw _ (List.mem_of_getElem? (i := 104) rfl)) (by decide) (by decide)) (g := (mkF m 70 #[.val (.ref a1), .val (.ref a2), .val (.int (Int32.ofNat k)), .val (.int (own_cp (g k) (g (k + 1))))] [(.int (own_cp (g k) (g (k + 1)))), (.int (Int32.ofNat k))])) rfl (by rw [hml]; rfl) (argsL := [(.int (own_cp (g k) (g (k + 1))))]) (rest := [(.int (Int32.ofNat k))]) (lenOf pd_0 rfl) rfl (by show 2 * 0 + _ ≤ _; exact Nat.le_of_eq rfl) (hb hby d5_70) (fun _ _ => ⟨rfl, e114, (by decide : 0 + 0 ≤ _), (by decide : 0 + 0 ≤ _)⟩)
        dsimp only [Pt.U, Pt.locs, Pt.cells, Pt.slots] at X115 l115 y115 z115 st115 hQ115
        subst l115 y115 z115
        obtain ⟨rfl, N115q, e115⟩ := hQ115
        have N115 := Fr.app N114 N115q
        have pre116 : ∀ t_, Steps p.tables e below (T115.setTop (mkF m 8 #[.val (.ref a1), .val (.ref a2), .val (.int ((Int32.ofNat k) + (2 : Int32))), .val (.int (own_cp (g k) (g (k + 1))))] [])) t_ → Steps p.tables e below (T1.setTop (mkF m 8 #[.val (.ref a1), .val (.ref a2), .val (.int (Int32.ofNat k)), lx] [])) t_ := fun t_ k_ => pre112 _ (by
          show Steps p.tables e below (T1.setTop (mkF m 8 #[.val (.ref a1), .val (.ref a2), .val (.int (Int32.ofNat k)), lx] [])) _
          refine XS.iloadN X1.here hx rfl (hb hby d5_8) rfl ?_
          show Steps p.tables e below (T1.setTop (mkF m 9 #[.val (.ref a1), .val (.ref a2), .val (.int (Int32.ofNat k)), lx] [(.int (Int32.ofNat k))])) _
          refine XS.aloadN X1.here hx rfl (hb hby d5_9) rfl rfl ?_
          show Steps p.tables e below (T1.setTop (mkF m 10 #[.val (.ref a1), .val (.ref a2), .val (.int (Int32.ofNat k)), lx] [(.ref a2), (.int (Int32.ofNat k))])) _
          refine st113.trans ?_
          show Steps p.tables e below (T113.setTop (mkF m 13 #[.val (.ref a1), .val (.ref a2), .val (.int (Int32.ofNat k)), lx] [(.int (Int32.ofNat nN)), (.int (Int32.ofNat k))])) _
          refine XS.icmpNo X113.here hx rfl (hb hby d5_13) rfl (tlt ((own_oflt (by omega) (by omega)).mpr (by omega))).2.1 ?_
          show Steps p.tables e below (T113.setTop (mkF m 16 #[.val (.ref a1), .val (.ref a2), .val (.int (Int32.ofNat k)), lx] [])) _
          refine XS.aloadN X113.here hx rfl (hb hby d5_16) rfl rfl ?_
          show Steps p.tables e below (T113.setTop (mkF m 17 #[.val (.ref a1), .val (.ref a2), .val (.int (Int32.ofNat k)), lx] [(.ref a2)])) _
          refine XS.iloadN X113.here hx rfl (hb hby d5_17) rfl ?_
          show Steps p.tables e below (T113.setTop (mkF m 18 #[.val (.ref a1), .val (.ref a2), .val (.int (Int32.ofNat k)), lx] [(.int (Int32.ofNat k)), (.ref a2)])) _
          refine st114.trans ?_
          show Steps p.tables e below (T114.setTop (mkF m 21 #[.val (.ref a1), .val (.ref a2), .val (.int (Int32.ofNat k)), lx] [(.int (own_cp (g k) (g (k + 1))))])) _
          refine XS.istoreN X114.here hx rfl (hb hby d5_21) rfl (l' := #[.val (.ref a1), .val (.ref a2), .val (.int (Int32.ofNat k)), .val (.int (own_cp (g k) (g (k + 1))))]) (by rcases h_lx with q | ⟨z, q⟩ <;> rw [q] <;> rfl) ?_
          show Steps p.tables e below (T114.setTop (mkF m 22 #[.val (.ref a1), .val (.ref a2), .val (.int (Int32.ofNat k)), .val (.int (own_cp (g k) (g (k + 1))))] [])) _
          refine XS.iloadN X114.here hx rfl (hb hby d5_22) rfl ?_
          show Steps p.tables e below (T114.setTop (mkF m 23 #[.val (.ref a1), .val (.ref a2), .val (.int (Int32.ofNat k)), .val (.int (own_cp (g k) (g (k + 1))))] [(.int (own_cp (g k) (g (k + 1))))])) _
          refine XS.ifYes X114.here hx rfl (pc0 := 23) (pc' := 41) rfl (hb hby d5_23) rfl ((if0 _ _).trans (feq (own_cp0 cg)).2) (by decide) (by decide) ?_
          show Steps p.tables e below (T114.setTop (mkF m 41 #[.val (.ref a1), .val (.ref a2), .val (.int (Int32.ofNat k)), .val (.int (own_cp (g k) (g (k + 1))))] [])) _
          refine XS.iloadN X114.here hx rfl (hb hby d5_41) rfl ?_
          show Steps p.tables e below (T114.setTop (mkF m 42 #[.val (.ref a1), .val (.ref a2), .val (.int (Int32.ofNat k)), .val (.int (own_cp (g k) (g (k + 1))))] [(.int (own_cp (g k) (g (k + 1))))])) _
          refine X114.ldcInt hx hown (mvT hZ (hw _ (List.mem_of_getElem? (i := 107) rfl))) (g := (mkF m 42 #[.val (.ref a1), .val (.ref a2), .val (.int (Int32.ofNat k)), .val (.int (own_cp (g k) (g (k + 1))))] [(.int (own_cp (g k) (g (k + 1))))])) rfl (hb hby d5_42) _ ?_
          show Steps p.tables e below (T114.setTop (mkF m 44 #[.val (.ref a1), .val (.ref a2), .val (.int (Int32.ofNat k)), .val (.int (own_cp (g k) (g (k + 1))))] [(.int (55296 : Int32)), (.int (own_cp (g k) (g (k + 1))))])) _
          refine XS.icmpNo X114.here hx rfl (hb hby d5_44) rfl (flt (own_cp55 cg)).1 ?_
          show Steps p.tables e below (T114.setTop (mkF m 47 #[.val (.ref a1), .val (.ref a2), .val (.int (Int32.ofNat k)), .val (.int (own_cp (g k) (g (k + 1))))] [])) _
          refine XS.iloadN X114.here hx rfl (hb hby d5_47) rfl ?_
          show Steps p.tables e below (T114.setTop (mkF m 48 #[.val (.ref a1), .val (.ref a2), .val (.int (Int32.ofNat k)), .val (.int (own_cp (g k) (g (k + 1))))] [(.int (own_cp (g k) (g (k + 1))))])) _
          refine X114.ldcInt hx hown (mvT hZ (hw _ (List.mem_of_getElem? (i := 121) rfl))) (g := (mkF m 48 #[.val (.ref a1), .val (.ref a2), .val (.int (Int32.ofNat k)), .val (.int (own_cp (g k) (g (k + 1))))] [(.int (own_cp (g k) (g (k + 1))))])) rfl (hb hby d5_48) _ ?_
          show Steps p.tables e below (T114.setTop (mkF m 50 #[.val (.ref a1), .val (.ref a2), .val (.int (Int32.ofNat k)), .val (.int (own_cp (g k) (g (k + 1))))] [(.int (57343 : Int32)), (.int (own_cp (g k) (g (k + 1))))])) _
          refine XS.icmpYes X114.here hx rfl (pc0 := 50) (pc' := 68) rfl (hb hby d5_50) rfl (tlt (own_cp57 cg)).2.2.1 (by decide) (by decide) ?_
          show Steps p.tables e below (T114.setTop (mkF m 68 #[.val (.ref a1), .val (.ref a2), .val (.int (Int32.ofNat k)), .val (.int (own_cp (g k) (g (k + 1))))] [])) _
          refine XS.iloadN X114.here hx rfl (hb hby d5_68) rfl ?_
          show Steps p.tables e below (T114.setTop (mkF m 69 #[.val (.ref a1), .val (.ref a2), .val (.int (Int32.ofNat k)), .val (.int (own_cp (g k) (g (k + 1))))] [(.int (Int32.ofNat k))])) _
          refine XS.iloadN X114.here hx rfl (hb hby d5_69) rfl ?_
          show Steps p.tables e below (T114.setTop (mkF m 70 #[.val (.ref a1), .val (.ref a2), .val (.int (Int32.ofNat k)), .val (.int (own_cp (g k) (g (k + 1))))] [(.int (own_cp (g k) (g (k + 1)))), (.int (Int32.ofNat k))])) _
          refine st115 _ ?_
          show Steps p.tables e below (T115.setTop (mkF m 73 #[.val (.ref a1), .val (.ref a2), .val (.int (Int32.ofNat k)), .val (.int (own_cp (g k) (g (k + 1))))] [(.int (2 : Int32)), (.int (Int32.ofNat k))])) _
          refine XS.iadd X115.here hx rfl (hb hby d5_73) rfl ?_
          show Steps p.tables e below (T115.setTop (mkF m 74 #[.val (.ref a1), .val (.ref a2), .val (.int (Int32.ofNat k)), .val (.int (own_cp (g k) (g (k + 1))))] [(.int ((Int32.ofNat k) + (2 : Int32)))])) _
          refine XS.istoreN X115.here hx rfl (hb hby d5_74) rfl (l' := #[.val (.ref a1), .val (.ref a2), .val (.int ((Int32.ofNat k) + (2 : Int32))), .val (.int (own_cp (g k) (g (k + 1))))]) rfl ?_
          show Steps p.tables e below (T115.setTop (mkF m 75 #[.val (.ref a1), .val (.ref a2), .val (.int ((Int32.ofNat k) + (2 : Int32))), .val (.int (own_cp (g k) (g (k + 1))))] [])) _
          refine XS.goto X115.here hx rfl (pc0 := 75) (pc' := 8) rfl (hb hby d5_75) (by decide) (by decide) ?_
          exact k_)
        obtain ⟨lx', T', lc', X', e', N', st'⟩ := ih (k + 2) (.val (.int (own_cp (g k) (g (k + 1))))) _ _ (Or.inr ⟨_, rfl⟩) Wk.2.2 X115 e115 N115
        refine ⟨lx', T', lc', X', e', N', fun t_ k_ => pre116 _ ?_⟩
        rw [own_of2]
        exact st' t_ k_
  have pre117 : ∀ t_, Steps p.tables e below (s₁.setTop (mkF m 8 #[.val (.ref a1), .val (.ref a2), .val (.int (0 : Int32)), .unset] [])) t_ → Steps p.tables e below (s₁.setTop (entryFrame m #[(.ref a1), (.ref a2)] 4)) t_ := fun t_ k_ => pre0 _ (by
    show Steps p.tables e below (s₁.setTop (mkF m 0 #[.val (.ref a1), .val (.ref a2), .unset, .unset] [])) _
    refine XS.aloadN X0.here hx rfl (hb hby d5_0) rfl rfl ?_
    show Steps p.tables e below (s₁.setTop (mkF m 1 #[.val (.ref a1), .val (.ref a2), .unset, .unset] [(.ref a2)])) _
    refine XS.ifnonnullYes X0.here hx rfl (pc0 := 1) (pc' := 6) rfl (hb hby d5_1) rfl (by decide) (by decide) ?_
    show Steps p.tables e below (s₁.setTop (mkF m 6 #[.val (.ref a1), .val (.ref a2), .unset, .unset] [])) _
    refine XS.iconst X0.here hx rfl (hb hby d5_6) ?_
    show Steps p.tables e below (s₁.setTop (mkF m 7 #[.val (.ref a1), .val (.ref a2), .unset, .unset] [(.int (0 : Int32))])) _
    refine XS.istoreN X0.here hx rfl (hb hby d5_7) rfl (l' := #[.val (.ref a1), .val (.ref a2), .val (.int (0 : Int32)), .unset]) rfl ?_
    exact k_)
  obtain ⟨lx', T', lc', X', e', N', st'⟩ := loop ks 0 .unset _ _ (Or.inl rfl) Wg X0 e0 N0
  have pre118 : ∀ t_, Steps p.tables e below (T'.setTop (mkF m 79 #[.val (.ref a1), .val (.ref a2), .val (.int (Int32.ofNat nN)), lx'] [(.ref a2)])) t_ → Steps p.tables e below (s₁.setTop (entryFrame m #[(.ref a1), (.ref a2)] 4)) t_ := fun t_ k_ => pre117 _ (by
    show Steps p.tables e below (s₁.setTop (mkF m 8 #[.val (.ref a1), .val (.ref a2), .val (.int (0 : Int32)), .unset] [])) _
    refine st' _ ?_
    show Steps p.tables e below (T'.setTop (mkF m 78 #[.val (.ref a1), .val (.ref a2), .val (.int (Int32.ofNat nN)), lx'] [])) _
    refine XS.aloadN X'.here hx rfl (hb hby d5_78) rfl rfl ?_
    exact k_)
  obtain ⟨fs, hr, hrun, hended, hW, hsame⟩ := X'.leave (v := some (.ref a2)) (fun h => by rw [Bd.returns] at h; cases h)
  refine ⟨_, _, pre118 _ ?_, hrun, hended, _, _, rfl, ?_, ⟨_, rfl⟩, hW, hsame.mono (by decide) (by decide)⟩
  · show Steps p.tables e below (T'.setTop (mkF m 79 #[.val (.ref a1), .val (.ref a2), .val (.int (Int32.ofNat nN)), lx'] [(.ref a2)])) _
    jvm_step X'.here [X'.here.top, hx, (hb hby d5_79), X'.method', Bd.returns, Value.isRef, FieldType.isReference]
    first | (intro acts; rw [hr _ acts rfl rfl rfl]) | rw [hr _ _ rfl rfl rfl]
    exact Steps.refl _
  · show QrmRq Z a1 a2 nN g zc fm ks h0 n0 _ T'.heap _
    rw [e']
    exact ⟨rfl, N', rfl⟩
theorem pd_18 : parseMethodDescriptor "(Ljava/lang/String;Ljava/lang/String;)Ljava/lang/String;" = some ⟨[(.object "java/lang/String"), (.object "java/lang/String")], some (.object "java/lang/String")⟩ := by decide +kernel
theorem pd_19 : parseMethodDescriptor "([CI)Ljava/lang/String;" = some ⟨[(.array .char), .int], some (.object "java/lang/String")⟩ := by decide +kernel
theorem pd_20 : parseMethodDescriptor "([CII)I" = some ⟨[(.array .char), .int, .int], some .int⟩ := by decide +kernel
theorem ef_rm0 (m : MethodId) (x0 : Int32) (x1 : Int32) (x2 : Int32) (x3 : Int32) : entryFrame m #[(.int x0), (.int x1), (.int x2), (.int x3)] maxLocals = mkF m 0 #[.val (.int x0), .val (.int x1), .val (.int x2), .val (.int x3), .unset, .unset, .unset, .unset] [] := by first | (simp [entryFrame, mkF, argsToLocals, Value.category, maxLocals]; done) | rfl
def Qrm0 (Z : State) (p1 : Int32) (p2 : Int32) (p3 : Int32) (p4 : Int32) (zc : Int32) (fm : Value) (h0 : Heap) (n0 : Nat) (v : Option Value) (h : Heap) (L : List Loc) : Prop := v = some (.int 1) ∧ Fr n0 L
set_option maxRecDepth 65536 in
set_option maxHeartbeats 40000000 in
theorem rm0 (l : Launch) (Z : State) (a0 : Array Value) (hw : ∀ d ∈ tables_1, d.before a0 Z = true) (ws : List Jvm.Cond) (p1 : Int32) (p2 : Int32) (p3 : Int32) (p4 : Int32) (zc : Int32) (fm : Value) (h0 : Heap) (n0 : Nat) (Z0 : n0 ≤ h0.size) (S_a : Sta Z Z.heap "java/lang/StringUTF16" "$assertionsDisabled" "Z" (.int (1 : Int32))) (S_h : Sta Z Z.heap "java/lang/StringUTF16" "HI_BYTE_SHIFT" "I" (.int (0 : Int32))) (S_l : Sta Z Z.heap "java/lang/StringUTF16" "LO_BYTE_SHIFT" "I" (.int (8 : Int32))) (O : Old Z n0 h0) (S_c : Sta Z Z.heap "java/lang/String" "COMPACT_STRINGS" "Z" (.int zc)) (hzc : ¬ zc = 0) (S_f : Sta Z Z.heap "jdk/internal/util/Preconditions" "SIOOBE_FORMATTER" "Ljava/util/function/BiFunction;" fm) (hf : fm.isRef = true) :
    MetFree l x (head1 (Jvm.Cond.code x code maxLocals ret :: ws) room_1) (fun a U => a = #[(.int p1), (.int p2), (.int p3), (.int p4)] ∧ Z.Warmed39 U.vm ∧ U.heap = h0 ∧ CHv Z own_EL U.vm h0) (fun _ _ _ _ _ => True) (fun _ U o U' => ∃ v L, o = .returned v ∧ Qrm0 Z p1 p2 p3 p4 zc fm h0 n0 v U'.heap L ∧ ReturnedEndW U o U' L room_1.cells room_1.slots) := by
  refine MetFree.of_bodySF (plainFor_of_name pn_4) hisR ?_
  intro p e s m args below meth c s₁ Bd hml0 hP hK
  obtain ⟨rfl, hZ, hh, hH⟩ := hP
  have hx := Bd.exec
  have hby := Bd.bytes
  have hml : c.maxLocals = 8 := hml0
  have hown : s.vm.findClass "com/example/ledgerpost/ledgerpost/StorableTextRequirePinLaw" = some m.cls := findClass_of_methodNamed Bd.named
  have hnm := (name_of_methodNamed Bd.named Bd.method).1
  have X0 : Stand p l e room_1 s m #[(.int p1), (.int p2), (.int p3), (.int p4)] below meth c s₁ [] 0 0 := Stand.of_body Bd
  have e0 : s₁.heap = h0 := by rw [← hh, Bd.state]; rfl
  have N0 := Fr.nil n0
  have pre0 : ∀ t_, Steps p.tables e below (s₁.setTop (mkF m 0 #[.val (.int p1), .val (.int p2), .val (.int p3), .val (.int p4), .unset, .unset, .unset, .unset] [])) t_ → Steps p.tables e below (s₁.setTop (entryFrame m #[(.int p1), (.int p2), (.int p3), (.int p4)] maxLocals)) t_ := fun t_ k_ => castTop (ef_rm0 m p1 p2 p3 p4) k_
  have pre101 : ∀ t_, Steps p.tables e below (s₁.setTop (mkF m 6 #[.val (.int p1), .val (.int p2), .val (.int p3), .val (.int p4), .unset, .unset, .unset, .unset] [(.int (12 : Int32)), (.int (p1 &&& (12 : Int32)))])) t_ → Steps p.tables e below (s₁.setTop (entryFrame m #[(.int p1), (.int p2), (.int p3), (.int p4)] maxLocals)) t_ := fun t_ k_ => pre0 _ (by
    show Steps p.tables e below (s₁.setTop (mkF m 0 #[.val (.int p1), .val (.int p2), .val (.int p3), .val (.int p4), .unset, .unset, .unset, .unset] [])) _
    refine XS.iloadN X0.here hx rfl (hb hby at_0) rfl ?_
    show Steps p.tables e below (s₁.setTop (mkF m 1 #[.val (.int p1), .val (.int p2), .val (.int p3), .val (.int p4), .unset, .unset, .unset, .unset] [(.int p1)])) _
    refine XS.bipush X0.here hx rfl (hb hby at_1) ?_
    show Steps p.tables e below (s₁.setTop (mkF m 3 #[.val (.int p1), .val (.int p2), .val (.int p3), .val (.int p4), .unset, .unset, .unset, .unset] [(.int (12 : Int32)), (.int p1)])) _
    refine XS.iand X0.here hx rfl (hb hby at_3) rfl ?_
    show Steps p.tables e below (s₁.setTop (mkF m 4 #[.val (.int p1), .val (.int p2), .val (.int p3), .val (.int p4), .unset, .unset, .unset, .unset] [(.int (p1 &&& (12 : Int32)))])) _
    refine XS.bipush X0.here hx rfl (hb hby at_4) ?_
    exact k_)
  by_cases hA : (p1 &&& (12 : Int32)) = (12 : Int32)
  · skip
    obtain ⟨pl, T102, h102, k1_102, X102, e102, Ext102, hS102, hk102, hZ102, hown102, hC102, -, st102⟩ := Jvm.RoadKit.ldcOH (s := s) (vm0 := s.vm) X0 hx hZ hown (hw _ (List.mem_of_getElem? (i := 26) rfl)) (own_wS hw) e0 ((State.WarmedH.refl s).since 0) (Nat.zero_le _) (own_EW hw) (CHr.refl hH).1 (g := (mkF m 9 #[.val (.int p1), .val (.int p2), .val (.int p3), .val (.int p4), .unset, .unset, .unset, .unset] [])) rfl (hb hby at_9) (n := 28) (by first | decide | decide +kernel | simp) (by decide) (by decide) (by decide)
    have O_103 := O.ext Ext102
    have Z104 : n0 ≤ h102.size := Nat.le_trans Z0 (Ext102.1)
    have ch105 := (CHr.refl hH).trans hC102
    obtain ⟨_, _, ⟨T106, L106, k106, n106⟩, -, X106, ⟨Lc106, hQ106, l106, y106, z106⟩, st106⟩ := Jvm.LawKit.callS X102 hx (y := (⟨"com/example/ledgerpost/ledgerpost/StorableText", "require", "(Ljava/lang/String;Ljava/lang/String;)Ljava/lang/String;"⟩ : MethodName)) hown102 (mvT hZ102 (hw _ (List.mem_of_getElem? (i := 27) rfl))) (mvT hZ102 (hw _ (List.mem_of_getElem? (i := 28) rfl))) (mvT hZ102 (hw _ (List.mem_of_getElem? (i := 29) rfl))) (mvT hZ102 (hw _ (List.mem_of_getElem? (i := 30) rfl))) (by decide) (backOf (W := 0) (rmRn l Z a0 hw [] pl h102 n0 Z104 ) hZ102 (hw _ (List.mem_of_getElem? (i := 30) rfl)) (hw _ (List.mem_of_getElem? (i := 29) rfl)) (by decide) (by decide)) (g := (mkF m 12 #[.val (.int p1), .val (.int p2), .val (.int p3), .val (.int p4), .unset, .unset, .unset, .unset] [.null, (.ref pl)])) rfl (by rw [hml]; rfl) (argsL := [(.ref pl), .null]) (rest := []) (lenOf pd_18 rfl) rfl (by show 2 * 0 + _ ≤ _; exact Nat.le_of_eq rfl) (hb hby at_12) (fun _ _ => ⟨rfl, e102, (by decide : 2 + 0 ≤ _), (by decide : 32 + 0 ≤ _)⟩)
    dsimp only [Pt.U, Pt.locs, Pt.cells, Pt.slots] at X106 l106 y106 z106 st106 hQ106
    rw [l106, y106, z106] at X106
    obtain ⟨hv106, N106q, e106⟩ := hQ106
    rw [hv106] at st106
    have N106 := Fr.app N0 N106q
    have pre107 : ∀ t_, Steps p.tables e below (T106.setTop (mkF m 23 #[.val (.int p1), .val (.int p2), .val (.int p3), .val (.int p4), .unset, .unset, .unset, .unset] [(.int (1 : Int32))])) t_ → Steps p.tables e below (s₁.setTop (entryFrame m #[(.int p1), (.int p2), (.int p3), (.int p4)] maxLocals)) t_ := fun t_ k_ => pre101 _ (by
      show Steps p.tables e below (s₁.setTop (mkF m 6 #[.val (.int p1), .val (.int p2), .val (.int p3), .val (.int p4), .unset, .unset, .unset, .unset] [(.int (12 : Int32)), (.int (p1 &&& (12 : Int32)))])) _
      refine XS.icmpNo X0.here hx rfl (hb hby at_6) rfl (teq hA).2 ?_
      show Steps p.tables e below (s₁.setTop (mkF m 9 #[.val (.int p1), .val (.int p2), .val (.int p3), .val (.int p4), .unset, .unset, .unset, .unset] [])) _
      refine st102 _ ?_
      show Steps p.tables e below (T102.setTop (mkF m 11 #[.val (.int p1), .val (.int p2), .val (.int p3), .val (.int p4), .unset, .unset, .unset, .unset] [(.ref pl)])) _
      refine XS.aconstNull X102.here hx rfl (hb hby at_11) ?_
      show Steps p.tables e below (T102.setTop (mkF m 12 #[.val (.int p1), .val (.int p2), .val (.int p3), .val (.int p4), .unset, .unset, .unset, .unset] [.null, (.ref pl)])) _
      refine st106 _ ?_
      show Steps p.tables e below (T106.setTop (mkF m 15 #[.val (.int p1), .val (.int p2), .val (.int p3), .val (.int p4), .unset, .unset, .unset, .unset] [.null])) _
      refine XS.ifnonnullNo X106.here hx rfl (hb hby at_15) rfl ?_
      show Steps p.tables e below (T106.setTop (mkF m 18 #[.val (.int p1), .val (.int p2), .val (.int p3), .val (.int p4), .unset, .unset, .unset, .unset] [])) _
      refine XS.iconst X106.here hx rfl (hb hby at_18) ?_
      show Steps p.tables e below (T106.setTop (mkF m 19 #[.val (.int p1), .val (.int p2), .val (.int p3), .val (.int p4), .unset, .unset, .unset, .unset] [(.int (1 : Int32))])) _
      refine XS.goto X106.here hx rfl (pc0 := 19) (pc' := 23) rfl (hb hby at_19) (by decide) (by decide) ?_
      exact k_)
    obtain ⟨fs, hr, hrun, hended, hWr, hW1, hW2, hsame⟩ := Jvm.Stand.leaveW (s := s) X106 hS102 (by rw [e106]; exact hk102) (v := some (.int (1 : Int32))) (fun h => by rw [Bd.returns] at h; cases h)
    refine ⟨_, _, pre107 _ ?_, hrun, hended, _, _, rfl, ?_, hWr, hW1, hW2, hsame.mono (by decide) (by decide)⟩
    · show Steps p.tables e below (T106.setTop (mkF m 23 #[.val (.int p1), .val (.int p2), .val (.int p3), .val (.int p4), .unset, .unset, .unset, .unset] [(.int (1 : Int32))])) _
      exact retN X106 hx (t := .boolean) Bd.returns (by simp) (hb hby at_23) hr
    · show Qrm0 Z p1 p2 p3 p4 zc fm h0 n0 _ T106.heap _
      rw [e106]
      exact ⟨rfl, N106⟩
  · skip
    obtain ⟨un, hv_un, pre108⟩ : ∃ z_ : Int32, z_ = (p1 &&& (3 : Int32)) ∧ ∀ t_, Steps p.tables e below (s₁.setTop (mkF m 29 #[.val (.int p1), .val (.int p2), .val (.int p3), .val (.int p4), .val (.int z_), .unset, .unset, .unset] [])) t_ → Steps p.tables e below (s₁.setTop (entryFrame m #[(.int p1), (.int p2), (.int p3), (.int p4)] maxLocals)) t_ := ⟨_, rfl, fun t_ k_ => pre101 _ (by
      show Steps p.tables e below (s₁.setTop (mkF m 6 #[.val (.int p1), .val (.int p2), .val (.int p3), .val (.int p4), .unset, .unset, .unset, .unset] [(.int (12 : Int32)), (.int (p1 &&& (12 : Int32)))])) _
      refine XS.icmpYes X0.here hx rfl (pc0 := 6) (pc' := 24) rfl (hb hby at_6) rfl (feq hA).2 (by decide) (by decide) ?_
      show Steps p.tables e below (s₁.setTop (mkF m 24 #[.val (.int p1), .val (.int p2), .val (.int p3), .val (.int p4), .unset, .unset, .unset, .unset] [])) _
      refine XS.iloadN X0.here hx rfl (hb hby at_24) rfl ?_
      show Steps p.tables e below (s₁.setTop (mkF m 25 #[.val (.int p1), .val (.int p2), .val (.int p3), .val (.int p4), .unset, .unset, .unset, .unset] [(.int p1)])) _
      refine XS.iconst X0.here hx rfl (hb hby at_25) ?_
      show Steps p.tables e below (s₁.setTop (mkF m 26 #[.val (.int p1), .val (.int p2), .val (.int p3), .val (.int p4), .unset, .unset, .unset, .unset] [(.int (3 : Int32)), (.int p1)])) _
      refine XS.iand X0.here hx rfl (hb hby at_26) rfl ?_
      show Steps p.tables e below (s₁.setTop (mkF m 27 #[.val (.int p1), .val (.int p2), .val (.int p3), .val (.int p4), .unset, .unset, .unset, .unset] [(.int (p1 &&& (3 : Int32)))])) _
      refine XS.istore X0.here hx rfl (hb hby at_27) rfl (l' := #[.val (.int p1), .val (.int p2), .val (.int p3), .val (.int p4), .val (.int (p1 &&& (3 : Int32))), .unset, .unset, .unset]) rfl ?_
      exact k_)⟩
    have hn : un = 0 ∨ un = 1 ∨ un = 2 ∨ un = 3 := by rw [hv_un]; exact own_u4 p1
    rcases hn with q | q | q | q
    · skip
      subst q
      obtain ⟨T109, h109, k_ch, X109, e109, Ext_ch, A_ch, st109⟩ := newP X0 hx hZ (hw _ (List.mem_of_getElem? (i := 0) rfl)) e0 (g := (mkF m 31 #[.val (.int p1), .val (.int p2), .val (.int p3), .val (.int p4), .val (.int (0 : Int32)), .unset, .unset, .unset] [(.int (6 : Int32))])) rfl (hb hby at_31) rfl (by decide) (cap := 6) (by decide) (by decide) (by decide) (by decide)
      obtain ⟨ch, eq_ch⟩ : ∃ z, z = h0.size := ⟨_, rfl⟩
      rw [← eq_ch] at A_ch st109
      have g_ch : n0 ≤ ch := Nat.le_trans Z0 (Nat.le_of_eq eq_ch.symm)
      have O_110 := O.ext Ext_ch
      have Z111 : n0 ≤ h109.size := Nat.le_trans Z0 (Ext_ch.1)
      have ch112 := (CHr.refl hH).trans (CHr.ext Ext_ch (CHr.refl hH).1)
      have V_ch : Arv Z h109 ch k_ch .char (6 : Int32) [(.int (0 : Int32)), (.int (0 : Int32)), (.int (0 : Int32)), (.int (0 : Int32)), (.int (0 : Int32)), (.int (0 : Int32))] (.int (0 : Int32)) := (Arv.new A_ch (by decide)).pad (pad_rep [] (.int (0 : Int32)) 6)
      have AF0 := own_AfA (n := 6) (g := fun _ => 0) V_ch (by omega) (fun j hj => match j, hj with | 0, _ => rfl | 1, _ => rfl | 2, _ => rfl | 3, _ => rfl | 4, _ => rfl | 5, _ => rfl | (j + 6), h => absurd h (by omega))
      have KT0 := (Keep.refl h0 []).ext Ext_ch
      have W0 : own_W (fun _ => (0 : Int32)) 0 [] 0 := rfl
      obtain ⟨_, _, ⟨T113, L113, k113, n113⟩, -, X113, hS113, hle113, ⟨Lc113, hQ113, l113, y113, z113, hC113⟩, st113⟩ := callSS (s := (s.setVm s.vm)) X109 hx (y := (⟨"com/example/ledgerpost/ledgerpost/StorableTextRequirePinLaw", "make", "([CI)Ljava/lang/String;"⟩ : MethodName)) hown (mvT hZ (hw _ (List.mem_of_getElem? (i := 1) rfl))) (mvT hZ (hw _ (List.mem_of_getElem? (i := 2) rfl))) (mvT hZ (hw _ (List.mem_of_getElem? (i := 3) rfl))) (mvT hZ (hw _ (List.mem_of_getElem? (i := 4) rfl))) (by decide) (backOfSH (s := s) (vm0 := s.vm) (W := 0) (rmMk l Z a0 hw [] ch 0 (fun _ => (0 : Int32)) zc [] h109 n0 Z111 S_a S_h S_l O_110 S_c hzc (by omega) AF0 W0) hZ (hw _ (List.mem_of_getElem? (i := 4) rfl)) (hw _ (List.mem_of_getElem? (i := 3) rfl)) (by decide) (by decide) (own_EW hw) ch112.1) (g := (mkF m 90 #[.val (.int p1), .val (.int p2), .val (.int p3), .val (.int p4), .val (.int (0 : Int32)), .val (.ref ch), .val (.int (0 : Int32)), .unset] [(.int (0 : Int32)), (.ref ch)])) rfl (by rw [hml]; rfl) (argsL := [(.ref ch), (.int (0 : Int32))]) (rest := []) (lenOf pd_19 rfl) rfl (by show 2 * 0 + _ ≤ _; exact Nat.le_of_eq rfl) (hb hby at_90) (fun _ _ => ⟨rfl, e109, (by decide : 1 + 6 ≤ _), (by decide : 6 + 28 ≤ _)⟩)
      dsimp only [Pt.U, Pt.locs, Pt.cells, Pt.slots] at X113 l113 y113 z113 st113 hQ113 hS113 hle113 hC113
      rw [l113, y113, z113] at X113
      have hle113' : h109.size ≤ T113.heap.size := by have q := hle113; rw [e109] at q; exact q
      obtain ⟨X113', hS113', hZ113, hown113⟩ := rebS (s := s) (vm0 := s.vm) ((State.WarmedH.refl s).since 0) (Nat.zero_le _) X113 hS113 hle113' hZ hown
      obtain ⟨x, hv113, N113q, K113, SX, lx_⟩ := hQ113
      rw [hv113] at st113
      have N113 := Fr.app N0 N113q
      have ch114 := ch112.trans hC113
      have O_x := O_110.keep K113 all0
      have Z115 : n0 ≤ T113.heap.size := Nat.le_trans Z111 (K113.1)
      obtain ⟨pl, T116, h116, k1_116, X116, e116, Ext116, hS116, hk116, hZ116, hown116, hC116, -, st116⟩ := Jvm.RoadKit.ldcOH (s := s) (vm0 := T113.vm) X113' hx hZ113 hown113 (hw _ (List.mem_of_getElem? (i := 26) rfl)) (own_wS hw) rfl hS113' (Nat.le_refl _) (own_EW hw) ch114.1 (g := (mkF m 95 #[.val (.int p1), .val (.int p2), .val (.int p3), .val (.int p4), .val (.int (0 : Int32)), .val (.ref ch), .val (.int (0 : Int32)), .val (.ref x)] [])) rfl (hb hby at_95) (n := 28) (by first | decide | decide +kernel | simp) (by decide) (by decide) (by decide)
      have O_117 := O_x.ext Ext116
      have Z118 : n0 ≤ h116.size := Nat.le_trans Z115 (Ext116.1)
      have ch119 := ch114.trans hC116
      have SX2 := own_Sx SX Ext116
      obtain ⟨_, _, ⟨T120, L120, k120, n120⟩, -, X120, ⟨Lc120, hQ120, l120, y120, z120⟩, st120⟩ := Jvm.LawKit.callS X116 hx (y := (⟨"com/example/ledgerpost/ledgerpost/StorableText", "require", "(Ljava/lang/String;Ljava/lang/String;)Ljava/lang/String;"⟩ : MethodName)) hown116 (mvT hZ116 (hw _ (List.mem_of_getElem? (i := 27) rfl))) (mvT hZ116 (hw _ (List.mem_of_getElem? (i := 28) rfl))) (mvT hZ116 (hw _ (List.mem_of_getElem? (i := 29) rfl))) (mvT hZ116 (hw _ (List.mem_of_getElem? (i := 30) rfl))) (by decide) (backOf (W := 0) (rmRq l Z a0 hw [] pl x 0 (fun _ => (0 : Int32)) zc fm [] h116 n0 Z118 S_a S_h S_l O_117 S_c hzc S_f hf (by omega) SX2 W0) hZ116 (hw _ (List.mem_of_getElem? (i := 30) rfl)) (hw _ (List.mem_of_getElem? (i := 29) rfl)) (by decide) (by decide)) (g := (mkF m 99 #[.val (.int p1), .val (.int p2), .val (.int p3), .val (.int p4), .val (.int (0 : Int32)), .val (.ref ch), .val (.int (0 : Int32)), .val (.ref x)] [(.ref x), (.ref pl)])) rfl (by rw [hml]; rfl) (argsL := [(.ref pl), (.ref x)]) (rest := []) (lenOf pd_18 rfl) rfl (by show 2 * 0 + _ ≤ _; exact Nat.le_of_eq rfl) (hb hby at_99) (fun _ _ => ⟨rfl, e116, (by decide : 9 + 0 ≤ _), (by decide : 66 + 0 ≤ _)⟩)
      dsimp only [Pt.U, Pt.locs, Pt.cells, Pt.slots] at X120 l120 y120 z120 st120 hQ120
      rw [l120, y120, z120] at X120
      obtain ⟨hv120, N120q, e120⟩ := hQ120
      rw [hv120] at st120
      have N120 := Fr.app N113 N120q
      have pre121 : ∀ t_, Steps p.tables e below (T120.setTop (mkF m 112 #[.val (.int p1), .val (.int p2), .val (.int p3), .val (.int p4), .val (.int (0 : Int32)), .val (.ref ch), .val (.int (0 : Int32)), .val (.ref x)] [(.int (1 : Int32))])) t_ → Steps p.tables e below (s₁.setTop (entryFrame m #[(.int p1), (.int p2), (.int p3), (.int p4)] maxLocals)) t_ := fun t_ k_ => pre108 _ (by
        show Steps p.tables e below (s₁.setTop (mkF m 29 #[.val (.int p1), .val (.int p2), .val (.int p3), .val (.int p4), .val (.int (0 : Int32)), .unset, .unset, .unset] [])) _
        refine XS.bipush X0.here hx rfl (hb hby at_29) ?_
        show Steps p.tables e below (s₁.setTop (mkF m 31 #[.val (.int p1), .val (.int p2), .val (.int p3), .val (.int p4), .val (.int (0 : Int32)), .unset, .unset, .unset] [(.int (6 : Int32))])) _
        refine st109 _ ?_
        show Steps p.tables e below (T109.setTop (mkF m 33 #[.val (.int p1), .val (.int p2), .val (.int p3), .val (.int p4), .val (.int (0 : Int32)), .unset, .unset, .unset] [(.ref ch)])) _
        refine XS.astore X109.here hx rfl (hb hby at_33) rfl rfl (l' := #[.val (.int p1), .val (.int p2), .val (.int p3), .val (.int p4), .val (.int (0 : Int32)), .val (.ref ch), .unset, .unset]) rfl ?_
        show Steps p.tables e below (T109.setTop (mkF m 35 #[.val (.int p1), .val (.int p2), .val (.int p3), .val (.int p4), .val (.int (0 : Int32)), .val (.ref ch), .unset, .unset] [])) _
        refine XS.iconst X109.here hx rfl (hb hby at_35) ?_
        show Steps p.tables e below (T109.setTop (mkF m 36 #[.val (.int p1), .val (.int p2), .val (.int p3), .val (.int p4), .val (.int (0 : Int32)), .val (.ref ch), .unset, .unset] [(.int (0 : Int32))])) _
        refine XS.istore X109.here hx rfl (hb hby at_36) rfl (l' := #[.val (.int p1), .val (.int p2), .val (.int p3), .val (.int p4), .val (.int (0 : Int32)), .val (.ref ch), .val (.int (0 : Int32)), .unset]) rfl ?_
        show Steps p.tables e below (T109.setTop (mkF m 38 #[.val (.int p1), .val (.int p2), .val (.int p3), .val (.int p4), .val (.int (0 : Int32)), .val (.ref ch), .val (.int (0 : Int32)), .unset] [])) _
        refine XS.iload X109.here hx rfl (hb hby at_38) rfl ?_
        show Steps p.tables e below (T109.setTop (mkF m 40 #[.val (.int p1), .val (.int p2), .val (.int p3), .val (.int p4), .val (.int (0 : Int32)), .val (.ref ch), .val (.int (0 : Int32)), .unset] [(.int (0 : Int32))])) _
        refine XS.iconst X109.here hx rfl (hb hby at_40) ?_
        show Steps p.tables e below (T109.setTop (mkF m 41 #[.val (.int p1), .val (.int p2), .val (.int p3), .val (.int p4), .val (.int (0 : Int32)), .val (.ref ch), .val (.int (0 : Int32)), .unset] [(.int (1 : Int32)), (.int (0 : Int32))])) _
        refine XS.icmpYes X109.here hx rfl (pc0 := 41) (pc' := 54) rfl (hb hby at_41) rfl (tlt (by decide)).1 (by decide) (by decide) ?_
        show Steps p.tables e below (T109.setTop (mkF m 54 #[.val (.int p1), .val (.int p2), .val (.int p3), .val (.int p4), .val (.int (0 : Int32)), .val (.ref ch), .val (.int (0 : Int32)), .unset] [])) _
        refine XS.iload X109.here hx rfl (hb hby at_54) rfl ?_
        show Steps p.tables e below (T109.setTop (mkF m 56 #[.val (.int p1), .val (.int p2), .val (.int p3), .val (.int p4), .val (.int (0 : Int32)), .val (.ref ch), .val (.int (0 : Int32)), .unset] [(.int (0 : Int32))])) _
        refine XS.iconst X109.here hx rfl (hb hby at_56) ?_
        show Steps p.tables e below (T109.setTop (mkF m 57 #[.val (.int p1), .val (.int p2), .val (.int p3), .val (.int p4), .val (.int (0 : Int32)), .val (.ref ch), .val (.int (0 : Int32)), .unset] [(.int (2 : Int32)), (.int (0 : Int32))])) _
        refine XS.icmpYes X109.here hx rfl (pc0 := 57) (pc' := 70) rfl (hb hby at_57) rfl (tlt (by decide)).1 (by decide) (by decide) ?_
        show Steps p.tables e below (T109.setTop (mkF m 70 #[.val (.int p1), .val (.int p2), .val (.int p3), .val (.int p4), .val (.int (0 : Int32)), .val (.ref ch), .val (.int (0 : Int32)), .unset] [])) _
        refine XS.iload X109.here hx rfl (hb hby at_70) rfl ?_
        show Steps p.tables e below (T109.setTop (mkF m 72 #[.val (.int p1), .val (.int p2), .val (.int p3), .val (.int p4), .val (.int (0 : Int32)), .val (.ref ch), .val (.int (0 : Int32)), .unset] [(.int (0 : Int32))])) _
        refine XS.iconst X109.here hx rfl (hb hby at_72) ?_
        show Steps p.tables e below (T109.setTop (mkF m 73 #[.val (.int p1), .val (.int p2), .val (.int p3), .val (.int p4), .val (.int (0 : Int32)), .val (.ref ch), .val (.int (0 : Int32)), .unset] [(.int (3 : Int32)), (.int (0 : Int32))])) _
        refine XS.icmpYes X109.here hx rfl (pc0 := 73) (pc' := 86) rfl (hb hby at_73) rfl (tlt (by decide)).1 (by decide) (by decide) ?_
        show Steps p.tables e below (T109.setTop (mkF m 86 #[.val (.int p1), .val (.int p2), .val (.int p3), .val (.int p4), .val (.int (0 : Int32)), .val (.ref ch), .val (.int (0 : Int32)), .unset] [])) _
        refine XS.aload X109.here hx rfl (hb hby at_86) rfl rfl ?_
        show Steps p.tables e below (T109.setTop (mkF m 88 #[.val (.int p1), .val (.int p2), .val (.int p3), .val (.int p4), .val (.int (0 : Int32)), .val (.ref ch), .val (.int (0 : Int32)), .unset] [(.ref ch)])) _
        refine XS.iload X109.here hx rfl (hb hby at_88) rfl ?_
        show Steps p.tables e below (T109.setTop (mkF m 90 #[.val (.int p1), .val (.int p2), .val (.int p3), .val (.int p4), .val (.int (0 : Int32)), .val (.ref ch), .val (.int (0 : Int32)), .unset] [(.int (0 : Int32)), (.ref ch)])) _
        refine st113.trans ?_
        show Steps p.tables e below (T113.setTop (mkF m 93 #[.val (.int p1), .val (.int p2), .val (.int p3), .val (.int p4), .val (.int (0 : Int32)), .val (.ref ch), .val (.int (0 : Int32)), .unset] [(.ref x)])) _
        refine XS.astore X113'.here hx rfl (hb hby at_93) rfl rfl (l' := #[.val (.int p1), .val (.int p2), .val (.int p3), .val (.int p4), .val (.int (0 : Int32)), .val (.ref ch), .val (.int (0 : Int32)), .val (.ref x)]) rfl ?_
        show Steps p.tables e below (T113.setTop (mkF m 95 #[.val (.int p1), .val (.int p2), .val (.int p3), .val (.int p4), .val (.int (0 : Int32)), .val (.ref ch), .val (.int (0 : Int32)), .val (.ref x)] [])) _
        refine st116 _ ?_
        show Steps p.tables e below (T116.setTop (mkF m 97 #[.val (.int p1), .val (.int p2), .val (.int p3), .val (.int p4), .val (.int (0 : Int32)), .val (.ref ch), .val (.int (0 : Int32)), .val (.ref x)] [(.ref pl)])) _
        refine XS.aload X116.here hx rfl (hb hby at_97) rfl rfl ?_
        show Steps p.tables e below (T116.setTop (mkF m 99 #[.val (.int p1), .val (.int p2), .val (.int p3), .val (.int p4), .val (.int (0 : Int32)), .val (.ref ch), .val (.int (0 : Int32)), .val (.ref x)] [(.ref x), (.ref pl)])) _
        refine st120 _ ?_
        show Steps p.tables e below (T120.setTop (mkF m 102 #[.val (.int p1), .val (.int p2), .val (.int p3), .val (.int p4), .val (.int (0 : Int32)), .val (.ref ch), .val (.int (0 : Int32)), .val (.ref x)] [(.ref x)])) _
        refine XS.aload X120.here hx rfl (hb hby at_102) rfl rfl ?_
        show Steps p.tables e below (T120.setTop (mkF m 104 #[.val (.int p1), .val (.int p2), .val (.int p3), .val (.int p4), .val (.int (0 : Int32)), .val (.ref ch), .val (.int (0 : Int32)), .val (.ref x)] [(.ref x), (.ref x)])) _
        refine Jvm.RoadKit.acmp (g := (mkF m 104 #[.val (.int p1), .val (.int p2), .val (.int p3), .val (.int p4), .val (.int (0 : Int32)), .val (.ref ch), .val (.int (0 : Int32)), .val (.ref x)] [(.ref x), (.ref x)])) X120 hx rfl rfl rfl (pc0 := 104) (pc' := 107) (same := true) rfl (hb hby at_104) rfl (decide_eq_true rfl) (by decide) (by decide) ?_
        show Steps p.tables e below (T120.setTop (mkF m 107 #[.val (.int p1), .val (.int p2), .val (.int p3), .val (.int p4), .val (.int (0 : Int32)), .val (.ref ch), .val (.int (0 : Int32)), .val (.ref x)] [])) _
        refine XS.iconst X120.here hx rfl (hb hby at_107) ?_
        show Steps p.tables e below (T120.setTop (mkF m 108 #[.val (.int p1), .val (.int p2), .val (.int p3), .val (.int p4), .val (.int (0 : Int32)), .val (.ref ch), .val (.int (0 : Int32)), .val (.ref x)] [(.int (1 : Int32))])) _
        refine XS.goto X120.here hx rfl (pc0 := 108) (pc' := 112) rfl (hb hby at_108) (by decide) (by decide) ?_
        exact k_)
      obtain ⟨fs, hr, hrun, hended, hWr, hW1, hW2, hsame⟩ := Jvm.Stand.leaveW (s := s) X120 hS116 (by rw [e120]; exact hk116) (v := some (.int (1 : Int32))) (fun h => by rw [Bd.returns] at h; cases h)
      refine ⟨_, _, pre121 _ ?_, hrun, hended, _, _, rfl, ?_, hWr, hW1, hW2, hsame.mono (by decide) (by decide)⟩
      · show Steps p.tables e below (T120.setTop (mkF m 112 #[.val (.int p1), .val (.int p2), .val (.int p3), .val (.int p4), .val (.int (0 : Int32)), .val (.ref ch), .val (.int (0 : Int32)), .val (.ref x)] [(.int (1 : Int32))])) _
        exact retN X120 hx (t := .boolean) Bd.returns (by simp) (hb hby at_112) hr
      · show Qrm0 Z p1 p2 p3 p4 zc fm h0 n0 _ T120.heap _
        rw [e120]
        exact ⟨rfl, N120⟩
    · skip
      subst q
      obtain ⟨T122, h122, k_ch, X122, e122, Ext_ch, A_ch, st122⟩ := newP X0 hx hZ (hw _ (List.mem_of_getElem? (i := 0) rfl)) e0 (g := (mkF m 31 #[.val (.int p1), .val (.int p2), .val (.int p3), .val (.int p4), .val (.int (1 : Int32)), .unset, .unset, .unset] [(.int (6 : Int32))])) rfl (hb hby at_31) rfl (by decide) (cap := 6) (by decide) (by decide) (by decide) (by decide)
      obtain ⟨ch, eq_ch⟩ : ∃ z, z = h0.size := ⟨_, rfl⟩
      rw [← eq_ch] at A_ch st122
      have g_ch : n0 ≤ ch := Nat.le_trans Z0 (Nat.le_of_eq eq_ch.symm)
      have O_123 := O.ext Ext_ch
      have Z124 : n0 ≤ h122.size := Nat.le_trans Z0 (Ext_ch.1)
      have ch125 := (CHr.refl hH).trans (CHr.ext Ext_ch (CHr.refl hH).1)
      have V_ch : Arv Z h122 ch k_ch .char (6 : Int32) [(.int (0 : Int32)), (.int (0 : Int32)), (.int (0 : Int32)), (.int (0 : Int32)), (.int (0 : Int32)), (.int (0 : Int32))] (.int (0 : Int32)) := (Arv.new A_ch (by decide)).pad (pad_rep [] (.int (0 : Int32)) 6)
      have AF0 := own_AfA (n := 6) (g := fun _ => 0) V_ch (by omega) (fun j hj => match j, hj with | 0, _ => rfl | 1, _ => rfl | 2, _ => rfl | 3, _ => rfl | 4, _ => rfl | 5, _ => rfl | (j + 6), h => absurd h (by omega))
      have KT0 := (Keep.refl h0 []).ext Ext_ch
      have W0 : own_W (fun _ => (0 : Int32)) 0 [] 0 := rfl
      obtain ⟨_, _, ⟨T126, L126, k126, n126⟩, -, X126, ⟨Lc126, hQ126, l126, y126, z126⟩, st126⟩ := Jvm.LawKit.callS X122 hx (y := (⟨"com/example/ledgerpost/ledgerpost/StorableTextRequirePinLaw", "put", "([CII)I"⟩ : MethodName)) hown (mvT hZ (hw _ (List.mem_of_getElem? (i := 42) rfl))) (mvT hZ (hw _ (List.mem_of_getElem? (i := 43) rfl))) (mvT hZ (hw _ (List.mem_of_getElem? (i := 3) rfl))) (mvT hZ (hw _ (List.mem_of_getElem? (i := 44) rfl))) (by decide) (backOf (W := 0) (rmPut l Z a0 hw [] ch p2 0 (fun _ => (0 : Int32)) [] h122 n0 Z124 (by omega) AF0 g_ch W0) hZ (hw _ (List.mem_of_getElem? (i := 44) rfl)) (hw _ (List.mem_of_getElem? (i := 3) rfl)) (by decide) (by decide)) (g := (mkF m 49 #[.val (.int p1), .val (.int p2), .val (.int p3), .val (.int p4), .val (.int (1 : Int32)), .val (.ref ch), .val (.int (0 : Int32)), .unset] [(.int p2), (.int (0 : Int32)), (.ref ch)])) rfl (by rw [hml]; rfl) (argsL := [(.ref ch), (.int (0 : Int32)), (.int p2)]) (rest := []) (lenOf pd_20 rfl) rfl (by show 2 * 0 + _ ≤ _; exact Nat.le_of_eq rfl) (hb hby at_49) (fun _ _ => ⟨rfl, e122, (by decide : 1 + 0 ≤ _), (by decide : 6 + 0 ≤ _)⟩)
      dsimp only [Pt.U, Pt.locs, Pt.cells, Pt.slots] at X126 l126 y126 z126 st126 hQ126
      rw [l126, y126, z126] at X126
      obtain ⟨r1, g1, ks1, hv126, N126q, K126, AF1, W1_, le1⟩ := hQ126
      rw [hv126] at st126
      have N126 := Fr.app N0 N126q
      have KT1 := KT0.trans K126 (allS (Or.inr (Nat.le_of_eq eq_ch.symm)) all0)
      have O_1 := O_123.keep K126 (allS g_ch all0)
      have Z127 : n0 ≤ T126.heap.size := Nat.le_trans Z124 (K126.1)
      obtain ⟨_, _, ⟨T128, L128, k128, n128⟩, -, X128, hS128, hle128, ⟨Lc128, hQ128, l128, y128, z128, hC128⟩, st128⟩ := callSS (s := (s.setVm s.vm)) X126 hx (y := (⟨"com/example/ledgerpost/ledgerpost/StorableTextRequirePinLaw", "make", "([CI)Ljava/lang/String;"⟩ : MethodName)) hown (mvT hZ (hw _ (List.mem_of_getElem? (i := 1) rfl))) (mvT hZ (hw _ (List.mem_of_getElem? (i := 2) rfl))) (mvT hZ (hw _ (List.mem_of_getElem? (i := 3) rfl))) (mvT hZ (hw _ (List.mem_of_getElem? (i := 4) rfl))) (by decide) (backOfSH (s := s) (vm0 := s.vm) (W := 0) (rmMk l Z a0 hw [] ch r1 g1 zc ks1 T126.heap n0 Z127 S_a S_h S_l O_1 S_c hzc (by omega) AF1 W1_) hZ (hw _ (List.mem_of_getElem? (i := 4) rfl)) (hw _ (List.mem_of_getElem? (i := 3) rfl)) (by decide) (by decide) (own_EW hw) (CHr.keep KT1 (fun _ q => nomatch q) hH).1) (g := (mkF m 90 #[.val (.int p1), .val (.int p2), .val (.int p3), .val (.int p4), .val (.int (1 : Int32)), .val (.ref ch), .val (.int (Int32.ofNat r1)), .unset] [(.int (Int32.ofNat r1)), (.ref ch)])) rfl (by rw [hml]; rfl) (argsL := [(.ref ch), (.int (Int32.ofNat r1))]) (rest := []) (lenOf pd_19 rfl) rfl (by show 2 * 0 + _ ≤ _; exact Nat.le_of_eq rfl) (hb hby at_90) (fun _ _ => ⟨rfl, rfl, (by decide : 1 + 6 ≤ _), (by decide : 6 + 28 ≤ _)⟩)
      dsimp only [Pt.U, Pt.locs, Pt.cells, Pt.slots] at X128 l128 y128 z128 st128 hQ128 hS128 hle128 hC128
      rw [l128, y128, z128] at X128
      have hle128' := hle128
      obtain ⟨X128', hS128', hZ128, hown128⟩ := rebS (s := s) (vm0 := s.vm) ((State.WarmedH.refl s).since 0) (Nat.zero_le _) X128 hS128 hle128' hZ hown
      obtain ⟨x, hv128, N128q, K128, SX, lx_⟩ := hQ128
      rw [hv128] at st128
      have N128 := Fr.app N126 N128q
      have ch129 := (CHr.keep KT1 (fun _ q => nomatch q) hH).trans hC128
      have O_x := O_1.keep K128 all0
      have Z130 : n0 ≤ T128.heap.size := Nat.le_trans Z127 (K128.1)
      obtain ⟨pl, T131, h131, k1_131, X131, e131, Ext131, hS131, hk131, hZ131, hown131, hC131, -, st131⟩ := Jvm.RoadKit.ldcOH (s := s) (vm0 := T128.vm) X128' hx hZ128 hown128 (hw _ (List.mem_of_getElem? (i := 26) rfl)) (own_wS hw) rfl hS128' (Nat.le_refl _) (own_EW hw) ch129.1 (g := (mkF m 95 #[.val (.int p1), .val (.int p2), .val (.int p3), .val (.int p4), .val (.int (1 : Int32)), .val (.ref ch), .val (.int (Int32.ofNat r1)), .val (.ref x)] [])) rfl (hb hby at_95) (n := 28) (by first | decide | decide +kernel | simp) (by decide) (by decide) (by decide)
      have O_132 := O_x.ext Ext131
      have Z133 : n0 ≤ h131.size := Nat.le_trans Z130 (Ext131.1)
      have ch134 := ch129.trans hC131
      have SX2 := own_Sx SX Ext131
      obtain ⟨_, _, ⟨T135, L135, k135, n135⟩, -, X135, ⟨Lc135, hQ135, l135, y135, z135⟩, st135⟩ := Jvm.LawKit.callS X131 hx (y := (⟨"com/example/ledgerpost/ledgerpost/StorableText", "require", "(Ljava/lang/String;Ljava/lang/String;)Ljava/lang/String;"⟩ : MethodName)) hown131 (mvT hZ131 (hw _ (List.mem_of_getElem? (i := 27) rfl))) (mvT hZ131 (hw _ (List.mem_of_getElem? (i := 28) rfl))) (mvT hZ131 (hw _ (List.mem_of_getElem? (i := 29) rfl))) (mvT hZ131 (hw _ (List.mem_of_getElem? (i := 30) rfl))) (by decide) (backOf (W := 0) (rmRq l Z a0 hw [] pl x r1 g1 zc fm ks1 h131 n0 Z133 S_a S_h S_l O_132 S_c hzc S_f hf (by omega) SX2 W1_) hZ131 (hw _ (List.mem_of_getElem? (i := 30) rfl)) (hw _ (List.mem_of_getElem? (i := 29) rfl)) (by decide) (by decide)) (g := (mkF m 99 #[.val (.int p1), .val (.int p2), .val (.int p3), .val (.int p4), .val (.int (1 : Int32)), .val (.ref ch), .val (.int (Int32.ofNat r1)), .val (.ref x)] [(.ref x), (.ref pl)])) rfl (by rw [hml]; rfl) (argsL := [(.ref pl), (.ref x)]) (rest := []) (lenOf pd_18 rfl) rfl (by show 2 * 0 + _ ≤ _; exact Nat.le_of_eq rfl) (hb hby at_99) (fun _ _ => ⟨rfl, e131, (by decide : 9 + 0 ≤ _), (by decide : 66 + 0 ≤ _)⟩)
      dsimp only [Pt.U, Pt.locs, Pt.cells, Pt.slots] at X135 l135 y135 z135 st135 hQ135
      rw [l135, y135, z135] at X135
      obtain ⟨hv135, N135q, e135⟩ := hQ135
      rw [hv135] at st135
      have N135 := Fr.app N128 N135q
      have pre136 : ∀ t_, Steps p.tables e below (T135.setTop (mkF m 112 #[.val (.int p1), .val (.int p2), .val (.int p3), .val (.int p4), .val (.int (1 : Int32)), .val (.ref ch), .val (.int (Int32.ofNat r1)), .val (.ref x)] [(.int (1 : Int32))])) t_ → Steps p.tables e below (s₁.setTop (entryFrame m #[(.int p1), (.int p2), (.int p3), (.int p4)] maxLocals)) t_ := fun t_ k_ => pre108 _ (by
        show Steps p.tables e below (s₁.setTop (mkF m 29 #[.val (.int p1), .val (.int p2), .val (.int p3), .val (.int p4), .val (.int (1 : Int32)), .unset, .unset, .unset] [])) _
        refine XS.bipush X0.here hx rfl (hb hby at_29) ?_
        show Steps p.tables e below (s₁.setTop (mkF m 31 #[.val (.int p1), .val (.int p2), .val (.int p3), .val (.int p4), .val (.int (1 : Int32)), .unset, .unset, .unset] [(.int (6 : Int32))])) _
        refine st122 _ ?_
        show Steps p.tables e below (T122.setTop (mkF m 33 #[.val (.int p1), .val (.int p2), .val (.int p3), .val (.int p4), .val (.int (1 : Int32)), .unset, .unset, .unset] [(.ref ch)])) _
        refine XS.astore X122.here hx rfl (hb hby at_33) rfl rfl (l' := #[.val (.int p1), .val (.int p2), .val (.int p3), .val (.int p4), .val (.int (1 : Int32)), .val (.ref ch), .unset, .unset]) rfl ?_
        show Steps p.tables e below (T122.setTop (mkF m 35 #[.val (.int p1), .val (.int p2), .val (.int p3), .val (.int p4), .val (.int (1 : Int32)), .val (.ref ch), .unset, .unset] [])) _
        refine XS.iconst X122.here hx rfl (hb hby at_35) ?_
        show Steps p.tables e below (T122.setTop (mkF m 36 #[.val (.int p1), .val (.int p2), .val (.int p3), .val (.int p4), .val (.int (1 : Int32)), .val (.ref ch), .unset, .unset] [(.int (0 : Int32))])) _
        refine XS.istore X122.here hx rfl (hb hby at_36) rfl (l' := #[.val (.int p1), .val (.int p2), .val (.int p3), .val (.int p4), .val (.int (1 : Int32)), .val (.ref ch), .val (.int (0 : Int32)), .unset]) rfl ?_
        show Steps p.tables e below (T122.setTop (mkF m 38 #[.val (.int p1), .val (.int p2), .val (.int p3), .val (.int p4), .val (.int (1 : Int32)), .val (.ref ch), .val (.int (0 : Int32)), .unset] [])) _
        refine XS.iload X122.here hx rfl (hb hby at_38) rfl ?_
        show Steps p.tables e below (T122.setTop (mkF m 40 #[.val (.int p1), .val (.int p2), .val (.int p3), .val (.int p4), .val (.int (1 : Int32)), .val (.ref ch), .val (.int (0 : Int32)), .unset] [(.int (1 : Int32))])) _
        refine XS.iconst X122.here hx rfl (hb hby at_40) ?_
        show Steps p.tables e below (T122.setTop (mkF m 41 #[.val (.int p1), .val (.int p2), .val (.int p3), .val (.int p4), .val (.int (1 : Int32)), .val (.ref ch), .val (.int (0 : Int32)), .unset] [(.int (1 : Int32)), (.int (1 : Int32))])) _
        refine XS.icmpNo X122.here hx rfl (hb hby at_41) rfl (flt (by decide)).1 ?_
        show Steps p.tables e below (T122.setTop (mkF m 44 #[.val (.int p1), .val (.int p2), .val (.int p3), .val (.int p4), .val (.int (1 : Int32)), .val (.ref ch), .val (.int (0 : Int32)), .unset] [])) _
        refine XS.aload X122.here hx rfl (hb hby at_44) rfl rfl ?_
        show Steps p.tables e below (T122.setTop (mkF m 46 #[.val (.int p1), .val (.int p2), .val (.int p3), .val (.int p4), .val (.int (1 : Int32)), .val (.ref ch), .val (.int (0 : Int32)), .unset] [(.ref ch)])) _
        refine XS.iload X122.here hx rfl (hb hby at_46) rfl ?_
        show Steps p.tables e below (T122.setTop (mkF m 48 #[.val (.int p1), .val (.int p2), .val (.int p3), .val (.int p4), .val (.int (1 : Int32)), .val (.ref ch), .val (.int (0 : Int32)), .unset] [(.int (0 : Int32)), (.ref ch)])) _
        refine XS.iloadN X122.here hx rfl (hb hby at_48) rfl ?_
        show Steps p.tables e below (T122.setTop (mkF m 49 #[.val (.int p1), .val (.int p2), .val (.int p3), .val (.int p4), .val (.int (1 : Int32)), .val (.ref ch), .val (.int (0 : Int32)), .unset] [(.int p2), (.int (0 : Int32)), (.ref ch)])) _
        refine st126 _ ?_
        show Steps p.tables e below (T126.setTop (mkF m 52 #[.val (.int p1), .val (.int p2), .val (.int p3), .val (.int p4), .val (.int (1 : Int32)), .val (.ref ch), .val (.int (0 : Int32)), .unset] [(.int (Int32.ofNat r1))])) _
        refine XS.istore X126.here hx rfl (hb hby at_52) rfl (l' := #[.val (.int p1), .val (.int p2), .val (.int p3), .val (.int p4), .val (.int (1 : Int32)), .val (.ref ch), .val (.int (Int32.ofNat r1)), .unset]) rfl ?_
        show Steps p.tables e below (T126.setTop (mkF m 54 #[.val (.int p1), .val (.int p2), .val (.int p3), .val (.int p4), .val (.int (1 : Int32)), .val (.ref ch), .val (.int (Int32.ofNat r1)), .unset] [])) _
        refine XS.iload X126.here hx rfl (hb hby at_54) rfl ?_
        show Steps p.tables e below (T126.setTop (mkF m 56 #[.val (.int p1), .val (.int p2), .val (.int p3), .val (.int p4), .val (.int (1 : Int32)), .val (.ref ch), .val (.int (Int32.ofNat r1)), .unset] [(.int (1 : Int32))])) _
        refine XS.iconst X126.here hx rfl (hb hby at_56) ?_
        show Steps p.tables e below (T126.setTop (mkF m 57 #[.val (.int p1), .val (.int p2), .val (.int p3), .val (.int p4), .val (.int (1 : Int32)), .val (.ref ch), .val (.int (Int32.ofNat r1)), .unset] [(.int (2 : Int32)), (.int (1 : Int32))])) _
        refine XS.icmpYes X126.here hx rfl (pc0 := 57) (pc' := 70) rfl (hb hby at_57) rfl (tlt (by decide)).1 (by decide) (by decide) ?_
        show Steps p.tables e below (T126.setTop (mkF m 70 #[.val (.int p1), .val (.int p2), .val (.int p3), .val (.int p4), .val (.int (1 : Int32)), .val (.ref ch), .val (.int (Int32.ofNat r1)), .unset] [])) _
        refine XS.iload X126.here hx rfl (hb hby at_70) rfl ?_
        show Steps p.tables e below (T126.setTop (mkF m 72 #[.val (.int p1), .val (.int p2), .val (.int p3), .val (.int p4), .val (.int (1 : Int32)), .val (.ref ch), .val (.int (Int32.ofNat r1)), .unset] [(.int (1 : Int32))])) _
        refine XS.iconst X126.here hx rfl (hb hby at_72) ?_
        show Steps p.tables e below (T126.setTop (mkF m 73 #[.val (.int p1), .val (.int p2), .val (.int p3), .val (.int p4), .val (.int (1 : Int32)), .val (.ref ch), .val (.int (Int32.ofNat r1)), .unset] [(.int (3 : Int32)), (.int (1 : Int32))])) _
        refine XS.icmpYes X126.here hx rfl (pc0 := 73) (pc' := 86) rfl (hb hby at_73) rfl (tlt (by decide)).1 (by decide) (by decide) ?_
        show Steps p.tables e below (T126.setTop (mkF m 86 #[.val (.int p1), .val (.int p2), .val (.int p3), .val (.int p4), .val (.int (1 : Int32)), .val (.ref ch), .val (.int (Int32.ofNat r1)), .unset] [])) _
        refine XS.aload X126.here hx rfl (hb hby at_86) rfl rfl ?_
        show Steps p.tables e below (T126.setTop (mkF m 88 #[.val (.int p1), .val (.int p2), .val (.int p3), .val (.int p4), .val (.int (1 : Int32)), .val (.ref ch), .val (.int (Int32.ofNat r1)), .unset] [(.ref ch)])) _
        refine XS.iload X126.here hx rfl (hb hby at_88) rfl ?_
        show Steps p.tables e below (T126.setTop (mkF m 90 #[.val (.int p1), .val (.int p2), .val (.int p3), .val (.int p4), .val (.int (1 : Int32)), .val (.ref ch), .val (.int (Int32.ofNat r1)), .unset] [(.int (Int32.ofNat r1)), (.ref ch)])) _
        refine st128.trans ?_
        show Steps p.tables e below (T128.setTop (mkF m 93 #[.val (.int p1), .val (.int p2), .val (.int p3), .val (.int p4), .val (.int (1 : Int32)), .val (.ref ch), .val (.int (Int32.ofNat r1)), .unset] [(.ref x)])) _
        refine XS.astore X128'.here hx rfl (hb hby at_93) rfl rfl (l' := #[.val (.int p1), .val (.int p2), .val (.int p3), .val (.int p4), .val (.int (1 : Int32)), .val (.ref ch), .val (.int (Int32.ofNat r1)), .val (.ref x)]) rfl ?_
        show Steps p.tables e below (T128.setTop (mkF m 95 #[.val (.int p1), .val (.int p2), .val (.int p3), .val (.int p4), .val (.int (1 : Int32)), .val (.ref ch), .val (.int (Int32.ofNat r1)), .val (.ref x)] [])) _
        refine st131 _ ?_
        show Steps p.tables e below (T131.setTop (mkF m 97 #[.val (.int p1), .val (.int p2), .val (.int p3), .val (.int p4), .val (.int (1 : Int32)), .val (.ref ch), .val (.int (Int32.ofNat r1)), .val (.ref x)] [(.ref pl)])) _
        refine XS.aload X131.here hx rfl (hb hby at_97) rfl rfl ?_
        show Steps p.tables e below (T131.setTop (mkF m 99 #[.val (.int p1), .val (.int p2), .val (.int p3), .val (.int p4), .val (.int (1 : Int32)), .val (.ref ch), .val (.int (Int32.ofNat r1)), .val (.ref x)] [(.ref x), (.ref pl)])) _
        refine st135 _ ?_
        show Steps p.tables e below (T135.setTop (mkF m 102 #[.val (.int p1), .val (.int p2), .val (.int p3), .val (.int p4), .val (.int (1 : Int32)), .val (.ref ch), .val (.int (Int32.ofNat r1)), .val (.ref x)] [(.ref x)])) _
        refine XS.aload X135.here hx rfl (hb hby at_102) rfl rfl ?_
        show Steps p.tables e below (T135.setTop (mkF m 104 #[.val (.int p1), .val (.int p2), .val (.int p3), .val (.int p4), .val (.int (1 : Int32)), .val (.ref ch), .val (.int (Int32.ofNat r1)), .val (.ref x)] [(.ref x), (.ref x)])) _
        refine Jvm.RoadKit.acmp (g := (mkF m 104 #[.val (.int p1), .val (.int p2), .val (.int p3), .val (.int p4), .val (.int (1 : Int32)), .val (.ref ch), .val (.int (Int32.ofNat r1)), .val (.ref x)] [(.ref x), (.ref x)])) X135 hx rfl rfl rfl (pc0 := 104) (pc' := 107) (same := true) rfl (hb hby at_104) rfl (decide_eq_true rfl) (by decide) (by decide) ?_
        show Steps p.tables e below (T135.setTop (mkF m 107 #[.val (.int p1), .val (.int p2), .val (.int p3), .val (.int p4), .val (.int (1 : Int32)), .val (.ref ch), .val (.int (Int32.ofNat r1)), .val (.ref x)] [])) _
        refine XS.iconst X135.here hx rfl (hb hby at_107) ?_
        show Steps p.tables e below (T135.setTop (mkF m 108 #[.val (.int p1), .val (.int p2), .val (.int p3), .val (.int p4), .val (.int (1 : Int32)), .val (.ref ch), .val (.int (Int32.ofNat r1)), .val (.ref x)] [(.int (1 : Int32))])) _
        refine XS.goto X135.here hx rfl (pc0 := 108) (pc' := 112) rfl (hb hby at_108) (by decide) (by decide) ?_
        exact k_)
      obtain ⟨fs, hr, hrun, hended, hWr, hW1, hW2, hsame⟩ := Jvm.Stand.leaveW (s := s) X135 hS131 (by rw [e135]; exact hk131) (v := some (.int (1 : Int32))) (fun h => by rw [Bd.returns] at h; cases h)
      refine ⟨_, _, pre136 _ ?_, hrun, hended, _, _, rfl, ?_, hWr, hW1, hW2, hsame.mono (by decide) (by decide)⟩
      · show Steps p.tables e below (T135.setTop (mkF m 112 #[.val (.int p1), .val (.int p2), .val (.int p3), .val (.int p4), .val (.int (1 : Int32)), .val (.ref ch), .val (.int (Int32.ofNat r1)), .val (.ref x)] [(.int (1 : Int32))])) _
        exact retN X135 hx (t := .boolean) Bd.returns (by simp) (hb hby at_112) hr
      · show Qrm0 Z p1 p2 p3 p4 zc fm h0 n0 _ T135.heap _
        rw [e135]
        exact ⟨rfl, N135⟩
    · skip
      subst q
      obtain ⟨T137, h137, k_ch, X137, e137, Ext_ch, A_ch, st137⟩ := newP X0 hx hZ (hw _ (List.mem_of_getElem? (i := 0) rfl)) e0 (g := (mkF m 31 #[.val (.int p1), .val (.int p2), .val (.int p3), .val (.int p4), .val (.int (2 : Int32)), .unset, .unset, .unset] [(.int (6 : Int32))])) rfl (hb hby at_31) rfl (by decide) (cap := 6) (by decide) (by decide) (by decide) (by decide)
      obtain ⟨ch, eq_ch⟩ : ∃ z, z = h0.size := ⟨_, rfl⟩
      rw [← eq_ch] at A_ch st137
      have g_ch : n0 ≤ ch := Nat.le_trans Z0 (Nat.le_of_eq eq_ch.symm)
      have O_138 := O.ext Ext_ch
      have Z139 : n0 ≤ h137.size := Nat.le_trans Z0 (Ext_ch.1)
      have ch140 := (CHr.refl hH).trans (CHr.ext Ext_ch (CHr.refl hH).1)
      have V_ch : Arv Z h137 ch k_ch .char (6 : Int32) [(.int (0 : Int32)), (.int (0 : Int32)), (.int (0 : Int32)), (.int (0 : Int32)), (.int (0 : Int32)), (.int (0 : Int32))] (.int (0 : Int32)) := (Arv.new A_ch (by decide)).pad (pad_rep [] (.int (0 : Int32)) 6)
      have AF0 := own_AfA (n := 6) (g := fun _ => 0) V_ch (by omega) (fun j hj => match j, hj with | 0, _ => rfl | 1, _ => rfl | 2, _ => rfl | 3, _ => rfl | 4, _ => rfl | 5, _ => rfl | (j + 6), h => absurd h (by omega))
      have KT0 := (Keep.refl h0 []).ext Ext_ch
      have W0 : own_W (fun _ => (0 : Int32)) 0 [] 0 := rfl
      obtain ⟨_, _, ⟨T141, L141, k141, n141⟩, -, X141, ⟨Lc141, hQ141, l141, y141, z141⟩, st141⟩ := Jvm.LawKit.callS X137 hx (y := (⟨"com/example/ledgerpost/ledgerpost/StorableTextRequirePinLaw", "put", "([CII)I"⟩ : MethodName)) hown (mvT hZ (hw _ (List.mem_of_getElem? (i := 42) rfl))) (mvT hZ (hw _ (List.mem_of_getElem? (i := 43) rfl))) (mvT hZ (hw _ (List.mem_of_getElem? (i := 3) rfl))) (mvT hZ (hw _ (List.mem_of_getElem? (i := 44) rfl))) (by decide) (backOf (W := 0) (rmPut l Z a0 hw [] ch p2 0 (fun _ => (0 : Int32)) [] h137 n0 Z139 (by omega) AF0 g_ch W0) hZ (hw _ (List.mem_of_getElem? (i := 44) rfl)) (hw _ (List.mem_of_getElem? (i := 3) rfl)) (by decide) (by decide)) (g := (mkF m 49 #[.val (.int p1), .val (.int p2), .val (.int p3), .val (.int p4), .val (.int (2 : Int32)), .val (.ref ch), .val (.int (0 : Int32)), .unset] [(.int p2), (.int (0 : Int32)), (.ref ch)])) rfl (by rw [hml]; rfl) (argsL := [(.ref ch), (.int (0 : Int32)), (.int p2)]) (rest := []) (lenOf pd_20 rfl) rfl (by show 2 * 0 + _ ≤ _; exact Nat.le_of_eq rfl) (hb hby at_49) (fun _ _ => ⟨rfl, e137, (by decide : 1 + 0 ≤ _), (by decide : 6 + 0 ≤ _)⟩)
      dsimp only [Pt.U, Pt.locs, Pt.cells, Pt.slots] at X141 l141 y141 z141 st141 hQ141
      rw [l141, y141, z141] at X141
      obtain ⟨r1, g1, ks1, hv141, N141q, K141, AF1, W1_, le1⟩ := hQ141
      rw [hv141] at st141
      have N141 := Fr.app N0 N141q
      have KT1 := KT0.trans K141 (allS (Or.inr (Nat.le_of_eq eq_ch.symm)) all0)
      have O_1 := O_138.keep K141 (allS g_ch all0)
      have Z142 : n0 ≤ T141.heap.size := Nat.le_trans Z139 (K141.1)
      obtain ⟨_, _, ⟨T143, L143, k143, n143⟩, -, X143, ⟨Lc143, hQ143, l143, y143, z143⟩, st143⟩ := Jvm.LawKit.callS X141 hx (y := (⟨"com/example/ledgerpost/ledgerpost/StorableTextRequirePinLaw", "put", "([CII)I"⟩ : MethodName)) hown (mvT hZ (hw _ (List.mem_of_getElem? (i := 42) rfl))) (mvT hZ (hw _ (List.mem_of_getElem? (i := 43) rfl))) (mvT hZ (hw _ (List.mem_of_getElem? (i := 3) rfl))) (mvT hZ (hw _ (List.mem_of_getElem? (i := 44) rfl))) (by decide) (backOf (W := 0) (rmPut l Z a0 hw [] ch p3 r1 g1 ks1 T141.heap n0 Z142 (by omega) AF1 g_ch W1_) hZ (hw _ (List.mem_of_getElem? (i := 44) rfl)) (hw _ (List.mem_of_getElem? (i := 3) rfl)) (by decide) (by decide)) (g := (mkF m 65 #[.val (.int p1), .val (.int p2), .val (.int p3), .val (.int p4), .val (.int (2 : Int32)), .val (.ref ch), .val (.int (Int32.ofNat r1)), .unset] [(.int p3), (.int (Int32.ofNat r1)), (.ref ch)])) rfl (by rw [hml]; rfl) (argsL := [(.ref ch), (.int (Int32.ofNat r1)), (.int p3)]) (rest := []) (lenOf pd_20 rfl) rfl (by show 2 * 0 + _ ≤ _; exact Nat.le_of_eq rfl) (hb hby at_65) (fun _ _ => ⟨rfl, rfl, (by decide : 1 + 0 ≤ _), (by decide : 6 + 0 ≤ _)⟩)
      dsimp only [Pt.U, Pt.locs, Pt.cells, Pt.slots] at X143 l143 y143 z143 st143 hQ143
      rw [l143, y143, z143] at X143
      obtain ⟨r2, g2, ks2, hv143, N143q, K143, AF2, W2_, le2⟩ := hQ143
      rw [hv143] at st143
      have N143 := Fr.app N141 N143q
      have KT2 := KT1.trans K143 (allS (Or.inr (Nat.le_of_eq eq_ch.symm)) all0)
      have O_2 := O_1.keep K143 (allS g_ch all0)
      have Z144 : n0 ≤ T143.heap.size := Nat.le_trans Z142 (K143.1)
      obtain ⟨_, _, ⟨T145, L145, k145, n145⟩, -, X145, hS145, hle145, ⟨Lc145, hQ145, l145, y145, z145, hC145⟩, st145⟩ := callSS (s := (s.setVm s.vm)) X143 hx (y := (⟨"com/example/ledgerpost/ledgerpost/StorableTextRequirePinLaw", "make", "([CI)Ljava/lang/String;"⟩ : MethodName)) hown (mvT hZ (hw _ (List.mem_of_getElem? (i := 1) rfl))) (mvT hZ (hw _ (List.mem_of_getElem? (i := 2) rfl))) (mvT hZ (hw _ (List.mem_of_getElem? (i := 3) rfl))) (mvT hZ (hw _ (List.mem_of_getElem? (i := 4) rfl))) (by decide) (backOfSH (s := s) (vm0 := s.vm) (W := 0) (rmMk l Z a0 hw [] ch r2 g2 zc ks2 T143.heap n0 Z144 S_a S_h S_l O_2 S_c hzc (by omega) AF2 W2_) hZ (hw _ (List.mem_of_getElem? (i := 4) rfl)) (hw _ (List.mem_of_getElem? (i := 3) rfl)) (by decide) (by decide) (own_EW hw) (CHr.keep KT2 (fun _ q => nomatch q) hH).1) (g := (mkF m 90 #[.val (.int p1), .val (.int p2), .val (.int p3), .val (.int p4), .val (.int (2 : Int32)), .val (.ref ch), .val (.int (Int32.ofNat r2)), .unset] [(.int (Int32.ofNat r2)), (.ref ch)])) rfl (by rw [hml]; rfl) (argsL := [(.ref ch), (.int (Int32.ofNat r2))]) (rest := []) (lenOf pd_19 rfl) rfl (by show 2 * 0 + _ ≤ _; exact Nat.le_of_eq rfl) (hb hby at_90) (fun _ _ => ⟨rfl, rfl, (by decide : 1 + 6 ≤ _), (by decide : 6 + 28 ≤ _)⟩)
      dsimp only [Pt.U, Pt.locs, Pt.cells, Pt.slots] at X145 l145 y145 z145 st145 hQ145 hS145 hle145 hC145
      rw [l145, y145, z145] at X145
      have hle145' := hle145
      obtain ⟨X145', hS145', hZ145, hown145⟩ := rebS (s := s) (vm0 := s.vm) ((State.WarmedH.refl s).since 0) (Nat.zero_le _) X145 hS145 hle145' hZ hown
      obtain ⟨x, hv145, N145q, K145, SX, lx_⟩ := hQ145
      rw [hv145] at st145
      have N145 := Fr.app N143 N145q
      have ch146 := (CHr.keep KT2 (fun _ q => nomatch q) hH).trans hC145
      have O_x := O_2.keep K145 all0
      have Z147 : n0 ≤ T145.heap.size := Nat.le_trans Z144 (K145.1)
      obtain ⟨pl, T148, h148, k1_148, X148, e148, Ext148, hS148, hk148, hZ148, hown148, hC148, -, st148⟩ := Jvm.RoadKit.ldcOH (s := s) (vm0 := T145.vm) X145' hx hZ145 hown145 (hw _ (List.mem_of_getElem? (i := 26) rfl)) (own_wS hw) rfl hS145' (Nat.le_refl _) (own_EW hw) ch146.1 (g := (mkF m 95 #[.val (.int p1), .val (.int p2), .val (.int p3), .val (.int p4), .val (.int (2 : Int32)), .val (.ref ch), .val (.int (Int32.ofNat r2)), .val (.ref x)] [])) rfl (hb hby at_95) (n := 28) (by first | decide | decide +kernel | simp) (by decide) (by decide) (by decide)
      have O_149 := O_x.ext Ext148
      have Z150 : n0 ≤ h148.size := Nat.le_trans Z147 (Ext148.1)
      have ch151 := ch146.trans hC148
      have SX2 := own_Sx SX Ext148
      have pre152 : ∀ t_, Steps p.tables e below (T148.setTop (mkF m 99 #[.val (.int p1), .val (.int p2), .val (.int p3), .val (.int p4), .val (.int (2 : Int32)), .val (.ref ch), .val (.int (Int32.ofNat r2)), .val (.ref x)] [(.ref x), (.ref pl)])) t_ → Steps p.tables e below (s₁.setTop (entryFrame m #[(.int p1), (.int p2), (.int p3), (.int p4)] maxLocals)) t_ := fun t_ k_ => pre108 _ (by
        show Steps p.tables e below (s₁.setTop (mkF m 29 #[.val (.int p1), .val (.int p2), .val (.int p3), .val (.int p4), .val (.int (2 : Int32)), .unset, .unset, .unset] [])) _
        refine XS.bipush X0.here hx rfl (hb hby at_29) ?_
        show Steps p.tables e below (s₁.setTop (mkF m 31 #[.val (.int p1), .val (.int p2), .val (.int p3), .val (.int p4), .val (.int (2 : Int32)), .unset, .unset, .unset] [(.int (6 : Int32))])) _
        refine st137 _ ?_
        show Steps p.tables e below (T137.setTop (mkF m 33 #[.val (.int p1), .val (.int p2), .val (.int p3), .val (.int p4), .val (.int (2 : Int32)), .unset, .unset, .unset] [(.ref ch)])) _
        refine XS.astore X137.here hx rfl (hb hby at_33) rfl rfl (l' := #[.val (.int p1), .val (.int p2), .val (.int p3), .val (.int p4), .val (.int (2 : Int32)), .val (.ref ch), .unset, .unset]) rfl ?_
        show Steps p.tables e below (T137.setTop (mkF m 35 #[.val (.int p1), .val (.int p2), .val (.int p3), .val (.int p4), .val (.int (2 : Int32)), .val (.ref ch), .unset, .unset] [])) _
        refine XS.iconst X137.here hx rfl (hb hby at_35) ?_
        show Steps p.tables e below (T137.setTop (mkF m 36 #[.val (.int p1), .val (.int p2), .val (.int p3), .val (.int p4), .val (.int (2 : Int32)), .val (.ref ch), .unset, .unset] [(.int (0 : Int32))])) _
        refine XS.istore X137.here hx rfl (hb hby at_36) rfl (l' := #[.val (.int p1), .val (.int p2), .val (.int p3), .val (.int p4), .val (.int (2 : Int32)), .val (.ref ch), .val (.int (0 : Int32)), .unset]) rfl ?_
        show Steps p.tables e below (T137.setTop (mkF m 38 #[.val (.int p1), .val (.int p2), .val (.int p3), .val (.int p4), .val (.int (2 : Int32)), .val (.ref ch), .val (.int (0 : Int32)), .unset] [])) _
        refine XS.iload X137.here hx rfl (hb hby at_38) rfl ?_
        show Steps p.tables e below (T137.setTop (mkF m 40 #[.val (.int p1), .val (.int p2), .val (.int p3), .val (.int p4), .val (.int (2 : Int32)), .val (.ref ch), .val (.int (0 : Int32)), .unset] [(.int (2 : Int32))])) _
        refine XS.iconst X137.here hx rfl (hb hby at_40) ?_
        show Steps p.tables e below (T137.setTop (mkF m 41 #[.val (.int p1), .val (.int p2), .val (.int p3), .val (.int p4), .val (.int (2 : Int32)), .val (.ref ch), .val (.int (0 : Int32)), .unset] [(.int (1 : Int32)), (.int (2 : Int32))])) _
        refine XS.icmpNo X137.here hx rfl (hb hby at_41) rfl (flt (by decide)).1 ?_
        show Steps p.tables e below (T137.setTop (mkF m 44 #[.val (.int p1), .val (.int p2), .val (.int p3), .val (.int p4), .val (.int (2 : Int32)), .val (.ref ch), .val (.int (0 : Int32)), .unset] [])) _
        refine XS.aload X137.here hx rfl (hb hby at_44) rfl rfl ?_
        show Steps p.tables e below (T137.setTop (mkF m 46 #[.val (.int p1), .val (.int p2), .val (.int p3), .val (.int p4), .val (.int (2 : Int32)), .val (.ref ch), .val (.int (0 : Int32)), .unset] [(.ref ch)])) _
        refine XS.iload X137.here hx rfl (hb hby at_46) rfl ?_
        show Steps p.tables e below (T137.setTop (mkF m 48 #[.val (.int p1), .val (.int p2), .val (.int p3), .val (.int p4), .val (.int (2 : Int32)), .val (.ref ch), .val (.int (0 : Int32)), .unset] [(.int (0 : Int32)), (.ref ch)])) _
        refine XS.iloadN X137.here hx rfl (hb hby at_48) rfl ?_
        show Steps p.tables e below (T137.setTop (mkF m 49 #[.val (.int p1), .val (.int p2), .val (.int p3), .val (.int p4), .val (.int (2 : Int32)), .val (.ref ch), .val (.int (0 : Int32)), .unset] [(.int p2), (.int (0 : Int32)), (.ref ch)])) _
        refine st141 _ ?_
        show Steps p.tables e below (T141.setTop (mkF m 52 #[.val (.int p1), .val (.int p2), .val (.int p3), .val (.int p4), .val (.int (2 : Int32)), .val (.ref ch), .val (.int (0 : Int32)), .unset] [(.int (Int32.ofNat r1))])) _
        refine XS.istore X141.here hx rfl (hb hby at_52) rfl (l' := #[.val (.int p1), .val (.int p2), .val (.int p3), .val (.int p4), .val (.int (2 : Int32)), .val (.ref ch), .val (.int (Int32.ofNat r1)), .unset]) rfl ?_
        show Steps p.tables e below (T141.setTop (mkF m 54 #[.val (.int p1), .val (.int p2), .val (.int p3), .val (.int p4), .val (.int (2 : Int32)), .val (.ref ch), .val (.int (Int32.ofNat r1)), .unset] [])) _
        refine XS.iload X141.here hx rfl (hb hby at_54) rfl ?_
        show Steps p.tables e below (T141.setTop (mkF m 56 #[.val (.int p1), .val (.int p2), .val (.int p3), .val (.int p4), .val (.int (2 : Int32)), .val (.ref ch), .val (.int (Int32.ofNat r1)), .unset] [(.int (2 : Int32))])) _
        refine XS.iconst X141.here hx rfl (hb hby at_56) ?_
        show Steps p.tables e below (T141.setTop (mkF m 57 #[.val (.int p1), .val (.int p2), .val (.int p3), .val (.int p4), .val (.int (2 : Int32)), .val (.ref ch), .val (.int (Int32.ofNat r1)), .unset] [(.int (2 : Int32)), (.int (2 : Int32))])) _
        refine XS.icmpNo X141.here hx rfl (hb hby at_57) rfl (flt (by decide)).1 ?_
        show Steps p.tables e below (T141.setTop (mkF m 60 #[.val (.int p1), .val (.int p2), .val (.int p3), .val (.int p4), .val (.int (2 : Int32)), .val (.ref ch), .val (.int (Int32.ofNat r1)), .unset] [])) _
        refine XS.aload X141.here hx rfl (hb hby at_60) rfl rfl ?_
        show Steps p.tables e below (T141.setTop (mkF m 62 #[.val (.int p1), .val (.int p2), .val (.int p3), .val (.int p4), .val (.int (2 : Int32)), .val (.ref ch), .val (.int (Int32.ofNat r1)), .unset] [(.ref ch)])) _
        refine XS.iload X141.here hx rfl (hb hby at_62) rfl ?_
        show Steps p.tables e below (T141.setTop (mkF m 64 #[.val (.int p1), .val (.int p2), .val (.int p3), .val (.int p4), .val (.int (2 : Int32)), .val (.ref ch), .val (.int (Int32.ofNat r1)), .unset] [(.int (Int32.ofNat r1)), (.ref ch)])) _
        refine XS.iloadN X141.here hx rfl (hb hby at_64) rfl ?_
        show Steps p.tables e below (T141.setTop (mkF m 65 #[.val (.int p1), .val (.int p2), .val (.int p3), .val (.int p4), .val (.int (2 : Int32)), .val (.ref ch), .val (.int (Int32.ofNat r1)), .unset] [(.int p3), (.int (Int32.ofNat r1)), (.ref ch)])) _
        refine st143 _ ?_
        show Steps p.tables e below (T143.setTop (mkF m 68 #[.val (.int p1), .val (.int p2), .val (.int p3), .val (.int p4), .val (.int (2 : Int32)), .val (.ref ch), .val (.int (Int32.ofNat r1)), .unset] [(.int (Int32.ofNat r2))])) _
        refine XS.istore X143.here hx rfl (hb hby at_68) rfl (l' := #[.val (.int p1), .val (.int p2), .val (.int p3), .val (.int p4), .val (.int (2 : Int32)), .val (.ref ch), .val (.int (Int32.ofNat r2)), .unset]) rfl ?_
        show Steps p.tables e below (T143.setTop (mkF m 70 #[.val (.int p1), .val (.int p2), .val (.int p3), .val (.int p4), .val (.int (2 : Int32)), .val (.ref ch), .val (.int (Int32.ofNat r2)), .unset] [])) _
        refine XS.iload X143.here hx rfl (hb hby at_70) rfl ?_
        show Steps p.tables e below (T143.setTop (mkF m 72 #[.val (.int p1), .val (.int p2), .val (.int p3), .val (.int p4), .val (.int (2 : Int32)), .val (.ref ch), .val (.int (Int32.ofNat r2)), .unset] [(.int (2 : Int32))])) _
        refine XS.iconst X143.here hx rfl (hb hby at_72) ?_
        show Steps p.tables e below (T143.setTop (mkF m 73 #[.val (.int p1), .val (.int p2), .val (.int p3), .val (.int p4), .val (.int (2 : Int32)), .val (.ref ch), .val (.int (Int32.ofNat r2)), .unset] [(.int (3 : Int32)), (.int (2 : Int32))])) _
        refine XS.icmpYes X143.here hx rfl (pc0 := 73) (pc' := 86) rfl (hb hby at_73) rfl (tlt (by decide)).1 (by decide) (by decide) ?_
        show Steps p.tables e below (T143.setTop (mkF m 86 #[.val (.int p1), .val (.int p2), .val (.int p3), .val (.int p4), .val (.int (2 : Int32)), .val (.ref ch), .val (.int (Int32.ofNat r2)), .unset] [])) _
        refine XS.aload X143.here hx rfl (hb hby at_86) rfl rfl ?_
        show Steps p.tables e below (T143.setTop (mkF m 88 #[.val (.int p1), .val (.int p2), .val (.int p3), .val (.int p4), .val (.int (2 : Int32)), .val (.ref ch), .val (.int (Int32.ofNat r2)), .unset] [(.ref ch)])) _
        refine XS.iload X143.here hx rfl (hb hby at_88) rfl ?_
        show Steps p.tables e below (T143.setTop (mkF m 90 #[.val (.int p1), .val (.int p2), .val (.int p3), .val (.int p4), .val (.int (2 : Int32)), .val (.ref ch), .val (.int (Int32.ofNat r2)), .unset] [(.int (Int32.ofNat r2)), (.ref ch)])) _
        refine st145.trans ?_
        show Steps p.tables e below (T145.setTop (mkF m 93 #[.val (.int p1), .val (.int p2), .val (.int p3), .val (.int p4), .val (.int (2 : Int32)), .val (.ref ch), .val (.int (Int32.ofNat r2)), .unset] [(.ref x)])) _
        refine XS.astore X145'.here hx rfl (hb hby at_93) rfl rfl (l' := #[.val (.int p1), .val (.int p2), .val (.int p3), .val (.int p4), .val (.int (2 : Int32)), .val (.ref ch), .val (.int (Int32.ofNat r2)), .val (.ref x)]) rfl ?_
        show Steps p.tables e below (T145.setTop (mkF m 95 #[.val (.int p1), .val (.int p2), .val (.int p3), .val (.int p4), .val (.int (2 : Int32)), .val (.ref ch), .val (.int (Int32.ofNat r2)), .val (.ref x)] [])) _
        refine st148 _ ?_
        show Steps p.tables e below (T148.setTop (mkF m 97 #[.val (.int p1), .val (.int p2), .val (.int p3), .val (.int p4), .val (.int (2 : Int32)), .val (.ref ch), .val (.int (Int32.ofNat r2)), .val (.ref x)] [(.ref pl)])) _
        refine XS.aload X148.here hx rfl (hb hby at_97) rfl rfl ?_
        exact k_)
      obtain ⟨_, _, ⟨T153, L153, k153, n153⟩, -, X153, ⟨Lc153, hQ153, l153, y153, z153⟩, st153⟩ := Jvm.LawKit.callS X148 hx (y := (⟨"com/example/ledgerpost/ledgerpost/StorableText", "require", "(Ljava/lang/String;Ljava/lang/String;)Ljava/lang/String;"⟩ : MethodName)) hown148 (mvT hZ148 (hw _ (List.mem_of_getElem? (i := 27) rfl))) (mvT hZ148 (hw _ (List.mem_of_getElem? (i := 28) rfl))) (mvT hZ148 (hw _ (List.mem_of_getElem? (i := 29) rfl))) (mvT hZ148 (hw _ (List.mem_of_getElem? (i := 30) rfl))) (by decide) (backOf (W := 0) (rmRq l Z a0 hw [] pl x r2 g2 zc fm ks2 h148 n0 Z150 S_a S_h S_l O_149 S_c hzc S_f hf (by omega) SX2 W2_) hZ148 (hw _ (List.mem_of_getElem? (i := 30) rfl)) (hw _ (List.mem_of_getElem? (i := 29) rfl)) (by decide) (by decide)) (g := (mkF m 99 #[.val (.int p1), .val (.int p2), .val (.int p3), .val (.int p4), .val (.int (2 : Int32)), .val (.ref ch), .val (.int (Int32.ofNat r2)), .val (.ref x)] [(.ref x), (.ref pl)])) rfl (by rw [hml]; rfl) (argsL := [(.ref pl), (.ref x)]) (rest := []) (lenOf pd_18 rfl) rfl (by show 2 * 0 + _ ≤ _; exact Nat.le_of_eq rfl) (hb hby at_99) (fun _ _ => ⟨rfl, e148, (by decide : 9 + 0 ≤ _), (by decide : 66 + 0 ≤ _)⟩)
      dsimp only [Pt.U, Pt.locs, Pt.cells, Pt.slots] at X153 l153 y153 z153 st153 hQ153
      rw [l153, y153, z153] at X153
      obtain ⟨hv153, N153q, e153⟩ := hQ153
      rw [hv153] at st153
      have N153 := Fr.app N145 N153q
      have pre154 : ∀ t_, Steps p.tables e below (T153.setTop (mkF m 112 #[.val (.int p1), .val (.int p2), .val (.int p3), .val (.int p4), .val (.int (2 : Int32)), .val (.ref ch), .val (.int (Int32.ofNat r2)), .val (.ref x)] [(.int (1 : Int32))])) t_ → Steps p.tables e below (s₁.setTop (entryFrame m #[(.int p1), (.int p2), (.int p3), (.int p4)] maxLocals)) t_ := fun t_ k_ => pre152 _ (by
        show Steps p.tables e below (T148.setTop (mkF m 99 #[.val (.int p1), .val (.int p2), .val (.int p3), .val (.int p4), .val (.int (2 : Int32)), .val (.ref ch), .val (.int (Int32.ofNat r2)), .val (.ref x)] [(.ref x), (.ref pl)])) _
        refine st153 _ ?_
        show Steps p.tables e below (T153.setTop (mkF m 102 #[.val (.int p1), .val (.int p2), .val (.int p3), .val (.int p4), .val (.int (2 : Int32)), .val (.ref ch), .val (.int (Int32.ofNat r2)), .val (.ref x)] [(.ref x)])) _
        refine XS.aload X153.here hx rfl (hb hby at_102) rfl rfl ?_
        show Steps p.tables e below (T153.setTop (mkF m 104 #[.val (.int p1), .val (.int p2), .val (.int p3), .val (.int p4), .val (.int (2 : Int32)), .val (.ref ch), .val (.int (Int32.ofNat r2)), .val (.ref x)] [(.ref x), (.ref x)])) _
        refine Jvm.RoadKit.acmp (g := (mkF m 104 #[.val (.int p1), .val (.int p2), .val (.int p3), .val (.int p4), .val (.int (2 : Int32)), .val (.ref ch), .val (.int (Int32.ofNat r2)), .val (.ref x)] [(.ref x), (.ref x)])) X153 hx rfl rfl rfl (pc0 := 104) (pc' := 107) (same := true) rfl (hb hby at_104) rfl (decide_eq_true rfl) (by decide) (by decide) ?_
        show Steps p.tables e below (T153.setTop (mkF m 107 #[.val (.int p1), .val (.int p2), .val (.int p3), .val (.int p4), .val (.int (2 : Int32)), .val (.ref ch), .val (.int (Int32.ofNat r2)), .val (.ref x)] [])) _
        refine XS.iconst X153.here hx rfl (hb hby at_107) ?_
        show Steps p.tables e below (T153.setTop (mkF m 108 #[.val (.int p1), .val (.int p2), .val (.int p3), .val (.int p4), .val (.int (2 : Int32)), .val (.ref ch), .val (.int (Int32.ofNat r2)), .val (.ref x)] [(.int (1 : Int32))])) _
        refine XS.goto X153.here hx rfl (pc0 := 108) (pc' := 112) rfl (hb hby at_108) (by decide) (by decide) ?_
        exact k_)
      obtain ⟨fs, hr, hrun, hended, hWr, hW1, hW2, hsame⟩ := Jvm.Stand.leaveW (s := s) X153 hS148 (by rw [e153]; exact hk148) (v := some (.int (1 : Int32))) (fun h => by rw [Bd.returns] at h; cases h)
      refine ⟨_, _, pre154 _ ?_, hrun, hended, _, _, rfl, ?_, hWr, hW1, hW2, hsame.mono (by decide) (by decide)⟩
      · show Steps p.tables e below (T153.setTop (mkF m 112 #[.val (.int p1), .val (.int p2), .val (.int p3), .val (.int p4), .val (.int (2 : Int32)), .val (.ref ch), .val (.int (Int32.ofNat r2)), .val (.ref x)] [(.int (1 : Int32))])) _
        exact retN X153 hx (t := .boolean) Bd.returns (by simp) (hb hby at_112) hr
      · show Qrm0 Z p1 p2 p3 p4 zc fm h0 n0 _ T153.heap _
        rw [e153]
        exact ⟨rfl, N153⟩
    · skip
      subst q
      obtain ⟨T155, h155, k_ch, X155, e155, Ext_ch, A_ch, st155⟩ := newP X0 hx hZ (hw _ (List.mem_of_getElem? (i := 0) rfl)) e0 (g := (mkF m 31 #[.val (.int p1), .val (.int p2), .val (.int p3), .val (.int p4), .val (.int (3 : Int32)), .unset, .unset, .unset] [(.int (6 : Int32))])) rfl (hb hby at_31) rfl (by decide) (cap := 6) (by decide) (by decide) (by decide) (by decide)
      obtain ⟨ch, eq_ch⟩ : ∃ z, z = h0.size := ⟨_, rfl⟩
      rw [← eq_ch] at A_ch st155
      have g_ch : n0 ≤ ch := Nat.le_trans Z0 (Nat.le_of_eq eq_ch.symm)
      have O_156 := O.ext Ext_ch
      have Z157 : n0 ≤ h155.size := Nat.le_trans Z0 (Ext_ch.1)
      have ch158 := (CHr.refl hH).trans (CHr.ext Ext_ch (CHr.refl hH).1)
      have V_ch : Arv Z h155 ch k_ch .char (6 : Int32) [(.int (0 : Int32)), (.int (0 : Int32)), (.int (0 : Int32)), (.int (0 : Int32)), (.int (0 : Int32)), (.int (0 : Int32))] (.int (0 : Int32)) := (Arv.new A_ch (by decide)).pad (pad_rep [] (.int (0 : Int32)) 6)
      have AF0 := own_AfA (n := 6) (g := fun _ => 0) V_ch (by omega) (fun j hj => match j, hj with | 0, _ => rfl | 1, _ => rfl | 2, _ => rfl | 3, _ => rfl | 4, _ => rfl | 5, _ => rfl | (j + 6), h => absurd h (by omega))
      have KT0 := (Keep.refl h0 []).ext Ext_ch
      have W0 : own_W (fun _ => (0 : Int32)) 0 [] 0 := rfl
      obtain ⟨_, _, ⟨T159, L159, k159, n159⟩, -, X159, ⟨Lc159, hQ159, l159, y159, z159⟩, st159⟩ := Jvm.LawKit.callS X155 hx (y := (⟨"com/example/ledgerpost/ledgerpost/StorableTextRequirePinLaw", "put", "([CII)I"⟩ : MethodName)) hown (mvT hZ (hw _ (List.mem_of_getElem? (i := 42) rfl))) (mvT hZ (hw _ (List.mem_of_getElem? (i := 43) rfl))) (mvT hZ (hw _ (List.mem_of_getElem? (i := 3) rfl))) (mvT hZ (hw _ (List.mem_of_getElem? (i := 44) rfl))) (by decide) (backOf (W := 0) (rmPut l Z a0 hw [] ch p2 0 (fun _ => (0 : Int32)) [] h155 n0 Z157 (by omega) AF0 g_ch W0) hZ (hw _ (List.mem_of_getElem? (i := 44) rfl)) (hw _ (List.mem_of_getElem? (i := 3) rfl)) (by decide) (by decide)) (g := (mkF m 49 #[.val (.int p1), .val (.int p2), .val (.int p3), .val (.int p4), .val (.int (3 : Int32)), .val (.ref ch), .val (.int (0 : Int32)), .unset] [(.int p2), (.int (0 : Int32)), (.ref ch)])) rfl (by rw [hml]; rfl) (argsL := [(.ref ch), (.int (0 : Int32)), (.int p2)]) (rest := []) (lenOf pd_20 rfl) rfl (by show 2 * 0 + _ ≤ _; exact Nat.le_of_eq rfl) (hb hby at_49) (fun _ _ => ⟨rfl, e155, (by decide : 1 + 0 ≤ _), (by decide : 6 + 0 ≤ _)⟩)
      dsimp only [Pt.U, Pt.locs, Pt.cells, Pt.slots] at X159 l159 y159 z159 st159 hQ159
      rw [l159, y159, z159] at X159
      obtain ⟨r1, g1, ks1, hv159, N159q, K159, AF1, W1_, le1⟩ := hQ159
      rw [hv159] at st159
      have N159 := Fr.app N0 N159q
      have KT1 := KT0.trans K159 (allS (Or.inr (Nat.le_of_eq eq_ch.symm)) all0)
      have O_1 := O_156.keep K159 (allS g_ch all0)
      have Z160 : n0 ≤ T159.heap.size := Nat.le_trans Z157 (K159.1)
      obtain ⟨_, _, ⟨T161, L161, k161, n161⟩, -, X161, ⟨Lc161, hQ161, l161, y161, z161⟩, st161⟩ := Jvm.LawKit.callS X159 hx (y := (⟨"com/example/ledgerpost/ledgerpost/StorableTextRequirePinLaw", "put", "([CII)I"⟩ : MethodName)) hown (mvT hZ (hw _ (List.mem_of_getElem? (i := 42) rfl))) (mvT hZ (hw _ (List.mem_of_getElem? (i := 43) rfl))) (mvT hZ (hw _ (List.mem_of_getElem? (i := 3) rfl))) (mvT hZ (hw _ (List.mem_of_getElem? (i := 44) rfl))) (by decide) (backOf (W := 0) (rmPut l Z a0 hw [] ch p3 r1 g1 ks1 T159.heap n0 Z160 (by omega) AF1 g_ch W1_) hZ (hw _ (List.mem_of_getElem? (i := 44) rfl)) (hw _ (List.mem_of_getElem? (i := 3) rfl)) (by decide) (by decide)) (g := (mkF m 65 #[.val (.int p1), .val (.int p2), .val (.int p3), .val (.int p4), .val (.int (3 : Int32)), .val (.ref ch), .val (.int (Int32.ofNat r1)), .unset] [(.int p3), (.int (Int32.ofNat r1)), (.ref ch)])) rfl (by rw [hml]; rfl) (argsL := [(.ref ch), (.int (Int32.ofNat r1)), (.int p3)]) (rest := []) (lenOf pd_20 rfl) rfl (by show 2 * 0 + _ ≤ _; exact Nat.le_of_eq rfl) (hb hby at_65) (fun _ _ => ⟨rfl, rfl, (by decide : 1 + 0 ≤ _), (by decide : 6 + 0 ≤ _)⟩)
      dsimp only [Pt.U, Pt.locs, Pt.cells, Pt.slots] at X161 l161 y161 z161 st161 hQ161
      rw [l161, y161, z161] at X161
      obtain ⟨r2, g2, ks2, hv161, N161q, K161, AF2, W2_, le2⟩ := hQ161
      rw [hv161] at st161
      have N161 := Fr.app N159 N161q
      have KT2 := KT1.trans K161 (allS (Or.inr (Nat.le_of_eq eq_ch.symm)) all0)
      have O_2 := O_1.keep K161 (allS g_ch all0)
      have Z162 : n0 ≤ T161.heap.size := Nat.le_trans Z160 (K161.1)
      obtain ⟨_, _, ⟨T163, L163, k163, n163⟩, -, X163, ⟨Lc163, hQ163, l163, y163, z163⟩, st163⟩ := Jvm.LawKit.callS X161 hx (y := (⟨"com/example/ledgerpost/ledgerpost/StorableTextRequirePinLaw", "put", "([CII)I"⟩ : MethodName)) hown (mvT hZ (hw _ (List.mem_of_getElem? (i := 42) rfl))) (mvT hZ (hw _ (List.mem_of_getElem? (i := 43) rfl))) (mvT hZ (hw _ (List.mem_of_getElem? (i := 3) rfl))) (mvT hZ (hw _ (List.mem_of_getElem? (i := 44) rfl))) (by decide) (backOf (W := 0) (rmPut l Z a0 hw [] ch p4 r2 g2 ks2 T161.heap n0 Z162 (by omega) AF2 g_ch W2_) hZ (hw _ (List.mem_of_getElem? (i := 44) rfl)) (hw _ (List.mem_of_getElem? (i := 3) rfl)) (by decide) (by decide)) (g := (mkF m 81 #[.val (.int p1), .val (.int p2), .val (.int p3), .val (.int p4), .val (.int (3 : Int32)), .val (.ref ch), .val (.int (Int32.ofNat r2)), .unset] [(.int p4), (.int (Int32.ofNat r2)), (.ref ch)])) rfl (by rw [hml]; rfl) (argsL := [(.ref ch), (.int (Int32.ofNat r2)), (.int p4)]) (rest := []) (lenOf pd_20 rfl) rfl (by show 2 * 0 + _ ≤ _; exact Nat.le_of_eq rfl) (hb hby at_81) (fun _ _ => ⟨rfl, rfl, (by decide : 1 + 0 ≤ _), (by decide : 6 + 0 ≤ _)⟩)
      dsimp only [Pt.U, Pt.locs, Pt.cells, Pt.slots] at X163 l163 y163 z163 st163 hQ163
      rw [l163, y163, z163] at X163
      obtain ⟨r3, g3, ks3, hv163, N163q, K163, AF3, W3_, le3⟩ := hQ163
      rw [hv163] at st163
      have N163 := Fr.app N161 N163q
      have KT3 := KT2.trans K163 (allS (Or.inr (Nat.le_of_eq eq_ch.symm)) all0)
      have O_3 := O_2.keep K163 (allS g_ch all0)
      have Z164 : n0 ≤ T163.heap.size := Nat.le_trans Z162 (K163.1)
      have pre165 : ∀ t_, Steps p.tables e below (T163.setTop (mkF m 88 #[.val (.int p1), .val (.int p2), .val (.int p3), .val (.int p4), .val (.int (3 : Int32)), .val (.ref ch), .val (.int (Int32.ofNat r3)), .unset] [(.ref ch)])) t_ → Steps p.tables e below (s₁.setTop (entryFrame m #[(.int p1), (.int p2), (.int p3), (.int p4)] maxLocals)) t_ := fun t_ k_ => pre108 _ (by
        show Steps p.tables e below (s₁.setTop (mkF m 29 #[.val (.int p1), .val (.int p2), .val (.int p3), .val (.int p4), .val (.int (3 : Int32)), .unset, .unset, .unset] [])) _
        refine XS.bipush X0.here hx rfl (hb hby at_29) ?_
        show Steps p.tables e below (s₁.setTop (mkF m 31 #[.val (.int p1), .val (.int p2), .val (.int p3), .val (.int p4), .val (.int (3 : Int32)), .unset, .unset, .unset] [(.int (6 : Int32))])) _
        refine st155 _ ?_
        show Steps p.tables e below (T155.setTop (mkF m 33 #[.val (.int p1), .val (.int p2), .val (.int p3), .val (.int p4), .val (.int (3 : Int32)), .unset, .unset, .unset] [(.ref ch)])) _
        refine XS.astore X155.here hx rfl (hb hby at_33) rfl rfl (l' := #[.val (.int p1), .val (.int p2), .val (.int p3), .val (.int p4), .val (.int (3 : Int32)), .val (.ref ch), .unset, .unset]) rfl ?_
        show Steps p.tables e below (T155.setTop (mkF m 35 #[.val (.int p1), .val (.int p2), .val (.int p3), .val (.int p4), .val (.int (3 : Int32)), .val (.ref ch), .unset, .unset] [])) _
        refine XS.iconst X155.here hx rfl (hb hby at_35) ?_
        show Steps p.tables e below (T155.setTop (mkF m 36 #[.val (.int p1), .val (.int p2), .val (.int p3), .val (.int p4), .val (.int (3 : Int32)), .val (.ref ch), .unset, .unset] [(.int (0 : Int32))])) _
        refine XS.istore X155.here hx rfl (hb hby at_36) rfl (l' := #[.val (.int p1), .val (.int p2), .val (.int p3), .val (.int p4), .val (.int (3 : Int32)), .val (.ref ch), .val (.int (0 : Int32)), .unset]) rfl ?_
        show Steps p.tables e below (T155.setTop (mkF m 38 #[.val (.int p1), .val (.int p2), .val (.int p3), .val (.int p4), .val (.int (3 : Int32)), .val (.ref ch), .val (.int (0 : Int32)), .unset] [])) _
        refine XS.iload X155.here hx rfl (hb hby at_38) rfl ?_
        show Steps p.tables e below (T155.setTop (mkF m 40 #[.val (.int p1), .val (.int p2), .val (.int p3), .val (.int p4), .val (.int (3 : Int32)), .val (.ref ch), .val (.int (0 : Int32)), .unset] [(.int (3 : Int32))])) _
        refine XS.iconst X155.here hx rfl (hb hby at_40) ?_
        show Steps p.tables e below (T155.setTop (mkF m 41 #[.val (.int p1), .val (.int p2), .val (.int p3), .val (.int p4), .val (.int (3 : Int32)), .val (.ref ch), .val (.int (0 : Int32)), .unset] [(.int (1 : Int32)), (.int (3 : Int32))])) _
        refine XS.icmpNo X155.here hx rfl (hb hby at_41) rfl (flt (by decide)).1 ?_
        show Steps p.tables e below (T155.setTop (mkF m 44 #[.val (.int p1), .val (.int p2), .val (.int p3), .val (.int p4), .val (.int (3 : Int32)), .val (.ref ch), .val (.int (0 : Int32)), .unset] [])) _
        refine XS.aload X155.here hx rfl (hb hby at_44) rfl rfl ?_
        show Steps p.tables e below (T155.setTop (mkF m 46 #[.val (.int p1), .val (.int p2), .val (.int p3), .val (.int p4), .val (.int (3 : Int32)), .val (.ref ch), .val (.int (0 : Int32)), .unset] [(.ref ch)])) _
        refine XS.iload X155.here hx rfl (hb hby at_46) rfl ?_
        show Steps p.tables e below (T155.setTop (mkF m 48 #[.val (.int p1), .val (.int p2), .val (.int p3), .val (.int p4), .val (.int (3 : Int32)), .val (.ref ch), .val (.int (0 : Int32)), .unset] [(.int (0 : Int32)), (.ref ch)])) _
        refine XS.iloadN X155.here hx rfl (hb hby at_48) rfl ?_
        show Steps p.tables e below (T155.setTop (mkF m 49 #[.val (.int p1), .val (.int p2), .val (.int p3), .val (.int p4), .val (.int (3 : Int32)), .val (.ref ch), .val (.int (0 : Int32)), .unset] [(.int p2), (.int (0 : Int32)), (.ref ch)])) _
        refine st159 _ ?_
        show Steps p.tables e below (T159.setTop (mkF m 52 #[.val (.int p1), .val (.int p2), .val (.int p3), .val (.int p4), .val (.int (3 : Int32)), .val (.ref ch), .val (.int (0 : Int32)), .unset] [(.int (Int32.ofNat r1))])) _
        refine XS.istore X159.here hx rfl (hb hby at_52) rfl (l' := #[.val (.int p1), .val (.int p2), .val (.int p3), .val (.int p4), .val (.int (3 : Int32)), .val (.ref ch), .val (.int (Int32.ofNat r1)), .unset]) rfl ?_
        show Steps p.tables e below (T159.setTop (mkF m 54 #[.val (.int p1), .val (.int p2), .val (.int p3), .val (.int p4), .val (.int (3 : Int32)), .val (.ref ch), .val (.int (Int32.ofNat r1)), .unset] [])) _
        refine XS.iload X159.here hx rfl (hb hby at_54) rfl ?_
        show Steps p.tables e below (T159.setTop (mkF m 56 #[.val (.int p1), .val (.int p2), .val (.int p3), .val (.int p4), .val (.int (3 : Int32)), .val (.ref ch), .val (.int (Int32.ofNat r1)), .unset] [(.int (3 : Int32))])) _
        refine XS.iconst X159.here hx rfl (hb hby at_56) ?_
        show Steps p.tables e below (T159.setTop (mkF m 57 #[.val (.int p1), .val (.int p2), .val (.int p3), .val (.int p4), .val (.int (3 : Int32)), .val (.ref ch), .val (.int (Int32.ofNat r1)), .unset] [(.int (2 : Int32)), (.int (3 : Int32))])) _
        refine XS.icmpNo X159.here hx rfl (hb hby at_57) rfl (flt (by decide)).1 ?_
        show Steps p.tables e below (T159.setTop (mkF m 60 #[.val (.int p1), .val (.int p2), .val (.int p3), .val (.int p4), .val (.int (3 : Int32)), .val (.ref ch), .val (.int (Int32.ofNat r1)), .unset] [])) _
        refine XS.aload X159.here hx rfl (hb hby at_60) rfl rfl ?_
        show Steps p.tables e below (T159.setTop (mkF m 62 #[.val (.int p1), .val (.int p2), .val (.int p3), .val (.int p4), .val (.int (3 : Int32)), .val (.ref ch), .val (.int (Int32.ofNat r1)), .unset] [(.ref ch)])) _
        refine XS.iload X159.here hx rfl (hb hby at_62) rfl ?_
        show Steps p.tables e below (T159.setTop (mkF m 64 #[.val (.int p1), .val (.int p2), .val (.int p3), .val (.int p4), .val (.int (3 : Int32)), .val (.ref ch), .val (.int (Int32.ofNat r1)), .unset] [(.int (Int32.ofNat r1)), (.ref ch)])) _
        refine XS.iloadN X159.here hx rfl (hb hby at_64) rfl ?_
        show Steps p.tables e below (T159.setTop (mkF m 65 #[.val (.int p1), .val (.int p2), .val (.int p3), .val (.int p4), .val (.int (3 : Int32)), .val (.ref ch), .val (.int (Int32.ofNat r1)), .unset] [(.int p3), (.int (Int32.ofNat r1)), (.ref ch)])) _
        refine st161 _ ?_
        show Steps p.tables e below (T161.setTop (mkF m 68 #[.val (.int p1), .val (.int p2), .val (.int p3), .val (.int p4), .val (.int (3 : Int32)), .val (.ref ch), .val (.int (Int32.ofNat r1)), .unset] [(.int (Int32.ofNat r2))])) _
        refine XS.istore X161.here hx rfl (hb hby at_68) rfl (l' := #[.val (.int p1), .val (.int p2), .val (.int p3), .val (.int p4), .val (.int (3 : Int32)), .val (.ref ch), .val (.int (Int32.ofNat r2)), .unset]) rfl ?_
        show Steps p.tables e below (T161.setTop (mkF m 70 #[.val (.int p1), .val (.int p2), .val (.int p3), .val (.int p4), .val (.int (3 : Int32)), .val (.ref ch), .val (.int (Int32.ofNat r2)), .unset] [])) _
        refine XS.iload X161.here hx rfl (hb hby at_70) rfl ?_
        show Steps p.tables e below (T161.setTop (mkF m 72 #[.val (.int p1), .val (.int p2), .val (.int p3), .val (.int p4), .val (.int (3 : Int32)), .val (.ref ch), .val (.int (Int32.ofNat r2)), .unset] [(.int (3 : Int32))])) _
        refine XS.iconst X161.here hx rfl (hb hby at_72) ?_
        show Steps p.tables e below (T161.setTop (mkF m 73 #[.val (.int p1), .val (.int p2), .val (.int p3), .val (.int p4), .val (.int (3 : Int32)), .val (.ref ch), .val (.int (Int32.ofNat r2)), .unset] [(.int (3 : Int32)), (.int (3 : Int32))])) _
        refine XS.icmpNo X161.here hx rfl (hb hby at_73) rfl (flt (by decide)).1 ?_
        show Steps p.tables e below (T161.setTop (mkF m 76 #[.val (.int p1), .val (.int p2), .val (.int p3), .val (.int p4), .val (.int (3 : Int32)), .val (.ref ch), .val (.int (Int32.ofNat r2)), .unset] [])) _
        refine XS.aload X161.here hx rfl (hb hby at_76) rfl rfl ?_
        show Steps p.tables e below (T161.setTop (mkF m 78 #[.val (.int p1), .val (.int p2), .val (.int p3), .val (.int p4), .val (.int (3 : Int32)), .val (.ref ch), .val (.int (Int32.ofNat r2)), .unset] [(.ref ch)])) _
        refine XS.iload X161.here hx rfl (hb hby at_78) rfl ?_
        show Steps p.tables e below (T161.setTop (mkF m 80 #[.val (.int p1), .val (.int p2), .val (.int p3), .val (.int p4), .val (.int (3 : Int32)), .val (.ref ch), .val (.int (Int32.ofNat r2)), .unset] [(.int (Int32.ofNat r2)), (.ref ch)])) _
        refine XS.iloadN X161.here hx rfl (hb hby at_80) rfl ?_
        show Steps p.tables e below (T161.setTop (mkF m 81 #[.val (.int p1), .val (.int p2), .val (.int p3), .val (.int p4), .val (.int (3 : Int32)), .val (.ref ch), .val (.int (Int32.ofNat r2)), .unset] [(.int p4), (.int (Int32.ofNat r2)), (.ref ch)])) _
        refine st163 _ ?_
        show Steps p.tables e below (T163.setTop (mkF m 84 #[.val (.int p1), .val (.int p2), .val (.int p3), .val (.int p4), .val (.int (3 : Int32)), .val (.ref ch), .val (.int (Int32.ofNat r2)), .unset] [(.int (Int32.ofNat r3))])) _
        refine XS.istore X163.here hx rfl (hb hby at_84) rfl (l' := #[.val (.int p1), .val (.int p2), .val (.int p3), .val (.int p4), .val (.int (3 : Int32)), .val (.ref ch), .val (.int (Int32.ofNat r3)), .unset]) rfl ?_
        show Steps p.tables e below (T163.setTop (mkF m 86 #[.val (.int p1), .val (.int p2), .val (.int p3), .val (.int p4), .val (.int (3 : Int32)), .val (.ref ch), .val (.int (Int32.ofNat r3)), .unset] [])) _
        refine XS.aload X163.here hx rfl (hb hby at_86) rfl rfl ?_
        exact k_)
      obtain ⟨_, _, ⟨T166, L166, k166, n166⟩, -, X166, hS166, hle166, ⟨Lc166, hQ166, l166, y166, z166, hC166⟩, st166⟩ := callSS (s := (s.setVm s.vm)) X163 hx (y := (⟨"com/example/ledgerpost/ledgerpost/StorableTextRequirePinLaw", "make", "([CI)Ljava/lang/String;"⟩ : MethodName)) hown (mvT hZ (hw _ (List.mem_of_getElem? (i := 1) rfl))) (mvT hZ (hw _ (List.mem_of_getElem? (i := 2) rfl))) (mvT hZ (hw _ (List.mem_of_getElem? (i := 3) rfl))) (mvT hZ (hw _ (List.mem_of_getElem? (i := 4) rfl))) (by decide) (backOfSH (s := s) (vm0 := s.vm) (W := 0) (rmMk l Z a0 hw [] ch r3 g3 zc ks3 T163.heap n0 Z164 S_a S_h S_l O_3 S_c hzc (by omega) AF3 W3_) hZ (hw _ (List.mem_of_getElem? (i := 4) rfl)) (hw _ (List.mem_of_getElem? (i := 3) rfl)) (by decide) (by decide) (own_EW hw) (CHr.keep KT3 (fun _ q => nomatch q) hH).1) (g := (mkF m 90 #[.val (.int p1), .val (.int p2), .val (.int p3), .val (.int p4), .val (.int (3 : Int32)), .val (.ref ch), .val (.int (Int32.ofNat r3)), .unset] [(.int (Int32.ofNat r3)), (.ref ch)])) rfl (by rw [hml]; rfl) (argsL := [(.ref ch), (.int (Int32.ofNat r3))]) (rest := []) (lenOf pd_19 rfl) rfl (by show 2 * 0 + _ ≤ _; exact Nat.le_of_eq rfl) (hb hby at_90) (fun _ _ => ⟨rfl, rfl, (by decide : 1 + 6 ≤ _), (by decide : 6 + 28 ≤ _)⟩)
      dsimp only [Pt.U, Pt.locs, Pt.cells, Pt.slots] at X166 l166 y166 z166 st166 hQ166 hS166 hle166 hC166
      rw [l166, y166, z166] at X166
      have hle166' := hle166
      obtain ⟨X166', hS166', hZ166, hown166⟩ := rebS (s := s) (vm0 := s.vm) ((State.WarmedH.refl s).since 0) (Nat.zero_le _) X166 hS166 hle166' hZ hown
      obtain ⟨x, hv166, N166q, K166, SX, lx_⟩ := hQ166
      rw [hv166] at st166
      have N166 := Fr.app N163 N166q
      have ch167 := (CHr.keep KT3 (fun _ q => nomatch q) hH).trans hC166
      have O_x := O_3.keep K166 all0
      have Z168 : n0 ≤ T166.heap.size := Nat.le_trans Z164 (K166.1)
      obtain ⟨pl, T169, h169, k1_169, X169, e169, Ext169, hS169, hk169, hZ169, hown169, hC169, -, st169⟩ := Jvm.RoadKit.ldcOH (s := s) (vm0 := T166.vm) X166' hx hZ166 hown166 (hw _ (List.mem_of_getElem? (i := 26) rfl)) (own_wS hw) rfl hS166' (Nat.le_refl _) (own_EW hw) ch167.1 (g := (mkF m 95 #[.val (.int p1), .val (.int p2), .val (.int p3), .val (.int p4), .val (.int (3 : Int32)), .val (.ref ch), .val (.int (Int32.ofNat r3)), .val (.ref x)] [])) rfl (hb hby at_95) (n := 28) (by first | decide | decide +kernel | simp) (by decide) (by decide) (by decide)
      have O_170 := O_x.ext Ext169
      have Z171 : n0 ≤ h169.size := Nat.le_trans Z168 (Ext169.1)
      have ch172 := ch167.trans hC169
      have SX2 := own_Sx SX Ext169
      obtain ⟨_, _, ⟨T173, L173, k173, n173⟩, -, X173, ⟨Lc173, hQ173, l173, y173, z173⟩, st173⟩ := Jvm.LawKit.callS X169 hx (y := (⟨"com/example/ledgerpost/ledgerpost/StorableText", "require", "(Ljava/lang/String;Ljava/lang/String;)Ljava/lang/String;"⟩ : MethodName)) hown169 (mvT hZ169 (hw _ (List.mem_of_getElem? (i := 27) rfl))) (mvT hZ169 (hw _ (List.mem_of_getElem? (i := 28) rfl))) (mvT hZ169 (hw _ (List.mem_of_getElem? (i := 29) rfl))) (mvT hZ169 (hw _ (List.mem_of_getElem? (i := 30) rfl))) (by decide) (backOf (W := 0) (rmRq l Z a0 hw [] pl x r3 g3 zc fm ks3 h169 n0 Z171 S_a S_h S_l O_170 S_c hzc S_f hf (by omega) SX2 W3_) hZ169 (hw _ (List.mem_of_getElem? (i := 30) rfl)) (hw _ (List.mem_of_getElem? (i := 29) rfl)) (by decide) (by decide)) (g := (mkF m 99 #[.val (.int p1), .val (.int p2), .val (.int p3), .val (.int p4), .val (.int (3 : Int32)), .val (.ref ch), .val (.int (Int32.ofNat r3)), .val (.ref x)] [(.ref x), (.ref pl)])) rfl (by rw [hml]; rfl) (argsL := [(.ref pl), (.ref x)]) (rest := []) (lenOf pd_18 rfl) rfl (by show 2 * 0 + _ ≤ _; exact Nat.le_of_eq rfl) (hb hby at_99) (fun _ _ => ⟨rfl, e169, (by decide : 9 + 0 ≤ _), (by decide : 66 + 0 ≤ _)⟩)
      dsimp only [Pt.U, Pt.locs, Pt.cells, Pt.slots] at X173 l173 y173 z173 st173 hQ173
      rw [l173, y173, z173] at X173
      obtain ⟨hv173, N173q, e173⟩ := hQ173
      rw [hv173] at st173
      have N173 := Fr.app N166 N173q
      have pre174 : ∀ t_, Steps p.tables e below (T173.setTop (mkF m 112 #[.val (.int p1), .val (.int p2), .val (.int p3), .val (.int p4), .val (.int (3 : Int32)), .val (.ref ch), .val (.int (Int32.ofNat r3)), .val (.ref x)] [(.int (1 : Int32))])) t_ → Steps p.tables e below (s₁.setTop (entryFrame m #[(.int p1), (.int p2), (.int p3), (.int p4)] maxLocals)) t_ := fun t_ k_ => pre165 _ (by
        show Steps p.tables e below (T163.setTop (mkF m 88 #[.val (.int p1), .val (.int p2), .val (.int p3), .val (.int p4), .val (.int (3 : Int32)), .val (.ref ch), .val (.int (Int32.ofNat r3)), .unset] [(.ref ch)])) _
        refine XS.iload X163.here hx rfl (hb hby at_88) rfl ?_
        show Steps p.tables e below (T163.setTop (mkF m 90 #[.val (.int p1), .val (.int p2), .val (.int p3), .val (.int p4), .val (.int (3 : Int32)), .val (.ref ch), .val (.int (Int32.ofNat r3)), .unset] [(.int (Int32.ofNat r3)), (.ref ch)])) _
        refine st166.trans ?_
        show Steps p.tables e below (T166.setTop (mkF m 93 #[.val (.int p1), .val (.int p2), .val (.int p3), .val (.int p4), .val (.int (3 : Int32)), .val (.ref ch), .val (.int (Int32.ofNat r3)), .unset] [(.ref x)])) _
        refine XS.astore X166'.here hx rfl (hb hby at_93) rfl rfl (l' := #[.val (.int p1), .val (.int p2), .val (.int p3), .val (.int p4), .val (.int (3 : Int32)), .val (.ref ch), .val (.int (Int32.ofNat r3)), .val (.ref x)]) rfl ?_
        show Steps p.tables e below (T166.setTop (mkF m 95 #[.val (.int p1), .val (.int p2), .val (.int p3), .val (.int p4), .val (.int (3 : Int32)), .val (.ref ch), .val (.int (Int32.ofNat r3)), .val (.ref x)] [])) _
        refine st169 _ ?_
        show Steps p.tables e below (T169.setTop (mkF m 97 #[.val (.int p1), .val (.int p2), .val (.int p3), .val (.int p4), .val (.int (3 : Int32)), .val (.ref ch), .val (.int (Int32.ofNat r3)), .val (.ref x)] [(.ref pl)])) _
        refine XS.aload X169.here hx rfl (hb hby at_97) rfl rfl ?_
        show Steps p.tables e below (T169.setTop (mkF m 99 #[.val (.int p1), .val (.int p2), .val (.int p3), .val (.int p4), .val (.int (3 : Int32)), .val (.ref ch), .val (.int (Int32.ofNat r3)), .val (.ref x)] [(.ref x), (.ref pl)])) _
        refine st173 _ ?_
        show Steps p.tables e below (T173.setTop (mkF m 102 #[.val (.int p1), .val (.int p2), .val (.int p3), .val (.int p4), .val (.int (3 : Int32)), .val (.ref ch), .val (.int (Int32.ofNat r3)), .val (.ref x)] [(.ref x)])) _
        refine XS.aload X173.here hx rfl (hb hby at_102) rfl rfl ?_
        show Steps p.tables e below (T173.setTop (mkF m 104 #[.val (.int p1), .val (.int p2), .val (.int p3), .val (.int p4), .val (.int (3 : Int32)), .val (.ref ch), .val (.int (Int32.ofNat r3)), .val (.ref x)] [(.ref x), (.ref x)])) _
        refine Jvm.RoadKit.acmp (g := (mkF m 104 #[.val (.int p1), .val (.int p2), .val (.int p3), .val (.int p4), .val (.int (3 : Int32)), .val (.ref ch), .val (.int (Int32.ofNat r3)), .val (.ref x)] [(.ref x), (.ref x)])) X173 hx rfl rfl rfl (pc0 := 104) (pc' := 107) (same := true) rfl (hb hby at_104) rfl (decide_eq_true rfl) (by decide) (by decide) ?_
        show Steps p.tables e below (T173.setTop (mkF m 107 #[.val (.int p1), .val (.int p2), .val (.int p3), .val (.int p4), .val (.int (3 : Int32)), .val (.ref ch), .val (.int (Int32.ofNat r3)), .val (.ref x)] [])) _
        refine XS.iconst X173.here hx rfl (hb hby at_107) ?_
        show Steps p.tables e below (T173.setTop (mkF m 108 #[.val (.int p1), .val (.int p2), .val (.int p3), .val (.int p4), .val (.int (3 : Int32)), .val (.ref ch), .val (.int (Int32.ofNat r3)), .val (.ref x)] [(.int (1 : Int32))])) _
        refine XS.goto X173.here hx rfl (pc0 := 108) (pc' := 112) rfl (hb hby at_108) (by decide) (by decide) ?_
        exact k_)
      obtain ⟨fs, hr, hrun, hended, hWr, hW1, hW2, hsame⟩ := Jvm.Stand.leaveW (s := s) X173 hS169 (by rw [e173]; exact hk169) (v := some (.int (1 : Int32))) (fun h => by rw [Bd.returns] at h; cases h)
      refine ⟨_, _, pre174 _ ?_, hrun, hended, _, _, rfl, ?_, hWr, hW1, hW2, hsame.mono (by decide) (by decide)⟩
      · show Steps p.tables e below (T173.setTop (mkF m 112 #[.val (.int p1), .val (.int p2), .val (.int p3), .val (.int p4), .val (.int (3 : Int32)), .val (.ref ch), .val (.int (Int32.ofNat r3)), .val (.ref x)] [(.int (1 : Int32))])) _
        exact retN X173 hx (t := .boolean) Bd.returns (by simp) (hb hby at_112) hr
      · show Qrm0 Z p1 p2 p3 p4 zc fm h0 n0 _ T173.heap _
        rw [e173]
        exact ⟨rfl, N173⟩
set_option maxRecDepth 65536 in
set_option maxHeartbeats 40000000 in
theorem comes_1 {Post : Tables → Env → Array Value → State → Outcome → State → Prop} (hpost : ∀ tb e args s v u, (limb_1_1.after args s (.returned v) u = true ∧ limb_1_2.after args s (.returned v) u = true ∧ True) → ReturnedEndW s (.returned v) u (Jvm.fieldLocs frame_1_writes args s ++ Jvm.arrayLocs frame_1_arrays args s ++ Jvm.staticLocs frame_1_statics s) 24 2240 → Post tb e args s (.returned v) u) :
    ArmFor flags0 classFile x code maxLocals ret World_1 tables_1 room_1 Calls_1 rest_1 Pre_1 Post := by
  intro l hfl _ _ p e ha hc hk s m args below hf hA hF happ hP
  obtain ⟨hcalls, hrest, hpre⟩ := hP
  obtain ⟨-, -, -, hnamed, -, -, -, hat⟩ := (Spec.applies_iff hf).mp happ
  obtain ⟨hg, hn⟩ := and_e (Cond.before_iff.mp (show (Jvm.Cond.and given_1 narrow_1).before args s = true from hpre))
  obtain ⟨gg1, gg2⟩ := and_e hg
  obtain ⟨gg3, gg4⟩ := and_e gg2
  obtain ⟨gg5, gg6⟩ := and_e gg4
  obtain ⟨gg7, gg8⟩ := and_e gg6
  obtain ⟨w0, w1, w2, w3, rfl⟩ : ∃ w0 w1 w2 w3 : Value, args = #[w0, w1, w2, w3] := by
    have hs : args.size = 4 := by simpa [Cond.value, given_1] using gg1
    obtain ⟨L⟩ := args
    match L, hs with
    | [w0, w1, w2, w3], _ => exact ⟨w0, w1, w2, w3, rfl⟩
  have hw := fun d (hd : d ∈ tables_1) => atoms_spec (ws := Jvm.Cond.code x code maxLocals ret :: tables_1) hat d (List.mem_cons_of_mem _ hd)
  have hfit : Fit s := fun {y c} hc i hi => by
    obtain ⟨ha, rfl⟩ := Array.getElem?_eq_some_iff.mp hc
    have q := List.all_eq_true.mp ((Array.all_eq_true_iff_forall_mem.mp hF) _ (Array.getElem_mem ha)) i (List.mem_range.mpr hi)
    simpa [Array.getElem?_eq_getElem hi] using q
  obtain ⟨i0, ei0⟩ := is_v gg3
  obtain rfl : w0 = (.int i0) := Option.some.inj ei0
  obtain ⟨i1, ei1⟩ := is_v gg5
  obtain rfl : w1 = (.int i1) := Option.some.inj ei1
  obtain ⟨i2, ei2⟩ := is_v gg7
  obtain rfl : w2 = (.int i2) := Option.some.inj ei2
  obtain ⟨i3, ei3⟩ := is_v gg8
  obtain rfl : w3 = (.int i3) := Option.some.inj ei3
  obtain ⟨hsets, hown0⟩ := atoms_of _ (rest_1_c_eq ▸ (show rest_1_c.before _ s = true from hrest))
  obtain ⟨zc, ezc⟩ := is_v (Cond.before_iff.mp (hsets _ (List.mem_of_getElem? (i := 1) rfl)))
  have S_c := Sta.start ezc (Or.inl (hsets _ (List.mem_of_getElem? (i := 0) rfl)))
  have hzc : ¬ zc = 0 := gotF (Cond.eq_ints ezc (Term.int_eval 0)) (not_v (Cond.before_iff.mp (hsets _ (List.mem_of_getElem? (i := 2) rfl))))
  have hCH : CHv s own_EL s.vm s.heap := CHv.start (a0 := _) (own_EW hw) (fun p hp => hcalls.1 p hp) (hsets _ (List.mem_of_getElem? (i := 2) rfl)) (hw _ (List.mem_of_getElem? (i := 19) rfl)) (hw _ (List.mem_of_getElem? (i := 6) rfl))
  obtain ⟨fm, efm, hfm⟩ := isR_v (Cond.before_iff.mp (hsets _ (List.mem_of_getElem? (i := 8) rfl)))
  have S_f := Sta.start efm (Or.inl (hsets _ (List.mem_of_getElem? (i := 7) rfl)))
  have S_a := Sta.start (Jvm.Free.NT.SwA.eq_int (hsets _ (List.mem_of_getElem? (i := 12) rfl))) (Or.inl (hsets _ (List.mem_of_getElem? (i := 11) rfl)))
  have S_h := Sta.start (Jvm.Free.NT.SwA.eq_int (hsets _ (List.mem_of_getElem? (i := 15) rfl))) (Or.inl (hsets _ (List.mem_of_getElem? (i := 14) rfl)))
  have S_l := Sta.start (Jvm.Free.NT.SwA.eq_int (hsets _ (List.mem_of_getElem? (i := 18) rfl))) (Or.inl (hsets _ (List.mem_of_getElem? (i := 17) rfl)))
  obtain ⟨n, o, h1, h2, h3, _, L, rfl, ⟨rfl, N⟩, hq⟩ := rm0 l s _ hw tables_1 i0 i1 i2 i3 zc fm s.heap s.heap.size (Nat.le_refl _) S_a S_h S_l (Old.start s) S_c hzc S_f hfm p e ha hc hk s m _ below hf ((Spec.applies_iff_loose hf).mp happ).1 ⟨rfl, State.Warmed39.refl s, rfl, hCH⟩ trivial
  refine ⟨n, _, h1, h2, h3, hpost _ _ _ _ _ _ ⟨Cond.after_iff.mpr rfl, Cond.after_iff.mpr (eq_i res_at (Term.int_eval (1)) rfl), trivial⟩ ⟨hq.1, hq.2.1, hq.2.2.1, (hq.2.2.2.sift fun y hy => Or.inr (N y hy)).mono (by decide) (by decide)⟩⟩
theorem main_1_1 : Claimed_1_1 := comes_1 fun _ _ _ _ _ _ h hF => ⟨h.1, hF⟩
theorem main_1_2 : Claimed_1_2 := comes_1 fun _ _ _ _ _ _ h hF => ⟨h.2.1, hF⟩
end Jvm.Pilot.@@N@@
namespace Jvm.Pilot.@@N@@
open Jvm Jvm.ClassFile Sem Op Lib Jvm.Free Jvm.Stand Jvm.Pilot.@@N@@.Jvm.D
/-! MADE BY PROGRAM (witnessworld.py) out of the Statement's table words and the real class files: 21 classes; the members and pool entries that the words name. The judged class is class 1, her method 1. -/
namespace start1
open Jvm.ClassFile
def u (s : String) : CpInfo := .utf8 (stringToUtf16 s)
/-- a pool by its gaps: so many unusable entries, then the entry; so many at the end -/
def gap : Nat → List CpInfo → List CpInfo
  | 0, r => r
  | n + 1, r => .unusable :: gap n r
def poolList (es : List (Nat × CpInfo)) (last : Nat) : List CpInfo := es.foldr (fun e r => gap e.1 (e.2 :: r)) (gap last [])
def pool (es : List (Nat × CpInfo)) (last : Nat) : Array CpInfo := ⟨poolList es last⟩
def fileOf (pool : Array CpInfo) (this : Nat) (attrs : Array Attribute := #[]) (ms : Array MethodInfo := #[]) (fl : Nat := 33) (sup : Nat := 0) (ifs : Array Nat := #[]) (fds : Array FieldInfo := #[]) : ClassFile where
  minorVersion := 0
  majorVersion := 65
  constantPool := pool
  accessFlags := fl
  thisClass := this
  superClass := sup
  interfaces := ifs
  fields := fds
  methods := ms
  attributes := attrs
def plain (name : String) (sup : Option ClassId) : Class where
  name := name
  kind := .ordinary
  loader := none
  accessFlags := 33
  super := sup
  interfaces := #[]
  cf := none
  fields := #[]
  methods := #[]
  instanceTypes := #[]
  staticTypes := #[]
  resolved := #[]
  callSites := []
  init := .initialized
  statics := none
  mirror := none

def pool0 : Array CpInfo := pool [(5, u "<init>"), (0, u "()V"), (1, .class_ 10), (1, u "java/lang/Object")] 113

def k0c0 : Code := { maxStack := 0, maxLocals := 1, code := object_method_1_code, exceptionTable := #[], attributes := #[] }
def k0m0 : Method := { name := "<init>", desc := "()V", sig := { parameters := [], returnType := none }, accessFlags := 1, code := some k0c0 }
/-- java/lang/Object -/
def k0 : Class := { plain "java/lang/Object" none with
  accessFlags := 33
  interfaces := #[]
  cf := some (fileOf pool0 8 #[] #[{ accessFlags := 1, nameIndex := 5, descriptorIndex := 6, attributes := #[] }] 33 0 #[] #[])
  fields := #[]
  methods := #[k0m0]
  instanceTypes := #[]
  staticTypes := #[]
  resolved := Array.replicate 124 none
  statics := none }

def pool1 : Array CpInfo := pool [(2, .class_ 4), (1, u "java/lang/Object"), (0, u "<init>"), (0, u "()V"), (0, .string 8), (0, u "payload"), (0, .methodref 10 11), (0, .class_ 12), (0, .nameAndType 13 14), (0, u "com/example/ledgerpost/ledgerpost/StorableText"), (0, u "require"), (0, u "(Ljava/lang/String;Ljava/lang/String;)Ljava/lang/String;"), (0, .methodref 16 17), (0, .class_ 18), (0, .nameAndType 19 20), (0, u "com/example/ledgerpost/ledgerpost/StorableTextRequirePinLaw"), (0, u "put"), (0, u "([CII)I"), (0, .methodref 16 22), (0, .nameAndType 23 24), (0, u "make"), (0, u "([CI)Ljava/lang/String;"), (0, .integer 55296), (0, .integer 56320), (0, .integer 65535), (0, .integer 57343), (0, .class_ 30), (0, u "java/lang/String"), (0, .methodref 29 32), (0, .nameAndType 5 33), (0, u "([C)V"), (2, u "law"), (0, u "(IIII)Z")] 5

def k1m0 : Method := { name := "<init>", desc := "()V", sig := { parameters := [], returnType := none }, accessFlags := 2, code := none }
def k1c1 : Code := { maxStack := 3, maxLocals := 8, code := code, exceptionTable := #[], attributes := #[] }
def k1m1 : Method := { name := "law", desc := "(IIII)Z", sig := { parameters := [.int, .int, .int, .int], returnType := some .boolean }, accessFlags := 9, code := some k1c1 }
def k1c2 : Code := { maxStack := 5, maxLocals := 4, code := method_3_code, exceptionTable := #[], attributes := #[] }
def k1m2 : Method := { name := "put", desc := "([CII)I", sig := { parameters := [(.array .char), .int, .int], returnType := some .int }, accessFlags := 10, code := some k1c2 }
def k1c3 : Code := { maxStack := 7, maxLocals := 2, code := method_4_code, exceptionTable := #[], attributes := #[] }
def k1m3 : Method := { name := "make", desc := "([CI)Ljava/lang/String;", sig := { parameters := [(.array .char), .int], returnType := some (.object "java/lang/String") }, accessFlags := 10, code := some k1c3 }
/-- com/example/ledgerpost/ledgerpost/StorableTextRequirePinLaw -/
def k1 : Class := { plain "com/example/ledgerpost/ledgerpost/StorableTextRequirePinLaw" (some 0) with
  accessFlags := 49
  interfaces := #[]
  cf := some (fileOf pool1 16 #[] #[{ accessFlags := 2, nameIndex := 5, descriptorIndex := 6, attributes := #[] }, { accessFlags := 9, nameIndex := 36, descriptorIndex := 37, attributes := #[] }, { accessFlags := 10, nameIndex := 19, descriptorIndex := 20, attributes := #[] }, { accessFlags := 10, nameIndex := 23, descriptorIndex := 24, attributes := #[] }] 49 2 #[] #[])
  fields := #[]
  methods := #[k1m0, k1m1, k1m2, k1m3]
  instanceTypes := #[]
  staticTypes := #[]
  resolved := Array.replicate 43 none
  statics := none }

def pool2 : Array CpInfo := pool [(1, .class_ 2), (0, u "java/io/Serializable"), (0, .class_ 4), (0, u "java/lang/Object")] 2

/-- java/io/Serializable -/
def k2 : Class := { plain "java/io/Serializable" (some 0) with
  accessFlags := 1537
  interfaces := #[]
  cf := some (fileOf pool2 1 #[] #[] 1537 3 #[] #[])
  fields := #[]
  methods := #[]
  instanceTypes := #[]
  staticTypes := #[]
  resolved := Array.replicate 7 none
  statics := none }

def pool3 : Array CpInfo := pool [(1, .class_ 2), (0, u "java/lang/Comparable"), (0, .class_ 4), (0, u "java/lang/Object")] 7

/-- java/lang/Comparable -/
def k3 : Class := { plain "java/lang/Comparable" (some 0) with
  accessFlags := 1537
  interfaces := #[]
  cf := some (fileOf pool3 1 #[] #[] 1537 3 #[] #[])
  fields := #[]
  methods := #[]
  instanceTypes := #[]
  staticTypes := #[]
  resolved := Array.replicate 12 none
  statics := none }

def pool4 : Array CpInfo := pool [(2, .class_ 4), (1, u "java/lang/CharSequence"), (42, .class_ 48), (0, u "java/lang/CharSequence$1CodePointIterator"), (10, .class_ 60), (0, u "java/lang/CharSequence$1CharIterator"), (5, .class_ 67), (0, u "java/lang/Object")] 63

/-- java/lang/CharSequence -/
def k4 : Class := { plain "java/lang/CharSequence" (some 0) with
  accessFlags := 1537
  interfaces := #[]
  cf := some (fileOf pool4 2 #[.nestMembers #[47, 59]] #[] 1537 66 #[] #[])
  fields := #[]
  methods := #[]
  instanceTypes := #[]
  staticTypes := #[]
  resolved := Array.replicate 131 none
  statics := none }

def pool5 : Array CpInfo := pool [(1, .class_ 2), (0, u "java/lang/constant/Constable"), (0, .class_ 4), (0, u "java/lang/Object")] 6

/-- java/lang/constant/Constable -/
def k5 : Class := { plain "java/lang/constant/Constable" (some 0) with
  accessFlags := 1537
  interfaces := #[]
  cf := some (fileOf pool5 1 #[] #[] 1537 3 #[] #[])
  fields := #[]
  methods := #[]
  instanceTypes := #[]
  staticTypes := #[]
  resolved := Array.replicate 11 none
  statics := none }

def pool6 : Array CpInfo := pool [(1, .class_ 2), (0, u "java/lang/constant/ConstantDesc"), (0, .class_ 4), (0, u "java/lang/Object")] 32

/-- java/lang/constant/ConstantDesc -/
def k6 : Class := { plain "java/lang/constant/ConstantDesc" (some 0) with
  accessFlags := 1537
  interfaces := #[]
  cf := some (fileOf pool6 1 #[] #[] 1537 3 #[] #[])
  fields := #[]
  methods := #[]
  instanceTypes := #[]
  staticTypes := #[]
  resolved := Array.replicate 37 none
  statics := none }

def pool7 : Array CpInfo := pool [(1, .methodref 2 3), (0, .class_ 4), (0, .nameAndType 5 6), (0, u "java/lang/Object"), (0, u "<init>"), (0, u "()V"), (0, .string 8), (0, u ""), (0, .fieldref 10 11), (0, .class_ 12), (0, .nameAndType 13 14), (0, u "java/lang/String"), (0, u "value"), (0, u "[B"), (0, .fieldref 10 16), (0, .nameAndType 17 18), (0, u "coder"), (0, u "B"), (2, u "hash"), (0, u "I"), (2, u "hashIsZero"), (0, u "Z"), (0, .methodref 10 28), (0, .nameAndType 5 29), (0, u "([CIILjava/lang/Void;)V"), (8, .fieldref 10 39), (0, .nameAndType 40 26), (0, u "COMPACT_STRINGS"), (1, .class_ 44), (1, u "java/lang/StringUTF16"), (0, u "compress"), (1, .methodref 42 48), (0, .nameAndType 49 50), (0, u "coderFromArrayLen"), (0, u "([BI)B"), (46, u "([BII)I"), (44, u "()Z"), (34, .methodref 42 178), (0, .nameAndType 45 179), (0, u "([CII)[B"), (154, u "()I"), (0, .methodref 10 336), (0, .nameAndType 17 337), (0, u "()B"), (53, u "(II)V"), (100, .methodref 10 493), (0, .nameAndType 494 142), (0, u "isLatin1"), (4, .methodref 10 500), (0, .nameAndType 501 391), (0, u "checkIndex"), (0, .methodref 42 503), (0, .nameAndType 504 97), (0, u "codePointAt"), (2, u "length"), (67, .class_ 576), (0, u "java/lang/CharSequence"), (22, u "CASE_INSENSITIVE_ORDER"), (0, u "Ljava/util/Comparator;"), (164, u "(I)I"), (244, u "([C)V"), (42, .fieldref 1054 1055), (0, .class_ 1056), (0, .nameAndType 1057 1058), (0, u "jdk/internal/util/Preconditions"), (0, u "SIOOBE_FORMATTER"), (0, u "Ljava/util/function/BiFunction;"), (0, .methodref 1054 1060), (0, .nameAndType 501 1061), (0, u "(IILjava/util/function/BiFunction;)I"), (39, u "serialPersistentFields"), (0, u "[Ljava/io/ObjectStreamField;"), (0, .class_ 1104), (0, u "java/lang/String$CaseInsensitiveComparator"), (1, .class_ 1107), (0, u "java/io/Serializable"), (0, .class_ 1109), (0, u "java/lang/Comparable"), (0, .class_ 1111), (0, u "java/lang/constant/Constable"), (0, .class_ 1113), (0, u "java/lang/constant/ConstantDesc"), (2, u "serialVersionUID"), (0, u "J"), (3, u "REPL"), (0, u "C"), (2, u "LATIN1"), (1, u "UTF16")] 323

def k7m0 : Method := { name := "<init>", desc := "()V", sig := { parameters := [], returnType := none }, accessFlags := 1, code := none }
def k7c1 : Code := { maxStack := 5, maxLocals := 2, code := jdk_42_method_3_code, exceptionTable := #[], attributes := #[] }
def k7m1 : Method := { name := "<init>", desc := "([C)V", sig := { parameters := [(.array .char)], returnType := none }, accessFlags := 1, code := some k7c1 }
def k7c2 : Code := { maxStack := 2, maxLocals := 1, code := jdk_42_method_54_code, exceptionTable := #[], attributes := #[] }
def k7m2 : Method := { name := "length", desc := "()I", sig := { parameters := [], returnType := some .int }, accessFlags := 1, code := some k7c2 }
def k7c3 : Code := { maxStack := 3, maxLocals := 3, code := jdk_42_method_57_code, exceptionTable := #[], attributes := #[] }
def k7m3 : Method := { name := "codePointAt", desc := "(I)I", sig := { parameters := [.int], returnType := some .int }, accessFlags := 1, code := some k7c3 }
def k7c4 : Code := { maxStack := 4, maxLocals := 6, code := jdk_42_method_149_code, exceptionTable := #[], attributes := #[] }
def k7m4 : Method := { name := "<init>", desc := "([CIILjava/lang/Void;)V", sig := { parameters := [(.array .char), .int, .int, (.object "java/lang/Void")], returnType := none }, accessFlags := 2, code := some k7c4 }
def k7c5 : Code := { maxStack := 1, maxLocals := 1, code := jdk_42_method_152_code, exceptionTable := #[], attributes := #[] }
def k7m5 : Method := { name := "coder", desc := "()B", sig := { parameters := [], returnType := some .byte }, accessFlags := 0, code := some k7c5 }
def k7c6 : Code := { maxStack := 1, maxLocals := 1, code := jdk_42_method_154_code, exceptionTable := #[], attributes := #[] }
def k7m6 : Method := { name := "isLatin1", desc := "()Z", sig := { parameters := [], returnType := some .boolean }, accessFlags := 0, code := some k7c6 }
def k7c7 : Code := { maxStack := 3, maxLocals := 2, code := jdk_42_method_155_code, exceptionTable := #[], attributes := #[] }
def k7m7 : Method := { name := "checkIndex", desc := "(II)V", sig := { parameters := [.int, .int], returnType := none }, accessFlags := 8, code := some k7c7 }
/-- java/lang/String -/
def k7 : Class := { plain "java/lang/String" (some 0) with
  accessFlags := 49
  interfaces := #[2, 3, 4, 5, 6]
  cf := some (fileOf pool7 10 #[.nestMembers #[1103]] #[{ accessFlags := 1, nameIndex := 5, descriptorIndex := 6, attributes := #[] }, { accessFlags := 1, nameIndex := 5, descriptorIndex := 1010, attributes := #[] }, { accessFlags := 1, nameIndex := 507, descriptorIndex := 334, attributes := #[] }, { accessFlags := 1, nameIndex := 504, descriptorIndex := 765, attributes := #[] }, { accessFlags := 2, nameIndex := 5, descriptorIndex := 29, attributes := #[] }, { accessFlags := 0, nameIndex := 17, descriptorIndex := 337, attributes := #[] }, { accessFlags := 0, nameIndex := 494, descriptorIndex := 142, attributes := #[] }, { accessFlags := 8, nameIndex := 501, descriptorIndex := 391, attributes := #[] }] 49 2 #[1106, 1108, 575, 1110, 1112] #[{ accessFlags := 18, nameIndex := 13, descriptorIndex := 14, attributes := #[] }, { accessFlags := 18, nameIndex := 17, descriptorIndex := 18, attributes := #[] }, { accessFlags := 2, nameIndex := 21, descriptorIndex := 22, attributes := #[] }, { accessFlags := 2, nameIndex := 25, descriptorIndex := 26, attributes := #[] }, { accessFlags := 26, nameIndex := 1116, descriptorIndex := 1117, attributes := #[] }, { accessFlags := 24, nameIndex := 40, descriptorIndex := 26, attributes := #[] }, { accessFlags := 26, nameIndex := 1101, descriptorIndex := 1102, attributes := #[] }, { accessFlags := 26, nameIndex := 1121, descriptorIndex := 1122, attributes := #[] }, { accessFlags := 25, nameIndex := 599, descriptorIndex := 600, attributes := #[] }, { accessFlags := 24, nameIndex := 1125, descriptorIndex := 18, attributes := #[] }, { accessFlags := 24, nameIndex := 1127, descriptorIndex := 18, attributes := #[] }])
  fields := #[{ name := "value", type := (.array .byte), accessFlags := 18, slot := 0, constantValue := 0 }, { name := "coder", type := .byte, accessFlags := 18, slot := 1, constantValue := 0 }, { name := "hash", type := .int, accessFlags := 2, slot := 2, constantValue := 0 }, { name := "hashIsZero", type := .boolean, accessFlags := 2, slot := 3, constantValue := 0 }, { name := "serialVersionUID", type := .long, accessFlags := 26, slot := 0, constantValue := 0 }, { name := "COMPACT_STRINGS", type := .boolean, accessFlags := 24, slot := 1, constantValue := 0 }, { name := "serialPersistentFields", type := (.array (.object "java/io/ObjectStreamField")), accessFlags := 26, slot := 2, constantValue := 0 }, { name := "REPL", type := .char, accessFlags := 26, slot := 3, constantValue := 0 }, { name := "CASE_INSENSITIVE_ORDER", type := (.object "java/util/Comparator"), accessFlags := 25, slot := 4, constantValue := 0 }, { name := "LATIN1", type := .byte, accessFlags := 24, slot := 5, constantValue := 0 }, { name := "UTF16", type := .byte, accessFlags := 24, slot := 6, constantValue := 0 }]
  methods := #[k7m0, k7m1, k7m2, k7m3, k7m4, k7m5, k7m6, k7m7]
  instanceTypes := #[(.array .byte), .byte, .int, .boolean]
  staticTypes := #[.long, .boolean, (.array (.object "java/io/ObjectStreamField")), .char, (.object "java/util/Comparator"), .byte, .byte]
  resolved := Array.replicate 1451 none
  statics := some 0 }

def pool8 : Array CpInfo := pool [(2, .class_ 4), (1, u "java/lang/Object"), (0, u "<init>"), (0, u "()V"), (0, .methodref 8 9), (0, .class_ 10), (0, .nameAndType 11 12), (0, u "java/lang/String"), (0, u "length"), (0, u "()I"), (0, .methodref 8 14), (0, .nameAndType 15 16), (0, u "codePointAt"), (0, u "(I)I"), (9, .class_ 27), (0, u "java/lang/Character"), (0, .integer 55296), (0, .integer 57343), (1, .methodref 26 32), (0, .nameAndType 33 16), (0, u "charCount"), (50, u "(Ljava/lang/String;Ljava/lang/String;)Ljava/lang/String;"), (3, .class_ 89), (0, u "com/example/ledgerpost/ledgerpost/StorableText"), (2, u "require")] 26

def k8m0 : Method := { name := "<init>", desc := "()V", sig := { parameters := [], returnType := none }, accessFlags := 2, code := none }
def k8c1 : Code := { maxStack := 4, maxLocals := 4, code := prog_25_method_2_code, exceptionTable := #[], attributes := #[] }
def k8m1 : Method := { name := "require", desc := "(Ljava/lang/String;Ljava/lang/String;)Ljava/lang/String;", sig := { parameters := [(.object "java/lang/String"), (.object "java/lang/String")], returnType := some (.object "java/lang/String") }, accessFlags := 8, code := some k8c1 }
/-- com/example/ledgerpost/ledgerpost/StorableText -/
def k8 : Class := { plain "com/example/ledgerpost/ledgerpost/StorableText" (some 0) with
  accessFlags := 48
  interfaces := #[]
  cf := some (fileOf pool8 88 #[] #[{ accessFlags := 2, nameIndex := 5, descriptorIndex := 6, attributes := #[] }, { accessFlags := 8, nameIndex := 92, descriptorIndex := 84, attributes := #[] }] 48 2 #[] #[])
  fields := #[]
  methods := #[k8m0, k8m1]
  instanceTypes := #[]
  staticTypes := #[]
  resolved := Array.replicate 119 none
  statics := none }

def pool9 : Array CpInfo := pool [(6, .class_ 8), (1, u "java/lang/Object"), (0, u "<init>"), (0, u "()V"), (0, .methodref 12 13), (0, .class_ 14), (0, .nameAndType 15 16), (0, u "java/lang/StringUTF16"), (0, u "newBytesLength"), (0, u "(I)I"), (3, .integer 1073741823), (23, .fieldref 12 45), (0, .nameAndType 46 47), (0, u "$assertionsDisabled"), (0, u "Z"), (11, .fieldref 12 60), (0, .nameAndType 61 62), (0, u "HI_BYTE_SHIFT"), (0, u "I"), (0, .fieldref 12 64), (0, .nameAndType 65 62), (0, u "LO_BYTE_SHIFT"), (5, .methodref 12 72), (0, .nameAndType 73 74), (0, u "getChar"), (0, u "([BI)C"), (0, .methodref 76 77), (0, .class_ 78), (0, .nameAndType 79 80), (0, u "java/lang/Character"), (0, u "isHighSurrogate"), (0, u "(C)Z"), (0, .methodref 76 82), (0, .nameAndType 83 80), (0, u "isLowSurrogate"), (0, .methodref 76 85), (0, .nameAndType 86 87), (0, u "toCodePoint"), (0, u "(CC)I"), (0, .methodref 12 89), (0, .nameAndType 90 91), (0, u "codePointAt"), (0, u "([BIIZ)I"), (15, .methodref 12 108), (0, .nameAndType 109 110), (0, u "newBytesFor"), (0, u "(I)[B"), (0, .methodref 12 112), (0, .nameAndType 113 114), (0, u "putChar"), (0, u "([BII)V"), (0, .methodref 12 116), (0, .nameAndType 117 118), (0, u "compress"), (0, u "([CI[BII)I"), (0, .methodref 12 120), (0, .nameAndType 121 122), (0, u "toBytes"), (0, u "([CII)[B"), (127, u "([BII)I"), (10, u "coderFromArrayLen"), (0, u "([BI)B"), (106, .class_ 371), (1, u "java/lang/StringUTF16$LinesSpliterator"), (58, u "MAX_LENGTH"), (196, .class_ 628), (0, u "java/lang/StringUTF16$CodePointsSpliterator"), (0, .class_ 630), (0, u "java/lang/StringUTF16$CharsSpliterator")] 4

def k9m0 : Method := { name := "<init>", desc := "()V", sig := { parameters := [], returnType := none }, accessFlags := 0, code := none }
def k9c1 : Code := { maxStack := 1, maxLocals := 1, code := jdk_52_method_2_code, exceptionTable := #[], attributes := #[] }
def k9m1 : Method := { name := "newBytesFor", desc := "(I)[B", sig := { parameters := [.int], returnType := some (.array .byte) }, accessFlags := 9, code := some k9c1 }
def k9c2 : Code := { maxStack := 4, maxLocals := 1, code := jdk_52_method_3_code, exceptionTable := #[], attributes := #[] }
def k9m2 : Method := { name := "newBytesLength", desc := "(I)I", sig := { parameters := [.int], returnType := some .int }, accessFlags := 9, code := some k9c2 }
def k9c3 : Code := { maxStack := 4, maxLocals := 3, code := jdk_52_method_4_code, exceptionTable := #[], attributes := #[] }
def k9m3 : Method := { name := "putChar", desc := "([BII)V", sig := { parameters := [(.array .byte), .int, .int], returnType := none }, accessFlags := 8, code := some k9c3 }
def k9c4 : Code := { maxStack := 3, maxLocals := 2, code := jdk_52_method_5_code, exceptionTable := #[], attributes := #[] }
def k9m4 : Method := { name := "getChar", desc := "([BI)C", sig := { parameters := [(.array .byte), .int], returnType := some .char }, accessFlags := 8, code := some k9c4 }
def k9c5 : Code := { maxStack := 2, maxLocals := 6, code := jdk_52_method_7_code, exceptionTable := #[], attributes := #[] }
def k9m5 : Method := { name := "codePointAt", desc := "([BIIZ)I", sig := { parameters := [(.array .byte), .int, .int, .boolean], returnType := some .int }, accessFlags := 10, code := some k9c5 }
def k9c6 : Code := { maxStack := 4, maxLocals := 3, code := jdk_52_method_8_code, exceptionTable := #[], attributes := #[] }
def k9m6 : Method := { name := "codePointAt", desc := "([BII)I", sig := { parameters := [(.array .byte), .int, .int], returnType := some .int }, accessFlags := 9, code := some k9c6 }
def k9c7 : Code := { maxStack := 4, maxLocals := 5, code := jdk_52_method_14_code, exceptionTable := #[], attributes := #[] }
def k9m7 : Method := { name := "toBytes", desc := "([CII)[B", sig := { parameters := [(.array .char), .int, .int], returnType := some (.array .byte) }, accessFlags := 9, code := some k9c7 }
def k9c8 : Code := { maxStack := 2, maxLocals := 2, code := jdk_52_method_15_code, exceptionTable := #[], attributes := #[] }
def k9m8 : Method := { name := "coderFromArrayLen", desc := "([BI)B", sig := { parameters := [(.array .byte), .int], returnType := some .byte }, accessFlags := 8, code := some k9c8 }
def k9c9 : Code := { maxStack := 5, maxLocals := 6, code := jdk_52_method_16_code, exceptionTable := #[], attributes := #[] }
def k9m9 : Method := { name := "compress", desc := "([CII)[B", sig := { parameters := [(.array .char), .int, .int], returnType := some (.array .byte) }, accessFlags := 9, code := some k9c9 }
def k9c10 : Code := { maxStack := 3, maxLocals := 7, code := jdk_52_method_21_code, exceptionTable := #[], attributes := #[] }
def k9m10 : Method := { name := "compress", desc := "([CI[BII)I", sig := { parameters := [(.array .char), .int, (.array .byte), .int, .int], returnType := some .int }, accessFlags := 9, code := some k9c10 }
/-- java/lang/StringUTF16 -/
def k9 : Class := { plain "java/lang/StringUTF16" (some 0) with
  accessFlags := 48
  interfaces := #[]
  cf := some (fileOf pool9 12 #[.nestMembers #[627, 629, 369]] #[{ accessFlags := 0, nameIndex := 9, descriptorIndex := 10, attributes := #[] }, { accessFlags := 9, nameIndex := 109, descriptorIndex := 110, attributes := #[] }, { accessFlags := 9, nameIndex := 15, descriptorIndex := 16, attributes := #[] }, { accessFlags := 8, nameIndex := 113, descriptorIndex := 114, attributes := #[] }, { accessFlags := 8, nameIndex := 73, descriptorIndex := 74, attributes := #[] }, { accessFlags := 10, nameIndex := 90, descriptorIndex := 91, attributes := #[] }, { accessFlags := 9, nameIndex := 90, descriptorIndex := 250, attributes := #[] }, { accessFlags := 9, nameIndex := 121, descriptorIndex := 122, attributes := #[] }, { accessFlags := 8, nameIndex := 261, descriptorIndex := 262, attributes := #[] }, { accessFlags := 9, nameIndex := 117, descriptorIndex := 122, attributes := #[] }, { accessFlags := 9, nameIndex := 117, descriptorIndex := 118, attributes := #[] }] 48 6 #[] #[{ accessFlags := 26, nameIndex := 61, descriptorIndex := 62, attributes := #[] }, { accessFlags := 26, nameIndex := 65, descriptorIndex := 62, attributes := #[] }, { accessFlags := 24, nameIndex := 430, descriptorIndex := 62, attributes := #[] }, { accessFlags := 4120, nameIndex := 46, descriptorIndex := 47, attributes := #[] }])
  fields := #[{ name := "HI_BYTE_SHIFT", type := .int, accessFlags := 26, slot := 0, constantValue := 0 }, { name := "LO_BYTE_SHIFT", type := .int, accessFlags := 26, slot := 1, constantValue := 0 }, { name := "MAX_LENGTH", type := .int, accessFlags := 24, slot := 2, constantValue := 0 }, { name := "$assertionsDisabled", type := .boolean, accessFlags := 4120, slot := 3, constantValue := 0 }]
  methods := #[k9m0, k9m1, k9m2, k9m3, k9m4, k9m5, k9m6, k9m7, k9m8, k9m9, k9m10]
  instanceTypes := #[]
  staticTypes := #[.int, .int, .int, .boolean]
  resolved := Array.replicate 635 none
  statics := some 1 }

def pool10 : Array CpInfo := pool [(2, .class_ 4), (1, u "java/lang/Object"), (0, u "<init>"), (0, u "()V"), (17, .class_ 26), (1, u "jdk/internal/util/Preconditions"), (6, u "checkIndex"), (21, .class_ 56), (0, u "jdk/internal/util/Preconditions$4"), (57, .class_ 115), (0, u "jdk/internal/util/Preconditions$1"), (7, u "SIOOBE_FORMATTER"), (0, u "Ljava/util/function/BiFunction;"), (0, .class_ 126), (0, u "jdk/internal/util/Preconditions$2"), (3, u "AIOOBE_FORMATTER"), (0, .class_ 132), (0, u "jdk/internal/util/Preconditions$3"), (3, u "IOOBE_FORMATTER"), (41, u "(IILjava/util/function/BiFunction;)I")] 15

def k10m0 : Method := { name := "<init>", desc := "()V", sig := { parameters := [], returnType := none }, accessFlags := 1, code := none }
def k10c1 : Code := { maxStack := 3, maxLocals := 3, code := jdk_41_method_11_code, exceptionTable := #[], attributes := #[] }
def k10m1 : Method := { name := "checkIndex", desc := "(IILjava/util/function/BiFunction;)I", sig := { parameters := [.int, .int, (.object "java/util/function/BiFunction")], returnType := some .int }, accessFlags := 9, code := some k10c1 }
/-- jdk/internal/util/Preconditions -/
def k10 : Class := { plain "jdk/internal/util/Preconditions" (some 0) with
  accessFlags := 33
  interfaces := #[]
  cf := some (fileOf pool10 24 #[.nestMembers #[55, 131, 125, 114]] #[{ accessFlags := 1, nameIndex := 5, descriptorIndex := 6, attributes := #[] }, { accessFlags := 9, nameIndex := 33, descriptorIndex := 178, attributes := #[] }] 33 2 #[] #[{ accessFlags := 25, nameIndex := 123, descriptorIndex := 124, attributes := #[] }, { accessFlags := 25, nameIndex := 130, descriptorIndex := 124, attributes := #[] }, { accessFlags := 25, nameIndex := 136, descriptorIndex := 124, attributes := #[] }])
  fields := #[{ name := "SIOOBE_FORMATTER", type := (.object "java/util/function/BiFunction"), accessFlags := 25, slot := 0, constantValue := 0 }, { name := "AIOOBE_FORMATTER", type := (.object "java/util/function/BiFunction"), accessFlags := 25, slot := 1, constantValue := 0 }, { name := "IOOBE_FORMATTER", type := (.object "java/util/function/BiFunction"), accessFlags := 25, slot := 2, constantValue := 0 }]
  methods := #[k10m0, k10m1]
  instanceTypes := #[]
  staticTypes := #[(.object "java/util/function/BiFunction"), (.object "java/util/function/BiFunction"), (.object "java/util/function/BiFunction")]
  resolved := Array.replicate 194 none
  statics := some 2 }

def pool11 : Array CpInfo := pool [(1, .class_ 2), (0, u "java/lang/Character"), (18, u "value"), (0, u "C"), (19, .class_ 44), (1, u "java/lang/Object"), (3, .class_ 50), (1, u "java/lang/Character$CharacterCache"), (22, .integer 65536), (1, .integer 55296), (0, .integer 56320), (0, .integer 57344), (2, u "isHighSurrogate"), (0, u "(C)Z"), (2, u "isLowSurrogate"), (0, .integer 4238353408), (12, u "toCodePoint"), (0, u "(CC)I"), (74, u "(I)I"), (109, u "$assertionsDisabled"), (0, u "Z"), (21, .class_ 309), (1, u "java/lang/Character$UnicodeBlock"), (73, u "TYPE"), (0, u "Ljava/lang/Class;"), (0, .class_ 386), (0, u "java/io/Serializable"), (0, .class_ 388), (0, u "java/lang/Comparable"), (0, .class_ 390), (0, u "java/lang/constant/Constable"), (0, u "MIN_RADIX"), (0, u "I"), (2, u "MAX_RADIX"), (1, u "MIN_VALUE"), (1, u "MAX_VALUE"), (3, u "UNASSIGNED"), (0, u "B"), (0, u "UPPERCASE_LETTER"), (1, u "LOWERCASE_LETTER"), (0, u "TITLECASE_LETTER"), (1, u "MODIFIER_LETTER"), (1, u "OTHER_LETTER"), (1, u "NON_SPACING_MARK"), (1, u "ENCLOSING_MARK"), (1, u "COMBINING_SPACING_MARK"), (1, u "DECIMAL_DIGIT_NUMBER"), (1, u "LETTER_NUMBER"), (1, u "OTHER_NUMBER"), (1, u "SPACE_SEPARATOR"), (1, u "LINE_SEPARATOR"), (1, u "PARAGRAPH_SEPARATOR"), (1, u "CONTROL"), (1, u "FORMAT"), (1, u "PRIVATE_USE"), (1, u "SURROGATE"), (1, u "DASH_PUNCTUATION"), (1, u "START_PUNCTUATION"), (1, u "END_PUNCTUATION"), (1, u "CONNECTOR_PUNCTUATION"), (1, u "OTHER_PUNCTUATION"), (1, u "MATH_SYMBOL"), (1, u "CURRENCY_SYMBOL"), (1, u "MODIFIER_SYMBOL"), (1, u "OTHER_SYMBOL"), (1, u "INITIAL_QUOTE_PUNCTUATION"), (1, u "FINAL_QUOTE_PUNCTUATION"), (1, u "ERROR"), (1, u "DIRECTIONALITY_UNDEFINED"), (0, u "DIRECTIONALITY_LEFT_TO_RIGHT"), (0, u "DIRECTIONALITY_RIGHT_TO_LEFT"), (0, u "DIRECTIONALITY_RIGHT_TO_LEFT_ARABIC"), (0, u "DIRECTIONALITY_EUROPEAN_NUMBER"), (0, u "DIRECTIONALITY_EUROPEAN_NUMBER_SEPARATOR"), (0, u "DIRECTIONALITY_EUROPEAN_NUMBER_TERMINATOR"), (0, u "DIRECTIONALITY_ARABIC_NUMBER"), (0, u "DIRECTIONALITY_COMMON_NUMBER_SEPARATOR"), (0, u "DIRECTIONALITY_NONSPACING_MARK"), (0, u "DIRECTIONALITY_BOUNDARY_NEUTRAL"), (0, u "DIRECTIONALITY_PARAGRAPH_SEPARATOR"), (0, u "DIRECTIONALITY_SEGMENT_SEPARATOR"), (0, u "DIRECTIONALITY_WHITESPACE"), (0, u "DIRECTIONALITY_OTHER_NEUTRALS"), (0, u "DIRECTIONALITY_LEFT_TO_RIGHT_EMBEDDING"), (0, u "DIRECTIONALITY_LEFT_TO_RIGHT_OVERRIDE"), (0, u "DIRECTIONALITY_RIGHT_TO_LEFT_EMBEDDING"), (0, u "DIRECTIONALITY_RIGHT_TO_LEFT_OVERRIDE"), (1, u "DIRECTIONALITY_POP_DIRECTIONAL_FORMAT"), (0, u "DIRECTIONALITY_LEFT_TO_RIGHT_ISOLATE"), (0, u "DIRECTIONALITY_RIGHT_TO_LEFT_ISOLATE"), (0, u "DIRECTIONALITY_FIRST_STRONG_ISOLATE"), (0, u "DIRECTIONALITY_POP_DIRECTIONAL_ISOLATE"), (0, u "MIN_HIGH_SURROGATE"), (0, u "MAX_HIGH_SURROGATE"), (1, u "MIN_LOW_SURROGATE"), (0, u "MAX_LOW_SURROGATE"), (1, u "MIN_SURROGATE"), (0, u "MAX_SURROGATE"), (0, u "MIN_SUPPLEMENTARY_CODE_POINT"), (0, u "MIN_CODE_POINT"), (0, u "MAX_CODE_POINT"), (1, u "serialVersionUID"), (0, u "J"), (2, u "SIZE"), (0, u "BYTES"), (29, u "charCount"), (58, .class_ 596), (0, u "java/lang/Character$UnicodeScript"), (0, .class_ 598), (0, u "java/lang/Character$Subset")] 5

def k11c0 : Code := { maxStack := 2, maxLocals := 1, code := jdk_89_method_14_code, exceptionTable := #[], attributes := #[] }
def k11m0 : Method := { name := "isHighSurrogate", desc := "(C)Z", sig := { parameters := [.char], returnType := some .boolean }, accessFlags := 9, code := some k11c0 }
def k11c1 : Code := { maxStack := 2, maxLocals := 1, code := jdk_89_method_15_code, exceptionTable := #[], attributes := #[] }
def k11m1 : Method := { name := "isLowSurrogate", desc := "(C)Z", sig := { parameters := [.char], returnType := some .boolean }, accessFlags := 9, code := some k11c1 }
def k11c2 : Code := { maxStack := 2, maxLocals := 1, code := jdk_89_method_18_code, exceptionTable := #[], attributes := #[] }
def k11m2 : Method := { name := "charCount", desc := "(I)I", sig := { parameters := [.int], returnType := some .int }, accessFlags := 9, code := some k11c2 }
def k11c3 : Code := { maxStack := 2, maxLocals := 2, code := jdk_89_method_19_code, exceptionTable := #[], attributes := #[] }
def k11m3 : Method := { name := "toCodePoint", desc := "(CC)I", sig := { parameters := [.char, .char], returnType := some .int }, accessFlags := 9, code := some k11c3 }
/-- java/lang/Character -/
def k11 : Class := { plain "java/lang/Character" (some 0) with
  accessFlags := 49
  interfaces := #[2, 3, 5]
  cf := some (fileOf pool11 1 #[.nestMembers #[48, 595, 307, 597]] #[{ accessFlags := 9, nameIndex := 80, descriptorIndex := 81, attributes := #[] }, { accessFlags := 9, nameIndex := 84, descriptorIndex := 81, attributes := #[] }, { accessFlags := 9, nameIndex := 536, descriptorIndex := 174, attributes := #[] }, { accessFlags := 9, nameIndex := 98, descriptorIndex := 99, attributes := #[] }] 49 42 #[385, 387, 389] #[{ accessFlags := 25, nameIndex := 391, descriptorIndex := 392, attributes := #[] }, { accessFlags := 25, nameIndex := 395, descriptorIndex := 392, attributes := #[] }, { accessFlags := 25, nameIndex := 397, descriptorIndex := 22, attributes := #[] }, { accessFlags := 25, nameIndex := 399, descriptorIndex := 22, attributes := #[] }, { accessFlags := 25, nameIndex := 383, descriptorIndex := 384, attributes := #[] }, { accessFlags := 25, nameIndex := 403, descriptorIndex := 404, attributes := #[] }, { accessFlags := 25, nameIndex := 405, descriptorIndex := 404, attributes := #[] }, { accessFlags := 25, nameIndex := 407, descriptorIndex := 404, attributes := #[] }, { accessFlags := 25, nameIndex := 408, descriptorIndex := 404, attributes := #[] }, { accessFlags := 25, nameIndex := 410, descriptorIndex := 404, attributes := #[] }, { accessFlags := 25, nameIndex := 412, descriptorIndex := 404, attributes := #[] }, { accessFlags := 25, nameIndex := 414, descriptorIndex := 404, attributes := #[] }, { accessFlags := 25, nameIndex := 416, descriptorIndex := 404, attributes := #[] }, { accessFlags := 25, nameIndex := 418, descriptorIndex := 404, attributes := #[] }, { accessFlags := 25, nameIndex := 420, descriptorIndex := 404, attributes := #[] }, { accessFlags := 25, nameIndex := 422, descriptorIndex := 404, attributes := #[] }, { accessFlags := 25, nameIndex := 424, descriptorIndex := 404, attributes := #[] }, { accessFlags := 25, nameIndex := 426, descriptorIndex := 404, attributes := #[] }, { accessFlags := 25, nameIndex := 428, descriptorIndex := 404, attributes := #[] }, { accessFlags := 25, nameIndex := 430, descriptorIndex := 404, attributes := #[] }, { accessFlags := 25, nameIndex := 432, descriptorIndex := 404, attributes := #[] }, { accessFlags := 25, nameIndex := 434, descriptorIndex := 404, attributes := #[] }, { accessFlags := 25, nameIndex := 436, descriptorIndex := 404, attributes := #[] }, { accessFlags := 25, nameIndex := 438, descriptorIndex := 404, attributes := #[] }, { accessFlags := 25, nameIndex := 440, descriptorIndex := 404, attributes := #[] }, { accessFlags := 25, nameIndex := 442, descriptorIndex := 404, attributes := #[] }, { accessFlags := 25, nameIndex := 444, descriptorIndex := 404, attributes := #[] }, { accessFlags := 25, nameIndex := 446, descriptorIndex := 404, attributes := #[] }, { accessFlags := 25, nameIndex := 448, descriptorIndex := 404, attributes := #[] }, { accessFlags := 25, nameIndex := 450, descriptorIndex := 404, attributes := #[] }, { accessFlags := 25, nameIndex := 452, descriptorIndex := 404, attributes := #[] }, { accessFlags := 25, nameIndex := 454, descriptorIndex := 404, attributes := #[] }, { accessFlags := 25, nameIndex := 456, descriptorIndex := 404, attributes := #[] }, { accessFlags := 25, nameIndex := 458, descriptorIndex := 404, attributes := #[] }, { accessFlags := 25, nameIndex := 460, descriptorIndex := 404, attributes := #[] }, { accessFlags := 24, nameIndex := 462, descriptorIndex := 392, attributes := #[] }, { accessFlags := 25, nameIndex := 464, descriptorIndex := 404, attributes := #[] }, { accessFlags := 25, nameIndex := 465, descriptorIndex := 404, attributes := #[] }, { accessFlags := 25, nameIndex := 466, descriptorIndex := 404, attributes := #[] }, { accessFlags := 25, nameIndex := 467, descriptorIndex := 404, attributes := #[] }, { accessFlags := 25, nameIndex := 468, descriptorIndex := 404, attributes := #[] }, { accessFlags := 25, nameIndex := 469, descriptorIndex := 404, attributes := #[] }, { accessFlags := 25, nameIndex := 470, descriptorIndex := 404, attributes := #[] }, { accessFlags := 25, nameIndex := 471, descriptorIndex := 404, attributes := #[] }, { accessFlags := 25, nameIndex := 472, descriptorIndex := 404, attributes := #[] }, { accessFlags := 25, nameIndex := 473, descriptorIndex := 404, attributes := #[] }, { accessFlags := 25, nameIndex := 474, descriptorIndex := 404, attributes := #[] }, { accessFlags := 25, nameIndex := 475, descriptorIndex := 404, attributes := #[] }, { accessFlags := 25, nameIndex := 476, descriptorIndex := 404, attributes := #[] }, { accessFlags := 25, nameIndex := 477, descriptorIndex := 404, attributes := #[] }, { accessFlags := 25, nameIndex := 478, descriptorIndex := 404, attributes := #[] }, { accessFlags := 25, nameIndex := 479, descriptorIndex := 404, attributes := #[] }, { accessFlags := 25, nameIndex := 480, descriptorIndex := 404, attributes := #[] }, { accessFlags := 25, nameIndex := 481, descriptorIndex := 404, attributes := #[] }, { accessFlags := 25, nameIndex := 482, descriptorIndex := 404, attributes := #[] }, { accessFlags := 25, nameIndex := 484, descriptorIndex := 404, attributes := #[] }, { accessFlags := 25, nameIndex := 485, descriptorIndex := 404, attributes := #[] }, { accessFlags := 25, nameIndex := 486, descriptorIndex := 404, attributes := #[] }, { accessFlags := 25, nameIndex := 487, descriptorIndex := 404, attributes := #[] }, { accessFlags := 25, nameIndex := 488, descriptorIndex := 404, attributes := #[] }, { accessFlags := 25, nameIndex := 489, descriptorIndex := 22, attributes := #[] }, { accessFlags := 25, nameIndex := 490, descriptorIndex := 22, attributes := #[] }, { accessFlags := 25, nameIndex := 492, descriptorIndex := 22, attributes := #[] }, { accessFlags := 25, nameIndex := 493, descriptorIndex := 22, attributes := #[] }, { accessFlags := 25, nameIndex := 495, descriptorIndex := 22, attributes := #[] }, { accessFlags := 25, nameIndex := 496, descriptorIndex := 22, attributes := #[] }, { accessFlags := 25, nameIndex := 497, descriptorIndex := 392, attributes := #[] }, { accessFlags := 25, nameIndex := 498, descriptorIndex := 392, attributes := #[] }, { accessFlags := 25, nameIndex := 499, descriptorIndex := 392, attributes := #[] }, { accessFlags := 18, nameIndex := 21, descriptorIndex := 22, attributes := #[] }, { accessFlags := 26, nameIndex := 501, descriptorIndex := 502, attributes := #[] }, { accessFlags := 25, nameIndex := 505, descriptorIndex := 392, attributes := #[] }, { accessFlags := 25, nameIndex := 506, descriptorIndex := 392, attributes := #[] }, { accessFlags := 4120, nameIndex := 284, descriptorIndex := 285, attributes := #[] }])
  fields := #[{ name := "MIN_RADIX", type := .int, accessFlags := 25, slot := 0, constantValue := 0 }, { name := "MAX_RADIX", type := .int, accessFlags := 25, slot := 1, constantValue := 0 }, { name := "MIN_VALUE", type := .char, accessFlags := 25, slot := 2, constantValue := 0 }, { name := "MAX_VALUE", type := .char, accessFlags := 25, slot := 3, constantValue := 0 }, { name := "TYPE", type := (.object "java/lang/Class"), accessFlags := 25, slot := 4, constantValue := 0 }, { name := "UNASSIGNED", type := .byte, accessFlags := 25, slot := 5, constantValue := 0 }, { name := "UPPERCASE_LETTER", type := .byte, accessFlags := 25, slot := 6, constantValue := 0 }, { name := "LOWERCASE_LETTER", type := .byte, accessFlags := 25, slot := 7, constantValue := 0 }, { name := "TITLECASE_LETTER", type := .byte, accessFlags := 25, slot := 8, constantValue := 0 }, { name := "MODIFIER_LETTER", type := .byte, accessFlags := 25, slot := 9, constantValue := 0 }, { name := "OTHER_LETTER", type := .byte, accessFlags := 25, slot := 10, constantValue := 0 }, { name := "NON_SPACING_MARK", type := .byte, accessFlags := 25, slot := 11, constantValue := 0 }, { name := "ENCLOSING_MARK", type := .byte, accessFlags := 25, slot := 12, constantValue := 0 }, { name := "COMBINING_SPACING_MARK", type := .byte, accessFlags := 25, slot := 13, constantValue := 0 }, { name := "DECIMAL_DIGIT_NUMBER", type := .byte, accessFlags := 25, slot := 14, constantValue := 0 }, { name := "LETTER_NUMBER", type := .byte, accessFlags := 25, slot := 15, constantValue := 0 }, { name := "OTHER_NUMBER", type := .byte, accessFlags := 25, slot := 16, constantValue := 0 }, { name := "SPACE_SEPARATOR", type := .byte, accessFlags := 25, slot := 17, constantValue := 0 }, { name := "LINE_SEPARATOR", type := .byte, accessFlags := 25, slot := 18, constantValue := 0 }, { name := "PARAGRAPH_SEPARATOR", type := .byte, accessFlags := 25, slot := 19, constantValue := 0 }, { name := "CONTROL", type := .byte, accessFlags := 25, slot := 20, constantValue := 0 }, { name := "FORMAT", type := .byte, accessFlags := 25, slot := 21, constantValue := 0 }, { name := "PRIVATE_USE", type := .byte, accessFlags := 25, slot := 22, constantValue := 0 }, { name := "SURROGATE", type := .byte, accessFlags := 25, slot := 23, constantValue := 0 }, { name := "DASH_PUNCTUATION", type := .byte, accessFlags := 25, slot := 24, constantValue := 0 }, { name := "START_PUNCTUATION", type := .byte, accessFlags := 25, slot := 25, constantValue := 0 }, { name := "END_PUNCTUATION", type := .byte, accessFlags := 25, slot := 26, constantValue := 0 }, { name := "CONNECTOR_PUNCTUATION", type := .byte, accessFlags := 25, slot := 27, constantValue := 0 }, { name := "OTHER_PUNCTUATION", type := .byte, accessFlags := 25, slot := 28, constantValue := 0 }, { name := "MATH_SYMBOL", type := .byte, accessFlags := 25, slot := 29, constantValue := 0 }, { name := "CURRENCY_SYMBOL", type := .byte, accessFlags := 25, slot := 30, constantValue := 0 }, { name := "MODIFIER_SYMBOL", type := .byte, accessFlags := 25, slot := 31, constantValue := 0 }, { name := "OTHER_SYMBOL", type := .byte, accessFlags := 25, slot := 32, constantValue := 0 }, { name := "INITIAL_QUOTE_PUNCTUATION", type := .byte, accessFlags := 25, slot := 33, constantValue := 0 }, { name := "FINAL_QUOTE_PUNCTUATION", type := .byte, accessFlags := 25, slot := 34, constantValue := 0 }, { name := "ERROR", type := .int, accessFlags := 24, slot := 35, constantValue := 0 }, { name := "DIRECTIONALITY_UNDEFINED", type := .byte, accessFlags := 25, slot := 36, constantValue := 0 }, { name := "DIRECTIONALITY_LEFT_TO_RIGHT", type := .byte, accessFlags := 25, slot := 37, constantValue := 0 }, { name := "DIRECTIONALITY_RIGHT_TO_LEFT", type := .byte, accessFlags := 25, slot := 38, constantValue := 0 }, { name := "DIRECTIONALITY_RIGHT_TO_LEFT_ARABIC", type := .byte, accessFlags := 25, slot := 39, constantValue := 0 }, { name := "DIRECTIONALITY_EUROPEAN_NUMBER", type := .byte, accessFlags := 25, slot := 40, constantValue := 0 }, { name := "DIRECTIONALITY_EUROPEAN_NUMBER_SEPARATOR", type := .byte, accessFlags := 25, slot := 41, constantValue := 0 }, { name := "DIRECTIONALITY_EUROPEAN_NUMBER_TERMINATOR", type := .byte, accessFlags := 25, slot := 42, constantValue := 0 }, { name := "DIRECTIONALITY_ARABIC_NUMBER", type := .byte, accessFlags := 25, slot := 43, constantValue := 0 }, { name := "DIRECTIONALITY_COMMON_NUMBER_SEPARATOR", type := .byte, accessFlags := 25, slot := 44, constantValue := 0 }, { name := "DIRECTIONALITY_NONSPACING_MARK", type := .byte, accessFlags := 25, slot := 45, constantValue := 0 }, { name := "DIRECTIONALITY_BOUNDARY_NEUTRAL", type := .byte, accessFlags := 25, slot := 46, constantValue := 0 }, { name := "DIRECTIONALITY_PARAGRAPH_SEPARATOR", type := .byte, accessFlags := 25, slot := 47, constantValue := 0 }, { name := "DIRECTIONALITY_SEGMENT_SEPARATOR", type := .byte, accessFlags := 25, slot := 48, constantValue := 0 }, { name := "DIRECTIONALITY_WHITESPACE", type := .byte, accessFlags := 25, slot := 49, constantValue := 0 }, { name := "DIRECTIONALITY_OTHER_NEUTRALS", type := .byte, accessFlags := 25, slot := 50, constantValue := 0 }, { name := "DIRECTIONALITY_LEFT_TO_RIGHT_EMBEDDING", type := .byte, accessFlags := 25, slot := 51, constantValue := 0 }, { name := "DIRECTIONALITY_LEFT_TO_RIGHT_OVERRIDE", type := .byte, accessFlags := 25, slot := 52, constantValue := 0 }, { name := "DIRECTIONALITY_RIGHT_TO_LEFT_EMBEDDING", type := .byte, accessFlags := 25, slot := 53, constantValue := 0 }, { name := "DIRECTIONALITY_RIGHT_TO_LEFT_OVERRIDE", type := .byte, accessFlags := 25, slot := 54, constantValue := 0 }, { name := "DIRECTIONALITY_POP_DIRECTIONAL_FORMAT", type := .byte, accessFlags := 25, slot := 55, constantValue := 0 }, { name := "DIRECTIONALITY_LEFT_TO_RIGHT_ISOLATE", type := .byte, accessFlags := 25, slot := 56, constantValue := 0 }, { name := "DIRECTIONALITY_RIGHT_TO_LEFT_ISOLATE", type := .byte, accessFlags := 25, slot := 57, constantValue := 0 }, { name := "DIRECTIONALITY_FIRST_STRONG_ISOLATE", type := .byte, accessFlags := 25, slot := 58, constantValue := 0 }, { name := "DIRECTIONALITY_POP_DIRECTIONAL_ISOLATE", type := .byte, accessFlags := 25, slot := 59, constantValue := 0 }, { name := "MIN_HIGH_SURROGATE", type := .char, accessFlags := 25, slot := 60, constantValue := 0 }, { name := "MAX_HIGH_SURROGATE", type := .char, accessFlags := 25, slot := 61, constantValue := 0 }, { name := "MIN_LOW_SURROGATE", type := .char, accessFlags := 25, slot := 62, constantValue := 0 }, { name := "MAX_LOW_SURROGATE", type := .char, accessFlags := 25, slot := 63, constantValue := 0 }, { name := "MIN_SURROGATE", type := .char, accessFlags := 25, slot := 64, constantValue := 0 }, { name := "MAX_SURROGATE", type := .char, accessFlags := 25, slot := 65, constantValue := 0 }, { name := "MIN_SUPPLEMENTARY_CODE_POINT", type := .int, accessFlags := 25, slot := 66, constantValue := 0 }, { name := "MIN_CODE_POINT", type := .int, accessFlags := 25, slot := 67, constantValue := 0 }, { name := "MAX_CODE_POINT", type := .int, accessFlags := 25, slot := 68, constantValue := 0 }, { name := "value", type := .char, accessFlags := 18, slot := 0, constantValue := 0 }, { name := "serialVersionUID", type := .long, accessFlags := 26, slot := 69, constantValue := 0 }, { name := "SIZE", type := .int, accessFlags := 25, slot := 70, constantValue := 0 }, { name := "BYTES", type := .int, accessFlags := 25, slot := 71, constantValue := 0 }, { name := "$assertionsDisabled", type := .boolean, accessFlags := 4120, slot := 72, constantValue := 0 }]
  methods := #[k11m0, k11m1, k11m2, k11m3]
  instanceTypes := #[.char]
  staticTypes := #[.int, .int, .char, .char, (.object "java/lang/Class"), .byte, .byte, .byte, .byte, .byte, .byte, .byte, .byte, .byte, .byte, .byte, .byte, .byte, .byte, .byte, .byte, .byte, .byte, .byte, .byte, .byte, .byte, .byte, .byte, .byte, .byte, .byte, .byte, .byte, .byte, .int, .byte, .byte, .byte, .byte, .byte, .byte, .byte, .byte, .byte, .byte, .byte, .byte, .byte, .byte, .byte, .byte, .byte, .byte, .byte, .byte, .byte, .byte, .byte, .byte, .char, .char, .char, .char, .char, .char, .int, .int, .int, .long, .int, .int, .boolean]
  resolved := Array.replicate 604 none
  statics := none }

def pool12 : Array CpInfo := pool [(4, .class_ 6), (1, u "java/lang/Object"), (0, u "<init>"), (0, u "()V"), (5, .class_ 16), (1, u "java/lang/StringLatin1"), (104, u "$assertionsDisabled"), (0, u "Z"), (98, .class_ 223), (1, u "java/lang/StringLatin1$LinesSpliterator"), (166, .class_ 391), (0, u "java/lang/StringLatin1$CharsSpliterator")] 3

def k12m0 : Method := { name := "<init>", desc := "()V", sig := { parameters := [], returnType := none }, accessFlags := 0, code := none }
/-- java/lang/StringLatin1 -/
def k12 : Class := { plain "java/lang/StringLatin1" (some 0) with
  accessFlags := 48
  interfaces := #[]
  cf := some (fileOf pool12 14 #[.nestMembers #[390, 221]] #[{ accessFlags := 0, nameIndex := 7, descriptorIndex := 8, attributes := #[] }] 48 4 #[] #[{ accessFlags := 4120, nameIndex := 121, descriptorIndex := 122, attributes := #[] }])
  fields := #[{ name := "$assertionsDisabled", type := .boolean, accessFlags := 4120, slot := 0, constantValue := 0 }]
  methods := #[k12m0]
  instanceTypes := #[]
  staticTypes := #[.boolean]
  resolved := Array.replicate 395 none
  statics := none }

def pool13 : Array CpInfo := pool [(9, u "<init>"), (6, .class_ 18), (1, u "java/lang/Object"), (0, u "()V"), (1, .class_ 23), (1, u "jdk/internal/util/ArraysSupport"), (0, u "LOG2_ARRAY_LONG_INDEX_SCALE"), (0, u "I"), (2, u "U"), (0, u "Ljdk/internal/misc/Unsafe;"), (8, u "BIG_ENDIAN"), (0, u "Z"), (8, u "LOG2_BYTE_BIT_SIZE"), (4, u "LOG2_ARRAY_INT_INDEX_SCALE"), (54, u "JLA"), (0, u "Ljdk/internal/access/JavaLangAccess;"), (11, u "LOG2_ARRAY_BOOLEAN_INDEX_SCALE"), (9, u "LOG2_ARRAY_BYTE_INDEX_SCALE"), (5, u "LOG2_ARRAY_CHAR_INDEX_SCALE"), (5, u "LOG2_ARRAY_SHORT_INDEX_SCALE"), (18, u "LOG2_ARRAY_FLOAT_INDEX_SCALE"), (24, u "LOG2_ARRAY_DOUBLE_INDEX_SCALE"), (89, u "T_BOOLEAN"), (2, u "T_CHAR"), (1, u "T_FLOAT"), (1, u "T_DOUBLE"), (1, u "T_BYTE"), (1, u "T_SHORT"), (1, u "T_INT"), (1, u "T_LONG"), (1, u "SOFT_MAX_ARRAY_LENGTH")] 83

def k13m0 : Method := { name := "<init>", desc := "()V", sig := { parameters := [], returnType := none }, accessFlags := 2, code := none }
/-- jdk/internal/util/ArraysSupport -/
def k13 : Class := { plain "jdk/internal/util/ArraysSupport" (some 0) with
  accessFlags := 33
  interfaces := #[]
  cf := some (fileOf pool13 21 #[] #[{ accessFlags := 2, nameIndex := 9, descriptorIndex := 19, attributes := #[] }] 33 16 #[] #[{ accessFlags := 24, nameIndex := 28, descriptorIndex := 29, attributes := #[] }, { accessFlags := 26, nameIndex := 38, descriptorIndex := 39, attributes := #[] }, { accessFlags := 25, nameIndex := 121, descriptorIndex := 25, attributes := #[] }, { accessFlags := 25, nameIndex := 131, descriptorIndex := 25, attributes := #[] }, { accessFlags := 25, nameIndex := 137, descriptorIndex := 25, attributes := #[] }, { accessFlags := 25, nameIndex := 143, descriptorIndex := 25, attributes := #[] }, { accessFlags := 25, nameIndex := 53, descriptorIndex := 25, attributes := #[] }, { accessFlags := 25, nameIndex := 24, descriptorIndex := 25, attributes := #[] }, { accessFlags := 25, nameIndex := 162, descriptorIndex := 25, attributes := #[] }, { accessFlags := 25, nameIndex := 187, descriptorIndex := 25, attributes := #[] }, { accessFlags := 26, nameIndex := 48, descriptorIndex := 25, attributes := #[] }, { accessFlags := 25, nameIndex := 277, descriptorIndex := 25, attributes := #[] }, { accessFlags := 25, nameIndex := 280, descriptorIndex := 25, attributes := #[] }, { accessFlags := 25, nameIndex := 282, descriptorIndex := 25, attributes := #[] }, { accessFlags := 25, nameIndex := 284, descriptorIndex := 25, attributes := #[] }, { accessFlags := 25, nameIndex := 286, descriptorIndex := 25, attributes := #[] }, { accessFlags := 25, nameIndex := 288, descriptorIndex := 25, attributes := #[] }, { accessFlags := 25, nameIndex := 290, descriptorIndex := 25, attributes := #[] }, { accessFlags := 25, nameIndex := 292, descriptorIndex := 25, attributes := #[] }, { accessFlags := 26, nameIndex := 108, descriptorIndex := 109, attributes := #[] }, { accessFlags := 25, nameIndex := 294, descriptorIndex := 25, attributes := #[] }])
  fields := #[{ name := "U", type := (.object "jdk/internal/misc/Unsafe"), accessFlags := 24, slot := 0, constantValue := 0 }, { name := "BIG_ENDIAN", type := .boolean, accessFlags := 26, slot := 1, constantValue := 0 }, { name := "LOG2_ARRAY_BOOLEAN_INDEX_SCALE", type := .int, accessFlags := 25, slot := 2, constantValue := 0 }, { name := "LOG2_ARRAY_BYTE_INDEX_SCALE", type := .int, accessFlags := 25, slot := 3, constantValue := 0 }, { name := "LOG2_ARRAY_CHAR_INDEX_SCALE", type := .int, accessFlags := 25, slot := 4, constantValue := 0 }, { name := "LOG2_ARRAY_SHORT_INDEX_SCALE", type := .int, accessFlags := 25, slot := 5, constantValue := 0 }, { name := "LOG2_ARRAY_INT_INDEX_SCALE", type := .int, accessFlags := 25, slot := 6, constantValue := 0 }, { name := "LOG2_ARRAY_LONG_INDEX_SCALE", type := .int, accessFlags := 25, slot := 7, constantValue := 0 }, { name := "LOG2_ARRAY_FLOAT_INDEX_SCALE", type := .int, accessFlags := 25, slot := 8, constantValue := 0 }, { name := "LOG2_ARRAY_DOUBLE_INDEX_SCALE", type := .int, accessFlags := 25, slot := 9, constantValue := 0 }, { name := "LOG2_BYTE_BIT_SIZE", type := .int, accessFlags := 26, slot := 10, constantValue := 0 }, { name := "T_BOOLEAN", type := .int, accessFlags := 25, slot := 11, constantValue := 0 }, { name := "T_CHAR", type := .int, accessFlags := 25, slot := 12, constantValue := 0 }, { name := "T_FLOAT", type := .int, accessFlags := 25, slot := 13, constantValue := 0 }, { name := "T_DOUBLE", type := .int, accessFlags := 25, slot := 14, constantValue := 0 }, { name := "T_BYTE", type := .int, accessFlags := 25, slot := 15, constantValue := 0 }, { name := "T_SHORT", type := .int, accessFlags := 25, slot := 16, constantValue := 0 }, { name := "T_INT", type := .int, accessFlags := 25, slot := 17, constantValue := 0 }, { name := "T_LONG", type := .int, accessFlags := 25, slot := 18, constantValue := 0 }, { name := "JLA", type := (.object "jdk/internal/access/JavaLangAccess"), accessFlags := 26, slot := 19, constantValue := 0 }, { name := "SOFT_MAX_ARRAY_LENGTH", type := .int, accessFlags := 25, slot := 20, constantValue := 0 }]
  methods := #[k13m0]
  instanceTypes := #[]
  staticTypes := #[(.object "jdk/internal/misc/Unsafe"), .boolean, .int, .int, .int, .int, .int, .int, .int, .int, .int, .int, .int, .int, .int, .int, .int, .int, .int, (.object "jdk/internal/access/JavaLangAccess"), .int]
  resolved := Array.replicate 378 none
  statics := none }

def pool14 : Array CpInfo := pool [(1, u "java/lang/Cloneable"), (0, .class_ 1), (0, u "java/lang/Object"), (0, .class_ 3)] 3

/-- java/lang/Cloneable -/
def k14 : Class := { plain "java/lang/Cloneable" (some 0) with
  accessFlags := 1537
  interfaces := #[]
  cf := some (fileOf pool14 2 #[] #[] 1537 4 #[] #[])
  fields := #[]
  methods := #[]
  instanceTypes := #[]
  staticTypes := #[]
  resolved := Array.replicate 8 none
  statics := none }

/-- the primitive byte -/
def k15 : Class := { plain "byte" none with kind := .primitive 'B', accessFlags := 0x411 }
/-- [B -/
def k16 : Class := { plain "[B" (some 0) with kind := .array 15 .byte, interfaces := #[14, 2], accessFlags := 1041 }

/-- the primitive char -/
def k17 : Class := { plain "char" none with kind := .primitive 'C', accessFlags := 0x411 }
/-- [C -/
def k18 : Class := { plain "[C" (some 0) with kind := .array 17 .char, interfaces := #[14, 2], accessFlags := 1041 }

/-- the primitive int -/
def k19 : Class := { plain "int" none with kind := .primitive 'I', accessFlags := 0x411 }
/-- [I -/
def k20 : Class := { plain "[I" (some 0) with kind := .array 19 .int, interfaces := #[14, 2], accessFlags := 1041 }

def heap : Heap := #[{ cls := 7, slots := #[.long 0, .int 1, .null, .int 0, .null, .int 0, .int 0], vm := .statics 7 },
  { cls := 9, slots := #[.int 0, .int 8, .int 0, .int 1], vm := .statics 9 },
  { cls := 10, slots := #[.null, .null, .null], vm := .statics 10 }]
def classes : Array Class := #[k0, k1, k2, k3, k4, k5, k6, k7, k8, k9, k10, k11, k12, k13, k14, k15, k16, k17, k18, k19, k20]
def interned : List (Array UInt16 × Addr) := []
def slotsUsed : Nat := 14
def theMethod : MethodId := ⟨1, 1⟩
def args0 : Array Value := #[.int 5, .int 5, .int 5, .int 5]
def aboutOver (below : List Frame) : State where
  vm := { classes := classes, interned := interned.toArray }
  heap := heap
  slotsUsed := slotsUsed
  threads := #[{ frames := .invoking theMethod args0 :: below }]
def below0 : List Frame := [.native { method := ⟨0, 0⟩, args := #[] }]
def about1 : State := aboutOver below0
def p0 : Program := .bare "" "" ""
def e0 : Env := launch0.env 0 0 0
theorem w_frames : about1.frames = Frame.invoking theMethod args0 :: below0 := rfl
set_option maxRecDepth 65536 in
theorem w_args : argsFit about1.vm theMethod args0 = true := by decide +kernel
set_option maxRecDepth 65536 in
theorem w_heap : heapFits about1 = true := by decide +kernel
set_option maxRecDepth 65536 in
theorem w_runnable : about1.curStatus? = some .runnable := by decide +kernel
set_option maxRecDepth 65536 in
theorem w_alone : about1.alone = true := by decide +kernel
set_option maxRecDepth 65536 in
theorem w_named : about1.methodNamed? x = some theMethod := by decide +kernel
set_option maxRecDepth 65536 in
theorem w_hears : about1.hears theMethod below0 = true := by decide +kernel
set_option maxRecDepth 65536 in
theorem w_ripe : about1.ripe theMethod args0 below0 = true := by decide +kernel
theorem w_running : about1.status = .running := rfl
set_option maxRecDepth 65536 in
theorem w_room : about1.hasRoom e0.platform room_1 = true :=
  launch0.hasRoom_least _ room_1 (by decide +kernel) (by decide +kernel) (by decide +kernel) (by decide +kernel) (by decide +kernel) (by decide +kernel)
theorem allAtoms_all (ts : List Jvm.Cond) (a : Array Jvm.Value) (st : Jvm.State) : (allAtoms ts).before a st = ts.all (fun c => c.before a st) := by
  induction ts with
  | nil => rfl
  | cons c t ih =>
    show (Jvm.Cond.and c (allAtoms t)).before a st = _
    rw [Jvm.Cond.before_and, ih, List.all_cons]
def words1 : List Jvm.Cond := Jvm.Cond.code x code maxLocals ret :: tables_1
/-- a 'code' word, met by the world's own term for the bytes: nothing is compared byte by byte -/
theorem code_word {y : MethodName} {bytes : ByteArray} {mx : Nat} {rt : Option FieldType} {a : Array Value} {s : State} {m : MethodId} {meth : Method} {c : Code} (h1 : s.methodNamed? y = some m) (h2 : s.vm.method? m = some meth) (h3 : meth.code = some c) (h4 : c.code = bytes)
    (h5 : (c.maxLocals == mx && c.exceptionTable.isEmpty && decide (c.maxStack ≤ mostOperands) && decide (meth.sig.returnType = rt) && !meth.locks && decide (parseMethodDescriptor y.desc = some meth.sig)) = true) : (Jvm.Cond.code y bytes mx rt).before a s = true := by
  simp only [Bool.and_eq_true, beq_iff_eq, Bool.not_eq_true', decide_eq_true_eq] at h5
  obtain ⟨⟨⟨⟨⟨g1, g2⟩, g3⟩, g4⟩, g5⟩, g6⟩ := h5
  simp [Cond.before, Cond.holds, Cond.value, h1, h2, h3, h4, g1, g2, g3, g4, g5, g6]
def isCode : Jvm.Cond → Bool
  | .code _ _ _ _ => true
  | _ => false
theorem all_split {L : List Jvm.Cond} {P : Jvm.Cond → Bool} (h1 : L.all (fun c => isCode c || P c) = true) (h2 : ∀ c ∈ L.filter isCode, P c = true) : L.all P = true := by
  refine List.all_eq_true.mpr fun c hc => ?_
  have h := List.all_eq_true.mp h1 c hc
  rcases Bool.eq_false_or_eq_true (isCode c) with hi | hi
  · exact h2 c (List.mem_filter.mpr ⟨hc, hi⟩)
  · simpa [hi] using h
set_option maxRecDepth 65536 in
theorem w_c0 : (Jvm.Cond.code x code maxLocals ret).before args0 about1 = true := code_word (m := ⟨1, 1⟩) (meth := k1m1) (c := k1c1) (by decide +kernel) rfl rfl rfl (by decide +kernel)
set_option maxRecDepth 65536 in
theorem w_c1 : (Jvm.Cond.code ({ cls := "com/example/ledgerpost/ledgerpost/StorableTextRequirePinLaw", name := "make", desc := "([CI)Ljava/lang/String;" } : Jvm.MethodName) method_4_code (2 : Nat) (Option.some (Jvm.ClassFile.FieldType.object "java/lang/String"))).before args0 about1 = true := code_word (m := ⟨1, 3⟩) (meth := k1m3) (c := k1c3) (by decide +kernel) rfl rfl rfl (by decide +kernel)
set_option maxRecDepth 65536 in
theorem w_c2 : (Jvm.Cond.code ({ cls := "java/lang/String", name := "<init>", desc := "([C)V" } : Jvm.MethodName) jdk_42_method_3_code (2 : Nat) (Option.none : Option Jvm.ClassFile.FieldType)).before args0 about1 = true := code_word (m := ⟨7, 1⟩) (meth := k7m1) (c := k7c1) (by decide +kernel) rfl rfl rfl (by decide +kernel)
set_option maxRecDepth 65536 in
theorem w_c3 : (Jvm.Cond.code ({ cls := "java/lang/String", name := "<init>", desc := "([CIILjava/lang/Void;)V" } : Jvm.MethodName) jdk_42_method_149_code (6 : Nat) (Option.none : Option Jvm.ClassFile.FieldType)).before args0 about1 = true := code_word (m := ⟨7, 4⟩) (meth := k7m4) (c := k7c4) (by decide +kernel) rfl rfl rfl (by decide +kernel)
set_option maxRecDepth 65536 in
theorem w_c4 : (Jvm.Cond.code ({ cls := "java/lang/Object", name := "<init>", desc := "()V" } : Jvm.MethodName) object_method_1_code (1 : Nat) (Option.none : Option Jvm.ClassFile.FieldType)).before args0 about1 = true := code_word (m := ⟨0, 0⟩) (meth := k0m0) (c := k0c0) (by decide +kernel) rfl rfl rfl (by decide +kernel)
set_option maxRecDepth 65536 in
theorem w_c5 : (Jvm.Cond.code ({ cls := "com/example/ledgerpost/ledgerpost/StorableText", name := "require", desc := "(Ljava/lang/String;Ljava/lang/String;)Ljava/lang/String;" } : Jvm.MethodName) prog_25_method_2_code (4 : Nat) (Option.some (Jvm.ClassFile.FieldType.object "java/lang/String"))).before args0 about1 = true := code_word (m := ⟨8, 1⟩) (meth := k8m1) (c := k8c1) (by decide +kernel) rfl rfl rfl (by decide +kernel)
set_option maxRecDepth 65536 in
theorem w_c6 : (Jvm.Cond.code ({ cls := "java/lang/String", name := "length", desc := "()I" } : Jvm.MethodName) jdk_42_method_54_code (1 : Nat) (Option.some Jvm.ClassFile.FieldType.int)).before args0 about1 = true := code_word (m := ⟨7, 2⟩) (meth := k7m2) (c := k7c2) (by decide +kernel) rfl rfl rfl (by decide +kernel)
set_option maxRecDepth 65536 in
theorem w_c7 : (Jvm.Cond.code ({ cls := "java/lang/String", name := "coder", desc := "()B" } : Jvm.MethodName) jdk_42_method_152_code (1 : Nat) (Option.some Jvm.ClassFile.FieldType.byte)).before args0 about1 = true := code_word (m := ⟨7, 5⟩) (meth := k7m5) (c := k7c5) (by decide +kernel) rfl rfl rfl (by decide +kernel)
set_option maxRecDepth 65536 in
theorem w_c8 : (Jvm.Cond.code ({ cls := "com/example/ledgerpost/ledgerpost/StorableTextRequirePinLaw", name := "put", desc := "([CII)I" } : Jvm.MethodName) method_3_code (4 : Nat) (Option.some Jvm.ClassFile.FieldType.int)).before args0 about1 = true := code_word (m := ⟨1, 2⟩) (meth := k1m2) (c := k1c2) (by decide +kernel) rfl rfl rfl (by decide +kernel)
set_option maxRecDepth 65536 in
theorem w_c9 : (Jvm.Cond.code ({ cls := "java/lang/StringUTF16", name := "compress", desc := "([CII)[B" } : Jvm.MethodName) jdk_52_method_16_code (6 : Nat) (Option.some (Jvm.ClassFile.FieldType.array Jvm.ClassFile.FieldType.byte))).before args0 about1 = true := code_word (m := ⟨9, 9⟩) (meth := k9m9) (c := k9c9) (by decide +kernel) rfl rfl rfl (by decide +kernel)
set_option maxRecDepth 65536 in
theorem w_c10 : (Jvm.Cond.code ({ cls := "java/lang/StringUTF16", name := "compress", desc := "([CI[BII)I" } : Jvm.MethodName) jdk_52_method_21_code (7 : Nat) (Option.some Jvm.ClassFile.FieldType.int)).before args0 about1 = true := code_word (m := ⟨9, 10⟩) (meth := k9m10) (c := k9c10) (by decide +kernel) rfl rfl rfl (by decide +kernel)
set_option maxRecDepth 65536 in
theorem w_c11 : (Jvm.Cond.code ({ cls := "java/lang/StringUTF16", name := "toBytes", desc := "([CII)[B" } : Jvm.MethodName) jdk_52_method_14_code (5 : Nat) (Option.some (Jvm.ClassFile.FieldType.array Jvm.ClassFile.FieldType.byte))).before args0 about1 = true := code_word (m := ⟨9, 7⟩) (meth := k9m7) (c := k9c7) (by decide +kernel) rfl rfl rfl (by decide +kernel)
set_option maxRecDepth 65536 in
theorem w_c12 : (Jvm.Cond.code ({ cls := "java/lang/StringUTF16", name := "newBytesFor", desc := "(I)[B" } : Jvm.MethodName) jdk_52_method_2_code (1 : Nat) (Option.some (Jvm.ClassFile.FieldType.array Jvm.ClassFile.FieldType.byte))).before args0 about1 = true := code_word (m := ⟨9, 1⟩) (meth := k9m1) (c := k9c1) (by decide +kernel) rfl rfl rfl (by decide +kernel)
set_option maxRecDepth 65536 in
theorem w_c13 : (Jvm.Cond.code ({ cls := "java/lang/StringUTF16", name := "newBytesLength", desc := "(I)I" } : Jvm.MethodName) jdk_52_method_3_code (1 : Nat) (Option.some Jvm.ClassFile.FieldType.int)).before args0 about1 = true := code_word (m := ⟨9, 2⟩) (meth := k9m2) (c := k9c2) (by decide +kernel) rfl rfl rfl (by decide +kernel)
set_option maxRecDepth 65536 in
theorem w_c14 : (Jvm.Cond.code ({ cls := "java/lang/StringUTF16", name := "putChar", desc := "([BII)V" } : Jvm.MethodName) jdk_52_method_4_code (3 : Nat) (Option.none : Option Jvm.ClassFile.FieldType)).before args0 about1 = true := code_word (m := ⟨9, 3⟩) (meth := k9m3) (c := k9c3) (by decide +kernel) rfl rfl rfl (by decide +kernel)
set_option maxRecDepth 65536 in
theorem w_c15 : (Jvm.Cond.code ({ cls := "java/lang/StringUTF16", name := "getChar", desc := "([BI)C" } : Jvm.MethodName) jdk_52_method_5_code (2 : Nat) (Option.some Jvm.ClassFile.FieldType.char)).before args0 about1 = true := code_word (m := ⟨9, 4⟩) (meth := k9m4) (c := k9c4) (by decide +kernel) rfl rfl rfl (by decide +kernel)
set_option maxRecDepth 65536 in
theorem w_c16 : (Jvm.Cond.code ({ cls := "java/lang/StringUTF16", name := "coderFromArrayLen", desc := "([BI)B" } : Jvm.MethodName) jdk_52_method_15_code (2 : Nat) (Option.some Jvm.ClassFile.FieldType.byte)).before args0 about1 = true := code_word (m := ⟨9, 8⟩) (meth := k9m8) (c := k9c8) (by decide +kernel) rfl rfl rfl (by decide +kernel)
set_option maxRecDepth 65536 in
theorem w_c17 : (Jvm.Cond.code ({ cls := "java/lang/String", name := "codePointAt", desc := "(I)I" } : Jvm.MethodName) jdk_42_method_57_code (3 : Nat) (Option.some Jvm.ClassFile.FieldType.int)).before args0 about1 = true := code_word (m := ⟨7, 3⟩) (meth := k7m3) (c := k7c3) (by decide +kernel) rfl rfl rfl (by decide +kernel)
set_option maxRecDepth 65536 in
theorem w_c18 : (Jvm.Cond.code ({ cls := "java/lang/String", name := "isLatin1", desc := "()Z" } : Jvm.MethodName) jdk_42_method_154_code (1 : Nat) (Option.some Jvm.ClassFile.FieldType.boolean)).before args0 about1 = true := code_word (m := ⟨7, 6⟩) (meth := k7m6) (c := k7c6) (by decide +kernel) rfl rfl rfl (by decide +kernel)
set_option maxRecDepth 65536 in
theorem w_c19 : (Jvm.Cond.code ({ cls := "java/lang/String", name := "checkIndex", desc := "(II)V" } : Jvm.MethodName) jdk_42_method_155_code (2 : Nat) (Option.none : Option Jvm.ClassFile.FieldType)).before args0 about1 = true := code_word (m := ⟨7, 7⟩) (meth := k7m7) (c := k7c7) (by decide +kernel) rfl rfl rfl (by decide +kernel)
set_option maxRecDepth 65536 in
theorem w_c20 : (Jvm.Cond.code ({ cls := "jdk/internal/util/Preconditions", name := "checkIndex", desc := "(IILjava/util/function/BiFunction;)I" } : Jvm.MethodName) jdk_41_method_11_code (3 : Nat) (Option.some Jvm.ClassFile.FieldType.int)).before args0 about1 = true := code_word (m := ⟨10, 1⟩) (meth := k10m1) (c := k10c1) (by decide +kernel) rfl rfl rfl (by decide +kernel)
set_option maxRecDepth 65536 in
theorem w_c21 : (Jvm.Cond.code ({ cls := "java/lang/StringUTF16", name := "codePointAt", desc := "([BII)I" } : Jvm.MethodName) jdk_52_method_8_code (3 : Nat) (Option.some Jvm.ClassFile.FieldType.int)).before args0 about1 = true := code_word (m := ⟨9, 6⟩) (meth := k9m6) (c := k9c6) (by decide +kernel) rfl rfl rfl (by decide +kernel)
set_option maxRecDepth 65536 in
theorem w_c22 : (Jvm.Cond.code ({ cls := "java/lang/StringUTF16", name := "codePointAt", desc := "([BIIZ)I" } : Jvm.MethodName) jdk_52_method_7_code (6 : Nat) (Option.some Jvm.ClassFile.FieldType.int)).before args0 about1 = true := code_word (m := ⟨9, 5⟩) (meth := k9m5) (c := k9c5) (by decide +kernel) rfl rfl rfl (by decide +kernel)
set_option maxRecDepth 65536 in
theorem w_c23 : (Jvm.Cond.code ({ cls := "java/lang/Character", name := "isHighSurrogate", desc := "(C)Z" } : Jvm.MethodName) jdk_89_method_14_code (1 : Nat) (Option.some Jvm.ClassFile.FieldType.boolean)).before args0 about1 = true := code_word (m := ⟨11, 0⟩) (meth := k11m0) (c := k11c0) (by decide +kernel) rfl rfl rfl (by decide +kernel)
set_option maxRecDepth 65536 in
theorem w_c24 : (Jvm.Cond.code ({ cls := "java/lang/Character", name := "charCount", desc := "(I)I" } : Jvm.MethodName) jdk_89_method_18_code (1 : Nat) (Option.some Jvm.ClassFile.FieldType.int)).before args0 about1 = true := code_word (m := ⟨11, 2⟩) (meth := k11m2) (c := k11c2) (by decide +kernel) rfl rfl rfl (by decide +kernel)
set_option maxRecDepth 65536 in
theorem w_c25 : (Jvm.Cond.code ({ cls := "java/lang/Character", name := "isLowSurrogate", desc := "(C)Z" } : Jvm.MethodName) jdk_89_method_15_code (1 : Nat) (Option.some Jvm.ClassFile.FieldType.boolean)).before args0 about1 = true := code_word (m := ⟨11, 1⟩) (meth := k11m1) (c := k11c1) (by decide +kernel) rfl rfl rfl (by decide +kernel)
set_option maxRecDepth 65536 in
theorem w_c26 : (Jvm.Cond.code ({ cls := "java/lang/Character", name := "toCodePoint", desc := "(CC)I" } : Jvm.MethodName) jdk_89_method_19_code (2 : Nat) (Option.some Jvm.ClassFile.FieldType.int)).before args0 about1 = true := code_word (m := ⟨11, 3⟩) (meth := k11m3) (c := k11c3) (by decide +kernel) rfl rfl rfl (by decide +kernel)
def codes1 : List Jvm.Cond := [Jvm.Cond.code x code maxLocals ret, Jvm.Cond.code ({ cls := "com/example/ledgerpost/ledgerpost/StorableTextRequirePinLaw", name := "make", desc := "([CI)Ljava/lang/String;" } : Jvm.MethodName) method_4_code (2 : Nat) (Option.some (Jvm.ClassFile.FieldType.object "java/lang/String")), Jvm.Cond.code ({ cls := "java/lang/String", name := "<init>", desc := "([C)V" } : Jvm.MethodName) jdk_42_method_3_code (2 : Nat) (Option.none : Option Jvm.ClassFile.FieldType), Jvm.Cond.code ({ cls := "java/lang/String", name := "<init>", desc := "([CIILjava/lang/Void;)V" } : Jvm.MethodName) jdk_42_method_149_code (6 : Nat) (Option.none : Option Jvm.ClassFile.FieldType), Jvm.Cond.code ({ cls := "java/lang/Object", name := "<init>", desc := "()V" } : Jvm.MethodName) object_method_1_code (1 : Nat) (Option.none : Option Jvm.ClassFile.FieldType), Jvm.Cond.code ({ cls := "com/example/ledgerpost/ledgerpost/StorableText", name := "require", desc := "(Ljava/lang/String;Ljava/lang/String;)Ljava/lang/String;" } : Jvm.MethodName) prog_25_method_2_code (4 : Nat) (Option.some (Jvm.ClassFile.FieldType.object "java/lang/String")), Jvm.Cond.code ({ cls := "java/lang/String", name := "length", desc := "()I" } : Jvm.MethodName) jdk_42_method_54_code (1 : Nat) (Option.some Jvm.ClassFile.FieldType.int), Jvm.Cond.code ({ cls := "java/lang/String", name := "coder", desc := "()B" } : Jvm.MethodName) jdk_42_method_152_code (1 : Nat) (Option.some Jvm.ClassFile.FieldType.byte), Jvm.Cond.code ({ cls := "com/example/ledgerpost/ledgerpost/StorableTextRequirePinLaw", name := "put", desc := "([CII)I" } : Jvm.MethodName) method_3_code (4 : Nat) (Option.some Jvm.ClassFile.FieldType.int), Jvm.Cond.code ({ cls := "java/lang/StringUTF16", name := "compress", desc := "([CII)[B" } : Jvm.MethodName) jdk_52_method_16_code (6 : Nat) (Option.some (Jvm.ClassFile.FieldType.array Jvm.ClassFile.FieldType.byte)), Jvm.Cond.code ({ cls := "java/lang/StringUTF16", name := "compress", desc := "([CI[BII)I" } : Jvm.MethodName) jdk_52_method_21_code (7 : Nat) (Option.some Jvm.ClassFile.FieldType.int), Jvm.Cond.code ({ cls := "java/lang/StringUTF16", name := "toBytes", desc := "([CII)[B" } : Jvm.MethodName) jdk_52_method_14_code (5 : Nat) (Option.some (Jvm.ClassFile.FieldType.array Jvm.ClassFile.FieldType.byte)), Jvm.Cond.code ({ cls := "java/lang/StringUTF16", name := "newBytesFor", desc := "(I)[B" } : Jvm.MethodName) jdk_52_method_2_code (1 : Nat) (Option.some (Jvm.ClassFile.FieldType.array Jvm.ClassFile.FieldType.byte)), Jvm.Cond.code ({ cls := "java/lang/StringUTF16", name := "newBytesLength", desc := "(I)I" } : Jvm.MethodName) jdk_52_method_3_code (1 : Nat) (Option.some Jvm.ClassFile.FieldType.int), Jvm.Cond.code ({ cls := "java/lang/StringUTF16", name := "putChar", desc := "([BII)V" } : Jvm.MethodName) jdk_52_method_4_code (3 : Nat) (Option.none : Option Jvm.ClassFile.FieldType), Jvm.Cond.code ({ cls := "java/lang/StringUTF16", name := "getChar", desc := "([BI)C" } : Jvm.MethodName) jdk_52_method_5_code (2 : Nat) (Option.some Jvm.ClassFile.FieldType.char), Jvm.Cond.code ({ cls := "java/lang/StringUTF16", name := "coderFromArrayLen", desc := "([BI)B" } : Jvm.MethodName) jdk_52_method_15_code (2 : Nat) (Option.some Jvm.ClassFile.FieldType.byte), Jvm.Cond.code ({ cls := "java/lang/String", name := "codePointAt", desc := "(I)I" } : Jvm.MethodName) jdk_42_method_57_code (3 : Nat) (Option.some Jvm.ClassFile.FieldType.int), Jvm.Cond.code ({ cls := "java/lang/String", name := "isLatin1", desc := "()Z" } : Jvm.MethodName) jdk_42_method_154_code (1 : Nat) (Option.some Jvm.ClassFile.FieldType.boolean), Jvm.Cond.code ({ cls := "java/lang/String", name := "checkIndex", desc := "(II)V" } : Jvm.MethodName) jdk_42_method_155_code (2 : Nat) (Option.none : Option Jvm.ClassFile.FieldType), Jvm.Cond.code ({ cls := "jdk/internal/util/Preconditions", name := "checkIndex", desc := "(IILjava/util/function/BiFunction;)I" } : Jvm.MethodName) jdk_41_method_11_code (3 : Nat) (Option.some Jvm.ClassFile.FieldType.int), Jvm.Cond.code ({ cls := "java/lang/StringUTF16", name := "codePointAt", desc := "([BII)I" } : Jvm.MethodName) jdk_52_method_8_code (3 : Nat) (Option.some Jvm.ClassFile.FieldType.int), Jvm.Cond.code ({ cls := "java/lang/StringUTF16", name := "codePointAt", desc := "([BIIZ)I" } : Jvm.MethodName) jdk_52_method_7_code (6 : Nat) (Option.some Jvm.ClassFile.FieldType.int), Jvm.Cond.code ({ cls := "java/lang/Character", name := "isHighSurrogate", desc := "(C)Z" } : Jvm.MethodName) jdk_89_method_14_code (1 : Nat) (Option.some Jvm.ClassFile.FieldType.boolean), Jvm.Cond.code ({ cls := "java/lang/Character", name := "charCount", desc := "(I)I" } : Jvm.MethodName) jdk_89_method_18_code (1 : Nat) (Option.some Jvm.ClassFile.FieldType.int), Jvm.Cond.code ({ cls := "java/lang/Character", name := "isLowSurrogate", desc := "(C)Z" } : Jvm.MethodName) jdk_89_method_15_code (1 : Nat) (Option.some Jvm.ClassFile.FieldType.boolean), Jvm.Cond.code ({ cls := "java/lang/Character", name := "toCodePoint", desc := "(CC)I" } : Jvm.MethodName) jdk_89_method_19_code (2 : Nat) (Option.some Jvm.ClassFile.FieldType.int)]
set_option maxRecDepth 65536 in
theorem codes_eq : words1.filter isCode = codes1 := rfl
theorem w_codes : ∀ c ∈ words1.filter isCode, c.before args0 about1 = true := by
  rw [codes_eq]
  intro c hc
  simp only [codes1, List.mem_cons, List.not_mem_nil, or_false] at hc
  rcases hc with rfl | rfl | rfl | rfl | rfl | rfl | rfl | rfl | rfl | rfl | rfl | rfl | rfl | rfl | rfl | rfl | rfl | rfl | rfl | rfl | rfl | rfl | rfl | rfl | rfl | rfl | rfl
  · exact w_c0
  · exact w_c1
  · exact w_c2
  · exact w_c3
  · exact w_c4
  · exact w_c5
  · exact w_c6
  · exact w_c7
  · exact w_c8
  · exact w_c9
  · exact w_c10
  · exact w_c11
  · exact w_c12
  · exact w_c13
  · exact w_c14
  · exact w_c15
  · exact w_c16
  · exact w_c17
  · exact w_c18
  · exact w_c19
  · exact w_c20
  · exact w_c21
  · exact w_c22
  · exact w_c23
  · exact w_c24
  · exact w_c25
  · exact w_c26
set_option maxRecDepth 65536 in
theorem w_t1 : (words1.take 24).all (fun c => isCode c || c.before args0 about1) = true := by decide +kernel
set_option maxRecDepth 65536 in
theorem w_t2 : ((words1.drop 24).take 24).all (fun c => isCode c || c.before args0 about1) = true := by decide +kernel
set_option maxRecDepth 65536 in
theorem w_t3 : (((words1.drop 24).drop 24).take 24).all (fun c => isCode c || c.before args0 about1) = true := by decide +kernel
set_option maxRecDepth 65536 in
theorem w_t4 : ((((words1.drop 24).drop 24).drop 24).take 24).all (fun c => isCode c || c.before args0 about1) = true := by decide +kernel
set_option maxRecDepth 65536 in
theorem w_t5 : (((((words1.drop 24).drop 24).drop 24).drop 24).take 24).all (fun c => isCode c || c.before args0 about1) = true := by decide +kernel
set_option maxRecDepth 65536 in
theorem w_t6 : (((((words1.drop 24).drop 24).drop 24).drop 24).drop 24).all (fun c => isCode c || c.before args0 about1) = true := by decide +kernel
theorem w_tables : (allAtoms (Jvm.Cond.code x code maxLocals ret :: tables_1)).before args0 about1 = true := by
  rw [allAtoms_all]
  show words1.all (fun c => c.before args0 about1) = true
  refine all_split ?_ w_codes
  rw [← List.take_append_drop 24 words1, List.all_append, w_t1, ← List.take_append_drop 24 (words1.drop 24), List.all_append, w_t2, ← List.take_append_drop 24 ((words1.drop 24).drop 24), List.all_append, w_t3, ← List.take_append_drop 24 (((words1.drop 24).drop 24).drop 24), List.all_append, w_t4, ← List.take_append_drop 24 ((((words1.drop 24).drop 24).drop 24).drop 24), List.all_append, w_t5, w_t6]
  rfl
set_option maxRecDepth 65536 in
theorem w_rest : rest_1_c.before args0 about1 = true := by decide +kernel
set_option maxRecDepth 65536 in
theorem w_case : (Jvm.Cond.and given_1 narrow_1).before args0 about1 = true := by decide +kernel
set_option maxRecDepth 65536 in
theorem w_consts : constsHeld consts_1 about1 := Jvm.Lit.constsHeldB_iff.mp (by decide +kernel)
theorem w_applies : (headSpec (Jvm.Cond.code x code maxLocals ret :: tables_1) room_1).applies x e0.platform about1 = true :=
  (Spec.applies_iff w_frames).mpr ⟨w_running, w_runnable, w_alone, w_named, w_hears, w_ripe, w_room, w_tables⟩
theorem atStart : AtStart classFile x code maxLocals ret World_1 tables_1 room_1 Calls_1 rest_1 Pre_1 launch0 p0 e0 about1 theMethod args0 below0 :=
  ⟨lists_1, trivial, launch0.admits_env _ _ _, launch0.least_env, fairChoices_fair.cas, fairChoices_fair.clock, w_frames, w_args, w_heap, w_applies, ⟨w_consts, trivial⟩, w_rest, w_case⟩
end start1
theorem witness_1 : WitnessClaimed_1 := ⟨start1.p0, start1.e0, start1.about1, start1.theMethod, start1.args0, start1.below0, start1.atStart⟩
end Jvm.Pilot.@@N@@
