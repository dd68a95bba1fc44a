import JvmDerived
import JvmDerived.Pilot.@@N@@Statement
import JvmDerived.Pilot.@@N@@Code
set_option linter.unusedVariables false
set_option linter.unusedSimpArgs false
namespace Jvm.Pilot.@@N@@
open Jvm Jvm.ClassFile Sem Op Lib Jvm.Free Jvm.Stand Jvm.LawKit Jvm.RoadKit Bundle Jvm.Pilot.@@N@@.Jvm.D
section Own
variable {p : Program} {l : Launch} {e : Env} {R : Room} {s : State} {m : MethodId} {args : Array Value} {below : List Frame} {meth : Method} {c : Code} {T : State} {locs : List Loc} {cells slots : Nat} {Q : Option Value → Heap → List Loc → Prop} {k n : Nat}
/-- from this state the body comes to an end that meets Φ -/
def own_Go (tb : Tables) (e : Env) (below : List Frame) (Φ : Outcome → State → Prop) (S : State) : Prop :=
  ∃ U o, Steps tb e below S U ∧ U.status = .running ∧ Ended U below o ∧ Φ o U
/-- it returned; what it leaves meets Q; nothing else moved -/
def own_F (s : State) (Q : Option Value → Heap → List Loc → Prop) (k n : Nat) (o : Outcome) (U : State) : Prop := ∃ v L, o = .returned v ∧ Q v U.heap L ∧ FrameEnd s o U L k n
theorem own_st {tb : Tables} {Φ : Outcome → State → Prop} {S S' : State} (h : ∀ t, Steps tb e below S' t → Steps tb e below S t) (g : own_Go tb e below Φ S') : own_Go tb e below Φ S := by
  obtain ⟨U, o, h1, r⟩ := g
  exact ⟨U, o, h _ h1, r⟩
theorem own_tr {tb : Tables} {Φ : Outcome → State → Prop} {S S' : State} (h : Steps tb e below S S') (g : own_Go tb e below Φ S') : own_Go tb e below Φ S := by
  obtain ⟨U, o, h1, r⟩ := g
  exact ⟨U, o, h.trans h1, r⟩
theorem own_end (X : Stand p l e R s m args below meth c T locs cells slots) (v : Option Value) (hv : meth.sig.returnType = none → v = none) (hlk : meth.locks = false) (hq : Q v T.heap locs) (hk : cells ≤ k) (hn : slots ≤ n) {S : State}
    (hs : ∀ fs, (∀ (f : JFrame) (acts : List Action), f.method = m → f.locked = none → f.entered = [] → (doReturn e (T.setTop f) acts v).1 = T.setFrames fs) → Steps p.tables e below S (T.setFrames fs)) : own_Go p.tables e below (own_F s Q k n) S := by
  obtain ⟨fs, hr, hrun, hended, hW, hsame⟩ := X.leave (v := v) hv hlk
  exact ⟨_, _, hs fs hr, hrun, hended, v, locs, rfl, hq, ⟨_, rfl⟩, hW, hsame.mono hk hn⟩
theorem own_retN (X : Stand p l e R s m args below meth c T locs cells slots) (hx : p.tables.exec = Jvm.exec) {pc : Nat} {Ls : Array Slot} {z : Int32} {t : FieldType} {rest : List Value} (hret : meth.sig.returnType = some t) (ht : t = .boolean ∨ t = .byte ∨ t = .char ∨ t = .short) (hlk : meth.locks = false)
    (hd : decode c.code pc = .ok (.ireturn, 1)) (hq : Q (some (.int (nar t z))) T.heap locs) (hk : cells ≤ k) (hn : slots ≤ n) : own_Go p.tables e below (own_F s Q k n) (T.setTop (mkF m pc Ls (.int z :: rest))) :=
  own_end X _ (fun h => by rw [hret] at h; cases h) hlk hq hk hn fun fs hr => retN X hx hret ht hd hr
theorem own_retI (X : Stand p l e R s m args below meth c T locs cells slots) (hx : p.tables.exec = Jvm.exec) {pc : Nat} {Ls : Array Slot} {z : Int32} {rest : List Value} (hret : meth.sig.returnType = some .int) (hlk : meth.locks = false)
    (hd : decode c.code pc = .ok (.ireturn, 1)) (hq : Q (some (.int z)) T.heap locs) (hk : cells ≤ k) (hn : slots ≤ n) : own_Go p.tables e below (own_F s Q k n) (T.setTop (mkF m pc Ls (.int z :: rest))) :=
  own_end X _ (fun h => by rw [hret] at h; cases h) hlk hq hk hn fun fs hr => retOut X hx hret rfl (Or.inl ⟨rfl, Or.inl rfl, z, rfl⟩) hd hr
theorem own_retL (X : Stand p l e R s m args below meth c T locs cells slots) (hx : p.tables.exec = Jvm.exec) {pc : Nat} {Ls : Array Slot} {z : Int64} {rest : List Value} (hret : meth.sig.returnType = some .long) (hlk : meth.locks = false)
    (hd : decode c.code pc = .ok (.lreturn, 1)) (hq : Q (some (.long z)) T.heap locs) (hk : cells ≤ k) (hn : slots ≤ n) : own_Go p.tables e below (own_F s Q k n) (T.setTop (mkF m pc Ls (.long z :: rest))) :=
  own_end X _ (fun h => by rw [hret] at h; cases h) hlk hq hk hn fun fs hr => retOut X hx hret rfl (Or.inr (Or.inl ⟨rfl, rfl, z, rfl⟩)) hd hr
theorem own_retA (X : Stand p l e R s m args below meth c T locs cells slots) (hx : p.tables.exec = Jvm.exec) {pc : Nat} {Ls : Array Slot} {w : Value} {t : FieldType} {rest : List Value} (hret : meth.sig.returnType = some t) (ht : t.isReference = true) (hw : w.isRef = true) (hnw : narrow t w = w) (hlk : meth.locks = false)
    (hd : decode c.code pc = .ok (.areturn, 1)) (hq : Q (some w) T.heap locs) (hk : cells ≤ k) (hn : slots ≤ n) : own_Go p.tables e below (own_F s Q k n) (T.setTop (mkF m pc Ls (w :: rest))) :=
  own_end X _ (fun h => by rw [hret] at h; cases h) hlk hq hk hn fun fs hr => retOut X hx hret hnw (Or.inr (Or.inr (Or.inr (Or.inr ⟨rfl, ht, hw⟩)))) hd hr
theorem own_retV (X : Stand p l e R s m args below meth c T locs cells slots) (hx : p.tables.exec = Jvm.exec) {pc : Nat} {Ls : Array Slot} (hret : meth.sig.returnType = none) (hlk : meth.locks = false)
    (hd : decode c.code pc = .ok (.return_, 1)) (hq : Q none T.heap locs) (hk : cells ≤ k) (hn : slots ≤ n) : own_Go p.tables e below (own_F s Q k n) (T.setTop (mkF m pc Ls [])) :=
  own_end X _ (fun _ => rfl) hlk hq hk hn fun fs hr => X.returnOut hx hret hd hr
theorem own_body {y : MethodName} {cd : ByteArray} {mx : Nat} {rt : Option FieldType} {ws : List Jvm.Cond} {rm : Room} {Z : State} {h0 : Heap} {as : Array Value} (hp : plainFor y = true)
    (go : ∀ (p : Program) (e : Env) (s : State) (m : MethodId) (below : List Frame) (meth : Method) (c : Code) (s₁ : State), p.tables.exec = Jvm.exec → c.code = cd → c.maxLocals = mx → s.vm.findClass y.cls = some m.cls → meth.name = y.name → meth.sig.returnType = rt → meth.locks = false → Z.Warmed39 s.vm →
      Stand p l e rm s m as below meth c s₁ [] 0 0 → s₁.heap = h0 → own_Go p.tables e below (own_F s Q rm.cells rm.slots) (s₁.setTop (entryFrame m as mx))) :
    MetFree l y (head1 (Jvm.Cond.code y cd mx rt :: ws) rm) (fun a U => a = as ∧ Z.Warmed39 U.vm ∧ U.heap = h0) (fun _ _ _ _ _ => True) (fun _ U o U' => ∃ v L, o = .returned v ∧ Q v U'.heap L ∧ FrameEnd U o U' L rm.cells rm.slots) := by
  refine MetFree.of_bodySF hp hisR ?_
  intro p e s m args below meth c s₁ Bd hml0 hP hK
  obtain ⟨rfl, hZ, hh⟩ := hP
  exact go p e s m below meth c s₁ Bd.exec Bd.bytes hml0 (findClass_of_methodNamed Bd.named) (name_of_methodNamed Bd.named Bd.method).1 Bd.returns Bd.notSynchronized hZ (Stand.of_body Bd) (by rw [← hh, Bd.state]; rfl)
end Own
theorem own_narb {P : Prop} [Decidable P] : nar .boolean (if P then (1 : Int32) else (0 : Int32)) = if P then (1 : Int32) else (0 : Int32) := by split <;> rfl
/-- an array by its length and what each place holds -/
def own_A (Z : State) (h : Heap) (a : Addr) (ty : FieldType) (n : Nat) (f : Nat → Value) : Prop := ∃ c : Cell, Arr Z h a c ty ∧ c.slots.size = n ∧ n < 2 ^ 31 ∧ ∀ j, j < n → c.slots[j]? = some (f j)
def own_up (f : Nat → Value) (i : Nat) (v : Value) : Nat → Value := fun j => if j = i then v else f j
def own_Ix (j : Int32) (i n : Nat) : Prop := ¬ j < 0 ∧ j.toNatClampNeg = i ∧ i < n
section Arrs
variable {Z : State} {h h' : Heap} {a b : Addr} {ty : FieldType} {n i : Nat} {f : Nat → Value} {v : Value} {sl : Nat} {ws : List Addr} {c : Cell} {j z : Int32}
theorem own_A.lt (F : own_A Z h a ty n f) : a < h.size := by obtain ⟨c, A, -⟩ := F; exact A.lt
theorem own_A.ext (F : own_A Z h a ty n f) (E : Ext h h') : own_A Z h' a ty n f := by obtain ⟨c, A, r⟩ := F; exact ⟨c, A.ext E, r⟩
theorem own_A.other (F : own_A Z h b ty n f) (W : Wr h h' a sl v) (q : b ≠ a) : own_A Z h' b ty n f := by obtain ⟨c, A, r⟩ := F; exact ⟨c, A.other W q, r⟩
theorem own_A.keep (F : own_A Z h a ty n f) (K : Keep h h' ws) (q : a ∉ ws) : own_A Z h' a ty n f := by obtain ⟨c, A, r⟩ := F; exact ⟨c, ⟨K.2.1 a c A.1 q, A.2⟩, r⟩
theorem own_clamp (z : Int32) : z.toNatClampNeg < 2 ^ 31 := by
  have := Int32.toInt_lt z
  simp only [Int32.toNatClampNeg]; omega
theorem own_A.new {k : ClassId} (A : Arr Z h a (newA k ty z) ty) (hz : z.toNatClampNeg = n) : own_A Z h a ty n (fun _ => defaultValue ty) := by
  refine ⟨_, A, by rw [sz_new, hz], by rw [← hz]; exact own_clamp z, fun j hj => ?_⟩
  simp [newA, hz, hj]
theorem own_ix (h1 : ¬ j < 0) (h2 : j.toNatClampNeg = i) (h3 : i < n) : own_Ix j i n := ⟨h1, h2, h3⟩
theorem own_in (S : c.slots.size = n) (h : own_Ix j i n) : ¬ (j < 0 ∨ c.slots.size ≤ j.toNatClampNeg) := by
  obtain ⟨h1, h2, h3⟩ := h
  rw [S, h2]
  exact fun q => q.elim h1 (fun r => absurd h3 (Nat.not_lt.mpr r))
theorem own_at (S : c.slots.size = n) (V : ∀ j, j < n → c.slots[j]? = some (f j)) (h : own_Ix j i n) (hv : f i = v) : c.slots[j.toNatClampNeg]? = some v := by
  obtain ⟨h1, h2, h3⟩ := h
  rw [h2, V i h3, hv]
theorem own_A.set (F : own_A Z h a ty n f) (hj : own_Ix j i n) (W : Wr h h' a j.toNatClampNeg v) : own_A Z h' a ty n (own_up f i v) := by
  obtain ⟨c, A, S, M, V⟩ := F
  obtain ⟨h1, h2, h3⟩ := hj
  rw [h2] at W
  refine ⟨c.setSlot i v, A.same W, by rw [sz_set]; exact S, M, fun j' hj' => ?_⟩
  show (c.slots.setIfInBounds i v)[j']? = _
  unfold own_up
  by_cases e : j' = i
  · subst e; rw [if_pos rfl]; simp [S, hj']
  · rw [if_neg e, Array.getElem?_setIfInBounds_ne (Ne.symm e)]; exact V j' hj'
theorem own_A.cong {g : Nat → Value} (F : own_A Z h a ty n f) (q : ∀ j, j < n → f j = g j) : own_A Z h a ty n g := by
  obtain ⟨c, A, S, M, V⟩ := F
  exact ⟨c, A, S, M, fun j hj => by rw [V j hj, q j hj]⟩
end Arrs
/-- a short array's values by a list -/
def own_V (vs : List Value) : Nat → Value := fun j => vs.getD j .null
theorem own_selP {Z s : State} {a0 args : Array Value} {y : MethodName} {n : Nat} (hZ : Z.Warmed39 s.vm) (wi : (Jvm.Cond.instantiable y.cls n).before a0 Z = true) (wp : (Jvm.Cond.privateMethod y).before a0 Z = true) (wm : (Jvm.Cond.instanceMethod y).before a0 Z = true)
    (hy : y.cls ≠ "java/lang/invoke/MethodHandle" ∧ y.cls ≠ "java/lang/invoke/VarHandle") : (Jvm.Cond.selects y.cls y y).before args s = true := by
  have w : (Jvm.Cond.instantiable y.cls n).before args s = true := mvT hZ wi
  obtain ⟨c, k, h1, h2, -, h4, -⟩ := Cond.instantiable_spec w
  exact selects_self_of_private h1 h2 (Bool.or_eq_false_iff.mp h4).1 (Cond.privateMethod_at (mvP hZ wp (args := #[]))) (mvT hZ wm) hy
section OwnW
variable {p : Program} {l : Launch} {e : Env} {R : Room} {s : State} {vm0 : Vm} {k0 : Nat} {m : MethodId} {args : Array Value} {below : List Frame} {meth : Method} {c : Code} {T : State} {locs : List Loc} {cells slots : Nat} {Q : Option Value → Heap → List Loc → Prop} {k n : Nat}
/-- as own_F, of a body that may load String constants -/
def own_FW (s : State) (Q : Option Value → Heap → List Loc → Prop) (k n : Nat) (o : Outcome) (U : State) : Prop := ∃ v L, o = .returned v ∧ Q v U.heap L ∧ ReturnedEndW s o U L k n
theorem own_endW (X : Stand p l e R (s.setVm vm0) m args below meth c T locs cells slots) (hS : s.Since vm0 k0) (hk0 : k0 ≤ T.heap.size) (v : Option Value) (hv : meth.sig.returnType = none → v = none) (hlk : meth.locks = false) (hq : Q v T.heap locs) (hk : cells ≤ k) (hn : slots ≤ n) {S : State}
    (hs : ∀ fs, (∀ (f : JFrame) (acts : List Action), f.method = m → f.locked = none → f.entered = [] → (doReturn e (T.setTop f) acts v).1 = T.setFrames fs) → Steps p.tables e below S (T.setFrames fs)) : own_Go p.tables e below (own_FW s Q k n) S := by
  obtain ⟨fs, hr, hrun, hended, hW, hsame⟩ := X.leave (v := v) hv hlk
  obtain ⟨h1, h2, h3⟩ := hS.ended (U := T.setFrames fs) hW hk0 hsame
  exact ⟨_, _, hs fs hr, hrun, hended, v, locs, rfl, hq, ⟨_, rfl⟩, h1, h2, h3.mono hk hn⟩
theorem own_retNW (X : Stand p l e R (s.setVm vm0) m args below meth c T locs cells slots) (hS : s.Since vm0 k0) (hk0 : k0 ≤ T.heap.size) (hx : p.tables.exec = Jvm.exec) {pc : Nat} {Ls : Array Slot} {z : Int32} {t : FieldType} {rest : List Value} (hret : meth.sig.returnType = some t) (ht : t = .boolean ∨ t = .byte ∨ t = .char ∨ t = .short) (hlk : meth.locks = false)
    (hd : decode c.code pc = .ok (.ireturn, 1)) (hq : Q (some (.int (nar t z))) T.heap locs) (hk : cells ≤ k) (hn : slots ≤ n) : own_Go p.tables e below (own_FW s Q k n) (T.setTop (mkF m pc Ls (.int z :: rest))) :=
  own_endW X hS hk0 _ (fun h => by rw [hret] at h; cases h) hlk hq hk hn fun fs hr => retN X hx hret ht hd hr
theorem own_retVW (X : Stand p l e R (s.setVm vm0) m args below meth c T locs cells slots) (hS : s.Since vm0 k0) (hk0 : k0 ≤ T.heap.size) (hx : p.tables.exec = Jvm.exec) {pc : Nat} {Ls : Array Slot} (hret : meth.sig.returnType = none) (hlk : meth.locks = false)
    (hd : decode c.code pc = .ok (.return_, 1)) (hq : Q none T.heap locs) (hk : cells ≤ k) (hn : slots ≤ n) : own_Go p.tables e below (own_FW s Q k n) (T.setTop (mkF m pc Ls [])) :=
  own_endW X hS hk0 _ (fun _ => rfl) hlk hq hk hn fun fs hr => X.returnOut hx hret hd hr
theorem own_bodyW {y : MethodName} {cd : ByteArray} {mx : Nat} {rt : Option FieldType} {ws : List Jvm.Cond} {rm : Room} {Z : State} {h0 : Heap} {as : Array Value} (hp : plainFor y = true)
    (go : ∀ (p : Program) (e : Env) (s : State) (m : MethodId) (below : List Frame) (meth : Method) (c : Code) (s₁ : State), p.tables.exec = Jvm.exec → c.code = cd → c.maxLocals = mx → s.vm.findClass y.cls = some m.cls → meth.name = y.name → meth.sig.returnType = rt → meth.locks = false → Z.Warmed39 s.vm →
      Stand p l e rm s m as below meth c s₁ [] 0 0 → s₁.heap = h0 → own_Go p.tables e below (own_FW s Q rm.cells rm.slots) (s₁.setTop (entryFrame m as mx))) :
    MetFree l y (head1 (Jvm.Cond.code y cd mx rt :: ws) rm) (fun a U => a = as ∧ Z.Warmed39 U.vm ∧ U.heap = h0) (fun _ _ _ _ _ => True) (fun _ U o U' => ∃ v L, o = .returned v ∧ Q v U'.heap L ∧ ReturnedEndW U o U' L rm.cells rm.slots) := by
  refine MetFree.of_bodySF hp hisR ?_
  intro p e s m args below meth c s₁ Bd hml0 hP hK
  obtain ⟨rfl, hZ, hh⟩ := hP
  exact go p e s m below meth c s₁ Bd.exec Bd.bytes hml0 (findClass_of_methodNamed Bd.named) (name_of_methodNamed Bd.named Bd.method).1 Bd.returns Bd.notSynchronized hZ (Stand.of_body Bd) (by rw [← hh, Bd.state]; rfl)
end OwnW

theorem own_len {z : Int32} (h : ¬ z < 0) : z.toNatClampNeg.toInt32 = z := (back32 h).1
theorem own_lt (x y : Int64) : x < y ↔ x.toInt < y.toInt := Int64.lt_iff_toInt_lt
theorem own_lt32 (x y : Int32) : x < y ↔ x.toInt < y.toInt := Int32.lt_iff_toInt_lt
theorem own_clampI {z : Int32} (h : 0 ≤ z.toInt) : (z.toNatClampNeg : Int) = z.toInt := by
  show ((z.toInt.toNat : Nat) : Int) = z.toInt
  omega
/-- the bytes that are wanted, as an int -/
theorem own_need (p : Int32) (h : p.toInt ≤ 31) : ((6 : Int64) + (p.toInt64 * (4 : Int64))).toInt = 6 + 4 * p.toInt := by
  have r := rng32 p
  have e : p.toInt64.toInt = p.toInt := c_i2l p
  have o4 : (4 : Int64).toInt = 4 := rfl
  have o6 : (6 : Int64).toInt = 6 := rfl
  have m := c_lmul p.toInt64 (4 : Int64)
  have rm := rng64 (p.toInt64 * (4 : Int64))
  have a := c_ladd (6 : Int64) (p.toInt64 * (4 : Int64))
  have ra := rng64 ((6 : Int64) + (p.toInt64 * (4 : Int64)))
  rw [e, o4] at m
  rw [o6] at a
  omega
theorem own_needL (p : Int32) (h : p.toInt ≤ 31) : ((6 : Int64) + ((4 : Int64) * p.toInt64)).toInt = 6 + 4 * p.toInt := by
  have r := rng32 p
  have e : p.toInt64.toInt = p.toInt := c_i2l p
  have o4 : (4 : Int64).toInt = 4 := rfl
  have o6 : (6 : Int64).toInt = 6 := rfl
  have m := c_lmul (4 : Int64) p.toInt64
  have rm := rng64 ((4 : Int64) * p.toInt64)
  have a := c_ladd (6 : Int64) ((4 : Int64) * p.toInt64)
  have ra := rng64 ((6 : Int64) + ((4 : Int64) * p.toInt64))
  rw [e, o4] at m
  rw [o6] at a
  omega
theorem own_l2i (x : Int64) (h : 0 ≤ x.toInt ∧ x.toInt < 2147483648) : x.toInt32.toInt = x.toInt := by
  have c := c_l2i x
  have r := rng32 x.toInt32
  omega
theorem own_neg {z : Int32} (h : 0 ≤ z.toInt) : ¬ z < 0 := by
  rw [own_lt32]; show ¬ z.toInt < 0; omega
theorem own_pos {z : Int32} (h : ¬ z < 0) : 0 ≤ z.toInt := by
  rw [own_lt32] at h
  have : ¬ z.toInt < 0 := h
  omega
theorem own_rm {z p : Int32} (hz : ¬ z < 0) (hn : z.toInt64 < ((6 : Int64) + (p.toInt64 * (4 : Int64)))) (hp : p.toInt ≤ 31) : (((6 : Int64) + (p.toInt64 * (4 : Int64))).toInt32).toInt = 6 + 4 * p.toInt ∧ 1 ≤ 6 + 4 * p.toInt := by
  have e := own_need p hp
  have z0 := own_pos hz
  rw [own_lt, c_i2l, e] at hn
  exact ⟨by rw [own_l2i _ (by rw [e]; omega), e], by omega⟩
theorem own_v7 {p : Int32} (hp : p.toInt ≤ 31) : ((6 : Int64) + ((4 : Int64) * p.toInt64)) = ((6 : Int64) + (p.toInt64 * (4 : Int64))) := Int64.toInt_inj.mp (by rw [own_needL p hp, own_need p hp])
theorem own_f {x v : Int32} (q : v = (if x < (0 : Int32) then x else (x &&& (31 : Int32)))) : v.toInt ≤ 31 := by
  rw [q]
  split
  · rename_i h
    rw [own_lt32] at h
    have : x.toInt < 0 := h
    omega
  · rw [c_mask x _ 5 (by decide) (by decide)]; omega
theorem own_n {x v : Int32} (q : v = (x &&& (127 : Int32))) : 0 ≤ v.toInt ∧ v.toInt ≤ 127 := by
  rw [q, c_mask x _ 7 (by decide) (by decide)]; omega
/-- the last place of an array -/
theorem own_last {v : Int32} (h : 1 ≤ v.toInt) : own_Ix (v - (1 : Int32)) (v.toNatClampNeg - 1) v.toNatClampNeg := by
  have r := rng32 v
  have s := c_isub v (1 : Int32)
  have r2 := rng32 (v - (1 : Int32))
  have o : (1 : Int32).toInt = 1 := rfl
  rw [o] at s
  have e : (v - (1 : Int32)).toInt = v.toInt - 1 := by omega
  refine ⟨own_neg (by omega), ?_, ?_⟩
  · show (v - (1 : Int32)).toInt.toNat = v.toInt.toNat - 1
    rw [e]; omega
  · show v.toInt.toNat - 1 < v.toInt.toNat
    omega
theorem own_first {v : Int32} (h : 1 ≤ v.toInt) : own_Ix (0 : Int32) 0 v.toNatClampNeg := by
  refine ⟨by decide, by decide, ?_⟩
  show 0 < v.toInt.toNat
  omega
theorem own_le {v : Int32} {k : Nat} (h : v.toInt ≤ k) : v.toNatClampNeg ≤ k := by
  show v.toInt.toNat ≤ k
  omega
theorem own_mark (x : Int32) (f : Nat → Value) (i : Nat) : own_up f i (.int (nar .byte x.toInt8.toInt32)) i = .int x.toInt8.toInt32 := by
  unfold own_up
  rw [if_pos rfl]
  show Value.int x.toInt8.toInt32.toInt8.toInt32 = _
  rw [Int8.toInt8_toInt32]
theorem d1_0 : decode prog_110_method_2_code 0 = .ok (.ldc2_w 9, 3) := by decide +kernel
theorem d1_3 : decode prog_110_method_2_code 3 = .ok (.iload_n 1, 1) := by decide +kernel
theorem d1_4 : decode prog_110_method_2_code 4 = .ok (.i2l, 1) := by decide +kernel
theorem d1_5 : decode prog_110_method_2_code 5 = .ok (.ldc2_w 13, 3) := by decide +kernel
theorem d1_8 : decode prog_110_method_2_code 8 = .ok (.lmul, 1) := by decide +kernel
theorem d1_9 : decode prog_110_method_2_code 9 = .ok (.ladd, 1) := by decide +kernel
theorem d1_10 : decode prog_110_method_2_code 10 = .ok (.lstore_n 2, 1) := by decide +kernel
theorem d1_11 : decode prog_110_method_2_code 11 = .ok (.lload_n 2, 1) := by decide +kernel
theorem d1_12 : decode prog_110_method_2_code 12 = .ok (.aload_n 0, 1) := by decide +kernel
theorem d1_13 : decode prog_110_method_2_code 13 = .ok (.arraylength, 1) := by decide +kernel
theorem d1_14 : decode prog_110_method_2_code 14 = .ok (.i2l, 1) := by decide +kernel
theorem d1_15 : decode prog_110_method_2_code 15 = .ok (.lcmp, 1) := by decide +kernel
theorem d1_16 : decode prog_110_method_2_code 16 = .ok (.ifCond .gt 5, 3) := by decide +kernel
theorem d1_19 : decode prog_110_method_2_code 19 = .ok (.aload_n 0, 1) := by decide +kernel
theorem d1_20 : decode prog_110_method_2_code 20 = .ok (.areturn, 1) := by decide +kernel
theorem pn1 : plainName "com/example/tokenwise/tokenwise/semantics/StateCodec" = true := by first | (simp [plainName, overriddenIn]; done) | decide +kernel
theorem ef1 (m : MethodId) (ar : Addr) (p1 : Int32) : entryFrame m #[(.ref ar), (.int p1)] 4 = mkF m 0 #[.val (.ref ar), .val (.int p1), .unset, .unset] [] := by first | (simp [entryFrame, mkF, argsToLocals, Value.category]; done) | rfl
def Q1 (Z : State) (ar : Addr) (p1 : Int32) (f : Nat → Value) (z : Int32) (h0 : Heap) (n0 : Nat) (v : Option Value) (h : Heap) (L : List Loc) : Prop := v = some (.ref ar) ∧ Fr n0 L ∧ h = h0
set_option maxRecDepth 65536 in
set_option maxHeartbeats 40000000 in
theorem rm1 (l : Launch) (Z : State) (a0 : Array Value) (hw : ∀ d ∈ tables_1, d.before a0 Z = true) (ws : List Jvm.Cond) (ar : Addr) (p1 : Int32) (f : Nat → Value) (z : Int32) (h0 : Heap) (n0 : Nat) (Z0 : n0 ≤ h0.size) (A_ar : own_A Z h0 ar .byte z.toNatClampNeg f) (hz : ¬ z < 0) (hn : ¬ z.toInt64 < ((6 : Int64) + (p1.toInt64 * (4 : Int64)))) :
    MetFree l (⟨"com/example/tokenwise/tokenwise/semantics/StateCodec", "room", "([BI)[B"⟩ : MethodName) (head1 (Jvm.Cond.code (⟨"com/example/tokenwise/tokenwise/semantics/StateCodec", "room", "([BI)[B"⟩ : MethodName) prog_110_method_2_code 4 (some (.array .byte)) :: ws) ({ frames := 0, cells := 0, slots := 0, locals := 0 } : Room)) (fun as' U => as' = #[(.ref ar), (.int p1)] ∧ Z.Warmed39 U.vm ∧ U.heap = h0) (fun _ _ _ _ _ => True) (fun _ U o U' => ∃ v L, o = .returned v ∧ Q1 Z ar p1 f z h0 n0 v U'.heap L ∧ FrameEnd U o U' L ({ frames := 0, cells := 0, slots := 0, locals := 0 } : Room).cells ({ frames := 0, cells := 0, slots := 0, locals := 0 } : Room).slots) := by
  refine own_body (plainFor_of_name pn1) ?_
  intro p e s m below meth c s₁ hx hby hml hown0 hnm hret hlk hZ X0 e0
  have hown : s.vm.findClass "com/example/tokenwise/tokenwise/semantics/StateCodec" = some m.cls := hown0
  have N0 := Fr.nil n0
  rw [ef1]
  show own_Go p.tables e below _ (s₁.setTop (mkF m 0 #[.val (.ref ar), .val (.int p1), .unset, .unset] []))
  refine own_st (S' := s₁.setTop (mkF m 3 #[.val (.ref ar), .val (.int p1), .unset, .unset] [(.long (6 : Int64))])) (fun t k => X0.ldc2Long hx hown (mvT hZ (hw _ (List.mem_of_getElem? (i := 7) rfl))) (g := (mkF m 0 #[.val (.ref ar), .val (.int p1), .unset, .unset] [])) rfl (hb hby d1_0) _ k) ?_
  refine own_st (S' := s₁.setTop (mkF m 4 #[.val (.ref ar), .val (.int p1), .unset, .unset] [(.int p1), (.long (6 : Int64))])) (fun t k => XS.iloadN X0.here hx rfl (hb hby d1_3) rfl k) ?_
  refine own_st (S' := s₁.setTop (mkF m 5 #[.val (.ref ar), .val (.int p1), .unset, .unset] [(.long p1.toInt64), (.long (6 : Int64))])) (fun t k => XS.i2l X0.here hx rfl (hb hby d1_4) rfl k) ?_
  refine own_st (S' := s₁.setTop (mkF m 8 #[.val (.ref ar), .val (.int p1), .unset, .unset] [(.long (4 : Int64)), (.long p1.toInt64), (.long (6 : Int64))])) (fun t k => X0.ldc2Long hx hown (mvT hZ (hw _ (List.mem_of_getElem? (i := 8) rfl))) (g := (mkF m 5 #[.val (.ref ar), .val (.int p1), .unset, .unset] [(.long p1.toInt64), (.long (6 : Int64))])) rfl (hb hby d1_5) _ k) ?_
  refine own_st (S' := s₁.setTop (mkF m 9 #[.val (.ref ar), .val (.int p1), .unset, .unset] [(.long (p1.toInt64 * (4 : Int64))), (.long (6 : Int64))])) (fun t k => XS.lmul X0.here hx rfl (hb hby d1_8) rfl k) ?_
  refine own_st (S' := s₁.setTop (mkF m 10 #[.val (.ref ar), .val (.int p1), .unset, .unset] [(.long ((6 : Int64) + (p1.toInt64 * (4 : Int64))))])) (fun t k => XS.ladd X0.here hx rfl (hb hby d1_9) rfl k) ?_
  refine own_st (S' := s₁.setTop (mkF m 11 #[.val (.ref ar), .val (.int p1), .val (.long ((6 : Int64) + (p1.toInt64 * (4 : Int64)))), .second] [])) (fun t k => XS.lstoreN X0.here hx rfl (hb hby d1_10) rfl (l' := #[.val (.ref ar), .val (.int p1), .val (.long ((6 : Int64) + (p1.toInt64 * (4 : Int64)))), .second]) rfl k) ?_
  refine own_st (S' := s₁.setTop (mkF m 12 #[.val (.ref ar), .val (.int p1), .val (.long ((6 : Int64) + (p1.toInt64 * (4 : Int64)))), .second] [(.long ((6 : Int64) + (p1.toInt64 * (4 : Int64))))])) (fun t k => XS.lloadN X0.here hx rfl (hb hby d1_11) rfl k) ?_
  refine own_st (S' := s₁.setTop (mkF m 13 #[.val (.ref ar), .val (.int p1), .val (.long ((6 : Int64) + (p1.toInt64 * (4 : Int64)))), .second] [(.ref ar), (.long ((6 : Int64) + (p1.toInt64 * (4 : Int64))))])) (fun t k => XS.aloadN X0.here hx rfl (hb hby d1_12) rfl rfl k) ?_
  have O1 := A_ar
  obtain ⟨c1, Ar1, S1, M1, V1⟩ := O1
  have ln1 : c1.slots.size.toInt32 = z := by rw [S1]; first | rfl | decide | exact own_len hz
  refine own_st (S' := s₁.setTop (mkF m 14 #[.val (.ref ar), .val (.int p1), .val (.long ((6 : Int64) + (p1.toInt64 * (4 : Int64)))), .second] [(.int z), (.long ((6 : Int64) + (p1.toInt64 * (4 : Int64))))])) (fun t k => X0.arraylength hx (by rw [e0]; exact Ar1.1) (State.isArrayOf_alike hZ.alike Ar1.2.1) (g := (mkF m 13 #[.val (.ref ar), .val (.int p1), .val (.long ((6 : Int64) + (p1.toInt64 * (4 : Int64)))), .second] [(.ref ar), (.long ((6 : Int64) + (p1.toInt64 * (4 : Int64))))])) rfl rfl (hb hby d1_13) _ (by rw [ln1]; exact k)) ?_
  refine own_st (S' := s₁.setTop (mkF m 15 #[.val (.ref ar), .val (.int p1), .val (.long ((6 : Int64) + (p1.toInt64 * (4 : Int64)))), .second] [(.long z.toInt64), (.long ((6 : Int64) + (p1.toInt64 * (4 : Int64))))])) (fun t k => XS.i2l X0.here hx rfl (hb hby d1_14) rfl k) ?_
  refine own_st (S' := s₁.setTop (mkF m 16 #[.val (.ref ar), .val (.int p1), .val (.long ((6 : Int64) + (p1.toInt64 * (4 : Int64)))), .second] [(.int (lcmpW ((6 : Int64) + (p1.toInt64 * (4 : Int64))) z.toInt64))])) (fun t k => XS.lcmp X0.here hx rfl (hb hby d1_15) rfl k) ?_
  have hc2 : ¬ (z.toInt64 < ((6 : Int64) + (p1.toInt64 * (4 : Int64)))) := hn
  refine own_st (S' := s₁.setTop (mkF m 19 #[.val (.ref ar), .val (.int p1), .val (.long ((6 : Int64) + (p1.toInt64 * (4 : Int64)))), .second] [])) (fun t k => XS.ifNo X0.here hx rfl (hb hby d1_16) rfl ((if0 _ _).trans (flt (mt (lw_gt _ _).mp hc2)).2.2.1) k) ?_
  show own_Go p.tables e below _ (s₁.setTop (mkF m 19 #[.val (.ref ar), .val (.int p1), .val (.long ((6 : Int64) + (p1.toInt64 * (4 : Int64)))), .second] []))
  refine own_st (S' := s₁.setTop (mkF m 20 #[.val (.ref ar), .val (.int p1), .val (.long ((6 : Int64) + (p1.toInt64 * (4 : Int64)))), .second] [(.ref ar)])) (fun t k => XS.aloadN X0.here hx rfl (hb hby d1_19) rfl rfl k) ?_
  refine own_retA X0 hx hret rfl rfl rfl hlk (hb hby d1_20) ?_ (by decide) (by decide)
  rw [e0]
  exact ⟨rfl, N0, rfl⟩
theorem d2_0 : decode prog_110_method_2_code 0 = .ok (.ldc2_w 9, 3) := by decide +kernel
theorem d2_3 : decode prog_110_method_2_code 3 = .ok (.iload_n 1, 1) := by decide +kernel
theorem d2_4 : decode prog_110_method_2_code 4 = .ok (.i2l, 1) := by decide +kernel
theorem d2_5 : decode prog_110_method_2_code 5 = .ok (.ldc2_w 13, 3) := by decide +kernel
theorem d2_8 : decode prog_110_method_2_code 8 = .ok (.lmul, 1) := by decide +kernel
theorem d2_9 : decode prog_110_method_2_code 9 = .ok (.ladd, 1) := by decide +kernel
theorem d2_10 : decode prog_110_method_2_code 10 = .ok (.lstore_n 2, 1) := by decide +kernel
theorem d2_11 : decode prog_110_method_2_code 11 = .ok (.lload_n 2, 1) := by decide +kernel
theorem d2_12 : decode prog_110_method_2_code 12 = .ok (.aload_n 0, 1) := by decide +kernel
theorem d2_13 : decode prog_110_method_2_code 13 = .ok (.arraylength, 1) := by decide +kernel
theorem d2_14 : decode prog_110_method_2_code 14 = .ok (.i2l, 1) := by decide +kernel
theorem d2_15 : decode prog_110_method_2_code 15 = .ok (.lcmp, 1) := by decide +kernel
theorem d2_16 : decode prog_110_method_2_code 16 = .ok (.ifCond .gt 5, 3) := by decide +kernel
theorem d2_21 : decode prog_110_method_2_code 21 = .ok (.lload_n 2, 1) := by decide +kernel
theorem d2_22 : decode prog_110_method_2_code 22 = .ok (.ldc2_w 15, 3) := by decide +kernel
theorem d2_25 : decode prog_110_method_2_code 25 = .ok (.lcmp, 1) := by decide +kernel
theorem d2_26 : decode prog_110_method_2_code 26 = .ok (.ifCond .le 17, 3) := by decide +kernel
theorem d2_43 : decode prog_110_method_2_code 43 = .ok (.lload_n 2, 1) := by decide +kernel
theorem d2_44 : decode prog_110_method_2_code 44 = .ok (.l2i, 1) := by decide +kernel
theorem d2_45 : decode prog_110_method_2_code 45 = .ok (.newarray .byte, 2) := by decide +kernel
theorem d2_47 : decode prog_110_method_2_code 47 = .ok (.areturn, 1) := by decide +kernel
theorem pn2 : plainName "com/example/tokenwise/tokenwise/semantics/StateCodec" = true := by first | (simp [plainName, overriddenIn]; done) | decide +kernel
theorem ef2 (m : MethodId) (ar : Addr) (p1 : Int32) : entryFrame m #[(.ref ar), (.int p1)] 4 = mkF m 0 #[.val (.ref ar), .val (.int p1), .unset, .unset] [] := by first | (simp [entryFrame, mkF, argsToLocals, Value.category]; done) | rfl
def Q2 (Z : State) (ar : Addr) (p1 : Int32) (f : Nat → Value) (z : Int32) (h0 : Heap) (n0 : Nat) (v : Option Value) (h : Heap) (L : List Loc) : Prop := ∃ (nb : Addr), v = some (.ref nb) ∧ Fr n0 L ∧ Keep h0 h [] ∧ h0.size ≤ nb ∧ own_A Z h nb .byte ((6 : Int64) + (p1.toInt64 * (4 : Int64))).toInt32.toNatClampNeg (fun _ => (.int (0 : Int32)))
set_option maxRecDepth 65536 in
set_option maxHeartbeats 40000000 in
theorem rm2 (l : Launch) (Z : State) (a0 : Array Value) (hw : ∀ d ∈ tables_1, d.before a0 Z = true) (ws : List Jvm.Cond) (ar : Addr) (p1 : Int32) (f : Nat → Value) (z : Int32) (h0 : Heap) (n0 : Nat) (Z0 : n0 ≤ h0.size) (A_ar : own_A Z h0 ar .byte z.toNatClampNeg f) (hz : ¬ z < 0) (hn : z.toInt64 < ((6 : Int64) + (p1.toInt64 * (4 : Int64)))) (hp : p1.toInt ≤ 31) :
    MetFree l (⟨"com/example/tokenwise/tokenwise/semantics/StateCodec", "room", "([BI)[B"⟩ : MethodName) (head1 (Jvm.Cond.code (⟨"com/example/tokenwise/tokenwise/semantics/StateCodec", "room", "([BI)[B"⟩ : MethodName) prog_110_method_2_code 4 (some (.array .byte)) :: ws) ({ frames := 0, cells := 1, slots := 130, locals := 0 } : Room)) (fun as' U => as' = #[(.ref ar), (.int p1)] ∧ Z.Warmed39 U.vm ∧ U.heap = h0) (fun _ _ _ _ _ => True) (fun _ U o U' => ∃ v L, o = .returned v ∧ Q2 Z ar p1 f z h0 n0 v U'.heap L ∧ FrameEnd U o U' L ({ frames := 0, cells := 1, slots := 130, locals := 0 } : Room).cells ({ frames := 0, cells := 1, slots := 130, locals := 0 } : Room).slots) := by
  refine own_body (plainFor_of_name pn2) ?_
  intro p e s m below meth c s₁ hx hby hml hown0 hnm hret hlk hZ X0 e0
  have hown : s.vm.findClass "com/example/tokenwise/tokenwise/semantics/StateCodec" = some m.cls := hown0
  have N0 := Fr.nil n0
  rw [ef2]
  have K0 : Keep h0 h0 [] := Keep.refl h0 []
  show own_Go p.tables e below _ (s₁.setTop (mkF m 0 #[.val (.ref ar), .val (.int p1), .unset, .unset] []))
  refine own_st (S' := s₁.setTop (mkF m 3 #[.val (.ref ar), .val (.int p1), .unset, .unset] [(.long (6 : Int64))])) (fun t k => X0.ldc2Long hx hown (mvT hZ (hw _ (List.mem_of_getElem? (i := 7) rfl))) (g := (mkF m 0 #[.val (.ref ar), .val (.int p1), .unset, .unset] [])) rfl (hb hby d2_0) _ k) ?_
  refine own_st (S' := s₁.setTop (mkF m 4 #[.val (.ref ar), .val (.int p1), .unset, .unset] [(.int p1), (.long (6 : Int64))])) (fun t k => XS.iloadN X0.here hx rfl (hb hby d2_3) rfl k) ?_
  refine own_st (S' := s₁.setTop (mkF m 5 #[.val (.ref ar), .val (.int p1), .unset, .unset] [(.long p1.toInt64), (.long (6 : Int64))])) (fun t k => XS.i2l X0.here hx rfl (hb hby d2_4) rfl k) ?_
  refine own_st (S' := s₁.setTop (mkF m 8 #[.val (.ref ar), .val (.int p1), .unset, .unset] [(.long (4 : Int64)), (.long p1.toInt64), (.long (6 : Int64))])) (fun t k => X0.ldc2Long hx hown (mvT hZ (hw _ (List.mem_of_getElem? (i := 8) rfl))) (g := (mkF m 5 #[.val (.ref ar), .val (.int p1), .unset, .unset] [(.long p1.toInt64), (.long (6 : Int64))])) rfl (hb hby d2_5) _ k) ?_
  refine own_st (S' := s₁.setTop (mkF m 9 #[.val (.ref ar), .val (.int p1), .unset, .unset] [(.long (p1.toInt64 * (4 : Int64))), (.long (6 : Int64))])) (fun t k => XS.lmul X0.here hx rfl (hb hby d2_8) rfl k) ?_
  refine own_st (S' := s₁.setTop (mkF m 10 #[.val (.ref ar), .val (.int p1), .unset, .unset] [(.long ((6 : Int64) + (p1.toInt64 * (4 : Int64))))])) (fun t k => XS.ladd X0.here hx rfl (hb hby d2_9) rfl k) ?_
  refine own_st (S' := s₁.setTop (mkF m 11 #[.val (.ref ar), .val (.int p1), .val (.long ((6 : Int64) + (p1.toInt64 * (4 : Int64)))), .second] [])) (fun t k => XS.lstoreN X0.here hx rfl (hb hby d2_10) rfl (l' := #[.val (.ref ar), .val (.int p1), .val (.long ((6 : Int64) + (p1.toInt64 * (4 : Int64)))), .second]) rfl k) ?_
  refine own_st (S' := s₁.setTop (mkF m 12 #[.val (.ref ar), .val (.int p1), .val (.long ((6 : Int64) + (p1.toInt64 * (4 : Int64)))), .second] [(.long ((6 : Int64) + (p1.toInt64 * (4 : Int64))))])) (fun t k => XS.lloadN X0.here hx rfl (hb hby d2_11) rfl k) ?_
  refine own_st (S' := s₁.setTop (mkF m 13 #[.val (.ref ar), .val (.int p1), .val (.long ((6 : Int64) + (p1.toInt64 * (4 : Int64)))), .second] [(.ref ar), (.long ((6 : Int64) + (p1.toInt64 * (4 : Int64))))])) (fun t k => XS.aloadN X0.here hx rfl (hb hby d2_12) rfl rfl k) ?_
  have O1 := A_ar
  obtain ⟨c1, Ar1, S1, M1, V1⟩ := O1
  have ln1 : c1.slots.size.toInt32 = z := by rw [S1]; first | rfl | decide | exact own_len hz
  refine own_st (S' := s₁.setTop (mkF m 14 #[.val (.ref ar), .val (.int p1), .val (.long ((6 : Int64) + (p1.toInt64 * (4 : Int64)))), .second] [(.int z), (.long ((6 : Int64) + (p1.toInt64 * (4 : Int64))))])) (fun t k => X0.arraylength hx (by rw [e0]; exact Ar1.1) (State.isArrayOf_alike hZ.alike Ar1.2.1) (g := (mkF m 13 #[.val (.ref ar), .val (.int p1), .val (.long ((6 : Int64) + (p1.toInt64 * (4 : Int64)))), .second] [(.ref ar), (.long ((6 : Int64) + (p1.toInt64 * (4 : Int64))))])) rfl rfl (hb hby d2_13) _ (by rw [ln1]; exact k)) ?_
  refine own_st (S' := s₁.setTop (mkF m 15 #[.val (.ref ar), .val (.int p1), .val (.long ((6 : Int64) + (p1.toInt64 * (4 : Int64)))), .second] [(.long z.toInt64), (.long ((6 : Int64) + (p1.toInt64 * (4 : Int64))))])) (fun t k => XS.i2l X0.here hx rfl (hb hby d2_14) rfl k) ?_
  refine own_st (S' := s₁.setTop (mkF m 16 #[.val (.ref ar), .val (.int p1), .val (.long ((6 : Int64) + (p1.toInt64 * (4 : Int64)))), .second] [(.int (lcmpW ((6 : Int64) + (p1.toInt64 * (4 : Int64))) z.toInt64))])) (fun t k => XS.lcmp X0.here hx rfl (hb hby d2_15) rfl k) ?_
  have hc2 : z.toInt64 < ((6 : Int64) + (p1.toInt64 * (4 : Int64))) := hn
  refine own_st (S' := s₁.setTop (mkF m 21 #[.val (.ref ar), .val (.int p1), .val (.long ((6 : Int64) + (p1.toInt64 * (4 : Int64)))), .second] [])) (fun t k => XS.ifYes X0.here hx rfl (pc0 := 16) (pc' := 21) rfl (hb hby d2_16) rfl ((if0 _ _).trans (tlt ((lw_gt _ _).mpr hc2)).2.2.1) (by decide) (by decide) k) ?_
  show own_Go p.tables e below _ (s₁.setTop (mkF m 21 #[.val (.ref ar), .val (.int p1), .val (.long ((6 : Int64) + (p1.toInt64 * (4 : Int64)))), .second] []))
  refine own_st (S' := s₁.setTop (mkF m 22 #[.val (.ref ar), .val (.int p1), .val (.long ((6 : Int64) + (p1.toInt64 * (4 : Int64)))), .second] [(.long ((6 : Int64) + (p1.toInt64 * (4 : Int64))))])) (fun t k => XS.lloadN X0.here hx rfl (hb hby d2_21) rfl k) ?_
  refine own_st (S' := s₁.setTop (mkF m 25 #[.val (.ref ar), .val (.int p1), .val (.long ((6 : Int64) + (p1.toInt64 * (4 : Int64)))), .second] [(.long (2147483639 : Int64)), (.long ((6 : Int64) + (p1.toInt64 * (4 : Int64))))])) (fun t k => X0.ldc2Long hx hown (mvT hZ (hw _ (List.mem_of_getElem? (i := 9) rfl))) (g := (mkF m 22 #[.val (.ref ar), .val (.int p1), .val (.long ((6 : Int64) + (p1.toInt64 * (4 : Int64)))), .second] [(.long ((6 : Int64) + (p1.toInt64 * (4 : Int64))))])) rfl (hb hby d2_22) _ k) ?_
  refine own_st (S' := s₁.setTop (mkF m 26 #[.val (.ref ar), .val (.int p1), .val (.long ((6 : Int64) + (p1.toInt64 * (4 : Int64)))), .second] [(.int (lcmpW ((6 : Int64) + (p1.toInt64 * (4 : Int64))) (2147483639 : Int64)))])) (fun t k => XS.lcmp X0.here hx rfl (hb hby d2_25) rfl k) ?_
  have hc3 : ¬ ((2147483639 : Int64) < ((6 : Int64) + (p1.toInt64 * (4 : Int64)))) := by rw [own_lt, own_need _ hp]; show ¬ (2147483639 : Int) < _; omega
  refine own_st (S' := s₁.setTop (mkF m 43 #[.val (.ref ar), .val (.int p1), .val (.long ((6 : Int64) + (p1.toInt64 * (4 : Int64)))), .second] [])) (fun t k => XS.ifYes X0.here hx rfl (pc0 := 26) (pc' := 43) rfl (hb hby d2_26) rfl ((if0 _ _).trans (flt (mt (lw_gt _ _).mp hc3)).2.2.2) (by decide) (by decide) k) ?_
  show own_Go p.tables e below _ (s₁.setTop (mkF m 43 #[.val (.ref ar), .val (.int p1), .val (.long ((6 : Int64) + (p1.toInt64 * (4 : Int64)))), .second] []))
  refine own_st (S' := s₁.setTop (mkF m 44 #[.val (.ref ar), .val (.int p1), .val (.long ((6 : Int64) + (p1.toInt64 * (4 : Int64)))), .second] [(.long ((6 : Int64) + (p1.toInt64 * (4 : Int64))))])) (fun t k => XS.lloadN X0.here hx rfl (hb hby d2_43) rfl k) ?_
  refine own_st (S' := s₁.setTop (mkF m 45 #[.val (.ref ar), .val (.int p1), .val (.long ((6 : Int64) + (p1.toInt64 * (4 : Int64)))), .second] [(.int ((6 : Int64) + (p1.toInt64 * (4 : Int64))).toInt32)])) (fun t k => XS.l2i X0.here hx rfl (hb hby d2_44) rfl k) ?_
  obtain ⟨T4, h4, k4, X4, e4, E4, A4, st4⟩ := newP X0 hx hZ (hw _ (List.mem_of_getElem? (i := 0) rfl)) e0 (g := (mkF m 45 #[.val (.ref ar), .val (.int p1), .val (.long ((6 : Int64) + (p1.toInt64 * (4 : Int64)))), .second] [(.int ((6 : Int64) + (p1.toInt64 * (4 : Int64))).toInt32)])) rfl (hb hby d2_45) rfl (own_neg (by have := own_rm hz hn hp; omega)) (cap := 130) (own_le (by have := own_rm hz hn hp; omega)) (by decide) (by decide) (by decide)
  obtain ⟨b4, g4⟩ : ∃ z, z = h0.size := ⟨_, rfl⟩
  rw [← g4] at A4 st4
  have G_b4 : n0 ≤ b4 := Nat.le_trans Z0 (Nat.le_of_eq g4.symm)
  have sz_b4 : h0.size ≤ b4 := Nat.le_trans K0.1 (Nat.le_of_eq g4.symm)
  have ne_ar_b4 : ar ≠ b4 := Nat.ne_of_lt (Nat.lt_of_lt_of_le A_ar.lt (Nat.le_of_eq g4.symm))
  have f5 : own_A Z h4 ar .byte z.toNatClampNeg f := A_ar.ext E4
  have Z4 : n0 ≤ h4.size := Nat.le_trans Z0 E4.1
  have K4 : Keep h0 h4 [] := K0.ext E4
  have f6 : own_A Z h4 b4 .byte ((6 : Int64) + (p1.toInt64 * (4 : Int64))).toInt32.toNatClampNeg (fun _ => (.int (0 : Int32))) := own_A.new A4 (by first | rfl | decide | exact rfl)
  refine own_st st4 ?_
  show own_Go p.tables e below _ (T4.setTop (mkF m 47 #[.val (.ref ar), .val (.int p1), .val (.long ((6 : Int64) + (p1.toInt64 * (4 : Int64)))), .second] [(.ref b4)]))
  refine own_retA X4 hx hret rfl rfl rfl hlk (hb hby d2_47) ?_ (by decide) (by decide)
  rw [e4]
  exact ⟨b4, rfl, N0, K4, sz_b4, f6⟩
theorem pd0_0 : parseMethodDescriptor "([BI)[B" = some ⟨[(.array .byte), .int], some (.array .byte)⟩ := by decide +kernel
theorem pn0 : plainName "com/example/tokenwise/tokenwise/semantics/StateCodecRoomPinLaw" = true := by first | (simp [plainName, overriddenIn]; done) | decide +kernel
theorem ef0 (m : MethodId) (p0 : Int32) (p1 : Int32) (p2 : Int32) : entryFrame m #[(.int p0), (.int p1), (.int p2)] maxLocals = mkF m 0 #[.val (.int p0), .val (.int p1), .val (.int p2), .unset, .unset, .unset, .unset, .unset, .unset, .unset, .unset, .unset, .unset, .unset, .unset, .unset, .unset] [] := by first | (simp [entryFrame, mkF, argsToLocals, Value.category, maxLocals]; done) | rfl
def Q0 (n0 : Nat) (v : Option Value) (h : Heap) (L : List Loc) : Prop := v = some (.int 1) ∧ Fr n0 L
set_option maxRecDepth 65536 in
set_option maxHeartbeats 40000000 in
theorem rm0 (l : Launch) (Z : State) (a0 : Array Value) (hw : ∀ d ∈ tables_1, d.before a0 Z = true) (ws : List Jvm.Cond) (p0 : Int32) (p1 : Int32) (p2 : Int32) (h0 : Heap) (n0 : Nat) (Z0 : n0 ≤ h0.size)  :
    MetFree l x (head1 (Jvm.Cond.code x code maxLocals ret :: ws) room_1) (fun as' U => as' = #[(.int p0), (.int p1), (.int p2)] ∧ Z.Warmed39 U.vm ∧ U.heap = h0) (fun _ _ _ _ _ => True) (fun _ U o U' => ∃ v L, o = .returned v ∧ Q0 n0 v U'.heap L ∧ FrameEnd U o U' L room_1.cells room_1.slots) := by
  refine own_body (plainFor_of_name pn0) ?_
  intro p e s m below meth c s₁ hx hby hml hown0 hnm hret hlk hZ X0 e0
  have hown : s.vm.findClass "com/example/tokenwise/tokenwise/semantics/StateCodecRoomPinLaw" = some m.cls := hown0
  have N0 := Fr.nil n0
  rw [ef0]
  show own_Go p.tables e below _ (s₁.setTop (mkF m 0 #[.val (.int p0), .val (.int p1), .val (.int p2), .unset, .unset, .unset, .unset, .unset, .unset, .unset, .unset, .unset, .unset, .unset, .unset, .unset, .unset] []))
  refine own_st (S' := s₁.setTop (mkF m 1 #[.val (.int p0), .val (.int p1), .val (.int p2), .unset, .unset, .unset, .unset, .unset, .unset, .unset, .unset, .unset, .unset, .unset, .unset, .unset, .unset] [(.int p0)])) (fun t k => XS.iloadN X0.here hx rfl (hb hby at_0) rfl k) ?_
  refine own_st (S' := s₁.setTop (mkF m 3 #[.val (.int p0), .val (.int p1), .val (.int p2), .unset, .unset, .unset, .unset, .unset, .unset, .unset, .unset, .unset, .unset, .unset, .unset, .unset, .unset] [(.int (127 : Int32)), (.int p0)])) (fun t k => XS.bipush X0.here hx rfl (hb hby at_1) k) ?_
  refine own_st (S' := s₁.setTop (mkF m 4 #[.val (.int p0), .val (.int p1), .val (.int p2), .unset, .unset, .unset, .unset, .unset, .unset, .unset, .unset, .unset, .unset, .unset, .unset, .unset, .unset] [(.int (p0 &&& (127 : Int32)))])) (fun t k => XS.iand X0.here hx rfl (hb hby at_3) rfl k) ?_
  obtain ⟨v1, qv1⟩ : ∃ z : Int32, z = (p0 &&& (127 : Int32)) := ⟨_, rfl⟩
  show own_Go p.tables e below _ (s₁.setTop (mkF m 4 #[.val (.int p0), .val (.int p1), .val (.int p2), .unset, .unset, .unset, .unset, .unset, .unset, .unset, .unset, .unset, .unset, .unset, .unset, .unset, .unset] [(.int (p0 &&& (127 : Int32)))]))
  rw [← qv1]
  refine own_st (S' := s₁.setTop (mkF m 5 #[.val (.int p0), .val (.int p1), .val (.int p2), .val (.int v1), .unset, .unset, .unset, .unset, .unset, .unset, .unset, .unset, .unset, .unset, .unset, .unset, .unset] [])) (fun t k => XS.istoreN X0.here hx rfl (hb hby at_4) rfl (l' := #[.val (.int p0), .val (.int p1), .val (.int p2), .val (.int v1), .unset, .unset, .unset, .unset, .unset, .unset, .unset, .unset, .unset, .unset, .unset, .unset, .unset]) rfl k) ?_
  refine own_st (S' := s₁.setTop (mkF m 6 #[.val (.int p0), .val (.int p1), .val (.int p2), .val (.int v1), .unset, .unset, .unset, .unset, .unset, .unset, .unset, .unset, .unset, .unset, .unset, .unset, .unset] [(.int p1)])) (fun t k => XS.iloadN X0.here hx rfl (hb hby at_5) rfl k) ?_
  obtain ⟨v2, qv2⟩ : ∃ z : Int32, z = (if p1 < (0 : Int32) then p1 else (p1 &&& (31 : Int32))) := ⟨_, rfl⟩
  refine own_st (S' := s₁.setTop (mkF m 17 #[.val (.int p0), .val (.int p1), .val (.int p2), .val (.int v1), .unset, .unset, .unset, .unset, .unset, .unset, .unset, .unset, .unset, .unset, .unset, .unset, .unset] [(.int v2)])) (fun t k => ?_) ?_
  · show Steps p.tables e below (s₁.setTop (mkF m 6 #[.val (.int p0), .val (.int p1), .val (.int p2), .val (.int v1), .unset, .unset, .unset, .unset, .unset, .unset, .unset, .unset, .unset, .unset, .unset, .unset, .unset] [(.int p1)])) _
    by_cases hc3 : p1 < (0 : Int32)
    · rw [if_pos hc3] at qv2
      replace qv2 := Eq.symm qv2
      subst qv2
      refine XS.ifNo X0.here hx rfl (hb hby at_6) rfl ((if0 _ _).trans (tlt hc3).2.1) ?_
      show Steps p.tables e below (s₁.setTop (mkF m 9 #[.val (.int p0), .val (.int p1), .val (.int p2), .val (.int v1), .unset, .unset, .unset, .unset, .unset, .unset, .unset, .unset, .unset, .unset, .unset, .unset, .unset] [])) _
      refine XS.iloadN X0.here hx rfl (hb hby at_9) rfl ?_
      show Steps p.tables e below (s₁.setTop (mkF m 10 #[.val (.int p0), .val (.int p1), .val (.int p2), .val (.int v1), .unset, .unset, .unset, .unset, .unset, .unset, .unset, .unset, .unset, .unset, .unset, .unset, .unset] [(.int p1)])) _
      refine XS.goto X0.here hx rfl (pc0 := 10) (pc' := 17) rfl (hb hby at_10) (by decide) (by decide) ?_
      show Steps p.tables e below (s₁.setTop (mkF m 17 #[.val (.int p0), .val (.int p1), .val (.int p2), .val (.int v1), .unset, .unset, .unset, .unset, .unset, .unset, .unset, .unset, .unset, .unset, .unset, .unset, .unset] [(.int p1)])) _
      exact k
    · rw [if_neg hc3] at qv2
      replace qv2 := Eq.symm qv2
      subst qv2
      refine XS.ifYes X0.here hx rfl (pc0 := 6) (pc' := 13) rfl (hb hby at_6) rfl ((if0 _ _).trans (flt hc3).2.1) (by decide) (by decide) ?_
      show Steps p.tables e below (s₁.setTop (mkF m 13 #[.val (.int p0), .val (.int p1), .val (.int p2), .val (.int v1), .unset, .unset, .unset, .unset, .unset, .unset, .unset, .unset, .unset, .unset, .unset, .unset, .unset] [])) _
      refine XS.iloadN X0.here hx rfl (hb hby at_13) rfl ?_
      show Steps p.tables e below (s₁.setTop (mkF m 14 #[.val (.int p0), .val (.int p1), .val (.int p2), .val (.int v1), .unset, .unset, .unset, .unset, .unset, .unset, .unset, .unset, .unset, .unset, .unset, .unset, .unset] [(.int p1)])) _
      refine XS.bipush X0.here hx rfl (hb hby at_14) ?_
      show Steps p.tables e below (s₁.setTop (mkF m 16 #[.val (.int p0), .val (.int p1), .val (.int p2), .val (.int v1), .unset, .unset, .unset, .unset, .unset, .unset, .unset, .unset, .unset, .unset, .unset, .unset, .unset] [(.int (31 : Int32)), (.int p1)])) _
      refine XS.iand X0.here hx rfl (hb hby at_16) rfl ?_
      show Steps p.tables e below (s₁.setTop (mkF m 17 #[.val (.int p0), .val (.int p1), .val (.int p2), .val (.int v1), .unset, .unset, .unset, .unset, .unset, .unset, .unset, .unset, .unset, .unset, .unset, .unset, .unset] [(.int (p1 &&& (31 : Int32)))])) _
      exact k
  show own_Go p.tables e below _ (s₁.setTop (mkF m 17 #[.val (.int p0), .val (.int p1), .val (.int p2), .val (.int v1), .unset, .unset, .unset, .unset, .unset, .unset, .unset, .unset, .unset, .unset, .unset, .unset, .unset] [(.int v2)]))
  refine own_st (S' := s₁.setTop (mkF m 19 #[.val (.int p0), .val (.int p1), .val (.int p2), .val (.int v1), .val (.int v2), .unset, .unset, .unset, .unset, .unset, .unset, .unset, .unset, .unset, .unset, .unset, .unset] [])) (fun t k => XS.istore X0.here hx rfl (hb hby at_17) rfl (l' := #[.val (.int p0), .val (.int p1), .val (.int p2), .val (.int v1), .val (.int v2), .unset, .unset, .unset, .unset, .unset, .unset, .unset, .unset, .unset, .unset, .unset, .unset]) rfl k) ?_
  refine own_st (S' := s₁.setTop (mkF m 20 #[.val (.int p0), .val (.int p1), .val (.int p2), .val (.int v1), .val (.int v2), .unset, .unset, .unset, .unset, .unset, .unset, .unset, .unset, .unset, .unset, .unset, .unset] [(.int v1)])) (fun t k => XS.iloadN X0.here hx rfl (hb hby at_19) rfl k) ?_
  have hn3 := own_n qv1
  have hz3 : ¬ v1 < 0 := own_neg hn3.1
  have hp4 : v2.toInt ≤ 31 := own_f qv2
  obtain ⟨T4, h4, k4, X4, e4, E4, A4, st4⟩ := newP X0 hx hZ (hw _ (List.mem_of_getElem? (i := 0) rfl)) e0 (g := (mkF m 20 #[.val (.int p0), .val (.int p1), .val (.int p2), .val (.int v1), .val (.int v2), .unset, .unset, .unset, .unset, .unset, .unset, .unset, .unset, .unset, .unset, .unset, .unset] [(.int v1)])) rfl (hb hby at_20) rfl hz3 (cap := 127) (own_le (by have := hn3; omega)) (by decide) (by decide) (by decide)
  obtain ⟨b4, g4⟩ : ∃ z, z = h0.size := ⟨_, rfl⟩
  rw [← g4] at A4 st4
  have G_b4 : n0 ≤ b4 := Nat.le_trans Z0 (Nat.le_of_eq g4.symm)
  have Z4 : n0 ≤ h4.size := Nat.le_trans Z0 E4.1
  have f5 : own_A Z h4 b4 .byte v1.toNatClampNeg (fun _ => (.int (0 : Int32))) := own_A.new A4 (by first | rfl | decide | exact rfl)
  refine own_st st4 ?_
  show own_Go p.tables e below _ (T4.setTop (mkF m 22 #[.val (.int p0), .val (.int p1), .val (.int p2), .val (.int v1), .val (.int v2), .unset, .unset, .unset, .unset, .unset, .unset, .unset, .unset, .unset, .unset, .unset, .unset] [(.ref b4)]))
  refine own_st (S' := T4.setTop (mkF m 24 #[.val (.int p0), .val (.int p1), .val (.int p2), .val (.int v1), .val (.int v2), .val (.ref b4), .unset, .unset, .unset, .unset, .unset, .unset, .unset, .unset, .unset, .unset, .unset] [])) (fun t k => XS.astore X4.here hx rfl (hb hby at_22) rfl rfl (l' := #[.val (.int p0), .val (.int p1), .val (.int p2), .val (.int v1), .val (.int v2), .val (.ref b4), .unset, .unset, .unset, .unset, .unset, .unset, .unset, .unset, .unset, .unset, .unset]) rfl k) ?_
  refine own_st (S' := T4.setTop (mkF m 25 #[.val (.int p0), .val (.int p1), .val (.int p2), .val (.int v1), .val (.int v2), .val (.ref b4), .unset, .unset, .unset, .unset, .unset, .unset, .unset, .unset, .unset, .unset, .unset] [(.int p2)])) (fun t k => XS.iloadN X4.here hx rfl (hb hby at_24) rfl k) ?_
  refine own_st (S' := T4.setTop (mkF m 26 #[.val (.int p0), .val (.int p1), .val (.int p2), .val (.int v1), .val (.int v2), .val (.ref b4), .unset, .unset, .unset, .unset, .unset, .unset, .unset, .unset, .unset, .unset, .unset] [(.int p2.toInt8.toInt32)])) (fun t k => XS.i2b X4.here hx rfl (hb hby at_25) rfl k) ?_
  refine own_st (S' := T4.setTop (mkF m 28 #[.val (.int p0), .val (.int p1), .val (.int p2), .val (.int v1), .val (.int v2), .val (.ref b4), .val (.int p2.toInt8.toInt32), .unset, .unset, .unset, .unset, .unset, .unset, .unset, .unset, .unset, .unset] [])) (fun t k => XS.istore X4.here hx rfl (hb hby at_26) rfl (l' := #[.val (.int p0), .val (.int p1), .val (.int p2), .val (.int v1), .val (.int v2), .val (.ref b4), .val (.int p2.toInt8.toInt32), .unset, .unset, .unset, .unset, .unset, .unset, .unset, .unset, .unset, .unset]) rfl k) ?_
  refine own_st (S' := T4.setTop (mkF m 29 #[.val (.int p0), .val (.int p1), .val (.int p2), .val (.int v1), .val (.int v2), .val (.ref b4), .val (.int p2.toInt8.toInt32), .unset, .unset, .unset, .unset, .unset, .unset, .unset, .unset, .unset, .unset] [(.int v1)])) (fun t k => XS.iloadN X4.here hx rfl (hb hby at_28) rfl k) ?_
  by_cases hc6 : (0 : Int32) < v1
  · refine own_st (S' := T4.setTop (mkF m 32 #[.val (.int p0), .val (.int p1), .val (.int p2), .val (.int v1), .val (.int v2), .val (.ref b4), .val (.int p2.toInt8.toInt32), .unset, .unset, .unset, .unset, .unset, .unset, .unset, .unset, .unset, .unset] [])) (fun t k => XS.ifNo X4.here hx rfl (hb hby at_29) rfl ((if0 _ _).trans (tlt hc6).2.2.2) k) ?_
    show own_Go p.tables e below _ (T4.setTop (mkF m 32 #[.val (.int p0), .val (.int p1), .val (.int p2), .val (.int v1), .val (.int v2), .val (.ref b4), .val (.int p2.toInt8.toInt32), .unset, .unset, .unset, .unset, .unset, .unset, .unset, .unset, .unset, .unset] []))
    refine own_st (S' := T4.setTop (mkF m 34 #[.val (.int p0), .val (.int p1), .val (.int p2), .val (.int v1), .val (.int v2), .val (.ref b4), .val (.int p2.toInt8.toInt32), .unset, .unset, .unset, .unset, .unset, .unset, .unset, .unset, .unset, .unset] [(.ref b4)])) (fun t k => XS.aload X4.here hx rfl (hb hby at_32) rfl rfl k) ?_
    refine own_st (S' := T4.setTop (mkF m 35 #[.val (.int p0), .val (.int p1), .val (.int p2), .val (.int v1), .val (.int v2), .val (.ref b4), .val (.int p2.toInt8.toInt32), .unset, .unset, .unset, .unset, .unset, .unset, .unset, .unset, .unset, .unset] [(.int v1), (.ref b4)])) (fun t k => XS.iloadN X4.here hx rfl (hb hby at_34) rfl k) ?_
    refine own_st (S' := T4.setTop (mkF m 36 #[.val (.int p0), .val (.int p1), .val (.int p2), .val (.int v1), .val (.int v2), .val (.ref b4), .val (.int p2.toInt8.toInt32), .unset, .unset, .unset, .unset, .unset, .unset, .unset, .unset, .unset, .unset] [(.int (1 : Int32)), (.int v1), (.ref b4)])) (fun t k => XS.iconst X4.here hx rfl (hb hby at_35) k) ?_
    refine own_st (S' := T4.setTop (mkF m 37 #[.val (.int p0), .val (.int p1), .val (.int p2), .val (.int v1), .val (.int v2), .val (.ref b4), .val (.int p2.toInt8.toInt32), .unset, .unset, .unset, .unset, .unset, .unset, .unset, .unset, .unset, .unset] [(.int (v1 - (1 : Int32))), (.ref b4)])) (fun t k => XS.isub X4.here hx rfl (hb hby at_36) rfl k) ?_
    refine own_st (S' := T4.setTop (mkF m 39 #[.val (.int p0), .val (.int p1), .val (.int p2), .val (.int v1), .val (.int v2), .val (.ref b4), .val (.int p2.toInt8.toInt32), .unset, .unset, .unset, .unset, .unset, .unset, .unset, .unset, .unset, .unset] [(.int p2.toInt8.toInt32), (.int (v1 - (1 : Int32))), (.ref b4)])) (fun t k => XS.iload X4.here hx rfl (hb hby at_37) rfl k) ?_
    have O7 := f5
    obtain ⟨c7, Ar7, S7, M7, V7⟩ := O7
    obtain ⟨T7, h7, X7, e7, W7, st7⟩ := stB X4 hx hZ e4 Ar7 (j := (v1 - (1 : Int32))) (own_in S7 (own_last (by have q := hc6; rw [own_lt32] at q; have q' : (0 : Int) < v1.toInt := q; omega))) (g := (mkF m 39 #[.val (.int p0), .val (.int p1), .val (.int p2), .val (.int v1), .val (.int v2), .val (.ref b4), .val (.int p2.toInt8.toInt32), .unset, .unset, .unset, .unset, .unset, .unset, .unset, .unset, .unset, .unset] [(.int p2.toInt8.toInt32), (.int (v1 - (1 : Int32))), (.ref b4)])) rfl rfl (hb hby at_39)
    refine own_st st7 ?_
    have Z7 : n0 ≤ h7.size := Nat.le_trans Z4 (Keep.of_wr W7).1
    have N7 := Fr.snoc X7 N0 G_b4
    have f8 : own_A Z h7 b4 .byte v1.toNatClampNeg (own_up (fun _ => (.int (0 : Int32))) (v1.toNatClampNeg - 1) (.int (nar .byte p2.toInt8.toInt32))) := own_A.set ⟨c7, Ar7, S7, M7, V7⟩ (own_last (by have q := hc6; rw [own_lt32] at q; have q' : (0 : Int) < v1.toInt := q; omega)) W7
    show own_Go p.tables e below _ (T7.setTop (mkF m 40 #[.val (.int p0), .val (.int p1), .val (.int p2), .val (.int v1), .val (.int v2), .val (.ref b4), .val (.int p2.toInt8.toInt32), .unset, .unset, .unset, .unset, .unset, .unset, .unset, .unset, .unset, .unset] []))
    refine own_st (S' := T7.setTop (mkF m 43 #[.val (.int p0), .val (.int p1), .val (.int p2), .val (.int v1), .val (.int v2), .val (.ref b4), .val (.int p2.toInt8.toInt32), .unset, .unset, .unset, .unset, .unset, .unset, .unset, .unset, .unset, .unset] [(.long (5 : Int64))])) (fun t k => X7.ldc2Long hx hown (mvT hZ (hw _ (List.mem_of_getElem? (i := 1) rfl))) (g := (mkF m 40 #[.val (.int p0), .val (.int p1), .val (.int p2), .val (.int v1), .val (.int v2), .val (.ref b4), .val (.int p2.toInt8.toInt32), .unset, .unset, .unset, .unset, .unset, .unset, .unset, .unset, .unset, .unset] [])) rfl (hb hby at_40) _ k) ?_
    refine own_st (S' := T7.setTop (mkF m 45 #[.val (.int p0), .val (.int p1), .val (.int p2), .val (.int v1), .val (.int v2), .val (.ref b4), .val (.int p2.toInt8.toInt32), .val (.long (5 : Int64)), .second, .unset, .unset, .unset, .unset, .unset, .unset, .unset, .unset] [])) (fun t k => XS.lstore X7.here hx rfl (hb hby at_43) rfl (l' := #[.val (.int p0), .val (.int p1), .val (.int p2), .val (.int v1), .val (.int v2), .val (.ref b4), .val (.int p2.toInt8.toInt32), .val (.long (5 : Int64)), .second, .unset, .unset, .unset, .unset, .unset, .unset, .unset, .unset]) rfl k) ?_
    refine own_st (S' := T7.setTop (mkF m 46 #[.val (.int p0), .val (.int p1), .val (.int p2), .val (.int v1), .val (.int v2), .val (.ref b4), .val (.int p2.toInt8.toInt32), .val (.long (5 : Int64)), .second, .unset, .unset, .unset, .unset, .unset, .unset, .unset, .unset] [(.long (1 : Int64))])) (fun t k => XS.lconst X7.here hx rfl (hb hby at_45) k) ?_
    refine own_st (S' := T7.setTop (mkF m 48 #[.val (.int p0), .val (.int p1), .val (.int p2), .val (.int v1), .val (.int v2), .val (.ref b4), .val (.int p2.toInt8.toInt32), .val (.long (5 : Int64)), .second, .val (.long (1 : Int64)), .second, .unset, .unset, .unset, .unset, .unset, .unset] [])) (fun t k => XS.lstore X7.here hx rfl (hb hby at_46) rfl (l' := #[.val (.int p0), .val (.int p1), .val (.int p2), .val (.int v1), .val (.int v2), .val (.ref b4), .val (.int p2.toInt8.toInt32), .val (.long (5 : Int64)), .second, .val (.long (1 : Int64)), .second, .unset, .unset, .unset, .unset, .unset, .unset]) rfl k) ?_
    refine own_st (S' := T7.setTop (mkF m 51 #[.val (.int p0), .val (.int p1), .val (.int p2), .val (.int v1), .val (.int v2), .val (.ref b4), .val (.int p2.toInt8.toInt32), .val (.long (5 : Int64)), .second, .val (.long (1 : Int64)), .second, .unset, .unset, .unset, .unset, .unset, .unset] [(.long (4 : Int64))])) (fun t k => X7.ldc2Long hx hown (mvT hZ (hw _ (List.mem_of_getElem? (i := 2) rfl))) (g := (mkF m 48 #[.val (.int p0), .val (.int p1), .val (.int p2), .val (.int v1), .val (.int v2), .val (.ref b4), .val (.int p2.toInt8.toInt32), .val (.long (5 : Int64)), .second, .val (.long (1 : Int64)), .second, .unset, .unset, .unset, .unset, .unset, .unset] [])) rfl (hb hby at_48) _ k) ?_
    refine own_st (S' := T7.setTop (mkF m 53 #[.val (.int p0), .val (.int p1), .val (.int p2), .val (.int v1), .val (.int v2), .val (.ref b4), .val (.int p2.toInt8.toInt32), .val (.long (5 : Int64)), .second, .val (.long (1 : Int64)), .second, .unset, .unset, .unset, .unset, .unset, .unset] [(.int v2), (.long (4 : Int64))])) (fun t k => XS.iload X7.here hx rfl (hb hby at_51) rfl k) ?_
    refine own_st (S' := T7.setTop (mkF m 54 #[.val (.int p0), .val (.int p1), .val (.int p2), .val (.int v1), .val (.int v2), .val (.ref b4), .val (.int p2.toInt8.toInt32), .val (.long (5 : Int64)), .second, .val (.long (1 : Int64)), .second, .unset, .unset, .unset, .unset, .unset, .unset] [(.long v2.toInt64), (.long (4 : Int64))])) (fun t k => XS.i2l X7.here hx rfl (hb hby at_53) rfl k) ?_
    refine own_st (S' := T7.setTop (mkF m 55 #[.val (.int p0), .val (.int p1), .val (.int p2), .val (.int v1), .val (.int v2), .val (.ref b4), .val (.int p2.toInt8.toInt32), .val (.long (5 : Int64)), .second, .val (.long (1 : Int64)), .second, .unset, .unset, .unset, .unset, .unset, .unset] [(.long ((4 : Int64) * v2.toInt64))])) (fun t k => XS.lmul X7.here hx rfl (hb hby at_54) rfl k) ?_
    obtain ⟨v9, qv9⟩ : ∃ z : Int64, z = ((4 : Int64) * v2.toInt64) := ⟨_, rfl⟩
    show own_Go p.tables e below _ (T7.setTop (mkF m 55 #[.val (.int p0), .val (.int p1), .val (.int p2), .val (.int v1), .val (.int v2), .val (.ref b4), .val (.int p2.toInt8.toInt32), .val (.long (5 : Int64)), .second, .val (.long (1 : Int64)), .second, .unset, .unset, .unset, .unset, .unset, .unset] [(.long ((4 : Int64) * v2.toInt64))]))
    rw [← qv9]
    refine own_st (S' := T7.setTop (mkF m 57 #[.val (.int p0), .val (.int p1), .val (.int p2), .val (.int v1), .val (.int v2), .val (.ref b4), .val (.int p2.toInt8.toInt32), .val (.long (5 : Int64)), .second, .val (.long (1 : Int64)), .second, .val (.long v9), .second, .unset, .unset, .unset, .unset] [])) (fun t k => XS.lstore X7.here hx rfl (hb hby at_55) rfl (l' := #[.val (.int p0), .val (.int p1), .val (.int p2), .val (.int v1), .val (.int v2), .val (.ref b4), .val (.int p2.toInt8.toInt32), .val (.long (5 : Int64)), .second, .val (.long (1 : Int64)), .second, .val (.long v9), .second, .unset, .unset, .unset, .unset]) rfl k) ?_
    refine own_st (S' := T7.setTop (mkF m 59 #[.val (.int p0), .val (.int p1), .val (.int p2), .val (.int v1), .val (.int v2), .val (.ref b4), .val (.int p2.toInt8.toInt32), .val (.long (5 : Int64)), .second, .val (.long (1 : Int64)), .second, .val (.long v9), .second, .unset, .unset, .unset, .unset] [(.long (5 : Int64))])) (fun t k => XS.lload X7.here hx rfl (hb hby at_57) rfl k) ?_
    refine own_st (S' := T7.setTop (mkF m 61 #[.val (.int p0), .val (.int p1), .val (.int p2), .val (.int v1), .val (.int v2), .val (.ref b4), .val (.int p2.toInt8.toInt32), .val (.long (5 : Int64)), .second, .val (.long (1 : Int64)), .second, .val (.long v9), .second, .unset, .unset, .unset, .unset] [(.long (1 : Int64)), (.long (5 : Int64))])) (fun t k => XS.lload X7.here hx rfl (hb hby at_59) rfl k) ?_
    refine own_st (S' := T7.setTop (mkF m 62 #[.val (.int p0), .val (.int p1), .val (.int p2), .val (.int v1), .val (.int v2), .val (.ref b4), .val (.int p2.toInt8.toInt32), .val (.long (5 : Int64)), .second, .val (.long (1 : Int64)), .second, .val (.long v9), .second, .unset, .unset, .unset, .unset] [(.long (6 : Int64))])) (fun t k => XS.ladd X7.here hx rfl (hb hby at_61) rfl k) ?_
    refine own_st (S' := T7.setTop (mkF m 64 #[.val (.int p0), .val (.int p1), .val (.int p2), .val (.int v1), .val (.int v2), .val (.ref b4), .val (.int p2.toInt8.toInt32), .val (.long (5 : Int64)), .second, .val (.long (1 : Int64)), .second, .val (.long v9), .second, .unset, .unset, .unset, .unset] [(.long v9), (.long (6 : Int64))])) (fun t k => XS.lload X7.here hx rfl (hb hby at_62) rfl k) ?_
    refine own_st (S' := T7.setTop (mkF m 65 #[.val (.int p0), .val (.int p1), .val (.int p2), .val (.int v1), .val (.int v2), .val (.ref b4), .val (.int p2.toInt8.toInt32), .val (.long (5 : Int64)), .second, .val (.long (1 : Int64)), .second, .val (.long v9), .second, .unset, .unset, .unset, .unset] [(.long ((6 : Int64) + v9))])) (fun t k => XS.ladd X7.here hx rfl (hb hby at_64) rfl k) ?_
    obtain ⟨v10, qv10⟩ : ∃ z : Int64, z = ((6 : Int64) + v9) := ⟨_, rfl⟩
    show own_Go p.tables e below _ (T7.setTop (mkF m 65 #[.val (.int p0), .val (.int p1), .val (.int p2), .val (.int v1), .val (.int v2), .val (.ref b4), .val (.int p2.toInt8.toInt32), .val (.long (5 : Int64)), .second, .val (.long (1 : Int64)), .second, .val (.long v9), .second, .unset, .unset, .unset, .unset] [(.long ((6 : Int64) + v9))]))
    rw [← qv10]
    refine own_st (S' := T7.setTop (mkF m 67 #[.val (.int p0), .val (.int p1), .val (.int p2), .val (.int v1), .val (.int v2), .val (.ref b4), .val (.int p2.toInt8.toInt32), .val (.long (5 : Int64)), .second, .val (.long (1 : Int64)), .second, .val (.long v9), .second, .val (.long v10), .second, .unset, .unset] [])) (fun t k => XS.lstore X7.here hx rfl (hb hby at_65) rfl (l' := #[.val (.int p0), .val (.int p1), .val (.int p2), .val (.int v1), .val (.int v2), .val (.ref b4), .val (.int p2.toInt8.toInt32), .val (.long (5 : Int64)), .second, .val (.long (1 : Int64)), .second, .val (.long v9), .second, .val (.long v10), .second, .unset, .unset]) rfl k) ?_
    have hv7 : v10 = ((6 : Int64) + (v2.toInt64 * (4 : Int64))) := by rw [qv10, qv9]; exact own_v7 hp4
    refine own_st (S' := T7.setTop (mkF m 69 #[.val (.int p0), .val (.int p1), .val (.int p2), .val (.int v1), .val (.int v2), .val (.ref b4), .val (.int p2.toInt8.toInt32), .val (.long (5 : Int64)), .second, .val (.long (1 : Int64)), .second, .val (.long v9), .second, .val (.long v10), .second, .unset, .unset] [(.ref b4)])) (fun t k => XS.aload X7.here hx rfl (hb hby at_67) rfl rfl k) ?_
    refine own_st (S' := T7.setTop (mkF m 71 #[.val (.int p0), .val (.int p1), .val (.int p2), .val (.int v1), .val (.int v2), .val (.ref b4), .val (.int p2.toInt8.toInt32), .val (.long (5 : Int64)), .second, .val (.long (1 : Int64)), .second, .val (.long v9), .second, .val (.long v10), .second, .unset, .unset] [(.int v2), (.ref b4)])) (fun t k => XS.iload X7.here hx rfl (hb hby at_69) rfl k) ?_
    by_cases hc11 : v1.toInt64 < v10
    · show own_Go p.tables e below _ (T7.setTop (mkF m 71 #[.val (.int p0), .val (.int p1), .val (.int p2), .val (.int v1), .val (.int v2), .val (.ref b4), .val (.int p2.toInt8.toInt32), .val (.long (5 : Int64)), .second, .val (.long (1 : Int64)), .second, .val (.long v9), .second, .val (.long v10), .second, .unset, .unset] [(.int v2), (.ref b4)]))
      obtain ⟨_, _, ⟨T12, L12, k12, n12⟩, -, X12, ⟨Lc12, hQ12, l12, y12, z12⟩, st12⟩ := Jvm.LawKit.callS X7 hx (y := (⟨"com/example/tokenwise/tokenwise/semantics/StateCodec", "room", "([BI)[B"⟩ : MethodName)) hown (mvT hZ (hw _ (List.mem_of_getElem? (i := 3) rfl))) (mvT hZ (hw _ (List.mem_of_getElem? (i := 4) rfl))) (mvT hZ (hw _ (List.mem_of_getElem? (i := 5) rfl))) (mvT hZ (hw _ (List.mem_of_getElem? (i := 6) rfl))) (by decide) (backOf (W := 0) (rm2 l Z a0 hw [] b4 v2 (own_up (fun _ => (.int (0 : Int32))) (v1.toNatClampNeg - 1) (.int (nar .byte p2.toInt8.toInt32))) v1 h7 n0 Z7 f8 hz3 (by rw [← hv7]; exact hc11) hp4) hZ (hw _ (List.mem_of_getElem? (i := 6) rfl)) (hw _ (List.mem_of_getElem? (i := 5) rfl)) (by decide) (by decide)) (g := (mkF m 71 #[.val (.int p0), .val (.int p1), .val (.int p2), .val (.int v1), .val (.int v2), .val (.ref b4), .val (.int p2.toInt8.toInt32), .val (.long (5 : Int64)), .second, .val (.long (1 : Int64)), .second, .val (.long v9), .second, .val (.long v10), .second, .unset, .unset] [(.int v2), (.ref b4)])) rfl (by rw [hml]; rfl) (argsL := [(.ref b4), (.int v2)]) (rest := []) (lenOf pd0_0 rfl) rfl (by show 2 * 0 + _ ≤ _; exact Nat.le_of_eq rfl) (hb hby at_71) (fun _ _ => ⟨rfl, e7, (by decide : 1 + 1 ≤ _), (by decide : 127 + 130 ≤ _)⟩)
      dsimp only [Pt.U, Pt.locs, Pt.cells, Pt.slots] at X12 l12 y12 z12 st12 hQ12
      subst l12 y12 z12
      obtain ⟨nb12, rfl, N12q, Kq12, sq_nb12, g0_12⟩ := hQ12
      have G_nb12 : n0 ≤ nb12 := Nat.le_trans Z7 sq_nb12
      have ne_b4_nb12 : b4 ≠ nb12 := Nat.ne_of_lt (Nat.lt_of_lt_of_le f8.lt sq_nb12)
      have f13 : own_A Z T12.heap b4 .byte v1.toNatClampNeg (own_up (fun _ => (.int (0 : Int32))) (v1.toNatClampNeg - 1) (.int (nar .byte p2.toInt8.toInt32))) := f8.keep Kq12 nin0
      have Z12 : n0 ≤ T12.heap.size := Nat.le_trans Z7 Kq12.1
      have N12 := Fr.app N7 N12q
      refine own_st st12 ?_
      show own_Go p.tables e below _ (T12.setTop (mkF m 74 #[.val (.int p0), .val (.int p1), .val (.int p2), .val (.int v1), .val (.int v2), .val (.ref b4), .val (.int p2.toInt8.toInt32), .val (.long (5 : Int64)), .second, .val (.long (1 : Int64)), .second, .val (.long v9), .second, .val (.long v10), .second, .unset, .unset] [(.ref nb12)]))
      have hr7 := own_rm hz3 (show v1.toInt64 < ((6 : Int64) + (v2.toInt64 * (4 : Int64))) by rw [← hv7]; exact hc11) hp4
      have hr8 : 1 ≤ (((6 : Int64) + (v2.toInt64 * (4 : Int64))).toInt32).toInt := by omega
      refine own_st (S' := T12.setTop (mkF m 76 #[.val (.int p0), .val (.int p1), .val (.int p2), .val (.int v1), .val (.int v2), .val (.ref b4), .val (.int p2.toInt8.toInt32), .val (.long (5 : Int64)), .second, .val (.long (1 : Int64)), .second, .val (.long v9), .second, .val (.long v10), .second, .val (.ref nb12), .unset] [])) (fun t k => XS.astore X12.here hx rfl (hb hby at_74) rfl rfl (l' := #[.val (.int p0), .val (.int p1), .val (.int p2), .val (.int v1), .val (.int v2), .val (.ref b4), .val (.int p2.toInt8.toInt32), .val (.long (5 : Int64)), .second, .val (.long (1 : Int64)), .second, .val (.long v9), .second, .val (.long v10), .second, .val (.ref nb12), .unset]) rfl k) ?_
      refine own_st (S' := T12.setTop (mkF m 78 #[.val (.int p0), .val (.int p1), .val (.int p2), .val (.int v1), .val (.int v2), .val (.ref b4), .val (.int p2.toInt8.toInt32), .val (.long (5 : Int64)), .second, .val (.long (1 : Int64)), .second, .val (.long v9), .second, .val (.long v10), .second, .val (.ref nb12), .unset] [(.long v10)])) (fun t k => XS.lload X12.here hx rfl (hb hby at_76) rfl k) ?_
      refine own_st (S' := T12.setTop (mkF m 79 #[.val (.int p0), .val (.int p1), .val (.int p2), .val (.int v1), .val (.int v2), .val (.ref b4), .val (.int p2.toInt8.toInt32), .val (.long (5 : Int64)), .second, .val (.long (1 : Int64)), .second, .val (.long v9), .second, .val (.long v10), .second, .val (.ref nb12), .unset] [(.int v1), (.long v10)])) (fun t k => XS.iloadN X12.here hx rfl (hb hby at_78) rfl k) ?_
      refine own_st (S' := T12.setTop (mkF m 80 #[.val (.int p0), .val (.int p1), .val (.int p2), .val (.int v1), .val (.int v2), .val (.ref b4), .val (.int p2.toInt8.toInt32), .val (.long (5 : Int64)), .second, .val (.long (1 : Int64)), .second, .val (.long v9), .second, .val (.long v10), .second, .val (.ref nb12), .unset] [(.long v1.toInt64), (.long v10)])) (fun t k => XS.i2l X12.here hx rfl (hb hby at_79) rfl k) ?_
      refine own_st (S' := T12.setTop (mkF m 81 #[.val (.int p0), .val (.int p1), .val (.int p2), .val (.int v1), .val (.int v2), .val (.ref b4), .val (.int p2.toInt8.toInt32), .val (.long (5 : Int64)), .second, .val (.long (1 : Int64)), .second, .val (.long v9), .second, .val (.long v10), .second, .val (.ref nb12), .unset] [(.int (lcmpW v10 v1.toInt64))])) (fun t k => XS.lcmp X12.here hx rfl (hb hby at_80) rfl k) ?_
      refine own_st (S' := T12.setTop (mkF m 112 #[.val (.int p0), .val (.int p1), .val (.int p2), .val (.int v1), .val (.int v2), .val (.ref b4), .val (.int p2.toInt8.toInt32), .val (.long (5 : Int64)), .second, .val (.long (1 : Int64)), .second, .val (.long v9), .second, .val (.long v10), .second, .val (.ref nb12), .unset] [])) (fun t k => XS.ifYes X12.here hx rfl (pc0 := 81) (pc' := 112) rfl (hb hby at_81) rfl ((if0 _ _).trans (tlt ((lw_gt _ _).mpr hc11)).2.2.1) (by decide) (by decide) k) ?_
      show own_Go p.tables e below _ (T12.setTop (mkF m 112 #[.val (.int p0), .val (.int p1), .val (.int p2), .val (.int v1), .val (.int v2), .val (.ref b4), .val (.int p2.toInt8.toInt32), .val (.long (5 : Int64)), .second, .val (.long (1 : Int64)), .second, .val (.long v9), .second, .val (.long v10), .second, .val (.ref nb12), .unset] []))
      refine own_st (S' := T12.setTop (mkF m 114 #[.val (.int p0), .val (.int p1), .val (.int p2), .val (.int v1), .val (.int v2), .val (.ref b4), .val (.int p2.toInt8.toInt32), .val (.long (5 : Int64)), .second, .val (.long (1 : Int64)), .second, .val (.long v9), .second, .val (.long v10), .second, .val (.ref nb12), .unset] [(.long v10)])) (fun t k => XS.lload X12.here hx rfl (hb hby at_112) rfl k) ?_
      refine own_st (S' := T12.setTop (mkF m 115 #[.val (.int p0), .val (.int p1), .val (.int p2), .val (.int v1), .val (.int v2), .val (.ref b4), .val (.int p2.toInt8.toInt32), .val (.long (5 : Int64)), .second, .val (.long (1 : Int64)), .second, .val (.long v9), .second, .val (.long v10), .second, .val (.ref nb12), .unset] [(.int v10.toInt32)])) (fun t k => XS.l2i X12.here hx rfl (hb hby at_114) rfl k) ?_
      refine own_st (S' := T12.setTop (mkF m 117 #[.val (.int p0), .val (.int p1), .val (.int p2), .val (.int v1), .val (.int v2), .val (.ref b4), .val (.int p2.toInt8.toInt32), .val (.long (5 : Int64)), .second, .val (.long (1 : Int64)), .second, .val (.long v9), .second, .val (.long v10), .second, .val (.ref nb12), .val (.int v10.toInt32)] [])) (fun t k => XS.istore X12.here hx rfl (hb hby at_115) rfl (l' := #[.val (.int p0), .val (.int p1), .val (.int p2), .val (.int v1), .val (.int v2), .val (.ref b4), .val (.int p2.toInt8.toInt32), .val (.long (5 : Int64)), .second, .val (.long (1 : Int64)), .second, .val (.long v9), .second, .val (.long v10), .second, .val (.ref nb12), .val (.int v10.toInt32)]) rfl k) ?_
      refine own_st (S' := T12.setTop (mkF m 119 #[.val (.int p0), .val (.int p1), .val (.int p2), .val (.int v1), .val (.int v2), .val (.ref b4), .val (.int p2.toInt8.toInt32), .val (.long (5 : Int64)), .second, .val (.long (1 : Int64)), .second, .val (.long v9), .second, .val (.long v10), .second, .val (.ref nb12), .val (.int v10.toInt32)] [(.ref nb12)])) (fun t k => XS.aload X12.here hx rfl (hb hby at_117) rfl rfl k) ?_
      refine own_st (S' := T12.setTop (mkF m 121 #[.val (.int p0), .val (.int p1), .val (.int p2), .val (.int v1), .val (.int v2), .val (.ref b4), .val (.int p2.toInt8.toInt32), .val (.long (5 : Int64)), .second, .val (.long (1 : Int64)), .second, .val (.long v9), .second, .val (.long v10), .second, .val (.ref nb12), .val (.int v10.toInt32)] [(.ref b4), (.ref nb12)])) (fun t k => XS.aload X12.here hx rfl (hb hby at_119) rfl rfl k) ?_
      have hc14 : ¬ (nb12 = b4) := Ne.symm ne_b4_nb12
      refine own_st (S' := T12.setTop (mkF m 124 #[.val (.int p0), .val (.int p1), .val (.int p2), .val (.int v1), .val (.int v2), .val (.ref b4), .val (.int p2.toInt8.toInt32), .val (.long (5 : Int64)), .second, .val (.long (1 : Int64)), .second, .val (.long v9), .second, .val (.long v10), .second, .val (.ref nb12), .val (.int v10.toInt32)] [])) (fun t k => Jvm.RoadKit.acmp (g := (mkF m 121 #[.val (.int p0), .val (.int p1), .val (.int p2), .val (.int v1), .val (.int v2), .val (.ref b4), .val (.int p2.toInt8.toInt32), .val (.long (5 : Int64)), .second, .val (.long (1 : Int64)), .second, .val (.long v9), .second, .val (.long v10), .second, .val (.ref nb12), .val (.int v10.toInt32)] [(.ref b4), (.ref nb12)])) X12 hx rfl rfl rfl (pc0 := 121) (pc' := 124) (same := false) rfl (hb hby at_121) rfl (decide_eq_false fun q => hc14 (Value.ref.inj q)) (by decide) (by decide) k) ?_
      show own_Go p.tables e below _ (T12.setTop (mkF m 124 #[.val (.int p0), .val (.int p1), .val (.int p2), .val (.int v1), .val (.int v2), .val (.ref b4), .val (.int p2.toInt8.toInt32), .val (.long (5 : Int64)), .second, .val (.long (1 : Int64)), .second, .val (.long v9), .second, .val (.long v10), .second, .val (.ref nb12), .val (.int v10.toInt32)] []))
      refine own_st (S' := T12.setTop (mkF m 126 #[.val (.int p0), .val (.int p1), .val (.int p2), .val (.int v1), .val (.int v2), .val (.ref b4), .val (.int p2.toInt8.toInt32), .val (.long (5 : Int64)), .second, .val (.long (1 : Int64)), .second, .val (.long v9), .second, .val (.long v10), .second, .val (.ref nb12), .val (.int v10.toInt32)] [(.ref nb12)])) (fun t k => XS.aload X12.here hx rfl (hb hby at_124) rfl rfl k) ?_
      have O15 := g0_12
      obtain ⟨c15, Ar15, S15, M15, V15⟩ := O15
      have ln15 : c15.slots.size.toInt32 = ((6 : Int64) + (v2.toInt64 * (4 : Int64))).toInt32 := by rw [S15]; first | rfl | decide | exact own_len (own_neg (by omega))
      refine own_st (S' := T12.setTop (mkF m 127 #[.val (.int p0), .val (.int p1), .val (.int p2), .val (.int v1), .val (.int v2), .val (.ref b4), .val (.int p2.toInt8.toInt32), .val (.long (5 : Int64)), .second, .val (.long (1 : Int64)), .second, .val (.long v9), .second, .val (.long v10), .second, .val (.ref nb12), .val (.int v10.toInt32)] [(.int ((6 : Int64) + (v2.toInt64 * (4 : Int64))).toInt32)])) (fun t k => X12.arraylength hx Ar15.1 (State.isArrayOf_alike hZ.alike Ar15.2.1) (g := (mkF m 126 #[.val (.int p0), .val (.int p1), .val (.int p2), .val (.int v1), .val (.int v2), .val (.ref b4), .val (.int p2.toInt8.toInt32), .val (.long (5 : Int64)), .second, .val (.long (1 : Int64)), .second, .val (.long v9), .second, .val (.long v10), .second, .val (.ref nb12), .val (.int v10.toInt32)] [(.ref nb12)])) rfl rfl (hb hby at_126) _ (by rw [ln15]; exact k)) ?_
      refine own_st (S' := T12.setTop (mkF m 129 #[.val (.int p0), .val (.int p1), .val (.int p2), .val (.int v1), .val (.int v2), .val (.ref b4), .val (.int p2.toInt8.toInt32), .val (.long (5 : Int64)), .second, .val (.long (1 : Int64)), .second, .val (.long v9), .second, .val (.long v10), .second, .val (.ref nb12), .val (.int v10.toInt32)] [(.int v10.toInt32), (.int ((6 : Int64) + (v2.toInt64 * (4 : Int64))).toInt32)])) (fun t k => XS.iload X12.here hx rfl (hb hby at_127) rfl k) ?_
      have hc16 : ((6 : Int64) + (v2.toInt64 * (4 : Int64))).toInt32 = v10.toInt32 := by rw [hv7]
      refine own_st (S' := T12.setTop (mkF m 132 #[.val (.int p0), .val (.int p1), .val (.int p2), .val (.int v1), .val (.int v2), .val (.ref b4), .val (.int p2.toInt8.toInt32), .val (.long (5 : Int64)), .second, .val (.long (1 : Int64)), .second, .val (.long v9), .second, .val (.long v10), .second, .val (.ref nb12), .val (.int v10.toInt32)] [])) (fun t k => XS.icmpNo X12.here hx rfl (hb hby at_129) rfl (teq hc16).2 k) ?_
      show own_Go p.tables e below _ (T12.setTop (mkF m 132 #[.val (.int p0), .val (.int p1), .val (.int p2), .val (.int v1), .val (.int v2), .val (.ref b4), .val (.int p2.toInt8.toInt32), .val (.long (5 : Int64)), .second, .val (.long (1 : Int64)), .second, .val (.long v9), .second, .val (.long v10), .second, .val (.ref nb12), .val (.int v10.toInt32)] []))
      refine own_st (S' := T12.setTop (mkF m 134 #[.val (.int p0), .val (.int p1), .val (.int p2), .val (.int v1), .val (.int v2), .val (.ref b4), .val (.int p2.toInt8.toInt32), .val (.long (5 : Int64)), .second, .val (.long (1 : Int64)), .second, .val (.long v9), .second, .val (.long v10), .second, .val (.ref nb12), .val (.int v10.toInt32)] [(.ref nb12)])) (fun t k => XS.aload X12.here hx rfl (hb hby at_132) rfl rfl k) ?_
      refine own_st (S' := T12.setTop (mkF m 135 #[.val (.int p0), .val (.int p1), .val (.int p2), .val (.int v1), .val (.int v2), .val (.ref b4), .val (.int p2.toInt8.toInt32), .val (.long (5 : Int64)), .second, .val (.long (1 : Int64)), .second, .val (.long v9), .second, .val (.long v10), .second, .val (.ref nb12), .val (.int v10.toInt32)] [(.int (0 : Int32)), (.ref nb12)])) (fun t k => XS.iconst X12.here hx rfl (hb hby at_134) k) ?_
      have O17 := g0_12
      obtain ⟨c17, Ar17, S17, M17, V17⟩ := O17
      have at17 : c17.slots[((0 : Int32)).toNatClampNeg]? = some (.int (0 : Int32)) := own_at S17 V17 (own_first hr8) rfl
      refine own_st (S' := T12.setTop (mkF m 136 #[.val (.int p0), .val (.int p1), .val (.int p2), .val (.int v1), .val (.int v2), .val (.ref b4), .val (.int p2.toInt8.toInt32), .val (.long (5 : Int64)), .second, .val (.long (1 : Int64)), .second, .val (.long v9), .second, .val (.long v10), .second, .val (.ref nb12), .val (.int v10.toInt32)] [(.int (0 : Int32))])) (fun t k => X12.baloadBytes hx (j := (0 : Int32)) (v := (.int (0 : Int32))) Ar17.1 (State.isArrayOf_alike hZ.alike Ar17.2.1) Ar17.2.2 (own_in S17 (own_first hr8)) at17 (g := (mkF m 135 #[.val (.int p0), .val (.int p1), .val (.int p2), .val (.int v1), .val (.int v2), .val (.ref b4), .val (.int p2.toInt8.toInt32), .val (.long (5 : Int64)), .second, .val (.long (1 : Int64)), .second, .val (.long v9), .second, .val (.long v10), .second, .val (.ref nb12), .val (.int v10.toInt32)] [(.int (0 : Int32)), (.ref nb12)])) rfl rfl (hb hby at_135) _ k) ?_
      refine own_st (S' := T12.setTop (mkF m 139 #[.val (.int p0), .val (.int p1), .val (.int p2), .val (.int v1), .val (.int v2), .val (.ref b4), .val (.int p2.toInt8.toInt32), .val (.long (5 : Int64)), .second, .val (.long (1 : Int64)), .second, .val (.long v9), .second, .val (.long v10), .second, .val (.ref nb12), .val (.int v10.toInt32)] [])) (fun t k => XS.ifNo X12.here hx rfl (hb hby at_136) rfl ((if0 _ _).trans (teq (by decide)).2) k) ?_
      show own_Go p.tables e below _ (T12.setTop (mkF m 139 #[.val (.int p0), .val (.int p1), .val (.int p2), .val (.int v1), .val (.int v2), .val (.ref b4), .val (.int p2.toInt8.toInt32), .val (.long (5 : Int64)), .second, .val (.long (1 : Int64)), .second, .val (.long v9), .second, .val (.long v10), .second, .val (.ref nb12), .val (.int v10.toInt32)] []))
      refine own_st (S' := T12.setTop (mkF m 141 #[.val (.int p0), .val (.int p1), .val (.int p2), .val (.int v1), .val (.int v2), .val (.ref b4), .val (.int p2.toInt8.toInt32), .val (.long (5 : Int64)), .second, .val (.long (1 : Int64)), .second, .val (.long v9), .second, .val (.long v10), .second, .val (.ref nb12), .val (.int v10.toInt32)] [(.ref nb12)])) (fun t k => XS.aload X12.here hx rfl (hb hby at_139) rfl rfl k) ?_
      refine own_st (S' := T12.setTop (mkF m 143 #[.val (.int p0), .val (.int p1), .val (.int p2), .val (.int v1), .val (.int v2), .val (.ref b4), .val (.int p2.toInt8.toInt32), .val (.long (5 : Int64)), .second, .val (.long (1 : Int64)), .second, .val (.long v9), .second, .val (.long v10), .second, .val (.ref nb12), .val (.int v10.toInt32)] [(.int v10.toInt32), (.ref nb12)])) (fun t k => XS.iload X12.here hx rfl (hb hby at_141) rfl k) ?_
      refine own_st (S' := T12.setTop (mkF m 144 #[.val (.int p0), .val (.int p1), .val (.int p2), .val (.int v1), .val (.int v2), .val (.ref b4), .val (.int p2.toInt8.toInt32), .val (.long (5 : Int64)), .second, .val (.long (1 : Int64)), .second, .val (.long v9), .second, .val (.long v10), .second, .val (.ref nb12), .val (.int v10.toInt32)] [(.int (1 : Int32)), (.int v10.toInt32), (.ref nb12)])) (fun t k => XS.iconst X12.here hx rfl (hb hby at_143) k) ?_
      refine own_st (S' := T12.setTop (mkF m 145 #[.val (.int p0), .val (.int p1), .val (.int p2), .val (.int v1), .val (.int v2), .val (.ref b4), .val (.int p2.toInt8.toInt32), .val (.long (5 : Int64)), .second, .val (.long (1 : Int64)), .second, .val (.long v9), .second, .val (.long v10), .second, .val (.ref nb12), .val (.int v10.toInt32)] [(.int (v10.toInt32 - (1 : Int32))), (.ref nb12)])) (fun t k => XS.isub X12.here hx rfl (hb hby at_144) rfl k) ?_
      have O18 := g0_12
      obtain ⟨c18, Ar18, S18, M18, V18⟩ := O18
      have at18 : c18.slots[((v10.toInt32 - (1 : Int32))).toNatClampNeg]? = some (.int (0 : Int32)) := own_at S18 V18 (by rw [hv7]; exact own_last hr8) rfl
      refine own_st (S' := T12.setTop (mkF m 146 #[.val (.int p0), .val (.int p1), .val (.int p2), .val (.int v1), .val (.int v2), .val (.ref b4), .val (.int p2.toInt8.toInt32), .val (.long (5 : Int64)), .second, .val (.long (1 : Int64)), .second, .val (.long v9), .second, .val (.long v10), .second, .val (.ref nb12), .val (.int v10.toInt32)] [(.int (0 : Int32))])) (fun t k => X12.baloadBytes hx (j := (v10.toInt32 - (1 : Int32))) (v := (.int (0 : Int32))) Ar18.1 (State.isArrayOf_alike hZ.alike Ar18.2.1) Ar18.2.2 (own_in S18 (by rw [hv7]; exact own_last hr8)) at18 (g := (mkF m 145 #[.val (.int p0), .val (.int p1), .val (.int p2), .val (.int v1), .val (.int v2), .val (.ref b4), .val (.int p2.toInt8.toInt32), .val (.long (5 : Int64)), .second, .val (.long (1 : Int64)), .second, .val (.long v9), .second, .val (.long v10), .second, .val (.ref nb12), .val (.int v10.toInt32)] [(.int (v10.toInt32 - (1 : Int32))), (.ref nb12)])) rfl rfl (hb hby at_145) _ k) ?_
      refine own_st (S' := T12.setTop (mkF m 149 #[.val (.int p0), .val (.int p1), .val (.int p2), .val (.int v1), .val (.int v2), .val (.ref b4), .val (.int p2.toInt8.toInt32), .val (.long (5 : Int64)), .second, .val (.long (1 : Int64)), .second, .val (.long v9), .second, .val (.long v10), .second, .val (.ref nb12), .val (.int v10.toInt32)] [])) (fun t k => XS.ifNo X12.here hx rfl (hb hby at_146) rfl ((if0 _ _).trans (teq (by decide)).2) k) ?_
      show own_Go p.tables e below _ (T12.setTop (mkF m 149 #[.val (.int p0), .val (.int p1), .val (.int p2), .val (.int v1), .val (.int v2), .val (.ref b4), .val (.int p2.toInt8.toInt32), .val (.long (5 : Int64)), .second, .val (.long (1 : Int64)), .second, .val (.long v9), .second, .val (.long v10), .second, .val (.ref nb12), .val (.int v10.toInt32)] []))
      refine own_st (S' := T12.setTop (mkF m 150 #[.val (.int p0), .val (.int p1), .val (.int p2), .val (.int v1), .val (.int v2), .val (.ref b4), .val (.int p2.toInt8.toInt32), .val (.long (5 : Int64)), .second, .val (.long (1 : Int64)), .second, .val (.long v9), .second, .val (.long v10), .second, .val (.ref nb12), .val (.int v10.toInt32)] [(.int v1)])) (fun t k => XS.iloadN X12.here hx rfl (hb hby at_149) rfl k) ?_
      have hc19 : ¬ (v1 = (0 : Int32)) := fun q => absurd hc6 (by rw [q]; decide)
      refine own_st (S' := T12.setTop (mkF m 153 #[.val (.int p0), .val (.int p1), .val (.int p2), .val (.int v1), .val (.int v2), .val (.ref b4), .val (.int p2.toInt8.toInt32), .val (.long (5 : Int64)), .second, .val (.long (1 : Int64)), .second, .val (.long v9), .second, .val (.long v10), .second, .val (.ref nb12), .val (.int v10.toInt32)] [])) (fun t k => XS.ifNo X12.here hx rfl (hb hby at_150) rfl ((if0 _ _).trans (feq hc19).1) k) ?_
      show own_Go p.tables e below _ (T12.setTop (mkF m 153 #[.val (.int p0), .val (.int p1), .val (.int p2), .val (.int v1), .val (.int v2), .val (.ref b4), .val (.int p2.toInt8.toInt32), .val (.long (5 : Int64)), .second, .val (.long (1 : Int64)), .second, .val (.long v9), .second, .val (.long v10), .second, .val (.ref nb12), .val (.int v10.toInt32)] []))
      refine own_st (S' := T12.setTop (mkF m 155 #[.val (.int p0), .val (.int p1), .val (.int p2), .val (.int v1), .val (.int v2), .val (.ref b4), .val (.int p2.toInt8.toInt32), .val (.long (5 : Int64)), .second, .val (.long (1 : Int64)), .second, .val (.long v9), .second, .val (.long v10), .second, .val (.ref nb12), .val (.int v10.toInt32)] [(.ref b4)])) (fun t k => XS.aload X12.here hx rfl (hb hby at_153) rfl rfl k) ?_
      refine own_st (S' := T12.setTop (mkF m 156 #[.val (.int p0), .val (.int p1), .val (.int p2), .val (.int v1), .val (.int v2), .val (.ref b4), .val (.int p2.toInt8.toInt32), .val (.long (5 : Int64)), .second, .val (.long (1 : Int64)), .second, .val (.long v9), .second, .val (.long v10), .second, .val (.ref nb12), .val (.int v10.toInt32)] [(.int v1), (.ref b4)])) (fun t k => XS.iloadN X12.here hx rfl (hb hby at_155) rfl k) ?_
      refine own_st (S' := T12.setTop (mkF m 157 #[.val (.int p0), .val (.int p1), .val (.int p2), .val (.int v1), .val (.int v2), .val (.ref b4), .val (.int p2.toInt8.toInt32), .val (.long (5 : Int64)), .second, .val (.long (1 : Int64)), .second, .val (.long v9), .second, .val (.long v10), .second, .val (.ref nb12), .val (.int v10.toInt32)] [(.int (1 : Int32)), (.int v1), (.ref b4)])) (fun t k => XS.iconst X12.here hx rfl (hb hby at_156) k) ?_
      refine own_st (S' := T12.setTop (mkF m 158 #[.val (.int p0), .val (.int p1), .val (.int p2), .val (.int v1), .val (.int v2), .val (.ref b4), .val (.int p2.toInt8.toInt32), .val (.long (5 : Int64)), .second, .val (.long (1 : Int64)), .second, .val (.long v9), .second, .val (.long v10), .second, .val (.ref nb12), .val (.int v10.toInt32)] [(.int (v1 - (1 : Int32))), (.ref b4)])) (fun t k => XS.isub X12.here hx rfl (hb hby at_157) rfl k) ?_
      have O20 := f13
      obtain ⟨c20, Ar20, S20, M20, V20⟩ := O20
      have at20 : c20.slots[((v1 - (1 : Int32))).toNatClampNeg]? = some (.int p2.toInt8.toInt32) := own_at S20 V20 (own_last (by have q := hc6; rw [own_lt32] at q; have q' : (0 : Int) < v1.toInt := q; omega)) (own_mark p2 _ _)
      refine own_st (S' := T12.setTop (mkF m 159 #[.val (.int p0), .val (.int p1), .val (.int p2), .val (.int v1), .val (.int v2), .val (.ref b4), .val (.int p2.toInt8.toInt32), .val (.long (5 : Int64)), .second, .val (.long (1 : Int64)), .second, .val (.long v9), .second, .val (.long v10), .second, .val (.ref nb12), .val (.int v10.toInt32)] [(.int p2.toInt8.toInt32)])) (fun t k => X12.baloadBytes hx (j := (v1 - (1 : Int32))) (v := (.int p2.toInt8.toInt32)) Ar20.1 (State.isArrayOf_alike hZ.alike Ar20.2.1) Ar20.2.2 (own_in S20 (own_last (by have q := hc6; rw [own_lt32] at q; have q' : (0 : Int) < v1.toInt := q; omega))) at20 (g := (mkF m 158 #[.val (.int p0), .val (.int p1), .val (.int p2), .val (.int v1), .val (.int v2), .val (.ref b4), .val (.int p2.toInt8.toInt32), .val (.long (5 : Int64)), .second, .val (.long (1 : Int64)), .second, .val (.long v9), .second, .val (.long v10), .second, .val (.ref nb12), .val (.int v10.toInt32)] [(.int (v1 - (1 : Int32))), (.ref b4)])) rfl rfl (hb hby at_158) _ k) ?_
      refine own_st (S' := T12.setTop (mkF m 161 #[.val (.int p0), .val (.int p1), .val (.int p2), .val (.int v1), .val (.int v2), .val (.ref b4), .val (.int p2.toInt8.toInt32), .val (.long (5 : Int64)), .second, .val (.long (1 : Int64)), .second, .val (.long v9), .second, .val (.long v10), .second, .val (.ref nb12), .val (.int v10.toInt32)] [(.int p2.toInt8.toInt32), (.int p2.toInt8.toInt32)])) (fun t k => XS.iload X12.here hx rfl (hb hby at_159) rfl k) ?_
      have hc21 : p2.toInt8.toInt32 = p2.toInt8.toInt32 := rfl
      refine own_st (S' := T12.setTop (mkF m 164 #[.val (.int p0), .val (.int p1), .val (.int p2), .val (.int v1), .val (.int v2), .val (.ref b4), .val (.int p2.toInt8.toInt32), .val (.long (5 : Int64)), .second, .val (.long (1 : Int64)), .second, .val (.long v9), .second, .val (.long v10), .second, .val (.ref nb12), .val (.int v10.toInt32)] [])) (fun t k => XS.icmpNo X12.here hx rfl (hb hby at_161) rfl (teq hc21).2 k) ?_
      show own_Go p.tables e below _ (T12.setTop (mkF m 164 #[.val (.int p0), .val (.int p1), .val (.int p2), .val (.int v1), .val (.int v2), .val (.ref b4), .val (.int p2.toInt8.toInt32), .val (.long (5 : Int64)), .second, .val (.long (1 : Int64)), .second, .val (.long v9), .second, .val (.long v10), .second, .val (.ref nb12), .val (.int v10.toInt32)] []))
      refine own_st (S' := T12.setTop (mkF m 165 #[.val (.int p0), .val (.int p1), .val (.int p2), .val (.int v1), .val (.int v2), .val (.ref b4), .val (.int p2.toInt8.toInt32), .val (.long (5 : Int64)), .second, .val (.long (1 : Int64)), .second, .val (.long v9), .second, .val (.long v10), .second, .val (.ref nb12), .val (.int v10.toInt32)] [(.int (1 : Int32))])) (fun t k => XS.iconst X12.here hx rfl (hb hby at_164) k) ?_
      refine own_st (S' := T12.setTop (mkF m 169 #[.val (.int p0), .val (.int p1), .val (.int p2), .val (.int v1), .val (.int v2), .val (.ref b4), .val (.int p2.toInt8.toInt32), .val (.long (5 : Int64)), .second, .val (.long (1 : Int64)), .second, .val (.long v9), .second, .val (.long v10), .second, .val (.ref nb12), .val (.int v10.toInt32)] [(.int (1 : Int32))])) (fun t k => XS.goto X12.here hx rfl (pc0 := 165) (pc' := 169) rfl (hb hby at_165) (by decide) (by decide) k) ?_
      refine own_retN X12 hx (t := .boolean) hret (by simp) hlk (hb hby at_169) ?_ (by decide) (by decide)
      exact ⟨rfl, N12⟩
    · show own_Go p.tables e below _ (T7.setTop (mkF m 71 #[.val (.int p0), .val (.int p1), .val (.int p2), .val (.int v1), .val (.int v2), .val (.ref b4), .val (.int p2.toInt8.toInt32), .val (.long (5 : Int64)), .second, .val (.long (1 : Int64)), .second, .val (.long v9), .second, .val (.long v10), .second, .unset, .unset] [(.int v2), (.ref b4)]))
      obtain ⟨_, _, ⟨T22, L22, k22, n22⟩, -, X22, ⟨Lc22, hQ22, l22, y22, z22⟩, st22⟩ := Jvm.LawKit.callS X7 hx (y := (⟨"com/example/tokenwise/tokenwise/semantics/StateCodec", "room", "([BI)[B"⟩ : MethodName)) hown (mvT hZ (hw _ (List.mem_of_getElem? (i := 3) rfl))) (mvT hZ (hw _ (List.mem_of_getElem? (i := 4) rfl))) (mvT hZ (hw _ (List.mem_of_getElem? (i := 5) rfl))) (mvT hZ (hw _ (List.mem_of_getElem? (i := 6) rfl))) (by decide) (backOf (W := 0) (rm1 l Z a0 hw [] b4 v2 (own_up (fun _ => (.int (0 : Int32))) (v1.toNatClampNeg - 1) (.int (nar .byte p2.toInt8.toInt32))) v1 h7 n0 Z7 f8 hz3 (by rw [← hv7]; exact hc11)) hZ (hw _ (List.mem_of_getElem? (i := 6) rfl)) (hw _ (List.mem_of_getElem? (i := 5) rfl)) (by decide) (by decide)) (g := (mkF m 71 #[.val (.int p0), .val (.int p1), .val (.int p2), .val (.int v1), .val (.int v2), .val (.ref b4), .val (.int p2.toInt8.toInt32), .val (.long (5 : Int64)), .second, .val (.long (1 : Int64)), .second, .val (.long v9), .second, .val (.long v10), .second, .unset, .unset] [(.int v2), (.ref b4)])) rfl (by rw [hml]; rfl) (argsL := [(.ref b4), (.int v2)]) (rest := []) (lenOf pd0_0 rfl) rfl (by show 2 * 0 + _ ≤ _; exact Nat.le_of_eq rfl) (hb hby at_71) (fun _ _ => ⟨rfl, e7, (by decide : 1 + 0 ≤ _), (by decide : 127 + 0 ≤ _)⟩)
      dsimp only [Pt.U, Pt.locs, Pt.cells, Pt.slots] at X22 l22 y22 z22 st22 hQ22
      subst l22 y22 z22
      obtain ⟨rfl, N22q, hh22⟩ := hQ22
      have N22 := Fr.app N7 N22q
      refine own_st st22 ?_
      show own_Go p.tables e below _ (T22.setTop (mkF m 74 #[.val (.int p0), .val (.int p1), .val (.int p2), .val (.int v1), .val (.int v2), .val (.ref b4), .val (.int p2.toInt8.toInt32), .val (.long (5 : Int64)), .second, .val (.long (1 : Int64)), .second, .val (.long v9), .second, .val (.long v10), .second, .unset, .unset] [(.ref b4)]))
      refine own_st (S' := T22.setTop (mkF m 76 #[.val (.int p0), .val (.int p1), .val (.int p2), .val (.int v1), .val (.int v2), .val (.ref b4), .val (.int p2.toInt8.toInt32), .val (.long (5 : Int64)), .second, .val (.long (1 : Int64)), .second, .val (.long v9), .second, .val (.long v10), .second, .val (.ref b4), .unset] [])) (fun t k => XS.astore X22.here hx rfl (hb hby at_74) rfl rfl (l' := #[.val (.int p0), .val (.int p1), .val (.int p2), .val (.int v1), .val (.int v2), .val (.ref b4), .val (.int p2.toInt8.toInt32), .val (.long (5 : Int64)), .second, .val (.long (1 : Int64)), .second, .val (.long v9), .second, .val (.long v10), .second, .val (.ref b4), .unset]) rfl k) ?_
      refine own_st (S' := T22.setTop (mkF m 78 #[.val (.int p0), .val (.int p1), .val (.int p2), .val (.int v1), .val (.int v2), .val (.ref b4), .val (.int p2.toInt8.toInt32), .val (.long (5 : Int64)), .second, .val (.long (1 : Int64)), .second, .val (.long v9), .second, .val (.long v10), .second, .val (.ref b4), .unset] [(.long v10)])) (fun t k => XS.lload X22.here hx rfl (hb hby at_76) rfl k) ?_
      refine own_st (S' := T22.setTop (mkF m 79 #[.val (.int p0), .val (.int p1), .val (.int p2), .val (.int v1), .val (.int v2), .val (.ref b4), .val (.int p2.toInt8.toInt32), .val (.long (5 : Int64)), .second, .val (.long (1 : Int64)), .second, .val (.long v9), .second, .val (.long v10), .second, .val (.ref b4), .unset] [(.int v1), (.long v10)])) (fun t k => XS.iloadN X22.here hx rfl (hb hby at_78) rfl k) ?_
      refine own_st (S' := T22.setTop (mkF m 80 #[.val (.int p0), .val (.int p1), .val (.int p2), .val (.int v1), .val (.int v2), .val (.ref b4), .val (.int p2.toInt8.toInt32), .val (.long (5 : Int64)), .second, .val (.long (1 : Int64)), .second, .val (.long v9), .second, .val (.long v10), .second, .val (.ref b4), .unset] [(.long v1.toInt64), (.long v10)])) (fun t k => XS.i2l X22.here hx rfl (hb hby at_79) rfl k) ?_
      refine own_st (S' := T22.setTop (mkF m 81 #[.val (.int p0), .val (.int p1), .val (.int p2), .val (.int v1), .val (.int v2), .val (.ref b4), .val (.int p2.toInt8.toInt32), .val (.long (5 : Int64)), .second, .val (.long (1 : Int64)), .second, .val (.long v9), .second, .val (.long v10), .second, .val (.ref b4), .unset] [(.int (lcmpW v10 v1.toInt64))])) (fun t k => XS.lcmp X22.here hx rfl (hb hby at_80) rfl k) ?_
      refine own_st (S' := T22.setTop (mkF m 84 #[.val (.int p0), .val (.int p1), .val (.int p2), .val (.int v1), .val (.int v2), .val (.ref b4), .val (.int p2.toInt8.toInt32), .val (.long (5 : Int64)), .second, .val (.long (1 : Int64)), .second, .val (.long v9), .second, .val (.long v10), .second, .val (.ref b4), .unset] [])) (fun t k => XS.ifNo X22.here hx rfl (hb hby at_81) rfl ((if0 _ _).trans (flt (mt (lw_gt _ _).mp hc11)).2.2.1) k) ?_
      show own_Go p.tables e below _ (T22.setTop (mkF m 84 #[.val (.int p0), .val (.int p1), .val (.int p2), .val (.int v1), .val (.int v2), .val (.ref b4), .val (.int p2.toInt8.toInt32), .val (.long (5 : Int64)), .second, .val (.long (1 : Int64)), .second, .val (.long v9), .second, .val (.long v10), .second, .val (.ref b4), .unset] []))
      refine own_st (S' := T22.setTop (mkF m 86 #[.val (.int p0), .val (.int p1), .val (.int p2), .val (.int v1), .val (.int v2), .val (.ref b4), .val (.int p2.toInt8.toInt32), .val (.long (5 : Int64)), .second, .val (.long (1 : Int64)), .second, .val (.long v9), .second, .val (.long v10), .second, .val (.ref b4), .unset] [(.ref b4)])) (fun t k => XS.aload X22.here hx rfl (hb hby at_84) rfl rfl k) ?_
      refine own_st (S' := T22.setTop (mkF m 88 #[.val (.int p0), .val (.int p1), .val (.int p2), .val (.int v1), .val (.int v2), .val (.ref b4), .val (.int p2.toInt8.toInt32), .val (.long (5 : Int64)), .second, .val (.long (1 : Int64)), .second, .val (.long v9), .second, .val (.long v10), .second, .val (.ref b4), .unset] [(.ref b4), (.ref b4)])) (fun t k => XS.aload X22.here hx rfl (hb hby at_86) rfl rfl k) ?_
      refine own_st (S' := T22.setTop (mkF m 91 #[.val (.int p0), .val (.int p1), .val (.int p2), .val (.int v1), .val (.int v2), .val (.ref b4), .val (.int p2.toInt8.toInt32), .val (.long (5 : Int64)), .second, .val (.long (1 : Int64)), .second, .val (.long v9), .second, .val (.long v10), .second, .val (.ref b4), .unset] [])) (fun t k => Jvm.RoadKit.acmp (g := (mkF m 88 #[.val (.int p0), .val (.int p1), .val (.int p2), .val (.int v1), .val (.int v2), .val (.ref b4), .val (.int p2.toInt8.toInt32), .val (.long (5 : Int64)), .second, .val (.long (1 : Int64)), .second, .val (.long v9), .second, .val (.long v10), .second, .val (.ref b4), .unset] [(.ref b4), (.ref b4)])) X22 hx rfl rfl rfl (pc0 := 88) (pc' := 91) (same := true) rfl (hb hby at_88) rfl (decide_eq_true rfl) (by decide) (by decide) k) ?_
      show own_Go p.tables e below _ (T22.setTop (mkF m 91 #[.val (.int p0), .val (.int p1), .val (.int p2), .val (.int v1), .val (.int v2), .val (.ref b4), .val (.int p2.toInt8.toInt32), .val (.long (5 : Int64)), .second, .val (.long (1 : Int64)), .second, .val (.long v9), .second, .val (.long v10), .second, .val (.ref b4), .unset] []))
      refine own_st (S' := T22.setTop (mkF m 92 #[.val (.int p0), .val (.int p1), .val (.int p2), .val (.int v1), .val (.int v2), .val (.ref b4), .val (.int p2.toInt8.toInt32), .val (.long (5 : Int64)), .second, .val (.long (1 : Int64)), .second, .val (.long v9), .second, .val (.long v10), .second, .val (.ref b4), .unset] [(.int v1)])) (fun t k => XS.iloadN X22.here hx rfl (hb hby at_91) rfl k) ?_
      have hc23 : ¬ (v1 = (0 : Int32)) := fun q => absurd hc6 (by rw [q]; decide)
      refine own_st (S' := T22.setTop (mkF m 95 #[.val (.int p0), .val (.int p1), .val (.int p2), .val (.int v1), .val (.int v2), .val (.ref b4), .val (.int p2.toInt8.toInt32), .val (.long (5 : Int64)), .second, .val (.long (1 : Int64)), .second, .val (.long v9), .second, .val (.long v10), .second, .val (.ref b4), .unset] [])) (fun t k => XS.ifNo X22.here hx rfl (hb hby at_92) rfl ((if0 _ _).trans (feq hc23).1) k) ?_
      show own_Go p.tables e below _ (T22.setTop (mkF m 95 #[.val (.int p0), .val (.int p1), .val (.int p2), .val (.int v1), .val (.int v2), .val (.ref b4), .val (.int p2.toInt8.toInt32), .val (.long (5 : Int64)), .second, .val (.long (1 : Int64)), .second, .val (.long v9), .second, .val (.long v10), .second, .val (.ref b4), .unset] []))
      refine own_st (S' := T22.setTop (mkF m 97 #[.val (.int p0), .val (.int p1), .val (.int p2), .val (.int v1), .val (.int v2), .val (.ref b4), .val (.int p2.toInt8.toInt32), .val (.long (5 : Int64)), .second, .val (.long (1 : Int64)), .second, .val (.long v9), .second, .val (.long v10), .second, .val (.ref b4), .unset] [(.ref b4)])) (fun t k => XS.aload X22.here hx rfl (hb hby at_95) rfl rfl k) ?_
      refine own_st (S' := T22.setTop (mkF m 98 #[.val (.int p0), .val (.int p1), .val (.int p2), .val (.int v1), .val (.int v2), .val (.ref b4), .val (.int p2.toInt8.toInt32), .val (.long (5 : Int64)), .second, .val (.long (1 : Int64)), .second, .val (.long v9), .second, .val (.long v10), .second, .val (.ref b4), .unset] [(.int v1), (.ref b4)])) (fun t k => XS.iloadN X22.here hx rfl (hb hby at_97) rfl k) ?_
      refine own_st (S' := T22.setTop (mkF m 99 #[.val (.int p0), .val (.int p1), .val (.int p2), .val (.int v1), .val (.int v2), .val (.ref b4), .val (.int p2.toInt8.toInt32), .val (.long (5 : Int64)), .second, .val (.long (1 : Int64)), .second, .val (.long v9), .second, .val (.long v10), .second, .val (.ref b4), .unset] [(.int (1 : Int32)), (.int v1), (.ref b4)])) (fun t k => XS.iconst X22.here hx rfl (hb hby at_98) k) ?_
      refine own_st (S' := T22.setTop (mkF m 100 #[.val (.int p0), .val (.int p1), .val (.int p2), .val (.int v1), .val (.int v2), .val (.ref b4), .val (.int p2.toInt8.toInt32), .val (.long (5 : Int64)), .second, .val (.long (1 : Int64)), .second, .val (.long v9), .second, .val (.long v10), .second, .val (.ref b4), .unset] [(.int (v1 - (1 : Int32))), (.ref b4)])) (fun t k => XS.isub X22.here hx rfl (hb hby at_99) rfl k) ?_
      have O24 := f8
      obtain ⟨c24, Ar24, S24, M24, V24⟩ := O24
      have at24 : c24.slots[((v1 - (1 : Int32))).toNatClampNeg]? = some (.int p2.toInt8.toInt32) := own_at S24 V24 (own_last (by have q := hc6; rw [own_lt32] at q; have q' : (0 : Int) < v1.toInt := q; omega)) (own_mark p2 _ _)
      refine own_st (S' := T22.setTop (mkF m 101 #[.val (.int p0), .val (.int p1), .val (.int p2), .val (.int v1), .val (.int v2), .val (.ref b4), .val (.int p2.toInt8.toInt32), .val (.long (5 : Int64)), .second, .val (.long (1 : Int64)), .second, .val (.long v9), .second, .val (.long v10), .second, .val (.ref b4), .unset] [(.int p2.toInt8.toInt32)])) (fun t k => X22.baloadBytes hx (j := (v1 - (1 : Int32))) (v := (.int p2.toInt8.toInt32)) (by rw [hh22]; exact Ar24.1) (State.isArrayOf_alike hZ.alike Ar24.2.1) Ar24.2.2 (own_in S24 (own_last (by have q := hc6; rw [own_lt32] at q; have q' : (0 : Int) < v1.toInt := q; omega))) at24 (g := (mkF m 100 #[.val (.int p0), .val (.int p1), .val (.int p2), .val (.int v1), .val (.int v2), .val (.ref b4), .val (.int p2.toInt8.toInt32), .val (.long (5 : Int64)), .second, .val (.long (1 : Int64)), .second, .val (.long v9), .second, .val (.long v10), .second, .val (.ref b4), .unset] [(.int (v1 - (1 : Int32))), (.ref b4)])) rfl rfl (hb hby at_100) _ k) ?_
      refine own_st (S' := T22.setTop (mkF m 103 #[.val (.int p0), .val (.int p1), .val (.int p2), .val (.int v1), .val (.int v2), .val (.ref b4), .val (.int p2.toInt8.toInt32), .val (.long (5 : Int64)), .second, .val (.long (1 : Int64)), .second, .val (.long v9), .second, .val (.long v10), .second, .val (.ref b4), .unset] [(.int p2.toInt8.toInt32), (.int p2.toInt8.toInt32)])) (fun t k => XS.iload X22.here hx rfl (hb hby at_101) rfl k) ?_
      have hc25 : p2.toInt8.toInt32 = p2.toInt8.toInt32 := rfl
      refine own_st (S' := T22.setTop (mkF m 106 #[.val (.int p0), .val (.int p1), .val (.int p2), .val (.int v1), .val (.int v2), .val (.ref b4), .val (.int p2.toInt8.toInt32), .val (.long (5 : Int64)), .second, .val (.long (1 : Int64)), .second, .val (.long v9), .second, .val (.long v10), .second, .val (.ref b4), .unset] [])) (fun t k => XS.icmpNo X22.here hx rfl (hb hby at_103) rfl (teq hc25).2 k) ?_
      show own_Go p.tables e below _ (T22.setTop (mkF m 106 #[.val (.int p0), .val (.int p1), .val (.int p2), .val (.int v1), .val (.int v2), .val (.ref b4), .val (.int p2.toInt8.toInt32), .val (.long (5 : Int64)), .second, .val (.long (1 : Int64)), .second, .val (.long v9), .second, .val (.long v10), .second, .val (.ref b4), .unset] []))
      refine own_st (S' := T22.setTop (mkF m 107 #[.val (.int p0), .val (.int p1), .val (.int p2), .val (.int v1), .val (.int v2), .val (.ref b4), .val (.int p2.toInt8.toInt32), .val (.long (5 : Int64)), .second, .val (.long (1 : Int64)), .second, .val (.long v9), .second, .val (.long v10), .second, .val (.ref b4), .unset] [(.int (1 : Int32))])) (fun t k => XS.iconst X22.here hx rfl (hb hby at_106) k) ?_
      refine own_st (S' := T22.setTop (mkF m 111 #[.val (.int p0), .val (.int p1), .val (.int p2), .val (.int v1), .val (.int v2), .val (.ref b4), .val (.int p2.toInt8.toInt32), .val (.long (5 : Int64)), .second, .val (.long (1 : Int64)), .second, .val (.long v9), .second, .val (.long v10), .second, .val (.ref b4), .unset] [(.int (1 : Int32))])) (fun t k => XS.goto X22.here hx rfl (pc0 := 107) (pc' := 111) rfl (hb hby at_107) (by decide) (by decide) k) ?_
      refine own_retN X22 hx (t := .boolean) hret (by simp) hlk (hb hby at_111) ?_ (by decide) (by decide)
      rw [hh22]
      exact ⟨rfl, N22⟩
  · refine own_st (S' := T4.setTop (mkF m 40 #[.val (.int p0), .val (.int p1), .val (.int p2), .val (.int v1), .val (.int v2), .val (.ref b4), .val (.int p2.toInt8.toInt32), .unset, .unset, .unset, .unset, .unset, .unset, .unset, .unset, .unset, .unset] [])) (fun t k => XS.ifYes X4.here hx rfl (pc0 := 29) (pc' := 40) rfl (hb hby at_29) rfl ((if0 _ _).trans (flt hc6).2.2.2) (by decide) (by decide) k) ?_
    show own_Go p.tables e below _ (T4.setTop (mkF m 40 #[.val (.int p0), .val (.int p1), .val (.int p2), .val (.int v1), .val (.int v2), .val (.ref b4), .val (.int p2.toInt8.toInt32), .unset, .unset, .unset, .unset, .unset, .unset, .unset, .unset, .unset, .unset] []))
    refine own_st (S' := T4.setTop (mkF m 43 #[.val (.int p0), .val (.int p1), .val (.int p2), .val (.int v1), .val (.int v2), .val (.ref b4), .val (.int p2.toInt8.toInt32), .unset, .unset, .unset, .unset, .unset, .unset, .unset, .unset, .unset, .unset] [(.long (5 : Int64))])) (fun t k => X4.ldc2Long hx hown (mvT hZ (hw _ (List.mem_of_getElem? (i := 1) rfl))) (g := (mkF m 40 #[.val (.int p0), .val (.int p1), .val (.int p2), .val (.int v1), .val (.int v2), .val (.ref b4), .val (.int p2.toInt8.toInt32), .unset, .unset, .unset, .unset, .unset, .unset, .unset, .unset, .unset, .unset] [])) rfl (hb hby at_40) _ k) ?_
    refine own_st (S' := T4.setTop (mkF m 45 #[.val (.int p0), .val (.int p1), .val (.int p2), .val (.int v1), .val (.int v2), .val (.ref b4), .val (.int p2.toInt8.toInt32), .val (.long (5 : Int64)), .second, .unset, .unset, .unset, .unset, .unset, .unset, .unset, .unset] [])) (fun t k => XS.lstore X4.here hx rfl (hb hby at_43) rfl (l' := #[.val (.int p0), .val (.int p1), .val (.int p2), .val (.int v1), .val (.int v2), .val (.ref b4), .val (.int p2.toInt8.toInt32), .val (.long (5 : Int64)), .second, .unset, .unset, .unset, .unset, .unset, .unset, .unset, .unset]) rfl k) ?_
    refine own_st (S' := T4.setTop (mkF m 46 #[.val (.int p0), .val (.int p1), .val (.int p2), .val (.int v1), .val (.int v2), .val (.ref b4), .val (.int p2.toInt8.toInt32), .val (.long (5 : Int64)), .second, .unset, .unset, .unset, .unset, .unset, .unset, .unset, .unset] [(.long (1 : Int64))])) (fun t k => XS.lconst X4.here hx rfl (hb hby at_45) k) ?_
    refine own_st (S' := T4.setTop (mkF m 48 #[.val (.int p0), .val (.int p1), .val (.int p2), .val (.int v1), .val (.int v2), .val (.ref b4), .val (.int p2.toInt8.toInt32), .val (.long (5 : Int64)), .second, .val (.long (1 : Int64)), .second, .unset, .unset, .unset, .unset, .unset, .unset] [])) (fun t k => XS.lstore X4.here hx rfl (hb hby at_46) rfl (l' := #[.val (.int p0), .val (.int p1), .val (.int p2), .val (.int v1), .val (.int v2), .val (.ref b4), .val (.int p2.toInt8.toInt32), .val (.long (5 : Int64)), .second, .val (.long (1 : Int64)), .second, .unset, .unset, .unset, .unset, .unset, .unset]) rfl k) ?_
    refine own_st (S' := T4.setTop (mkF m 51 #[.val (.int p0), .val (.int p1), .val (.int p2), .val (.int v1), .val (.int v2), .val (.ref b4), .val (.int p2.toInt8.toInt32), .val (.long (5 : Int64)), .second, .val (.long (1 : Int64)), .second, .unset, .unset, .unset, .unset, .unset, .unset] [(.long (4 : Int64))])) (fun t k => X4.ldc2Long hx hown (mvT hZ (hw _ (List.mem_of_getElem? (i := 2) rfl))) (g := (mkF m 48 #[.val (.int p0), .val (.int p1), .val (.int p2), .val (.int v1), .val (.int v2), .val (.ref b4), .val (.int p2.toInt8.toInt32), .val (.long (5 : Int64)), .second, .val (.long (1 : Int64)), .second, .unset, .unset, .unset, .unset, .unset, .unset] [])) rfl (hb hby at_48) _ k) ?_
    refine own_st (S' := T4.setTop (mkF m 53 #[.val (.int p0), .val (.int p1), .val (.int p2), .val (.int v1), .val (.int v2), .val (.ref b4), .val (.int p2.toInt8.toInt32), .val (.long (5 : Int64)), .second, .val (.long (1 : Int64)), .second, .unset, .unset, .unset, .unset, .unset, .unset] [(.int v2), (.long (4 : Int64))])) (fun t k => XS.iload X4.here hx rfl (hb hby at_51) rfl k) ?_
    refine own_st (S' := T4.setTop (mkF m 54 #[.val (.int p0), .val (.int p1), .val (.int p2), .val (.int v1), .val (.int v2), .val (.ref b4), .val (.int p2.toInt8.toInt32), .val (.long (5 : Int64)), .second, .val (.long (1 : Int64)), .second, .unset, .unset, .unset, .unset, .unset, .unset] [(.long v2.toInt64), (.long (4 : Int64))])) (fun t k => XS.i2l X4.here hx rfl (hb hby at_53) rfl k) ?_
    refine own_st (S' := T4.setTop (mkF m 55 #[.val (.int p0), .val (.int p1), .val (.int p2), .val (.int v1), .val (.int v2), .val (.ref b4), .val (.int p2.toInt8.toInt32), .val (.long (5 : Int64)), .second, .val (.long (1 : Int64)), .second, .unset, .unset, .unset, .unset, .unset, .unset] [(.long ((4 : Int64) * v2.toInt64))])) (fun t k => XS.lmul X4.here hx rfl (hb hby at_54) rfl k) ?_
    obtain ⟨v26, qv26⟩ : ∃ z : Int64, z = ((4 : Int64) * v2.toInt64) := ⟨_, rfl⟩
    show own_Go p.tables e below _ (T4.setTop (mkF m 55 #[.val (.int p0), .val (.int p1), .val (.int p2), .val (.int v1), .val (.int v2), .val (.ref b4), .val (.int p2.toInt8.toInt32), .val (.long (5 : Int64)), .second, .val (.long (1 : Int64)), .second, .unset, .unset, .unset, .unset, .unset, .unset] [(.long ((4 : Int64) * v2.toInt64))]))
    rw [← qv26]
    refine own_st (S' := T4.setTop (mkF m 57 #[.val (.int p0), .val (.int p1), .val (.int p2), .val (.int v1), .val (.int v2), .val (.ref b4), .val (.int p2.toInt8.toInt32), .val (.long (5 : Int64)), .second, .val (.long (1 : Int64)), .second, .val (.long v26), .second, .unset, .unset, .unset, .unset] [])) (fun t k => XS.lstore X4.here hx rfl (hb hby at_55) rfl (l' := #[.val (.int p0), .val (.int p1), .val (.int p2), .val (.int v1), .val (.int v2), .val (.ref b4), .val (.int p2.toInt8.toInt32), .val (.long (5 : Int64)), .second, .val (.long (1 : Int64)), .second, .val (.long v26), .second, .unset, .unset, .unset, .unset]) rfl k) ?_
    refine own_st (S' := T4.setTop (mkF m 59 #[.val (.int p0), .val (.int p1), .val (.int p2), .val (.int v1), .val (.int v2), .val (.ref b4), .val (.int p2.toInt8.toInt32), .val (.long (5 : Int64)), .second, .val (.long (1 : Int64)), .second, .val (.long v26), .second, .unset, .unset, .unset, .unset] [(.long (5 : Int64))])) (fun t k => XS.lload X4.here hx rfl (hb hby at_57) rfl k) ?_
    refine own_st (S' := T4.setTop (mkF m 61 #[.val (.int p0), .val (.int p1), .val (.int p2), .val (.int v1), .val (.int v2), .val (.ref b4), .val (.int p2.toInt8.toInt32), .val (.long (5 : Int64)), .second, .val (.long (1 : Int64)), .second, .val (.long v26), .second, .unset, .unset, .unset, .unset] [(.long (1 : Int64)), (.long (5 : Int64))])) (fun t k => XS.lload X4.here hx rfl (hb hby at_59) rfl k) ?_
    refine own_st (S' := T4.setTop (mkF m 62 #[.val (.int p0), .val (.int p1), .val (.int p2), .val (.int v1), .val (.int v2), .val (.ref b4), .val (.int p2.toInt8.toInt32), .val (.long (5 : Int64)), .second, .val (.long (1 : Int64)), .second, .val (.long v26), .second, .unset, .unset, .unset, .unset] [(.long (6 : Int64))])) (fun t k => XS.ladd X4.here hx rfl (hb hby at_61) rfl k) ?_
    refine own_st (S' := T4.setTop (mkF m 64 #[.val (.int p0), .val (.int p1), .val (.int p2), .val (.int v1), .val (.int v2), .val (.ref b4), .val (.int p2.toInt8.toInt32), .val (.long (5 : Int64)), .second, .val (.long (1 : Int64)), .second, .val (.long v26), .second, .unset, .unset, .unset, .unset] [(.long v26), (.long (6 : Int64))])) (fun t k => XS.lload X4.here hx rfl (hb hby at_62) rfl k) ?_
    refine own_st (S' := T4.setTop (mkF m 65 #[.val (.int p0), .val (.int p1), .val (.int p2), .val (.int v1), .val (.int v2), .val (.ref b4), .val (.int p2.toInt8.toInt32), .val (.long (5 : Int64)), .second, .val (.long (1 : Int64)), .second, .val (.long v26), .second, .unset, .unset, .unset, .unset] [(.long ((6 : Int64) + v26))])) (fun t k => XS.ladd X4.here hx rfl (hb hby at_64) rfl k) ?_
    obtain ⟨v27, qv27⟩ : ∃ z : Int64, z = ((6 : Int64) + v26) := ⟨_, rfl⟩
    show own_Go p.tables e below _ (T4.setTop (mkF m 65 #[.val (.int p0), .val (.int p1), .val (.int p2), .val (.int v1), .val (.int v2), .val (.ref b4), .val (.int p2.toInt8.toInt32), .val (.long (5 : Int64)), .second, .val (.long (1 : Int64)), .second, .val (.long v26), .second, .unset, .unset, .unset, .unset] [(.long ((6 : Int64) + v26))]))
    rw [← qv27]
    refine own_st (S' := T4.setTop (mkF m 67 #[.val (.int p0), .val (.int p1), .val (.int p2), .val (.int v1), .val (.int v2), .val (.ref b4), .val (.int p2.toInt8.toInt32), .val (.long (5 : Int64)), .second, .val (.long (1 : Int64)), .second, .val (.long v26), .second, .val (.long v27), .second, .unset, .unset] [])) (fun t k => XS.lstore X4.here hx rfl (hb hby at_65) rfl (l' := #[.val (.int p0), .val (.int p1), .val (.int p2), .val (.int v1), .val (.int v2), .val (.ref b4), .val (.int p2.toInt8.toInt32), .val (.long (5 : Int64)), .second, .val (.long (1 : Int64)), .second, .val (.long v26), .second, .val (.long v27), .second, .unset, .unset]) rfl k) ?_
    have hv7 : v27 = ((6 : Int64) + (v2.toInt64 * (4 : Int64))) := by rw [qv27, qv26]; exact own_v7 hp4
    refine own_st (S' := T4.setTop (mkF m 69 #[.val (.int p0), .val (.int p1), .val (.int p2), .val (.int v1), .val (.int v2), .val (.ref b4), .val (.int p2.toInt8.toInt32), .val (.long (5 : Int64)), .second, .val (.long (1 : Int64)), .second, .val (.long v26), .second, .val (.long v27), .second, .unset, .unset] [(.ref b4)])) (fun t k => XS.aload X4.here hx rfl (hb hby at_67) rfl rfl k) ?_
    refine own_st (S' := T4.setTop (mkF m 71 #[.val (.int p0), .val (.int p1), .val (.int p2), .val (.int v1), .val (.int v2), .val (.ref b4), .val (.int p2.toInt8.toInt32), .val (.long (5 : Int64)), .second, .val (.long (1 : Int64)), .second, .val (.long v26), .second, .val (.long v27), .second, .unset, .unset] [(.int v2), (.ref b4)])) (fun t k => XS.iload X4.here hx rfl (hb hby at_69) rfl k) ?_
    by_cases hc28 : v1.toInt64 < v27
    · show own_Go p.tables e below _ (T4.setTop (mkF m 71 #[.val (.int p0), .val (.int p1), .val (.int p2), .val (.int v1), .val (.int v2), .val (.ref b4), .val (.int p2.toInt8.toInt32), .val (.long (5 : Int64)), .second, .val (.long (1 : Int64)), .second, .val (.long v26), .second, .val (.long v27), .second, .unset, .unset] [(.int v2), (.ref b4)]))
      obtain ⟨_, _, ⟨T29, L29, k29, n29⟩, -, X29, ⟨Lc29, hQ29, l29, y29, z29⟩, st29⟩ := Jvm.LawKit.callS X4 hx (y := (⟨"com/example/tokenwise/tokenwise/semantics/StateCodec", "room", "([BI)[B"⟩ : MethodName)) hown (mvT hZ (hw _ (List.mem_of_getElem? (i := 3) rfl))) (mvT hZ (hw _ (List.mem_of_getElem? (i := 4) rfl))) (mvT hZ (hw _ (List.mem_of_getElem? (i := 5) rfl))) (mvT hZ (hw _ (List.mem_of_getElem? (i := 6) rfl))) (by decide) (backOf (W := 0) (rm2 l Z a0 hw [] b4 v2 (fun _ => (.int (0 : Int32))) v1 h4 n0 Z4 f5 hz3 (by rw [← hv7]; exact hc28) hp4) hZ (hw _ (List.mem_of_getElem? (i := 6) rfl)) (hw _ (List.mem_of_getElem? (i := 5) rfl)) (by decide) (by decide)) (g := (mkF m 71 #[.val (.int p0), .val (.int p1), .val (.int p2), .val (.int v1), .val (.int v2), .val (.ref b4), .val (.int p2.toInt8.toInt32), .val (.long (5 : Int64)), .second, .val (.long (1 : Int64)), .second, .val (.long v26), .second, .val (.long v27), .second, .unset, .unset] [(.int v2), (.ref b4)])) rfl (by rw [hml]; rfl) (argsL := [(.ref b4), (.int v2)]) (rest := []) (lenOf pd0_0 rfl) rfl (by show 2 * 0 + _ ≤ _; exact Nat.le_of_eq rfl) (hb hby at_71) (fun _ _ => ⟨rfl, e4, (by decide : 1 + 1 ≤ _), (by decide : 127 + 130 ≤ _)⟩)
      dsimp only [Pt.U, Pt.locs, Pt.cells, Pt.slots] at X29 l29 y29 z29 st29 hQ29
      subst l29 y29 z29
      obtain ⟨nb29, rfl, N29q, Kq29, sq_nb29, g0_29⟩ := hQ29
      have G_nb29 : n0 ≤ nb29 := Nat.le_trans Z4 sq_nb29
      have ne_b4_nb29 : b4 ≠ nb29 := Nat.ne_of_lt (Nat.lt_of_lt_of_le f5.lt sq_nb29)
      have f30 : own_A Z T29.heap b4 .byte v1.toNatClampNeg (fun _ => (.int (0 : Int32))) := f5.keep Kq29 nin0
      have Z29 : n0 ≤ T29.heap.size := Nat.le_trans Z4 Kq29.1
      have N29 := Fr.app N0 N29q
      refine own_st st29 ?_
      show own_Go p.tables e below _ (T29.setTop (mkF m 74 #[.val (.int p0), .val (.int p1), .val (.int p2), .val (.int v1), .val (.int v2), .val (.ref b4), .val (.int p2.toInt8.toInt32), .val (.long (5 : Int64)), .second, .val (.long (1 : Int64)), .second, .val (.long v26), .second, .val (.long v27), .second, .unset, .unset] [(.ref nb29)]))
      have hr7 := own_rm hz3 (show v1.toInt64 < ((6 : Int64) + (v2.toInt64 * (4 : Int64))) by rw [← hv7]; exact hc28) hp4
      have hr8 : 1 ≤ (((6 : Int64) + (v2.toInt64 * (4 : Int64))).toInt32).toInt := by omega
      refine own_st (S' := T29.setTop (mkF m 76 #[.val (.int p0), .val (.int p1), .val (.int p2), .val (.int v1), .val (.int v2), .val (.ref b4), .val (.int p2.toInt8.toInt32), .val (.long (5 : Int64)), .second, .val (.long (1 : Int64)), .second, .val (.long v26), .second, .val (.long v27), .second, .val (.ref nb29), .unset] [])) (fun t k => XS.astore X29.here hx rfl (hb hby at_74) rfl rfl (l' := #[.val (.int p0), .val (.int p1), .val (.int p2), .val (.int v1), .val (.int v2), .val (.ref b4), .val (.int p2.toInt8.toInt32), .val (.long (5 : Int64)), .second, .val (.long (1 : Int64)), .second, .val (.long v26), .second, .val (.long v27), .second, .val (.ref nb29), .unset]) rfl k) ?_
      refine own_st (S' := T29.setTop (mkF m 78 #[.val (.int p0), .val (.int p1), .val (.int p2), .val (.int v1), .val (.int v2), .val (.ref b4), .val (.int p2.toInt8.toInt32), .val (.long (5 : Int64)), .second, .val (.long (1 : Int64)), .second, .val (.long v26), .second, .val (.long v27), .second, .val (.ref nb29), .unset] [(.long v27)])) (fun t k => XS.lload X29.here hx rfl (hb hby at_76) rfl k) ?_
      refine own_st (S' := T29.setTop (mkF m 79 #[.val (.int p0), .val (.int p1), .val (.int p2), .val (.int v1), .val (.int v2), .val (.ref b4), .val (.int p2.toInt8.toInt32), .val (.long (5 : Int64)), .second, .val (.long (1 : Int64)), .second, .val (.long v26), .second, .val (.long v27), .second, .val (.ref nb29), .unset] [(.int v1), (.long v27)])) (fun t k => XS.iloadN X29.here hx rfl (hb hby at_78) rfl k) ?_
      refine own_st (S' := T29.setTop (mkF m 80 #[.val (.int p0), .val (.int p1), .val (.int p2), .val (.int v1), .val (.int v2), .val (.ref b4), .val (.int p2.toInt8.toInt32), .val (.long (5 : Int64)), .second, .val (.long (1 : Int64)), .second, .val (.long v26), .second, .val (.long v27), .second, .val (.ref nb29), .unset] [(.long v1.toInt64), (.long v27)])) (fun t k => XS.i2l X29.here hx rfl (hb hby at_79) rfl k) ?_
      refine own_st (S' := T29.setTop (mkF m 81 #[.val (.int p0), .val (.int p1), .val (.int p2), .val (.int v1), .val (.int v2), .val (.ref b4), .val (.int p2.toInt8.toInt32), .val (.long (5 : Int64)), .second, .val (.long (1 : Int64)), .second, .val (.long v26), .second, .val (.long v27), .second, .val (.ref nb29), .unset] [(.int (lcmpW v27 v1.toInt64))])) (fun t k => XS.lcmp X29.here hx rfl (hb hby at_80) rfl k) ?_
      refine own_st (S' := T29.setTop (mkF m 112 #[.val (.int p0), .val (.int p1), .val (.int p2), .val (.int v1), .val (.int v2), .val (.ref b4), .val (.int p2.toInt8.toInt32), .val (.long (5 : Int64)), .second, .val (.long (1 : Int64)), .second, .val (.long v26), .second, .val (.long v27), .second, .val (.ref nb29), .unset] [])) (fun t k => XS.ifYes X29.here hx rfl (pc0 := 81) (pc' := 112) rfl (hb hby at_81) rfl ((if0 _ _).trans (tlt ((lw_gt _ _).mpr hc28)).2.2.1) (by decide) (by decide) k) ?_
      show own_Go p.tables e below _ (T29.setTop (mkF m 112 #[.val (.int p0), .val (.int p1), .val (.int p2), .val (.int v1), .val (.int v2), .val (.ref b4), .val (.int p2.toInt8.toInt32), .val (.long (5 : Int64)), .second, .val (.long (1 : Int64)), .second, .val (.long v26), .second, .val (.long v27), .second, .val (.ref nb29), .unset] []))
      refine own_st (S' := T29.setTop (mkF m 114 #[.val (.int p0), .val (.int p1), .val (.int p2), .val (.int v1), .val (.int v2), .val (.ref b4), .val (.int p2.toInt8.toInt32), .val (.long (5 : Int64)), .second, .val (.long (1 : Int64)), .second, .val (.long v26), .second, .val (.long v27), .second, .val (.ref nb29), .unset] [(.long v27)])) (fun t k => XS.lload X29.here hx rfl (hb hby at_112) rfl k) ?_
      refine own_st (S' := T29.setTop (mkF m 115 #[.val (.int p0), .val (.int p1), .val (.int p2), .val (.int v1), .val (.int v2), .val (.ref b4), .val (.int p2.toInt8.toInt32), .val (.long (5 : Int64)), .second, .val (.long (1 : Int64)), .second, .val (.long v26), .second, .val (.long v27), .second, .val (.ref nb29), .unset] [(.int v27.toInt32)])) (fun t k => XS.l2i X29.here hx rfl (hb hby at_114) rfl k) ?_
      refine own_st (S' := T29.setTop (mkF m 117 #[.val (.int p0), .val (.int p1), .val (.int p2), .val (.int v1), .val (.int v2), .val (.ref b4), .val (.int p2.toInt8.toInt32), .val (.long (5 : Int64)), .second, .val (.long (1 : Int64)), .second, .val (.long v26), .second, .val (.long v27), .second, .val (.ref nb29), .val (.int v27.toInt32)] [])) (fun t k => XS.istore X29.here hx rfl (hb hby at_115) rfl (l' := #[.val (.int p0), .val (.int p1), .val (.int p2), .val (.int v1), .val (.int v2), .val (.ref b4), .val (.int p2.toInt8.toInt32), .val (.long (5 : Int64)), .second, .val (.long (1 : Int64)), .second, .val (.long v26), .second, .val (.long v27), .second, .val (.ref nb29), .val (.int v27.toInt32)]) rfl k) ?_
      refine own_st (S' := T29.setTop (mkF m 119 #[.val (.int p0), .val (.int p1), .val (.int p2), .val (.int v1), .val (.int v2), .val (.ref b4), .val (.int p2.toInt8.toInt32), .val (.long (5 : Int64)), .second, .val (.long (1 : Int64)), .second, .val (.long v26), .second, .val (.long v27), .second, .val (.ref nb29), .val (.int v27.toInt32)] [(.ref nb29)])) (fun t k => XS.aload X29.here hx rfl (hb hby at_117) rfl rfl k) ?_
      refine own_st (S' := T29.setTop (mkF m 121 #[.val (.int p0), .val (.int p1), .val (.int p2), .val (.int v1), .val (.int v2), .val (.ref b4), .val (.int p2.toInt8.toInt32), .val (.long (5 : Int64)), .second, .val (.long (1 : Int64)), .second, .val (.long v26), .second, .val (.long v27), .second, .val (.ref nb29), .val (.int v27.toInt32)] [(.ref b4), (.ref nb29)])) (fun t k => XS.aload X29.here hx rfl (hb hby at_119) rfl rfl k) ?_
      have hc31 : ¬ (nb29 = b4) := Ne.symm ne_b4_nb29
      refine own_st (S' := T29.setTop (mkF m 124 #[.val (.int p0), .val (.int p1), .val (.int p2), .val (.int v1), .val (.int v2), .val (.ref b4), .val (.int p2.toInt8.toInt32), .val (.long (5 : Int64)), .second, .val (.long (1 : Int64)), .second, .val (.long v26), .second, .val (.long v27), .second, .val (.ref nb29), .val (.int v27.toInt32)] [])) (fun t k => Jvm.RoadKit.acmp (g := (mkF m 121 #[.val (.int p0), .val (.int p1), .val (.int p2), .val (.int v1), .val (.int v2), .val (.ref b4), .val (.int p2.toInt8.toInt32), .val (.long (5 : Int64)), .second, .val (.long (1 : Int64)), .second, .val (.long v26), .second, .val (.long v27), .second, .val (.ref nb29), .val (.int v27.toInt32)] [(.ref b4), (.ref nb29)])) X29 hx rfl rfl rfl (pc0 := 121) (pc' := 124) (same := false) rfl (hb hby at_121) rfl (decide_eq_false fun q => hc31 (Value.ref.inj q)) (by decide) (by decide) k) ?_
      show own_Go p.tables e below _ (T29.setTop (mkF m 124 #[.val (.int p0), .val (.int p1), .val (.int p2), .val (.int v1), .val (.int v2), .val (.ref b4), .val (.int p2.toInt8.toInt32), .val (.long (5 : Int64)), .second, .val (.long (1 : Int64)), .second, .val (.long v26), .second, .val (.long v27), .second, .val (.ref nb29), .val (.int v27.toInt32)] []))
      refine own_st (S' := T29.setTop (mkF m 126 #[.val (.int p0), .val (.int p1), .val (.int p2), .val (.int v1), .val (.int v2), .val (.ref b4), .val (.int p2.toInt8.toInt32), .val (.long (5 : Int64)), .second, .val (.long (1 : Int64)), .second, .val (.long v26), .second, .val (.long v27), .second, .val (.ref nb29), .val (.int v27.toInt32)] [(.ref nb29)])) (fun t k => XS.aload X29.here hx rfl (hb hby at_124) rfl rfl k) ?_
      have O32 := g0_29
      obtain ⟨c32, Ar32, S32, M32, V32⟩ := O32
      have ln32 : c32.slots.size.toInt32 = ((6 : Int64) + (v2.toInt64 * (4 : Int64))).toInt32 := by rw [S32]; first | rfl | decide | exact own_len (own_neg (by omega))
      refine own_st (S' := T29.setTop (mkF m 127 #[.val (.int p0), .val (.int p1), .val (.int p2), .val (.int v1), .val (.int v2), .val (.ref b4), .val (.int p2.toInt8.toInt32), .val (.long (5 : Int64)), .second, .val (.long (1 : Int64)), .second, .val (.long v26), .second, .val (.long v27), .second, .val (.ref nb29), .val (.int v27.toInt32)] [(.int ((6 : Int64) + (v2.toInt64 * (4 : Int64))).toInt32)])) (fun t k => X29.arraylength hx Ar32.1 (State.isArrayOf_alike hZ.alike Ar32.2.1) (g := (mkF m 126 #[.val (.int p0), .val (.int p1), .val (.int p2), .val (.int v1), .val (.int v2), .val (.ref b4), .val (.int p2.toInt8.toInt32), .val (.long (5 : Int64)), .second, .val (.long (1 : Int64)), .second, .val (.long v26), .second, .val (.long v27), .second, .val (.ref nb29), .val (.int v27.toInt32)] [(.ref nb29)])) rfl rfl (hb hby at_126) _ (by rw [ln32]; exact k)) ?_
      refine own_st (S' := T29.setTop (mkF m 129 #[.val (.int p0), .val (.int p1), .val (.int p2), .val (.int v1), .val (.int v2), .val (.ref b4), .val (.int p2.toInt8.toInt32), .val (.long (5 : Int64)), .second, .val (.long (1 : Int64)), .second, .val (.long v26), .second, .val (.long v27), .second, .val (.ref nb29), .val (.int v27.toInt32)] [(.int v27.toInt32), (.int ((6 : Int64) + (v2.toInt64 * (4 : Int64))).toInt32)])) (fun t k => XS.iload X29.here hx rfl (hb hby at_127) rfl k) ?_
      have hc33 : ((6 : Int64) + (v2.toInt64 * (4 : Int64))).toInt32 = v27.toInt32 := by rw [hv7]
      refine own_st (S' := T29.setTop (mkF m 132 #[.val (.int p0), .val (.int p1), .val (.int p2), .val (.int v1), .val (.int v2), .val (.ref b4), .val (.int p2.toInt8.toInt32), .val (.long (5 : Int64)), .second, .val (.long (1 : Int64)), .second, .val (.long v26), .second, .val (.long v27), .second, .val (.ref nb29), .val (.int v27.toInt32)] [])) (fun t k => XS.icmpNo X29.here hx rfl (hb hby at_129) rfl (teq hc33).2 k) ?_
      show own_Go p.tables e below _ (T29.setTop (mkF m 132 #[.val (.int p0), .val (.int p1), .val (.int p2), .val (.int v1), .val (.int v2), .val (.ref b4), .val (.int p2.toInt8.toInt32), .val (.long (5 : Int64)), .second, .val (.long (1 : Int64)), .second, .val (.long v26), .second, .val (.long v27), .second, .val (.ref nb29), .val (.int v27.toInt32)] []))
      refine own_st (S' := T29.setTop (mkF m 134 #[.val (.int p0), .val (.int p1), .val (.int p2), .val (.int v1), .val (.int v2), .val (.ref b4), .val (.int p2.toInt8.toInt32), .val (.long (5 : Int64)), .second, .val (.long (1 : Int64)), .second, .val (.long v26), .second, .val (.long v27), .second, .val (.ref nb29), .val (.int v27.toInt32)] [(.ref nb29)])) (fun t k => XS.aload X29.here hx rfl (hb hby at_132) rfl rfl k) ?_
      refine own_st (S' := T29.setTop (mkF m 135 #[.val (.int p0), .val (.int p1), .val (.int p2), .val (.int v1), .val (.int v2), .val (.ref b4), .val (.int p2.toInt8.toInt32), .val (.long (5 : Int64)), .second, .val (.long (1 : Int64)), .second, .val (.long v26), .second, .val (.long v27), .second, .val (.ref nb29), .val (.int v27.toInt32)] [(.int (0 : Int32)), (.ref nb29)])) (fun t k => XS.iconst X29.here hx rfl (hb hby at_134) k) ?_
      have O34 := g0_29
      obtain ⟨c34, Ar34, S34, M34, V34⟩ := O34
      have at34 : c34.slots[((0 : Int32)).toNatClampNeg]? = some (.int (0 : Int32)) := own_at S34 V34 (own_first hr8) rfl
      refine own_st (S' := T29.setTop (mkF m 136 #[.val (.int p0), .val (.int p1), .val (.int p2), .val (.int v1), .val (.int v2), .val (.ref b4), .val (.int p2.toInt8.toInt32), .val (.long (5 : Int64)), .second, .val (.long (1 : Int64)), .second, .val (.long v26), .second, .val (.long v27), .second, .val (.ref nb29), .val (.int v27.toInt32)] [(.int (0 : Int32))])) (fun t k => X29.baloadBytes hx (j := (0 : Int32)) (v := (.int (0 : Int32))) Ar34.1 (State.isArrayOf_alike hZ.alike Ar34.2.1) Ar34.2.2 (own_in S34 (own_first hr8)) at34 (g := (mkF m 135 #[.val (.int p0), .val (.int p1), .val (.int p2), .val (.int v1), .val (.int v2), .val (.ref b4), .val (.int p2.toInt8.toInt32), .val (.long (5 : Int64)), .second, .val (.long (1 : Int64)), .second, .val (.long v26), .second, .val (.long v27), .second, .val (.ref nb29), .val (.int v27.toInt32)] [(.int (0 : Int32)), (.ref nb29)])) rfl rfl (hb hby at_135) _ k) ?_
      refine own_st (S' := T29.setTop (mkF m 139 #[.val (.int p0), .val (.int p1), .val (.int p2), .val (.int v1), .val (.int v2), .val (.ref b4), .val (.int p2.toInt8.toInt32), .val (.long (5 : Int64)), .second, .val (.long (1 : Int64)), .second, .val (.long v26), .second, .val (.long v27), .second, .val (.ref nb29), .val (.int v27.toInt32)] [])) (fun t k => XS.ifNo X29.here hx rfl (hb hby at_136) rfl ((if0 _ _).trans (teq (by decide)).2) k) ?_
      show own_Go p.tables e below _ (T29.setTop (mkF m 139 #[.val (.int p0), .val (.int p1), .val (.int p2), .val (.int v1), .val (.int v2), .val (.ref b4), .val (.int p2.toInt8.toInt32), .val (.long (5 : Int64)), .second, .val (.long (1 : Int64)), .second, .val (.long v26), .second, .val (.long v27), .second, .val (.ref nb29), .val (.int v27.toInt32)] []))
      refine own_st (S' := T29.setTop (mkF m 141 #[.val (.int p0), .val (.int p1), .val (.int p2), .val (.int v1), .val (.int v2), .val (.ref b4), .val (.int p2.toInt8.toInt32), .val (.long (5 : Int64)), .second, .val (.long (1 : Int64)), .second, .val (.long v26), .second, .val (.long v27), .second, .val (.ref nb29), .val (.int v27.toInt32)] [(.ref nb29)])) (fun t k => XS.aload X29.here hx rfl (hb hby at_139) rfl rfl k) ?_
      refine own_st (S' := T29.setTop (mkF m 143 #[.val (.int p0), .val (.int p1), .val (.int p2), .val (.int v1), .val (.int v2), .val (.ref b4), .val (.int p2.toInt8.toInt32), .val (.long (5 : Int64)), .second, .val (.long (1 : Int64)), .second, .val (.long v26), .second, .val (.long v27), .second, .val (.ref nb29), .val (.int v27.toInt32)] [(.int v27.toInt32), (.ref nb29)])) (fun t k => XS.iload X29.here hx rfl (hb hby at_141) rfl k) ?_
      refine own_st (S' := T29.setTop (mkF m 144 #[.val (.int p0), .val (.int p1), .val (.int p2), .val (.int v1), .val (.int v2), .val (.ref b4), .val (.int p2.toInt8.toInt32), .val (.long (5 : Int64)), .second, .val (.long (1 : Int64)), .second, .val (.long v26), .second, .val (.long v27), .second, .val (.ref nb29), .val (.int v27.toInt32)] [(.int (1 : Int32)), (.int v27.toInt32), (.ref nb29)])) (fun t k => XS.iconst X29.here hx rfl (hb hby at_143) k) ?_
      refine own_st (S' := T29.setTop (mkF m 145 #[.val (.int p0), .val (.int p1), .val (.int p2), .val (.int v1), .val (.int v2), .val (.ref b4), .val (.int p2.toInt8.toInt32), .val (.long (5 : Int64)), .second, .val (.long (1 : Int64)), .second, .val (.long v26), .second, .val (.long v27), .second, .val (.ref nb29), .val (.int v27.toInt32)] [(.int (v27.toInt32 - (1 : Int32))), (.ref nb29)])) (fun t k => XS.isub X29.here hx rfl (hb hby at_144) rfl k) ?_
      have O35 := g0_29
      obtain ⟨c35, Ar35, S35, M35, V35⟩ := O35
      have at35 : c35.slots[((v27.toInt32 - (1 : Int32))).toNatClampNeg]? = some (.int (0 : Int32)) := own_at S35 V35 (by rw [hv7]; exact own_last hr8) rfl
      refine own_st (S' := T29.setTop (mkF m 146 #[.val (.int p0), .val (.int p1), .val (.int p2), .val (.int v1), .val (.int v2), .val (.ref b4), .val (.int p2.toInt8.toInt32), .val (.long (5 : Int64)), .second, .val (.long (1 : Int64)), .second, .val (.long v26), .second, .val (.long v27), .second, .val (.ref nb29), .val (.int v27.toInt32)] [(.int (0 : Int32))])) (fun t k => X29.baloadBytes hx (j := (v27.toInt32 - (1 : Int32))) (v := (.int (0 : Int32))) Ar35.1 (State.isArrayOf_alike hZ.alike Ar35.2.1) Ar35.2.2 (own_in S35 (by rw [hv7]; exact own_last hr8)) at35 (g := (mkF m 145 #[.val (.int p0), .val (.int p1), .val (.int p2), .val (.int v1), .val (.int v2), .val (.ref b4), .val (.int p2.toInt8.toInt32), .val (.long (5 : Int64)), .second, .val (.long (1 : Int64)), .second, .val (.long v26), .second, .val (.long v27), .second, .val (.ref nb29), .val (.int v27.toInt32)] [(.int (v27.toInt32 - (1 : Int32))), (.ref nb29)])) rfl rfl (hb hby at_145) _ k) ?_
      refine own_st (S' := T29.setTop (mkF m 149 #[.val (.int p0), .val (.int p1), .val (.int p2), .val (.int v1), .val (.int v2), .val (.ref b4), .val (.int p2.toInt8.toInt32), .val (.long (5 : Int64)), .second, .val (.long (1 : Int64)), .second, .val (.long v26), .second, .val (.long v27), .second, .val (.ref nb29), .val (.int v27.toInt32)] [])) (fun t k => XS.ifNo X29.here hx rfl (hb hby at_146) rfl ((if0 _ _).trans (teq (by decide)).2) k) ?_
      show own_Go p.tables e below _ (T29.setTop (mkF m 149 #[.val (.int p0), .val (.int p1), .val (.int p2), .val (.int v1), .val (.int v2), .val (.ref b4), .val (.int p2.toInt8.toInt32), .val (.long (5 : Int64)), .second, .val (.long (1 : Int64)), .second, .val (.long v26), .second, .val (.long v27), .second, .val (.ref nb29), .val (.int v27.toInt32)] []))
      refine own_st (S' := T29.setTop (mkF m 150 #[.val (.int p0), .val (.int p1), .val (.int p2), .val (.int v1), .val (.int v2), .val (.ref b4), .val (.int p2.toInt8.toInt32), .val (.long (5 : Int64)), .second, .val (.long (1 : Int64)), .second, .val (.long v26), .second, .val (.long v27), .second, .val (.ref nb29), .val (.int v27.toInt32)] [(.int v1)])) (fun t k => XS.iloadN X29.here hx rfl (hb hby at_149) rfl k) ?_
      have hc36 : v1 = (0 : Int32) := Int32.toInt_inj.mp (by have := hn3; have q := hc6; rw [own_lt32] at q; have q' : ¬ (0 : Int) < v1.toInt := q; show v1.toInt = 0; omega)
      refine own_st (S' := T29.setTop (mkF m 164 #[.val (.int p0), .val (.int p1), .val (.int p2), .val (.int v1), .val (.int v2), .val (.ref b4), .val (.int p2.toInt8.toInt32), .val (.long (5 : Int64)), .second, .val (.long (1 : Int64)), .second, .val (.long v26), .second, .val (.long v27), .second, .val (.ref nb29), .val (.int v27.toInt32)] [])) (fun t k => XS.ifYes X29.here hx rfl (pc0 := 150) (pc' := 164) rfl (hb hby at_150) rfl ((if0 _ _).trans (teq hc36).1) (by decide) (by decide) k) ?_
      show own_Go p.tables e below _ (T29.setTop (mkF m 164 #[.val (.int p0), .val (.int p1), .val (.int p2), .val (.int v1), .val (.int v2), .val (.ref b4), .val (.int p2.toInt8.toInt32), .val (.long (5 : Int64)), .second, .val (.long (1 : Int64)), .second, .val (.long v26), .second, .val (.long v27), .second, .val (.ref nb29), .val (.int v27.toInt32)] []))
      refine own_st (S' := T29.setTop (mkF m 165 #[.val (.int p0), .val (.int p1), .val (.int p2), .val (.int v1), .val (.int v2), .val (.ref b4), .val (.int p2.toInt8.toInt32), .val (.long (5 : Int64)), .second, .val (.long (1 : Int64)), .second, .val (.long v26), .second, .val (.long v27), .second, .val (.ref nb29), .val (.int v27.toInt32)] [(.int (1 : Int32))])) (fun t k => XS.iconst X29.here hx rfl (hb hby at_164) k) ?_
      refine own_st (S' := T29.setTop (mkF m 169 #[.val (.int p0), .val (.int p1), .val (.int p2), .val (.int v1), .val (.int v2), .val (.ref b4), .val (.int p2.toInt8.toInt32), .val (.long (5 : Int64)), .second, .val (.long (1 : Int64)), .second, .val (.long v26), .second, .val (.long v27), .second, .val (.ref nb29), .val (.int v27.toInt32)] [(.int (1 : Int32))])) (fun t k => XS.goto X29.here hx rfl (pc0 := 165) (pc' := 169) rfl (hb hby at_165) (by decide) (by decide) k) ?_
      refine own_retN X29 hx (t := .boolean) hret (by simp) hlk (hb hby at_169) ?_ (by decide) (by decide)
      exact ⟨rfl, N29⟩
    · show own_Go p.tables e below _ (T4.setTop (mkF m 71 #[.val (.int p0), .val (.int p1), .val (.int p2), .val (.int v1), .val (.int v2), .val (.ref b4), .val (.int p2.toInt8.toInt32), .val (.long (5 : Int64)), .second, .val (.long (1 : Int64)), .second, .val (.long v26), .second, .val (.long v27), .second, .unset, .unset] [(.int v2), (.ref b4)]))
      obtain ⟨_, _, ⟨T37, L37, k37, n37⟩, -, X37, ⟨Lc37, hQ37, l37, y37, z37⟩, st37⟩ := Jvm.LawKit.callS X4 hx (y := (⟨"com/example/tokenwise/tokenwise/semantics/StateCodec", "room", "([BI)[B"⟩ : MethodName)) hown (mvT hZ (hw _ (List.mem_of_getElem? (i := 3) rfl))) (mvT hZ (hw _ (List.mem_of_getElem? (i := 4) rfl))) (mvT hZ (hw _ (List.mem_of_getElem? (i := 5) rfl))) (mvT hZ (hw _ (List.mem_of_getElem? (i := 6) rfl))) (by decide) (backOf (W := 0) (rm1 l Z a0 hw [] b4 v2 (fun _ => (.int (0 : Int32))) v1 h4 n0 Z4 f5 hz3 (by rw [← hv7]; exact hc28)) hZ (hw _ (List.mem_of_getElem? (i := 6) rfl)) (hw _ (List.mem_of_getElem? (i := 5) rfl)) (by decide) (by decide)) (g := (mkF m 71 #[.val (.int p0), .val (.int p1), .val (.int p2), .val (.int v1), .val (.int v2), .val (.ref b4), .val (.int p2.toInt8.toInt32), .val (.long (5 : Int64)), .second, .val (.long (1 : Int64)), .second, .val (.long v26), .second, .val (.long v27), .second, .unset, .unset] [(.int v2), (.ref b4)])) rfl (by rw [hml]; rfl) (argsL := [(.ref b4), (.int v2)]) (rest := []) (lenOf pd0_0 rfl) rfl (by show 2 * 0 + _ ≤ _; exact Nat.le_of_eq rfl) (hb hby at_71) (fun _ _ => ⟨rfl, e4, (by decide : 1 + 0 ≤ _), (by decide : 127 + 0 ≤ _)⟩)
      dsimp only [Pt.U, Pt.locs, Pt.cells, Pt.slots] at X37 l37 y37 z37 st37 hQ37
      subst l37 y37 z37
      obtain ⟨rfl, N37q, hh37⟩ := hQ37
      have N37 := Fr.app N0 N37q
      refine own_st st37 ?_
      show own_Go p.tables e below _ (T37.setTop (mkF m 74 #[.val (.int p0), .val (.int p1), .val (.int p2), .val (.int v1), .val (.int v2), .val (.ref b4), .val (.int p2.toInt8.toInt32), .val (.long (5 : Int64)), .second, .val (.long (1 : Int64)), .second, .val (.long v26), .second, .val (.long v27), .second, .unset, .unset] [(.ref b4)]))
      refine own_st (S' := T37.setTop (mkF m 76 #[.val (.int p0), .val (.int p1), .val (.int p2), .val (.int v1), .val (.int v2), .val (.ref b4), .val (.int p2.toInt8.toInt32), .val (.long (5 : Int64)), .second, .val (.long (1 : Int64)), .second, .val (.long v26), .second, .val (.long v27), .second, .val (.ref b4), .unset] [])) (fun t k => XS.astore X37.here hx rfl (hb hby at_74) rfl rfl (l' := #[.val (.int p0), .val (.int p1), .val (.int p2), .val (.int v1), .val (.int v2), .val (.ref b4), .val (.int p2.toInt8.toInt32), .val (.long (5 : Int64)), .second, .val (.long (1 : Int64)), .second, .val (.long v26), .second, .val (.long v27), .second, .val (.ref b4), .unset]) rfl k) ?_
      refine own_st (S' := T37.setTop (mkF m 78 #[.val (.int p0), .val (.int p1), .val (.int p2), .val (.int v1), .val (.int v2), .val (.ref b4), .val (.int p2.toInt8.toInt32), .val (.long (5 : Int64)), .second, .val (.long (1 : Int64)), .second, .val (.long v26), .second, .val (.long v27), .second, .val (.ref b4), .unset] [(.long v27)])) (fun t k => XS.lload X37.here hx rfl (hb hby at_76) rfl k) ?_
      refine own_st (S' := T37.setTop (mkF m 79 #[.val (.int p0), .val (.int p1), .val (.int p2), .val (.int v1), .val (.int v2), .val (.ref b4), .val (.int p2.toInt8.toInt32), .val (.long (5 : Int64)), .second, .val (.long (1 : Int64)), .second, .val (.long v26), .second, .val (.long v27), .second, .val (.ref b4), .unset] [(.int v1), (.long v27)])) (fun t k => XS.iloadN X37.here hx rfl (hb hby at_78) rfl k) ?_
      refine own_st (S' := T37.setTop (mkF m 80 #[.val (.int p0), .val (.int p1), .val (.int p2), .val (.int v1), .val (.int v2), .val (.ref b4), .val (.int p2.toInt8.toInt32), .val (.long (5 : Int64)), .second, .val (.long (1 : Int64)), .second, .val (.long v26), .second, .val (.long v27), .second, .val (.ref b4), .unset] [(.long v1.toInt64), (.long v27)])) (fun t k => XS.i2l X37.here hx rfl (hb hby at_79) rfl k) ?_
      refine own_st (S' := T37.setTop (mkF m 81 #[.val (.int p0), .val (.int p1), .val (.int p2), .val (.int v1), .val (.int v2), .val (.ref b4), .val (.int p2.toInt8.toInt32), .val (.long (5 : Int64)), .second, .val (.long (1 : Int64)), .second, .val (.long v26), .second, .val (.long v27), .second, .val (.ref b4), .unset] [(.int (lcmpW v27 v1.toInt64))])) (fun t k => XS.lcmp X37.here hx rfl (hb hby at_80) rfl k) ?_
      refine own_st (S' := T37.setTop (mkF m 84 #[.val (.int p0), .val (.int p1), .val (.int p2), .val (.int v1), .val (.int v2), .val (.ref b4), .val (.int p2.toInt8.toInt32), .val (.long (5 : Int64)), .second, .val (.long (1 : Int64)), .second, .val (.long v26), .second, .val (.long v27), .second, .val (.ref b4), .unset] [])) (fun t k => XS.ifNo X37.here hx rfl (hb hby at_81) rfl ((if0 _ _).trans (flt (mt (lw_gt _ _).mp hc28)).2.2.1) k) ?_
      show own_Go p.tables e below _ (T37.setTop (mkF m 84 #[.val (.int p0), .val (.int p1), .val (.int p2), .val (.int v1), .val (.int v2), .val (.ref b4), .val (.int p2.toInt8.toInt32), .val (.long (5 : Int64)), .second, .val (.long (1 : Int64)), .second, .val (.long v26), .second, .val (.long v27), .second, .val (.ref b4), .unset] []))
      refine own_st (S' := T37.setTop (mkF m 86 #[.val (.int p0), .val (.int p1), .val (.int p2), .val (.int v1), .val (.int v2), .val (.ref b4), .val (.int p2.toInt8.toInt32), .val (.long (5 : Int64)), .second, .val (.long (1 : Int64)), .second, .val (.long v26), .second, .val (.long v27), .second, .val (.ref b4), .unset] [(.ref b4)])) (fun t k => XS.aload X37.here hx rfl (hb hby at_84) rfl rfl k) ?_
      refine own_st (S' := T37.setTop (mkF m 88 #[.val (.int p0), .val (.int p1), .val (.int p2), .val (.int v1), .val (.int v2), .val (.ref b4), .val (.int p2.toInt8.toInt32), .val (.long (5 : Int64)), .second, .val (.long (1 : Int64)), .second, .val (.long v26), .second, .val (.long v27), .second, .val (.ref b4), .unset] [(.ref b4), (.ref b4)])) (fun t k => XS.aload X37.here hx rfl (hb hby at_86) rfl rfl k) ?_
      refine own_st (S' := T37.setTop (mkF m 91 #[.val (.int p0), .val (.int p1), .val (.int p2), .val (.int v1), .val (.int v2), .val (.ref b4), .val (.int p2.toInt8.toInt32), .val (.long (5 : Int64)), .second, .val (.long (1 : Int64)), .second, .val (.long v26), .second, .val (.long v27), .second, .val (.ref b4), .unset] [])) (fun t k => Jvm.RoadKit.acmp (g := (mkF m 88 #[.val (.int p0), .val (.int p1), .val (.int p2), .val (.int v1), .val (.int v2), .val (.ref b4), .val (.int p2.toInt8.toInt32), .val (.long (5 : Int64)), .second, .val (.long (1 : Int64)), .second, .val (.long v26), .second, .val (.long v27), .second, .val (.ref b4), .unset] [(.ref b4), (.ref b4)])) X37 hx rfl rfl rfl (pc0 := 88) (pc' := 91) (same := true) rfl (hb hby at_88) rfl (decide_eq_true rfl) (by decide) (by decide) k) ?_
      show own_Go p.tables e below _ (T37.setTop (mkF m 91 #[.val (.int p0), .val (.int p1), .val (.int p2), .val (.int v1), .val (.int v2), .val (.ref b4), .val (.int p2.toInt8.toInt32), .val (.long (5 : Int64)), .second, .val (.long (1 : Int64)), .second, .val (.long v26), .second, .val (.long v27), .second, .val (.ref b4), .unset] []))
      refine own_st (S' := T37.setTop (mkF m 92 #[.val (.int p0), .val (.int p1), .val (.int p2), .val (.int v1), .val (.int v2), .val (.ref b4), .val (.int p2.toInt8.toInt32), .val (.long (5 : Int64)), .second, .val (.long (1 : Int64)), .second, .val (.long v26), .second, .val (.long v27), .second, .val (.ref b4), .unset] [(.int v1)])) (fun t k => XS.iloadN X37.here hx rfl (hb hby at_91) rfl k) ?_
      have hc38 : v1 = (0 : Int32) := Int32.toInt_inj.mp (by have := hn3; have q := hc6; rw [own_lt32] at q; have q' : ¬ (0 : Int) < v1.toInt := q; show v1.toInt = 0; omega)
      refine own_st (S' := T37.setTop (mkF m 106 #[.val (.int p0), .val (.int p1), .val (.int p2), .val (.int v1), .val (.int v2), .val (.ref b4), .val (.int p2.toInt8.toInt32), .val (.long (5 : Int64)), .second, .val (.long (1 : Int64)), .second, .val (.long v26), .second, .val (.long v27), .second, .val (.ref b4), .unset] [])) (fun t k => XS.ifYes X37.here hx rfl (pc0 := 92) (pc' := 106) rfl (hb hby at_92) rfl ((if0 _ _).trans (teq hc38).1) (by decide) (by decide) k) ?_
      show own_Go p.tables e below _ (T37.setTop (mkF m 106 #[.val (.int p0), .val (.int p1), .val (.int p2), .val (.int v1), .val (.int v2), .val (.ref b4), .val (.int p2.toInt8.toInt32), .val (.long (5 : Int64)), .second, .val (.long (1 : Int64)), .second, .val (.long v26), .second, .val (.long v27), .second, .val (.ref b4), .unset] []))
      refine own_st (S' := T37.setTop (mkF m 107 #[.val (.int p0), .val (.int p1), .val (.int p2), .val (.int v1), .val (.int v2), .val (.ref b4), .val (.int p2.toInt8.toInt32), .val (.long (5 : Int64)), .second, .val (.long (1 : Int64)), .second, .val (.long v26), .second, .val (.long v27), .second, .val (.ref b4), .unset] [(.int (1 : Int32))])) (fun t k => XS.iconst X37.here hx rfl (hb hby at_106) k) ?_
      refine own_st (S' := T37.setTop (mkF m 111 #[.val (.int p0), .val (.int p1), .val (.int p2), .val (.int v1), .val (.int v2), .val (.ref b4), .val (.int p2.toInt8.toInt32), .val (.long (5 : Int64)), .second, .val (.long (1 : Int64)), .second, .val (.long v26), .second, .val (.long v27), .second, .val (.ref b4), .unset] [(.int (1 : Int32))])) (fun t k => XS.goto X37.here hx rfl (pc0 := 107) (pc' := 111) rfl (hb hby at_107) (by decide) (by decide) k) ?_
      refine own_retN X37 hx (t := .boolean) hret (by simp) hlk (hb hby at_111) ?_ (by decide) (by decide)
      rw [hh37]
      exact ⟨rfl, N37⟩
set_option maxRecDepth 65536 in
set_option maxHeartbeats 40000000 in
theorem comes_1 {Post : Tables → Env → Array Value → State → Outcome → State → Prop} (hpost : ∀ tb e args s v u, (limb_1_1.after args s (.returned v) u = true ∧ limb_1_2.after args s (.returned v) u = true ∧ True) → FrameEnd s (.returned v) u (Jvm.fieldLocs frame_1_writes args s ++ Jvm.arrayLocs frame_1_arrays args s ++ Jvm.staticLocs frame_1_statics s) 16 640 → Post tb e args s (.returned v) u) :
    ArmFor flags0 classFile x code maxLocals ret World_1 tables_1 room_1 Calls_1 rest_1 Pre_1 Post := by
  intro l hfl _ _ p e ha hc hk s m args below hf hA hF happ hP
  obtain ⟨hcalls, hrest, hpre⟩ := hP
  obtain ⟨-, -, -, hnamed, -, -, -, hat⟩ := (Spec.applies_iff hf).mp happ
  obtain ⟨hg, hn⟩ := and_e (Cond.before_iff.mp (show (Jvm.Cond.and given_1 narrow_1).before args s = true from hpre))
  obtain ⟨c0, d0⟩ := and_e hg
  obtain ⟨c1, d1⟩ := and_e d0
  obtain ⟨c2, d2⟩ := and_e d1
  obtain ⟨w0, w1, w2, rfl⟩ : ∃ w0 w1 w2 : Value, args = #[w0, w1, w2] := by
    have hs : args.size = 3 := by simpa [Cond.value, given_1] using c0
    obtain ⟨L⟩ := args
    match L, hs with
    | [w0, w1, w2], _ => exact ⟨w0, w1, w2, rfl⟩
  have hw := fun d (hd : d ∈ tables_1) => atoms_spec (ws := Jvm.Cond.code x code maxLocals ret :: tables_1) hat d (List.mem_cons_of_mem _ hd)
  have hfit : Fit s := fun {y c} hc i hi => by
    obtain ⟨ha, rfl⟩ := Array.getElem?_eq_some_iff.mp hc
    have q := List.all_eq_true.mp ((Array.all_eq_true_iff_forall_mem.mp hF) _ (Array.getElem_mem ha)) i (List.mem_range.mpr hi)
    simpa [Array.getElem?_eq_getElem hi] using q
  obtain ⟨i0, ei0⟩ := is_v c1
  obtain rfl : w0 = (.int i0) := Option.some.inj ei0
  obtain ⟨i1, ei1⟩ := is_v c2
  obtain rfl : w1 = (.int i1) := Option.some.inj ei1
  obtain ⟨i2, ei2⟩ := is_v d2
  obtain rfl : w2 = (.int i2) := Option.some.inj ei2
  obtain ⟨n, o, h1, h2, h3, _, L, rfl, ⟨rfl, N⟩, hq⟩ := rm0 l s _ hw tables_1 i0 i1 i2  s.heap s.heap.size (Nat.le_refl _)  p e ha hc hk s m _ below hf ((Spec.applies_iff_loose hf).mp happ).1 ⟨rfl, State.Warmed39.refl s, rfl⟩ trivial
  refine ⟨n, _, h1, h2, h3, hpost _ _ _ _ _ _ ⟨Cond.after_iff.mpr rfl, Cond.after_iff.mpr (eq_i res_at (Term.int_eval (1)) rfl), trivial⟩ ⟨hq.1, hq.2.1, (hq.2.2.sift fun y hy => Or.inr (N y hy)).mono (by decide) (by decide)⟩⟩
theorem main_1_1 : Claimed_1_1 := comes_1 fun _ _ _ _ _ _ h hF => ⟨h.1, hF⟩
theorem main_1_2 : Claimed_1_2 := comes_1 fun _ _ _ _ _ _ h hF => ⟨h.2.1, hF⟩
end Jvm.Pilot.@@N@@
namespace Jvm.Pilot.@@N@@
open Jvm Jvm.ClassFile Sem Op Lib Jvm.Free Jvm.Stand Jvm.Pilot.@@N@@.Jvm.D
/-! MADE BY PROGRAM (witnessworld.py) out of the Statement's table words and the real class files: 9 classes; the members and pool entries that the words name. The judged class is class 1, her method 1. -/
namespace start1
open Jvm.ClassFile
def u (s : String) : CpInfo := .utf8 (stringToUtf16 s)
/-- a pool by its gaps: so many unusable entries, then the entry; so many at the end -/
def gap : Nat → List CpInfo → List CpInfo
  | 0, r => r
  | n + 1, r => .unusable :: gap n r
def poolList (es : List (Nat × CpInfo)) (last : Nat) : List CpInfo := es.foldr (fun e r => gap e.1 (e.2 :: r)) (gap last [])
def pool (es : List (Nat × CpInfo)) (last : Nat) : Array CpInfo := ⟨poolList es last⟩
def fileOf (pool : Array CpInfo) (this : Nat) (attrs : Array Attribute := #[]) (ms : Array MethodInfo := #[]) (fl : Nat := 33) (sup : Nat := 0) (ifs : Array Nat := #[]) (fds : Array FieldInfo := #[]) : ClassFile where
  minorVersion := 0
  majorVersion := 65
  constantPool := pool
  accessFlags := fl
  thisClass := this
  superClass := sup
  interfaces := ifs
  fields := fds
  methods := ms
  attributes := attrs
def plain (name : String) (sup : Option ClassId) : Class where
  name := name
  kind := .ordinary
  loader := none
  accessFlags := 33
  super := sup
  interfaces := #[]
  cf := none
  fields := #[]
  methods := #[]
  instanceTypes := #[]
  staticTypes := #[]
  resolved := #[]
  callSites := []
  init := .initialized
  statics := none
  mirror := none

def pool0 : Array CpInfo := pool [(5, u "<init>"), (0, u "()V"), (1, .class_ 10), (1, u "java/lang/Object")] 113

def k0m0 : Method := { name := "<init>", desc := "()V", sig := { parameters := [], returnType := none }, accessFlags := 1, code := none }
/-- java/lang/Object -/
def k0 : Class := { plain "java/lang/Object" none with
  accessFlags := 33
  interfaces := #[]
  cf := some (fileOf pool0 8 #[] #[{ accessFlags := 1, nameIndex := 5, descriptorIndex := 6, attributes := #[] }] 33 0 #[] #[])
  fields := #[]
  methods := #[k0m0]
  instanceTypes := #[]
  staticTypes := #[]
  resolved := Array.replicate 124 none
  statics := none }

def pool1 : Array CpInfo := pool [(2, .class_ 4), (1, u "java/lang/Object"), (0, u "<init>"), (0, u "()V"), (0, .long 5), (1, .long 4), (1, .methodref 12 13), (0, .class_ 14), (0, .nameAndType 15 16), (0, u "com/example/tokenwise/tokenwise/semantics/StateCodec"), (0, u "room"), (0, u "([BI)[B"), (0, .class_ 18), (0, u "com/example/tokenwise/tokenwise/semantics/StateCodecRoomPinLaw"), (2, u "law"), (0, u "(III)Z")] 5

def k1m0 : Method := { name := "<init>", desc := "()V", sig := { parameters := [], returnType := none }, accessFlags := 1, code := none }
def k1c1 : Code := { maxStack := 4, maxLocals := 17, code := code, exceptionTable := #[], attributes := #[] }
def k1m1 : Method := { name := "law", desc := "(III)Z", sig := { parameters := [.int, .int, .int], returnType := some .boolean }, accessFlags := 9, code := some k1c1 }
/-- com/example/tokenwise/tokenwise/semantics/StateCodecRoomPinLaw -/
def k1 : Class := { plain "com/example/tokenwise/tokenwise/semantics/StateCodecRoomPinLaw" (some 0) with
  accessFlags := 49
  interfaces := #[]
  cf := some (fileOf pool1 17 #[] #[{ accessFlags := 1, nameIndex := 5, descriptorIndex := 6, attributes := #[] }, { accessFlags := 9, nameIndex := 21, descriptorIndex := 22, attributes := #[] }] 49 2 #[] #[])
  fields := #[]
  methods := #[k1m0, k1m1]
  instanceTypes := #[]
  staticTypes := #[]
  resolved := Array.replicate 28 none
  statics := none }

def pool2 : Array CpInfo := pool [(2, .class_ 4), (1, u "java/lang/Object"), (0, u "<init>"), (0, u "()V"), (0, .class_ 8), (0, u "com/example/tokenwise/tokenwise/semantics/StateCodec"), (0, .long 6), (3, .long 4), (1, .long 2147483639), (48, u "ZEROS"), (0, u "[B"), (22, u "MAX_COUNT_BYTES"), (0, u "I"), (4, u "room"), (0, u "([BI)[B")] 32

def k2m0 : Method := { name := "<init>", desc := "()V", sig := { parameters := [], returnType := none }, accessFlags := 2, code := none }
def k2c1 : Code := { maxStack := 6, maxLocals := 4, code := prog_110_method_2_code, exceptionTable := #[], attributes := #[] }
def k2m1 : Method := { name := "room", desc := "([BI)[B", sig := { parameters := [(.array .byte), .int], returnType := some (.array .byte) }, accessFlags := 8, code := some k2c1 }
/-- com/example/tokenwise/tokenwise/semantics/StateCodec -/
def k2 : Class := { plain "com/example/tokenwise/tokenwise/semantics/StateCodec" (some 0) with
  accessFlags := 48
  interfaces := #[]
  cf := some (fileOf pool2 7 #[] #[{ accessFlags := 2, nameIndex := 5, descriptorIndex := 6, attributes := #[] }, { accessFlags := 8, nameIndex := 94, descriptorIndex := 95, attributes := #[] }] 48 2 #[] #[{ accessFlags := 26, nameIndex := 88, descriptorIndex := 89, attributes := #[] }, { accessFlags := 26, nameIndex := 64, descriptorIndex := 65, attributes := #[] }])
  fields := #[{ name := "MAX_COUNT_BYTES", type := .int, accessFlags := 26, slot := 0, constantValue := 0 }, { name := "ZEROS", type := (.array .byte), accessFlags := 26, slot := 1, constantValue := 0 }]
  methods := #[k2m0, k2m1]
  instanceTypes := #[]
  staticTypes := #[.int, (.array .byte)]
  resolved := Array.replicate 128 none
  statics := none }

def pool3 : Array CpInfo := pool [(1, u "java/lang/Cloneable"), (0, .class_ 1), (0, u "java/lang/Object"), (0, .class_ 3)] 3

/-- java/lang/Cloneable -/
def k3 : Class := { plain "java/lang/Cloneable" (some 0) with
  accessFlags := 1537
  interfaces := #[]
  cf := some (fileOf pool3 2 #[] #[] 1537 4 #[] #[])
  fields := #[]
  methods := #[]
  instanceTypes := #[]
  staticTypes := #[]
  resolved := Array.replicate 8 none
  statics := none }

def pool4 : Array CpInfo := pool [(1, u "java/io/Serializable"), (0, .class_ 1), (0, u "java/lang/Object"), (0, .class_ 3)] 3

/-- java/io/Serializable -/
def k4 : Class := { plain "java/io/Serializable" (some 0) with
  accessFlags := 1537
  interfaces := #[]
  cf := some (fileOf pool4 2 #[] #[] 1537 4 #[] #[])
  fields := #[]
  methods := #[]
  instanceTypes := #[]
  staticTypes := #[]
  resolved := Array.replicate 8 none
  statics := none }

/-- the primitive byte -/
def k5 : Class := { plain "byte" none with kind := .primitive 'B', accessFlags := 0x411 }
/-- [B -/
def k6 : Class := { plain "[B" (some 0) with kind := .array 5 .byte, interfaces := #[3, 4], accessFlags := 1041 }

/-- the primitive int -/
def k7 : Class := { plain "int" none with kind := .primitive 'I', accessFlags := 0x411 }
/-- [I -/
def k8 : Class := { plain "[I" (some 0) with kind := .array 7 .int, interfaces := #[3, 4], accessFlags := 1041 }

def heap : Heap := #[]
def classes : Array Class := #[k0, k1, k2, k3, k4, k5, k6, k7, k8]
def interned : List (Array UInt16 × Addr) := []
def slotsUsed : Nat := 0
def theMethod : MethodId := ⟨1, 1⟩
def args0 : Array Value := #[.int 5, .int 6, .int 3]
def aboutOver (below : List Frame) : State where
  vm := { classes := classes, interned := interned.toArray }
  heap := heap
  slotsUsed := slotsUsed
  threads := #[{ frames := .invoking theMethod args0 :: below }]
def below0 : List Frame := [.native { method := ⟨0, 0⟩, args := #[] }]
def about1 : State := aboutOver below0
def p0 : Program := .bare "" "" ""
def e0 : Env := launch0.env 0 0 0
theorem w_frames : about1.frames = Frame.invoking theMethod args0 :: below0 := rfl
set_option maxRecDepth 65536 in
theorem w_args : argsFit about1.vm theMethod args0 = true := by decide +kernel
set_option maxRecDepth 65536 in
theorem w_heap : heapFits about1 = true := by decide +kernel
set_option maxRecDepth 65536 in
theorem w_runnable : about1.curStatus? = some .runnable := by decide +kernel
set_option maxRecDepth 65536 in
theorem w_alone : about1.alone = true := by decide +kernel
set_option maxRecDepth 65536 in
theorem w_named : about1.methodNamed? x = some theMethod := by decide +kernel
set_option maxRecDepth 65536 in
theorem w_hears : about1.hears theMethod below0 = true := by decide +kernel
set_option maxRecDepth 65536 in
theorem w_ripe : about1.ripe theMethod args0 below0 = true := by decide +kernel
theorem w_running : about1.status = .running := rfl
set_option maxRecDepth 65536 in
theorem w_room : about1.hasRoom e0.platform room_1 = true :=
  launch0.hasRoom_least _ room_1 (by decide +kernel) (by decide +kernel) (by decide +kernel) (by decide +kernel) (by decide +kernel) (by decide +kernel)
theorem allAtoms_all (ts : List Jvm.Cond) (a : Array Jvm.Value) (st : Jvm.State) : (allAtoms ts).before a st = ts.all (fun c => c.before a st) := by
  induction ts with
  | nil => rfl
  | cons c t ih =>
    show (Jvm.Cond.and c (allAtoms t)).before a st = _
    rw [Jvm.Cond.before_and, ih, List.all_cons]
def words1 : List Jvm.Cond := Jvm.Cond.code x code maxLocals ret :: tables_1
/-- a 'code' word, met by the world's own term for the bytes: nothing is compared byte by byte -/
theorem code_word {y : MethodName} {bytes : ByteArray} {mx : Nat} {rt : Option FieldType} {a : Array Value} {s : State} {m : MethodId} {meth : Method} {c : Code} (h1 : s.methodNamed? y = some m) (h2 : s.vm.method? m = some meth) (h3 : meth.code = some c) (h4 : c.code = bytes)
    (h5 : (c.maxLocals == mx && c.exceptionTable.isEmpty && decide (c.maxStack ≤ mostOperands) && decide (meth.sig.returnType = rt) && !meth.locks && decide (parseMethodDescriptor y.desc = some meth.sig)) = true) : (Jvm.Cond.code y bytes mx rt).before a s = true := by
  simp only [Bool.and_eq_true, beq_iff_eq, Bool.not_eq_true', decide_eq_true_eq] at h5
  obtain ⟨⟨⟨⟨⟨g1, g2⟩, g3⟩, g4⟩, g5⟩, g6⟩ := h5
  simp [Cond.before, Cond.holds, Cond.value, h1, h2, h3, h4, g1, g2, g3, g4, g5, g6]
def isCode : Jvm.Cond → Bool
  | .code _ _ _ _ => true
  | _ => false
theorem all_split {L : List Jvm.Cond} {P : Jvm.Cond → Bool} (h1 : L.all (fun c => isCode c || P c) = true) (h2 : ∀ c ∈ L.filter isCode, P c = true) : L.all P = true := by
  refine List.all_eq_true.mpr fun c hc => ?_
  have h := List.all_eq_true.mp h1 c hc
  rcases Bool.eq_false_or_eq_true (isCode c) with hi | hi
  · exact h2 c (List.mem_filter.mpr ⟨hc, hi⟩)
  · simpa [hi] using h
set_option maxRecDepth 65536 in
theorem w_c0 : (Jvm.Cond.code x code maxLocals ret).before args0 about1 = true := code_word (m := ⟨1, 1⟩) (meth := k1m1) (c := k1c1) (by decide +kernel) rfl rfl rfl (by decide +kernel)
set_option maxRecDepth 65536 in
theorem w_c1 : (Jvm.Cond.code ({ cls := "com/example/tokenwise/tokenwise/semantics/StateCodec", name := "room", desc := "([BI)[B" } : Jvm.MethodName) prog_110_method_2_code (4 : Nat) (Option.some (Jvm.ClassFile.FieldType.array Jvm.ClassFile.FieldType.byte))).before args0 about1 = true := code_word (m := ⟨2, 1⟩) (meth := k2m1) (c := k2c1) (by decide +kernel) rfl rfl rfl (by decide +kernel)
def codes1 : List Jvm.Cond := [Jvm.Cond.code x code maxLocals ret, Jvm.Cond.code ({ cls := "com/example/tokenwise/tokenwise/semantics/StateCodec", name := "room", desc := "([BI)[B" } : Jvm.MethodName) prog_110_method_2_code (4 : Nat) (Option.some (Jvm.ClassFile.FieldType.array Jvm.ClassFile.FieldType.byte))]
set_option maxRecDepth 65536 in
theorem codes_eq : words1.filter isCode = codes1 := rfl
theorem w_codes : ∀ c ∈ words1.filter isCode, c.before args0 about1 = true := by
  rw [codes_eq]
  intro c hc
  simp only [codes1, List.mem_cons, List.not_mem_nil, or_false] at hc
  rcases hc with rfl | rfl
  · exact w_c0
  · exact w_c1
set_option maxRecDepth 65536 in
theorem w_t1 : words1.all (fun c => isCode c || c.before args0 about1) = true := by decide +kernel
theorem w_tables : (allAtoms (Jvm.Cond.code x code maxLocals ret :: tables_1)).before args0 about1 = true := by
  rw [allAtoms_all]
  show words1.all (fun c => c.before args0 about1) = true
  refine all_split ?_ w_codes
  rw [w_t1]
set_option maxRecDepth 65536 in
theorem w_case : (Jvm.Cond.and given_1 narrow_1).before args0 about1 = true := by decide +kernel
theorem w_applies : (headSpec (Jvm.Cond.code x code maxLocals ret :: tables_1) room_1).applies x e0.platform about1 = true :=
  (Spec.applies_iff w_frames).mpr ⟨w_running, w_runnable, w_alone, w_named, w_hears, w_ripe, w_room, w_tables⟩
theorem atStart : AtStart classFile x code maxLocals ret World_1 tables_1 room_1 Calls_1 rest_1 Pre_1 launch0 p0 e0 about1 theMethod args0 below0 :=
  ⟨lists_1, trivial, launch0.admits_env _ _ _, launch0.least_env, fairChoices_fair.cas, fairChoices_fair.clock, w_frames, w_args, w_heap, w_applies, trivial, trivial, w_case⟩
end start1
theorem witness_1 : WitnessClaimed_1 := ⟨start1.p0, start1.e0, start1.about1, start1.theMethod, start1.args0, start1.below0, start1.atStart⟩
end Jvm.Pilot.@@N@@
