import JvmDerived
import JvmDerived.Pilot.@@N@@Statement
import JvmDerived.Pilot.@@N@@Code
set_option linter.unusedVariables false
set_option linter.unusedSimpArgs false
namespace Jvm.Pilot.@@N@@
open Jvm Jvm.ClassFile Sem Op Lib Jvm.Free Jvm.Stand Jvm.LawKit Jvm.RoadKit Bundle Jvm.Pilot.@@N@@.Jvm.D
section Own
variable {p : Program} {l : Launch} {e : Env} {R : Room} {s : State} {m : MethodId} {args : Array Value} {below : List Frame} {meth : Method} {c : Code} {T : State} {locs : List Loc} {cells slots : Nat} {Q : Option Value → Heap → List Loc → Prop} {k n : Nat}
/-- from this state the body comes to an end that meets Φ -/
def own_Go (tb : Tables) (e : Env) (below : List Frame) (Φ : Outcome → State → Prop) (S : State) : Prop :=
  ∃ U o, Steps tb e below S U ∧ U.status = .running ∧ Ended U below o ∧ Φ o U
/-- it returned; what it leaves meets Q; nothing else moved -/
def own_F (s : State) (Q : Option Value → Heap → List Loc → Prop) (k n : Nat) (o : Outcome) (U : State) : Prop := ∃ v L, o = .returned v ∧ Q v U.heap L ∧ FrameEnd s o U L k n
theorem own_st {tb : Tables} {Φ : Outcome → State → Prop} {S S' : State} (h : ∀ t, Steps tb e below S' t → Steps tb e below S t) (g : own_Go tb e below Φ S') : own_Go tb e below Φ S := by
  obtain ⟨U, o, h1, r⟩ := g
  exact ⟨U, o, h _ h1, r⟩
theorem own_tr {tb : Tables} {Φ : Outcome → State → Prop} {S S' : State} (h : Steps tb e below S S') (g : own_Go tb e below Φ S') : own_Go tb e below Φ S := by
  obtain ⟨U, o, h1, r⟩ := g
  exact ⟨U, o, h.trans h1, r⟩
theorem own_end (X : Stand p l e R s m args below meth c T locs cells slots) (v : Option Value) (hv : meth.sig.returnType = none → v = none) (hlk : meth.locks = false) (hq : Q v T.heap locs) (hk : cells ≤ k) (hn : slots ≤ n) {S : State}
    (hs : ∀ fs, (∀ (f : JFrame) (acts : List Action), f.method = m → f.locked = none → f.entered = [] → (doReturn e (T.setTop f) acts v).1 = T.setFrames fs) → Steps p.tables e below S (T.setFrames fs)) : own_Go p.tables e below (own_F s Q k n) S := by
  obtain ⟨fs, hr, hrun, hended, hW, hsame⟩ := X.leave (v := v) hv hlk
  exact ⟨_, _, hs fs hr, hrun, hended, v, locs, rfl, hq, ⟨_, rfl⟩, hW, hsame.mono hk hn⟩
theorem own_retN (X : Stand p l e R s m args below meth c T locs cells slots) (hx : p.tables.exec = Jvm.exec) {pc : Nat} {Ls : Array Slot} {z : Int32} {t : FieldType} {rest : List Value} (hret : meth.sig.returnType = some t) (ht : t = .boolean ∨ t = .byte ∨ t = .char ∨ t = .short) (hlk : meth.locks = false)
    (hd : decode c.code pc = .ok (.ireturn, 1)) (hq : Q (some (.int (nar t z))) T.heap locs) (hk : cells ≤ k) (hn : slots ≤ n) : own_Go p.tables e below (own_F s Q k n) (T.setTop (mkF m pc Ls (.int z :: rest))) :=
  own_end X _ (fun h => by rw [hret] at h; cases h) hlk hq hk hn fun fs hr => retN X hx hret ht hd hr
theorem own_retI (X : Stand p l e R s m args below meth c T locs cells slots) (hx : p.tables.exec = Jvm.exec) {pc : Nat} {Ls : Array Slot} {z : Int32} {rest : List Value} (hret : meth.sig.returnType = some .int) (hlk : meth.locks = false)
    (hd : decode c.code pc = .ok (.ireturn, 1)) (hq : Q (some (.int z)) T.heap locs) (hk : cells ≤ k) (hn : slots ≤ n) : own_Go p.tables e below (own_F s Q k n) (T.setTop (mkF m pc Ls (.int z :: rest))) :=
  own_end X _ (fun h => by rw [hret] at h; cases h) hlk hq hk hn fun fs hr => retOut X hx hret rfl (Or.inl ⟨rfl, Or.inl rfl, z, rfl⟩) hd hr
theorem own_retL (X : Stand p l e R s m args below meth c T locs cells slots) (hx : p.tables.exec = Jvm.exec) {pc : Nat} {Ls : Array Slot} {z : Int64} {rest : List Value} (hret : meth.sig.returnType = some .long) (hlk : meth.locks = false)
    (hd : decode c.code pc = .ok (.lreturn, 1)) (hq : Q (some (.long z)) T.heap locs) (hk : cells ≤ k) (hn : slots ≤ n) : own_Go p.tables e below (own_F s Q k n) (T.setTop (mkF m pc Ls (.long z :: rest))) :=
  own_end X _ (fun h => by rw [hret] at h; cases h) hlk hq hk hn fun fs hr => retOut X hx hret rfl (Or.inr (Or.inl ⟨rfl, rfl, z, rfl⟩)) hd hr
theorem own_retA (X : Stand p l e R s m args below meth c T locs cells slots) (hx : p.tables.exec = Jvm.exec) {pc : Nat} {Ls : Array Slot} {w : Value} {t : FieldType} {rest : List Value} (hret : meth.sig.returnType = some t) (ht : t.isReference = true) (hw : w.isRef = true) (hnw : narrow t w = w) (hlk : meth.locks = false)
    (hd : decode c.code pc = .ok (.areturn, 1)) (hq : Q (some w) T.heap locs) (hk : cells ≤ k) (hn : slots ≤ n) : own_Go p.tables e below (own_F s Q k n) (T.setTop (mkF m pc Ls (w :: rest))) :=
  own_end X _ (fun h => by rw [hret] at h; cases h) hlk hq hk hn fun fs hr => retOut X hx hret hnw (Or.inr (Or.inr (Or.inr (Or.inr ⟨rfl, ht, hw⟩)))) hd hr
theorem own_retV (X : Stand p l e R s m args below meth c T locs cells slots) (hx : p.tables.exec = Jvm.exec) {pc : Nat} {Ls : Array Slot} (hret : meth.sig.returnType = none) (hlk : meth.locks = false)
    (hd : decode c.code pc = .ok (.return_, 1)) (hq : Q none T.heap locs) (hk : cells ≤ k) (hn : slots ≤ n) : own_Go p.tables e below (own_F s Q k n) (T.setTop (mkF m pc Ls [])) :=
  own_end X _ (fun _ => rfl) hlk hq hk hn fun fs hr => X.returnOut hx hret hd hr
theorem own_body {y : MethodName} {cd : ByteArray} {mx : Nat} {rt : Option FieldType} {ws : List Jvm.Cond} {rm : Room} {Z : State} {h0 : Heap} {as : Array Value} (hp : plainFor y = true)
    (go : ∀ (p : Program) (e : Env) (s : State) (m : MethodId) (below : List Frame) (meth : Method) (c : Code) (s₁ : State), p.tables.exec = Jvm.exec → c.code = cd → c.maxLocals = mx → s.vm.findClass y.cls = some m.cls → meth.name = y.name → meth.sig.returnType = rt → meth.locks = false → Z.Warmed39 s.vm →
      Stand p l e rm s m as below meth c s₁ [] 0 0 → s₁.heap = h0 → own_Go p.tables e below (own_F s Q rm.cells rm.slots) (s₁.setTop (entryFrame m as mx))) :
    MetFree l y (head1 (Jvm.Cond.code y cd mx rt :: ws) rm) (fun a U => a = as ∧ Z.Warmed39 U.vm ∧ U.heap = h0) (fun _ _ _ _ _ => True) (fun _ U o U' => ∃ v L, o = .returned v ∧ Q v U'.heap L ∧ FrameEnd U o U' L rm.cells rm.slots) := by
  refine MetFree.of_bodySF hp hisR ?_
  intro p e s m args below meth c s₁ Bd hml0 hP hK
  obtain ⟨rfl, hZ, hh⟩ := hP
  exact go p e s m below meth c s₁ Bd.exec Bd.bytes hml0 (findClass_of_methodNamed Bd.named) (name_of_methodNamed Bd.named Bd.method).1 Bd.returns Bd.notSynchronized hZ (Stand.of_body Bd) (by rw [← hh, Bd.state]; rfl)
end Own
theorem own_narb {P : Prop} [Decidable P] : nar .boolean (if P then (1 : Int32) else (0 : Int32)) = if P then (1 : Int32) else (0 : Int32) := by split <;> rfl
/-- an array by its length and what each place holds -/
def own_A (Z : State) (h : Heap) (a : Addr) (ty : FieldType) (n : Nat) (f : Nat → Value) : Prop := ∃ c : Cell, Arr Z h a c ty ∧ c.slots.size = n ∧ n < 2 ^ 31 ∧ ∀ j, j < n → c.slots[j]? = some (f j)
def own_up (f : Nat → Value) (i : Nat) (v : Value) : Nat → Value := fun j => if j = i then v else f j
def own_Ix (j : Int32) (i n : Nat) : Prop := ¬ j < 0 ∧ j.toNatClampNeg = i ∧ i < n
section Arrs
variable {Z : State} {h h' : Heap} {a b : Addr} {ty : FieldType} {n i : Nat} {f : Nat → Value} {v : Value} {sl : Nat} {ws : List Addr} {c : Cell} {j z : Int32}
theorem own_A.lt (F : own_A Z h a ty n f) : a < h.size := by obtain ⟨c, A, -⟩ := F; exact A.lt
theorem own_A.ext (F : own_A Z h a ty n f) (E : Ext h h') : own_A Z h' a ty n f := by obtain ⟨c, A, r⟩ := F; exact ⟨c, A.ext E, r⟩
theorem own_A.other (F : own_A Z h b ty n f) (W : Wr h h' a sl v) (q : b ≠ a) : own_A Z h' b ty n f := by obtain ⟨c, A, r⟩ := F; exact ⟨c, A.other W q, r⟩
theorem own_A.keep (F : own_A Z h a ty n f) (K : Keep h h' ws) (q : a ∉ ws) : own_A Z h' a ty n f := by obtain ⟨c, A, r⟩ := F; exact ⟨c, ⟨K.2.1 a c A.1 q, A.2⟩, r⟩
theorem own_clamp (z : Int32) : z.toNatClampNeg < 2 ^ 31 := by
  have := Int32.toInt_lt z
  simp only [Int32.toNatClampNeg]; omega
theorem own_A.new {k : ClassId} (A : Arr Z h a (newA k ty z) ty) (hz : z.toNatClampNeg = n) : own_A Z h a ty n (fun _ => defaultValue ty) := by
  refine ⟨_, A, by rw [sz_new, hz], by rw [← hz]; exact own_clamp z, fun j hj => ?_⟩
  simp [newA, hz, hj]
theorem own_ix (h1 : ¬ j < 0) (h2 : j.toNatClampNeg = i) (h3 : i < n) : own_Ix j i n := ⟨h1, h2, h3⟩
theorem own_in (S : c.slots.size = n) (h : own_Ix j i n) : ¬ (j < 0 ∨ c.slots.size ≤ j.toNatClampNeg) := by
  obtain ⟨h1, h2, h3⟩ := h
  rw [S, h2]
  exact fun q => q.elim h1 (fun r => absurd h3 (Nat.not_lt.mpr r))
theorem own_at (S : c.slots.size = n) (V : ∀ j, j < n → c.slots[j]? = some (f j)) (h : own_Ix j i n) (hv : f i = v) : c.slots[j.toNatClampNeg]? = some v := by
  obtain ⟨h1, h2, h3⟩ := h
  rw [h2, V i h3, hv]
theorem own_A.set (F : own_A Z h a ty n f) (hj : own_Ix j i n) (W : Wr h h' a j.toNatClampNeg v) : own_A Z h' a ty n (own_up f i v) := by
  obtain ⟨c, A, S, M, V⟩ := F
  obtain ⟨h1, h2, h3⟩ := hj
  rw [h2] at W
  refine ⟨c.setSlot i v, A.same W, by rw [sz_set]; exact S, M, fun j' hj' => ?_⟩
  show (c.slots.setIfInBounds i v)[j']? = _
  unfold own_up
  by_cases e : j' = i
  · subst e; rw [if_pos rfl]; simp [S, hj']
  · rw [if_neg e, Array.getElem?_setIfInBounds_ne (Ne.symm e)]; exact V j' hj'
theorem own_A.cong {g : Nat → Value} (F : own_A Z h a ty n f) (q : ∀ j, j < n → f j = g j) : own_A Z h a ty n g := by
  obtain ⟨c, A, S, M, V⟩ := F
  exact ⟨c, A, S, M, fun j hj => by rw [V j hj, q j hj]⟩
end Arrs
/-- a short array's values by a list -/
def own_V (vs : List Value) : Nat → Value := fun j => vs.getD j .null
theorem own_selP {Z s : State} {a0 args : Array Value} {y : MethodName} {n : Nat} (hZ : Z.Warmed39 s.vm) (wi : (Jvm.Cond.instantiable y.cls n).before a0 Z = true) (wp : (Jvm.Cond.privateMethod y).before a0 Z = true) (wm : (Jvm.Cond.instanceMethod y).before a0 Z = true)
    (hy : y.cls ≠ "java/lang/invoke/MethodHandle" ∧ y.cls ≠ "java/lang/invoke/VarHandle") : (Jvm.Cond.selects y.cls y y).before args s = true := by
  have w : (Jvm.Cond.instantiable y.cls n).before args s = true := mvT hZ wi
  obtain ⟨c, k, h1, h2, -, h4, -⟩ := Cond.instantiable_spec w
  exact selects_self_of_private h1 h2 (Bool.or_eq_false_iff.mp h4).1 (Cond.privateMethod_at (mvP hZ wp (args := #[]))) (mvT hZ wm) hy
section OwnW
variable {p : Program} {l : Launch} {e : Env} {R : Room} {s : State} {vm0 : Vm} {k0 : Nat} {m : MethodId} {args : Array Value} {below : List Frame} {meth : Method} {c : Code} {T : State} {locs : List Loc} {cells slots : Nat} {Q : Option Value → Heap → List Loc → Prop} {k n : Nat}
/-- as own_F, of a body that may load String constants -/
def own_FW (s : State) (Q : Option Value → Heap → List Loc → Prop) (k n : Nat) (o : Outcome) (U : State) : Prop := ∃ v L, o = .returned v ∧ Q v U.heap L ∧ ReturnedEndW s o U L k n
theorem own_endW (X : Stand p l e R (s.setVm vm0) m args below meth c T locs cells slots) (hS : s.Since vm0 k0) (hk0 : k0 ≤ T.heap.size) (v : Option Value) (hv : meth.sig.returnType = none → v = none) (hlk : meth.locks = false) (hq : Q v T.heap locs) (hk : cells ≤ k) (hn : slots ≤ n) {S : State}
    (hs : ∀ fs, (∀ (f : JFrame) (acts : List Action), f.method = m → f.locked = none → f.entered = [] → (doReturn e (T.setTop f) acts v).1 = T.setFrames fs) → Steps p.tables e below S (T.setFrames fs)) : own_Go p.tables e below (own_FW s Q k n) S := by
  obtain ⟨fs, hr, hrun, hended, hW, hsame⟩ := X.leave (v := v) hv hlk
  obtain ⟨h1, h2, h3⟩ := hS.ended (U := T.setFrames fs) hW hk0 hsame
  exact ⟨_, _, hs fs hr, hrun, hended, v, locs, rfl, hq, ⟨_, rfl⟩, h1, h2, h3.mono hk hn⟩
theorem own_retNW (X : Stand p l e R (s.setVm vm0) m args below meth c T locs cells slots) (hS : s.Since vm0 k0) (hk0 : k0 ≤ T.heap.size) (hx : p.tables.exec = Jvm.exec) {pc : Nat} {Ls : Array Slot} {z : Int32} {t : FieldType} {rest : List Value} (hret : meth.sig.returnType = some t) (ht : t = .boolean ∨ t = .byte ∨ t = .char ∨ t = .short) (hlk : meth.locks = false)
    (hd : decode c.code pc = .ok (.ireturn, 1)) (hq : Q (some (.int (nar t z))) T.heap locs) (hk : cells ≤ k) (hn : slots ≤ n) : own_Go p.tables e below (own_FW s Q k n) (T.setTop (mkF m pc Ls (.int z :: rest))) :=
  own_endW X hS hk0 _ (fun h => by rw [hret] at h; cases h) hlk hq hk hn fun fs hr => retN X hx hret ht hd hr
theorem own_retVW (X : Stand p l e R (s.setVm vm0) m args below meth c T locs cells slots) (hS : s.Since vm0 k0) (hk0 : k0 ≤ T.heap.size) (hx : p.tables.exec = Jvm.exec) {pc : Nat} {Ls : Array Slot} (hret : meth.sig.returnType = none) (hlk : meth.locks = false)
    (hd : decode c.code pc = .ok (.return_, 1)) (hq : Q none T.heap locs) (hk : cells ≤ k) (hn : slots ≤ n) : own_Go p.tables e below (own_FW s Q k n) (T.setTop (mkF m pc Ls [])) :=
  own_endW X hS hk0 _ (fun _ => rfl) hlk hq hk hn fun fs hr => X.returnOut hx hret hd hr
theorem own_bodyW {y : MethodName} {cd : ByteArray} {mx : Nat} {rt : Option FieldType} {ws : List Jvm.Cond} {rm : Room} {Z : State} {h0 : Heap} {as : Array Value} (hp : plainFor y = true)
    (go : ∀ (p : Program) (e : Env) (s : State) (m : MethodId) (below : List Frame) (meth : Method) (c : Code) (s₁ : State), p.tables.exec = Jvm.exec → c.code = cd → c.maxLocals = mx → s.vm.findClass y.cls = some m.cls → meth.name = y.name → meth.sig.returnType = rt → meth.locks = false → Z.Warmed39 s.vm →
      Stand p l e rm s m as below meth c s₁ [] 0 0 → s₁.heap = h0 → own_Go p.tables e below (own_FW s Q rm.cells rm.slots) (s₁.setTop (entryFrame m as mx))) :
    MetFree l y (head1 (Jvm.Cond.code y cd mx rt :: ws) rm) (fun a U => a = as ∧ Z.Warmed39 U.vm ∧ U.heap = h0) (fun _ _ _ _ _ => True) (fun _ U o U' => ∃ v L, o = .returned v ∧ Q v U'.heap L ∧ ReturnedEndW U o U' L rm.cells rm.slots) := by
  refine MetFree.of_bodySF hp hisR ?_
  intro p e s m args below meth c s₁ Bd hml0 hP hK
  obtain ⟨rfl, hZ, hh⟩ := hP
  exact go p e s m below meth c s₁ Bd.exec Bd.bytes hml0 (findClass_of_methodNamed Bd.named) (name_of_methodNamed Bd.named Bd.method).1 Bd.returns Bd.notSynchronized hZ (Stand.of_body Bd) (by rw [← hh, Bd.state]; rfl)
end OwnW

def own_sh (n : Int32) (x : Int64) : Int64 := ((x.toUInt64 >>> (n &&& 0x3f).toInt64.toUInt64).toInt64)
def own_x (n : Int32) (x : Int64) : Int64 := x ^^^ own_sh n x
def own_mix (z : Int64) : Int64 := own_x 31 (own_x 27 (own_x 30 z * (-4658895280553007687 : Int64)) * (-7723592293110705685 : Int64))
def own_nw (c x : Int64) : Int64 := x * ((2 : Int64) - (c * x))
def own_inv (c : Int64) : Int64 := own_nw c (own_nw c (own_nw c (own_nw c (own_nw c (own_nw c c)))))
def own_u (a b : Int32) (y : Int64) : Int64 := (y ^^^ own_sh a y) ^^^ own_sh b y
def own_unmix (y : Int64) : Int64 := own_u 30 60 (own_u 27 54 (own_u 31 62 y * own_inv (-7723592293110705685 : Int64)) * own_inv (-4658895280553007687 : Int64))
theorem own_inv1 : own_inv (-4658895280553007687 : Int64) = -7575587736534282103 := by decide +kernel
theorem own_inv2 : own_inv (-7723592293110705685 : Int64) = 3573116690164977347 := by decide +kernel
theorem own_sb (n : Int32) (k : Nat) (hk : (n &&& 0x3f).toInt64.toUInt64.toBitVec = BitVec.ofNat 64 k) (h : k < 64) (x : Int64) : (own_sh n x).toBitVec = x.toBitVec >>> k := by
  unfold own_sh
  show (x.toUInt64.toBitVec >>> ((n &&& 0x3f).toInt64.toUInt64.toBitVec % 64#64)) = _
  rw [hk]
  show x.toBitVec >>> (BitVec.ofNat 64 k % 64#64) = _
  rw [BitVec.ushiftRight_eq']
  congr 1
  rw [BitVec.toNat_umod, BitVec.toNat_ofNat, BitVec.toNat_ofNat, Nat.mod_eq_of_lt (show k < 2 ^ 64 by omega)]
  exact Nat.mod_eq_of_lt h
theorem own_ub (x : BitVec 64) (a : Nat) (h : 64 ≤ 3 * a) : ((x ^^^ x >>> a) ^^^ (x ^^^ x >>> a) >>> a) ^^^ (x ^^^ x >>> a) >>> (2 * a) = x := by
  rw [BitVec.ushiftRight_xor_distrib, BitVec.ushiftRight_xor_distrib, ← BitVec.shiftRight_add, ← BitVec.shiftRight_add]
  have e1 : a + a = 2 * a := by omega
  have e2 : x >>> (a + 2 * a) = 0#64 := BitVec.ushiftRight_eq_zero (by omega)
  rw [e1, e2, BitVec.xor_zero]
  rw [BitVec.xor_assoc x, BitVec.xor_assoc x, ← BitVec.xor_assoc (x >>> a), BitVec.xor_self, BitVec.zero_xor, BitVec.xor_self, BitVec.xor_zero]
theorem own_ux (a b : Int32) (k : Nat) (h1 : (a &&& 0x3f).toInt64.toUInt64.toBitVec = BitVec.ofNat 64 k) (h2 : (b &&& 0x3f).toInt64.toUInt64.toBitVec = BitVec.ofNat 64 (2 * k)) (hk : 2 * k < 64) (hk' : 64 ≤ 3 * k) (x : Int64) : own_u a b (own_x a x) = x := by
  apply Int64.toBitVec_inj.mp
  unfold own_u own_x
  rw [Int64.toBitVec_xor, Int64.toBitVec_xor, own_sb a k h1 (by omega), own_sb b (2 * k) h2 hk, Int64.toBitVec_xor, own_sb a k h1 (by omega)]
  exact own_ub x.toBitVec k hk'
theorem own_undo (z : Int64) : own_unmix (own_mix z) = z := by
  unfold own_unmix own_mix
  rw [own_ux 31 62 31 (by decide) (by decide) (by decide) (by decide), Int64.mul_assoc, own_inv2, show (-7723592293110705685 : Int64) * 3573116690164977347 = (1 : Int64) by decide, Int64.mul_one,
    own_ux 27 54 27 (by decide) (by decide) (by decide) (by decide), Int64.mul_assoc, own_inv1, show (-4658895280553007687 : Int64) * -7575587736534282103 = (1 : Int64) by decide, Int64.mul_one,
    own_ux 30 60 30 (by decide) (by decide) (by decide) (by decide)]
theorem d1_0 : decode prog_37_method_1_code 0 = .ok (.aload_n 0, 1) := by decide +kernel
theorem d1_1 : decode prog_37_method_1_code 1 = .ok (.invokespecial 1, 3) := by decide +kernel
theorem d1_4 : decode prog_37_method_1_code 4 = .ok (.aload_n 0, 1) := by decide +kernel
theorem d1_5 : decode prog_37_method_1_code 5 = .ok (.lload_n 1, 1) := by decide +kernel
theorem d1_6 : decode prog_37_method_1_code 6 = .ok (.putfield 7, 3) := by decide +kernel
theorem d1_9 : decode prog_37_method_1_code 9 = .ok (.return_, 1) := by decide +kernel
theorem pn1 : plainName "com/example/questloom/questloom/game/SeededRandom" = true := by first | (simp [plainName, overriddenIn]; done) | decide +kernel
theorem ef1 (m : MethodId) (a : Addr) (q1 : Int64) : entryFrame m #[(.ref a), (.long q1)] 3 = mkF m 0 #[.val (.ref a), .val (.long q1), .second] [] := by first | (simp [entryFrame, mkF, argsToLocals, Value.category]; done) | rfl
def Q1 (Z : State) (a : Addr) (q1 : Int64) (w : Int64) (h0 : Heap) (n0 : Nat) (v : Option Value) (h : Heap) (L : List Loc) : Prop := v = none ∧ Fr n0 L ∧ Keep h0 h [a] ∧ Exa Z h a "com/example/questloom/questloom/game/SeededRandom" ∧ Fld Z h a "com/example/questloom/questloom/game/SeededRandom" "state" "J" (.long q1)
set_option maxRecDepth 65536 in
set_option maxHeartbeats 40000000 in
theorem rm1 (l : Launch) (Z : State) (a0 : Array Value) (hw : ∀ d ∈ tables_1, d.before a0 Z = true) (ws : List Jvm.Cond) (a : Addr) (q1 : Int64) (w : Int64) (h0 : Heap) (n0 : Nat) (Z0 : n0 ≤ h0.size) (E_a : Exa Z h0 a "com/example/questloom/questloom/game/SeededRandom") (F_a_state : Fld Z h0 a "com/example/questloom/questloom/game/SeededRandom" "state" "J" (.long w)) (G_a : n0 ≤ a) :
    MetFree l (⟨"com/example/questloom/questloom/game/SeededRandom", "<init>", "(J)V"⟩ : MethodName) (head1 (Jvm.Cond.code (⟨"com/example/questloom/questloom/game/SeededRandom", "<init>", "(J)V"⟩ : MethodName) prog_37_method_1_code 3 none :: ws) ({ frames := 1, cells := 0, slots := 0, locals := 12 } : Room)) (fun as' U => as' = #[(.ref a), (.long q1)] ∧ Z.Warmed39 U.vm ∧ U.heap = h0) (fun _ _ _ _ _ => True) (fun _ U o U' => ∃ v L, o = .returned v ∧ Q1 Z a q1 w h0 n0 v U'.heap L ∧ FrameEnd U o U' L ({ frames := 1, cells := 0, slots := 0, locals := 12 } : Room).cells ({ frames := 1, cells := 0, slots := 0, locals := 12 } : Room).slots) := by
  refine own_body (plainFor_of_name pn1) ?_
  intro p e s m below meth c s₁ hx hby hml hown0 hnm hret hlk hZ X0 e0
  have hown : s.vm.findClass "com/example/questloom/questloom/game/SeededRandom" = some m.cls := hown0
  have N0 := Fr.nil n0
  rw [ef1]
  have K0 : Keep h0 h0 [a] := Keep.refl h0 [a]
  show own_Go p.tables e below _ (s₁.setTop (mkF m 0 #[.val (.ref a), .val (.long q1), .second] []))
  refine own_st (S' := s₁.setTop (mkF m 1 #[.val (.ref a), .val (.long q1), .second] [(.ref a)])) (fun t k => XS.aloadN X0.here hx rfl (hb hby d1_0) rfl rfl k) ?_
  obtain ⟨T1, X1, e1, st1⟩ := initO X0 hx hZ hown (hw _ (List.mem_of_getElem? (i := 6) rfl)) (hw _ (List.mem_of_getElem? (i := 7) rfl)) (hw _ (List.mem_of_getElem? (i := 8) rfl)) e0 (g := (mkF m 1 #[.val (.ref a), .val (.long q1), .second] [(.ref a)])) rfl (by rw [hml]; rfl) rfl (hb hby d1_1) (by decide) (W := 0) (by show 2 * 0 + _ ≤ _; exact Nat.le_of_eq rfl) (by decide)
  refine own_st st1 ?_
  show own_Go p.tables e below _ (T1.setTop (mkF m 4 #[.val (.ref a), .val (.long q1), .second] []))
  refine own_st (S' := T1.setTop (mkF m 5 #[.val (.ref a), .val (.long q1), .second] [(.ref a)])) (fun t k => XS.aloadN X1.here hx rfl (hb hby d1_4) rfl rfl k) ?_
  refine own_st (S' := T1.setTop (mkF m 6 #[.val (.ref a), .val (.long q1), .second] [(.long q1), (.ref a)])) (fun t k => XS.lloadN X1.here hx rfl (hb hby d1_5) rfl k) ?_
  obtain ⟨T2, h2, X2, e2, W2, st2⟩ := putF X1 hx hZ hown (host := "") (Or.inl (hw _ (List.mem_of_getElem? (i := 9) rfl))) Via.refl e1 F_a_state E_a (Or.inl (hw _ (List.mem_of_getElem? (i := 10) rfl))) (hw _ (List.mem_of_getElem? (i := 1) rfl)) (ty := .long) (by decide) rfl rfl (g := (mkF m 6 #[.val (.ref a), .val (.long q1), .second] [(.long q1), (.ref a)])) rfl rfl (hb hby d1_6)
  refine own_st st2 ?_
  have f3 : Exa Z h2 a "com/example/questloom/questloom/game/SeededRandom" := E_a.wr W2
  have Z2 : n0 ≤ h2.size := Nat.le_trans Z0 (Keep.of_wr W2).1
  have N2 := Fr.snoc X2 N0 G_a
  have K2 : Keep h0 h2 [a] := K0.wr W2 (Or.inl (List.mem_of_getElem? (i := 0) rfl))
  have f4 : Fld Z h2 a "com/example/questloom/questloom/game/SeededRandom" "state" "J" (.long q1) := F_a_state.same W2
  show own_Go p.tables e below _ (T2.setTop (mkF m 9 #[.val (.ref a), .val (.long q1), .second] []))
  refine own_retV X2 hx hret hlk (hb hby d1_9) ?_ (by decide) (by decide)
  rw [e2]
  exact ⟨rfl, N2, K2, f3, f4⟩
theorem d2_0 : decode prog_37_method_2_code 0 = .ok (.aload_n 0, 1) := by decide +kernel
theorem d2_1 : decode prog_37_method_2_code 1 = .ok (.dup, 1) := by decide +kernel
theorem d2_2 : decode prog_37_method_2_code 2 = .ok (.getfield 7, 3) := by decide +kernel
theorem d2_5 : decode prog_37_method_2_code 5 = .ok (.ldc2_w 13, 3) := by decide +kernel
theorem d2_8 : decode prog_37_method_2_code 8 = .ok (.ladd, 1) := by decide +kernel
theorem d2_9 : decode prog_37_method_2_code 9 = .ok (.putfield 7, 3) := by decide +kernel
theorem d2_12 : decode prog_37_method_2_code 12 = .ok (.aload_n 0, 1) := by decide +kernel
theorem d2_13 : decode prog_37_method_2_code 13 = .ok (.getfield 7, 3) := by decide +kernel
theorem d2_16 : decode prog_37_method_2_code 16 = .ok (.lstore_n 1, 1) := by decide +kernel
theorem d2_17 : decode prog_37_method_2_code 17 = .ok (.lload_n 1, 1) := by decide +kernel
theorem d2_18 : decode prog_37_method_2_code 18 = .ok (.lload_n 1, 1) := by decide +kernel
theorem d2_19 : decode prog_37_method_2_code 19 = .ok (.bipush 30, 2) := by decide +kernel
theorem d2_21 : decode prog_37_method_2_code 21 = .ok (.lushr, 1) := by decide +kernel
theorem d2_22 : decode prog_37_method_2_code 22 = .ok (.lxor, 1) := by decide +kernel
theorem d2_23 : decode prog_37_method_2_code 23 = .ok (.ldc2_w 15, 3) := by decide +kernel
theorem d2_26 : decode prog_37_method_2_code 26 = .ok (.lmul, 1) := by decide +kernel
theorem d2_27 : decode prog_37_method_2_code 27 = .ok (.lstore_n 1, 1) := by decide +kernel
theorem d2_28 : decode prog_37_method_2_code 28 = .ok (.lload_n 1, 1) := by decide +kernel
theorem d2_29 : decode prog_37_method_2_code 29 = .ok (.lload_n 1, 1) := by decide +kernel
theorem d2_30 : decode prog_37_method_2_code 30 = .ok (.bipush 27, 2) := by decide +kernel
theorem d2_32 : decode prog_37_method_2_code 32 = .ok (.lushr, 1) := by decide +kernel
theorem d2_33 : decode prog_37_method_2_code 33 = .ok (.lxor, 1) := by decide +kernel
theorem d2_34 : decode prog_37_method_2_code 34 = .ok (.ldc2_w 17, 3) := by decide +kernel
theorem d2_37 : decode prog_37_method_2_code 37 = .ok (.lmul, 1) := by decide +kernel
theorem d2_38 : decode prog_37_method_2_code 38 = .ok (.lstore_n 1, 1) := by decide +kernel
theorem d2_39 : decode prog_37_method_2_code 39 = .ok (.lload_n 1, 1) := by decide +kernel
theorem d2_40 : decode prog_37_method_2_code 40 = .ok (.lload_n 1, 1) := by decide +kernel
theorem d2_41 : decode prog_37_method_2_code 41 = .ok (.bipush 31, 2) := by decide +kernel
theorem d2_43 : decode prog_37_method_2_code 43 = .ok (.lushr, 1) := by decide +kernel
theorem d2_44 : decode prog_37_method_2_code 44 = .ok (.lxor, 1) := by decide +kernel
theorem d2_45 : decode prog_37_method_2_code 45 = .ok (.lreturn, 1) := by decide +kernel
theorem pn2 : plainName "com/example/questloom/questloom/game/SeededRandom" = true := by first | (simp [plainName, overriddenIn]; done) | decide +kernel
theorem ef2 (m : MethodId) (a : Addr) : entryFrame m #[(.ref a)] 3 = mkF m 0 #[.val (.ref a), .unset, .unset] [] := by first | (simp [entryFrame, mkF, argsToLocals, Value.category]; done) | rfl
def Q2 (Z : State) (a : Addr) (w : Int64) (h0 : Heap) (n0 : Nat) (v : Option Value) (h : Heap) (L : List Loc) : Prop := v = some (.long (own_mix (w + (-7046029254386353131 : Int64)))) ∧ Fr n0 L ∧ Keep h0 h [a] ∧ Exa Z h a "com/example/questloom/questloom/game/SeededRandom" ∧ Fld Z h a "com/example/questloom/questloom/game/SeededRandom" "state" "J" (.long (w + (-7046029254386353131 : Int64)))
set_option maxRecDepth 65536 in
set_option maxHeartbeats 40000000 in
theorem rm2 (l : Launch) (Z : State) (a0 : Array Value) (hw : ∀ d ∈ tables_1, d.before a0 Z = true) (ws : List Jvm.Cond) (a : Addr) (w : Int64) (h0 : Heap) (n0 : Nat) (Z0 : n0 ≤ h0.size) (E_a : Exa Z h0 a "com/example/questloom/questloom/game/SeededRandom") (F_a_state : Fld Z h0 a "com/example/questloom/questloom/game/SeededRandom" "state" "J" (.long w)) (G_a : n0 ≤ a) :
    MetFree l (⟨"com/example/questloom/questloom/game/SeededRandom", "nextLong", "()J"⟩ : MethodName) (head1 (Jvm.Cond.code (⟨"com/example/questloom/questloom/game/SeededRandom", "nextLong", "()J"⟩ : MethodName) prog_37_method_2_code 3 (some .long) :: ws) ({ frames := 0, cells := 0, slots := 0, locals := 0 } : Room)) (fun as' U => as' = #[(.ref a)] ∧ Z.Warmed39 U.vm ∧ U.heap = h0) (fun _ _ _ _ _ => True) (fun _ U o U' => ∃ v L, o = .returned v ∧ Q2 Z a w h0 n0 v U'.heap L ∧ FrameEnd U o U' L ({ frames := 0, cells := 0, slots := 0, locals := 0 } : Room).cells ({ frames := 0, cells := 0, slots := 0, locals := 0 } : Room).slots) := by
  refine own_body (plainFor_of_name pn2) ?_
  intro p e s m below meth c s₁ hx hby hml hown0 hnm hret hlk hZ X0 e0
  have hown : s.vm.findClass "com/example/questloom/questloom/game/SeededRandom" = some m.cls := hown0
  have N0 := Fr.nil n0
  rw [ef2]
  have K0 : Keep h0 h0 [a] := Keep.refl h0 [a]
  show own_Go p.tables e below _ (s₁.setTop (mkF m 0 #[.val (.ref a), .unset, .unset] []))
  refine own_st (S' := s₁.setTop (mkF m 1 #[.val (.ref a), .unset, .unset] [(.ref a)])) (fun t k => XS.aloadN X0.here hx rfl (hb hby d2_0) rfl rfl k) ?_
  refine own_st (S' := s₁.setTop (mkF m 2 #[.val (.ref a), .unset, .unset] [(.ref a), (.ref a)])) (fun t k => XS.dup X0.here hx rfl (hb hby d2_1) rfl rfl k) ?_
  obtain ⟨T1, X1, e1, st1⟩ := getF X0 hx hZ hown (host := "") (Or.inl (hw _ (List.mem_of_getElem? (i := 9) rfl))) Via.refl e0 F_a_state (g := (mkF m 2 #[.val (.ref a), .unset, .unset] [(.ref a), (.ref a)])) rfl rfl (hb hby d2_2)
  refine own_st st1 ?_
  show own_Go p.tables e below _ (T1.setTop (mkF m 5 #[.val (.ref a), .unset, .unset] [(.long w), (.ref a)]))
  refine own_st (S' := T1.setTop (mkF m 8 #[.val (.ref a), .unset, .unset] [(.long (-7046029254386353131 : Int64)), (.long w), (.ref a)])) (fun t k => X1.ldc2Long hx hown (mvT hZ (hw _ (List.mem_of_getElem? (i := 16) rfl))) (g := (mkF m 5 #[.val (.ref a), .unset, .unset] [(.long w), (.ref a)])) rfl (hb hby d2_5) _ k) ?_
  refine own_st (S' := T1.setTop (mkF m 9 #[.val (.ref a), .unset, .unset] [(.long (w + (-7046029254386353131 : Int64))), (.ref a)])) (fun t k => XS.ladd X1.here hx rfl (hb hby d2_8) rfl k) ?_
  obtain ⟨T2, h2, X2, e2, W2, st2⟩ := putF X1 hx hZ hown (host := "") (Or.inl (hw _ (List.mem_of_getElem? (i := 9) rfl))) Via.refl e1 F_a_state E_a (Or.inl (hw _ (List.mem_of_getElem? (i := 10) rfl))) (hw _ (List.mem_of_getElem? (i := 1) rfl)) (ty := .long) (by decide) rfl rfl (g := (mkF m 9 #[.val (.ref a), .unset, .unset] [(.long (w + (-7046029254386353131 : Int64))), (.ref a)])) rfl rfl (hb hby d2_9)
  refine own_st st2 ?_
  have f3 : Exa Z h2 a "com/example/questloom/questloom/game/SeededRandom" := E_a.wr W2
  have Z2 : n0 ≤ h2.size := Nat.le_trans Z0 (Keep.of_wr W2).1
  have N2 := Fr.snoc X2 N0 G_a
  have K2 : Keep h0 h2 [a] := K0.wr W2 (Or.inl (List.mem_of_getElem? (i := 0) rfl))
  have f4 : Fld Z h2 a "com/example/questloom/questloom/game/SeededRandom" "state" "J" (.long (w + (-7046029254386353131 : Int64))) := F_a_state.same W2
  show own_Go p.tables e below _ (T2.setTop (mkF m 12 #[.val (.ref a), .unset, .unset] []))
  refine own_st (S' := T2.setTop (mkF m 13 #[.val (.ref a), .unset, .unset] [(.ref a)])) (fun t k => XS.aloadN X2.here hx rfl (hb hby d2_12) rfl rfl k) ?_
  obtain ⟨T5, X5, e5, st5⟩ := getF X2 hx hZ hown (host := "") (Or.inl (hw _ (List.mem_of_getElem? (i := 9) rfl))) Via.refl e2 f4 (g := (mkF m 13 #[.val (.ref a), .unset, .unset] [(.ref a)])) rfl rfl (hb hby d2_13)
  refine own_st st5 ?_
  show own_Go p.tables e below _ (T5.setTop (mkF m 16 #[.val (.ref a), .unset, .unset] [(.long (w + (-7046029254386353131 : Int64)))]))
  obtain ⟨v6, qv6⟩ : ∃ z : Int64, z = (w + (-7046029254386353131 : Int64)) := ⟨_, rfl⟩
  show own_Go p.tables e below _ (T5.setTop (mkF m 16 #[.val (.ref a), .unset, .unset] [(.long (w + (-7046029254386353131 : Int64)))]))
  rw [← qv6]
  refine own_st (S' := T5.setTop (mkF m 17 #[.val (.ref a), .val (.long v6), .second] [])) (fun t k => XS.lstoreN X5.here hx rfl (hb hby d2_16) rfl (l' := #[.val (.ref a), .val (.long v6), .second]) rfl k) ?_
  refine own_st (S' := T5.setTop (mkF m 18 #[.val (.ref a), .val (.long v6), .second] [(.long v6)])) (fun t k => XS.lloadN X5.here hx rfl (hb hby d2_17) rfl k) ?_
  refine own_st (S' := T5.setTop (mkF m 19 #[.val (.ref a), .val (.long v6), .second] [(.long v6), (.long v6)])) (fun t k => XS.lloadN X5.here hx rfl (hb hby d2_18) rfl k) ?_
  refine own_st (S' := T5.setTop (mkF m 21 #[.val (.ref a), .val (.long v6), .second] [(.int (30 : Int32)), (.long v6), (.long v6)])) (fun t k => XS.bipush X5.here hx rfl (hb hby d2_19) k) ?_
  refine own_st (S' := T5.setTop (mkF m 22 #[.val (.ref a), .val (.long v6), .second] [(.long ((v6.toUInt64 >>> ((30 : Int32) &&& 0x3f).toInt64.toUInt64).toInt64)), (.long v6)])) (fun t k => XS.lushr X5.here hx rfl (hb hby d2_21) rfl k) ?_
  refine own_st (S' := T5.setTop (mkF m 23 #[.val (.ref a), .val (.long v6), .second] [(.long (v6 ^^^ ((v6.toUInt64 >>> ((30 : Int32) &&& 0x3f).toInt64.toUInt64).toInt64)))])) (fun t k => XS.lxor X5.here hx rfl (hb hby d2_22) rfl k) ?_
  refine own_st (S' := T5.setTop (mkF m 26 #[.val (.ref a), .val (.long v6), .second] [(.long (-4658895280553007687 : Int64)), (.long (v6 ^^^ ((v6.toUInt64 >>> ((30 : Int32) &&& 0x3f).toInt64.toUInt64).toInt64)))])) (fun t k => X5.ldc2Long hx hown (mvT hZ (hw _ (List.mem_of_getElem? (i := 17) rfl))) (g := (mkF m 23 #[.val (.ref a), .val (.long v6), .second] [(.long (v6 ^^^ ((v6.toUInt64 >>> ((30 : Int32) &&& 0x3f).toInt64.toUInt64).toInt64)))])) rfl (hb hby d2_23) _ k) ?_
  refine own_st (S' := T5.setTop (mkF m 27 #[.val (.ref a), .val (.long v6), .second] [(.long ((v6 ^^^ ((v6.toUInt64 >>> ((30 : Int32) &&& 0x3f).toInt64.toUInt64).toInt64)) * (-4658895280553007687 : Int64)))])) (fun t k => XS.lmul X5.here hx rfl (hb hby d2_26) rfl k) ?_
  obtain ⟨v7, qv7⟩ : ∃ z : Int64, z = ((v6 ^^^ ((v6.toUInt64 >>> ((30 : Int32) &&& 0x3f).toInt64.toUInt64).toInt64)) * (-4658895280553007687 : Int64)) := ⟨_, rfl⟩
  show own_Go p.tables e below _ (T5.setTop (mkF m 27 #[.val (.ref a), .val (.long v6), .second] [(.long ((v6 ^^^ ((v6.toUInt64 >>> ((30 : Int32) &&& 0x3f).toInt64.toUInt64).toInt64)) * (-4658895280553007687 : Int64)))]))
  rw [← qv7]
  refine own_st (S' := T5.setTop (mkF m 28 #[.val (.ref a), .val (.long v7), .second] [])) (fun t k => XS.lstoreN X5.here hx rfl (hb hby d2_27) rfl (l' := #[.val (.ref a), .val (.long v7), .second]) rfl k) ?_
  refine own_st (S' := T5.setTop (mkF m 29 #[.val (.ref a), .val (.long v7), .second] [(.long v7)])) (fun t k => XS.lloadN X5.here hx rfl (hb hby d2_28) rfl k) ?_
  refine own_st (S' := T5.setTop (mkF m 30 #[.val (.ref a), .val (.long v7), .second] [(.long v7), (.long v7)])) (fun t k => XS.lloadN X5.here hx rfl (hb hby d2_29) rfl k) ?_
  refine own_st (S' := T5.setTop (mkF m 32 #[.val (.ref a), .val (.long v7), .second] [(.int (27 : Int32)), (.long v7), (.long v7)])) (fun t k => XS.bipush X5.here hx rfl (hb hby d2_30) k) ?_
  refine own_st (S' := T5.setTop (mkF m 33 #[.val (.ref a), .val (.long v7), .second] [(.long ((v7.toUInt64 >>> ((27 : Int32) &&& 0x3f).toInt64.toUInt64).toInt64)), (.long v7)])) (fun t k => XS.lushr X5.here hx rfl (hb hby d2_32) rfl k) ?_
  refine own_st (S' := T5.setTop (mkF m 34 #[.val (.ref a), .val (.long v7), .second] [(.long (v7 ^^^ ((v7.toUInt64 >>> ((27 : Int32) &&& 0x3f).toInt64.toUInt64).toInt64)))])) (fun t k => XS.lxor X5.here hx rfl (hb hby d2_33) rfl k) ?_
  refine own_st (S' := T5.setTop (mkF m 37 #[.val (.ref a), .val (.long v7), .second] [(.long (-7723592293110705685 : Int64)), (.long (v7 ^^^ ((v7.toUInt64 >>> ((27 : Int32) &&& 0x3f).toInt64.toUInt64).toInt64)))])) (fun t k => X5.ldc2Long hx hown (mvT hZ (hw _ (List.mem_of_getElem? (i := 18) rfl))) (g := (mkF m 34 #[.val (.ref a), .val (.long v7), .second] [(.long (v7 ^^^ ((v7.toUInt64 >>> ((27 : Int32) &&& 0x3f).toInt64.toUInt64).toInt64)))])) rfl (hb hby d2_34) _ k) ?_
  refine own_st (S' := T5.setTop (mkF m 38 #[.val (.ref a), .val (.long v7), .second] [(.long ((v7 ^^^ ((v7.toUInt64 >>> ((27 : Int32) &&& 0x3f).toInt64.toUInt64).toInt64)) * (-7723592293110705685 : Int64)))])) (fun t k => XS.lmul X5.here hx rfl (hb hby d2_37) rfl k) ?_
  obtain ⟨v8, qv8⟩ : ∃ z : Int64, z = ((v7 ^^^ ((v7.toUInt64 >>> ((27 : Int32) &&& 0x3f).toInt64.toUInt64).toInt64)) * (-7723592293110705685 : Int64)) := ⟨_, rfl⟩
  show own_Go p.tables e below _ (T5.setTop (mkF m 38 #[.val (.ref a), .val (.long v7), .second] [(.long ((v7 ^^^ ((v7.toUInt64 >>> ((27 : Int32) &&& 0x3f).toInt64.toUInt64).toInt64)) * (-7723592293110705685 : Int64)))]))
  rw [← qv8]
  refine own_st (S' := T5.setTop (mkF m 39 #[.val (.ref a), .val (.long v8), .second] [])) (fun t k => XS.lstoreN X5.here hx rfl (hb hby d2_38) rfl (l' := #[.val (.ref a), .val (.long v8), .second]) rfl k) ?_
  refine own_st (S' := T5.setTop (mkF m 40 #[.val (.ref a), .val (.long v8), .second] [(.long v8)])) (fun t k => XS.lloadN X5.here hx rfl (hb hby d2_39) rfl k) ?_
  refine own_st (S' := T5.setTop (mkF m 41 #[.val (.ref a), .val (.long v8), .second] [(.long v8), (.long v8)])) (fun t k => XS.lloadN X5.here hx rfl (hb hby d2_40) rfl k) ?_
  refine own_st (S' := T5.setTop (mkF m 43 #[.val (.ref a), .val (.long v8), .second] [(.int (31 : Int32)), (.long v8), (.long v8)])) (fun t k => XS.bipush X5.here hx rfl (hb hby d2_41) k) ?_
  refine own_st (S' := T5.setTop (mkF m 44 #[.val (.ref a), .val (.long v8), .second] [(.long ((v8.toUInt64 >>> ((31 : Int32) &&& 0x3f).toInt64.toUInt64).toInt64)), (.long v8)])) (fun t k => XS.lushr X5.here hx rfl (hb hby d2_43) rfl k) ?_
  refine own_st (S' := T5.setTop (mkF m 45 #[.val (.ref a), .val (.long v8), .second] [(.long (v8 ^^^ ((v8.toUInt64 >>> ((31 : Int32) &&& 0x3f).toInt64.toUInt64).toInt64)))])) (fun t k => XS.lxor X5.here hx rfl (hb hby d2_44) rfl k) ?_
  refine own_retL X5 hx hret hlk (hb hby d2_45) ?_ (by decide) (by decide)
  rw [e5]
  refine ⟨?_, N2, K2, f3, f4⟩
  subst_vars
  rfl
theorem d3_0 : decode method_2_code 0 = .ok (.lload_n 0, 1) := by decide +kernel
theorem d3_1 : decode method_2_code 1 = .ok (.lstore_n 2, 1) := by decide +kernel
theorem d3_2 : decode method_2_code 2 = .ok (.lload_n 2, 1) := by decide +kernel
theorem d3_3 : decode method_2_code 3 = .ok (.ldc2_w 7, 3) := by decide +kernel
theorem d3_6 : decode method_2_code 6 = .ok (.lload_n 0, 1) := by decide +kernel
theorem d3_7 : decode method_2_code 7 = .ok (.lload_n 2, 1) := by decide +kernel
theorem d3_8 : decode method_2_code 8 = .ok (.lmul, 1) := by decide +kernel
theorem d3_9 : decode method_2_code 9 = .ok (.lsub, 1) := by decide +kernel
theorem d3_10 : decode method_2_code 10 = .ok (.lmul, 1) := by decide +kernel
theorem d3_11 : decode method_2_code 11 = .ok (.lstore_n 2, 1) := by decide +kernel
theorem d3_12 : decode method_2_code 12 = .ok (.lload_n 2, 1) := by decide +kernel
theorem d3_13 : decode method_2_code 13 = .ok (.ldc2_w 7, 3) := by decide +kernel
theorem d3_16 : decode method_2_code 16 = .ok (.lload_n 0, 1) := by decide +kernel
theorem d3_17 : decode method_2_code 17 = .ok (.lload_n 2, 1) := by decide +kernel
theorem d3_18 : decode method_2_code 18 = .ok (.lmul, 1) := by decide +kernel
theorem d3_19 : decode method_2_code 19 = .ok (.lsub, 1) := by decide +kernel
theorem d3_20 : decode method_2_code 20 = .ok (.lmul, 1) := by decide +kernel
theorem d3_21 : decode method_2_code 21 = .ok (.lstore_n 2, 1) := by decide +kernel
theorem d3_22 : decode method_2_code 22 = .ok (.lload_n 2, 1) := by decide +kernel
theorem d3_23 : decode method_2_code 23 = .ok (.ldc2_w 7, 3) := by decide +kernel
theorem d3_26 : decode method_2_code 26 = .ok (.lload_n 0, 1) := by decide +kernel
theorem d3_27 : decode method_2_code 27 = .ok (.lload_n 2, 1) := by decide +kernel
theorem d3_28 : decode method_2_code 28 = .ok (.lmul, 1) := by decide +kernel
theorem d3_29 : decode method_2_code 29 = .ok (.lsub, 1) := by decide +kernel
theorem d3_30 : decode method_2_code 30 = .ok (.lmul, 1) := by decide +kernel
theorem d3_31 : decode method_2_code 31 = .ok (.lstore_n 2, 1) := by decide +kernel
theorem d3_32 : decode method_2_code 32 = .ok (.lload_n 2, 1) := by decide +kernel
theorem d3_33 : decode method_2_code 33 = .ok (.ldc2_w 7, 3) := by decide +kernel
theorem d3_36 : decode method_2_code 36 = .ok (.lload_n 0, 1) := by decide +kernel
theorem d3_37 : decode method_2_code 37 = .ok (.lload_n 2, 1) := by decide +kernel
theorem d3_38 : decode method_2_code 38 = .ok (.lmul, 1) := by decide +kernel
theorem d3_39 : decode method_2_code 39 = .ok (.lsub, 1) := by decide +kernel
theorem d3_40 : decode method_2_code 40 = .ok (.lmul, 1) := by decide +kernel
theorem d3_41 : decode method_2_code 41 = .ok (.lstore_n 2, 1) := by decide +kernel
theorem d3_42 : decode method_2_code 42 = .ok (.lload_n 2, 1) := by decide +kernel
theorem d3_43 : decode method_2_code 43 = .ok (.ldc2_w 7, 3) := by decide +kernel
theorem d3_46 : decode method_2_code 46 = .ok (.lload_n 0, 1) := by decide +kernel
theorem d3_47 : decode method_2_code 47 = .ok (.lload_n 2, 1) := by decide +kernel
theorem d3_48 : decode method_2_code 48 = .ok (.lmul, 1) := by decide +kernel
theorem d3_49 : decode method_2_code 49 = .ok (.lsub, 1) := by decide +kernel
theorem d3_50 : decode method_2_code 50 = .ok (.lmul, 1) := by decide +kernel
theorem d3_51 : decode method_2_code 51 = .ok (.lstore_n 2, 1) := by decide +kernel
theorem d3_52 : decode method_2_code 52 = .ok (.lload_n 2, 1) := by decide +kernel
theorem d3_53 : decode method_2_code 53 = .ok (.ldc2_w 7, 3) := by decide +kernel
theorem d3_56 : decode method_2_code 56 = .ok (.lload_n 0, 1) := by decide +kernel
theorem d3_57 : decode method_2_code 57 = .ok (.lload_n 2, 1) := by decide +kernel
theorem d3_58 : decode method_2_code 58 = .ok (.lmul, 1) := by decide +kernel
theorem d3_59 : decode method_2_code 59 = .ok (.lsub, 1) := by decide +kernel
theorem d3_60 : decode method_2_code 60 = .ok (.lmul, 1) := by decide +kernel
theorem d3_61 : decode method_2_code 61 = .ok (.lstore_n 2, 1) := by decide +kernel
theorem d3_62 : decode method_2_code 62 = .ok (.lload_n 2, 1) := by decide +kernel
theorem d3_63 : decode method_2_code 63 = .ok (.lreturn, 1) := by decide +kernel
theorem pn3 : plainName "com/example/questloom/questloom/game/SeededRandomNextLongPinLaw" = true := by first | (simp [plainName, overriddenIn]; done) | decide +kernel
theorem ef3 (m : MethodId) (q1 : Int64) : entryFrame m #[(.long q1)] 4 = mkF m 0 #[.val (.long q1), .second, .unset, .unset] [] := by first | (simp [entryFrame, mkF, argsToLocals, Value.category]; done) | rfl
def Q3 (Z : State) (q1 : Int64) (h0 : Heap) (n0 : Nat) (v : Option Value) (h : Heap) (L : List Loc) : Prop := v = some (.long (own_inv q1)) ∧ Fr n0 L ∧ h = h0
set_option maxRecDepth 65536 in
set_option maxHeartbeats 40000000 in
theorem rm3 (l : Launch) (Z : State) (a0 : Array Value) (hw : ∀ d ∈ tables_1, d.before a0 Z = true) (ws : List Jvm.Cond) (q1 : Int64) (h0 : Heap) (n0 : Nat) (Z0 : n0 ≤ h0.size)  :
    MetFree l (⟨"com/example/questloom/questloom/game/SeededRandomNextLongPinLaw", "inverse", "(J)J"⟩ : MethodName) (head1 (Jvm.Cond.code (⟨"com/example/questloom/questloom/game/SeededRandomNextLongPinLaw", "inverse", "(J)J"⟩ : MethodName) method_2_code 4 (some .long) :: ws) ({ frames := 0, cells := 0, slots := 0, locals := 0 } : Room)) (fun as' U => as' = #[(.long q1)] ∧ Z.Warmed39 U.vm ∧ U.heap = h0) (fun _ _ _ _ _ => True) (fun _ U o U' => ∃ v L, o = .returned v ∧ Q3 Z q1 h0 n0 v U'.heap L ∧ FrameEnd U o U' L ({ frames := 0, cells := 0, slots := 0, locals := 0 } : Room).cells ({ frames := 0, cells := 0, slots := 0, locals := 0 } : Room).slots) := by
  refine own_body (plainFor_of_name pn3) ?_
  intro p e s m below meth c s₁ hx hby hml hown0 hnm hret hlk hZ X0 e0
  have hown : s.vm.findClass "com/example/questloom/questloom/game/SeededRandomNextLongPinLaw" = some m.cls := hown0
  have N0 := Fr.nil n0
  rw [ef3]
  show own_Go p.tables e below _ (s₁.setTop (mkF m 0 #[.val (.long q1), .second, .unset, .unset] []))
  refine own_st (S' := s₁.setTop (mkF m 1 #[.val (.long q1), .second, .unset, .unset] [(.long q1)])) (fun t k => XS.lloadN X0.here hx rfl (hb hby d3_0) rfl k) ?_
  refine own_st (S' := s₁.setTop (mkF m 2 #[.val (.long q1), .second, .val (.long q1), .second] [])) (fun t k => XS.lstoreN X0.here hx rfl (hb hby d3_1) rfl (l' := #[.val (.long q1), .second, .val (.long q1), .second]) rfl k) ?_
  refine own_st (S' := s₁.setTop (mkF m 3 #[.val (.long q1), .second, .val (.long q1), .second] [(.long q1)])) (fun t k => XS.lloadN X0.here hx rfl (hb hby d3_2) rfl k) ?_
  refine own_st (S' := s₁.setTop (mkF m 6 #[.val (.long q1), .second, .val (.long q1), .second] [(.long (2 : Int64)), (.long q1)])) (fun t k => X0.ldc2Long hx hown (mvT hZ (hw _ (List.mem_of_getElem? (i := 24) rfl))) (g := (mkF m 3 #[.val (.long q1), .second, .val (.long q1), .second] [(.long q1)])) rfl (hb hby d3_3) _ k) ?_
  refine own_st (S' := s₁.setTop (mkF m 7 #[.val (.long q1), .second, .val (.long q1), .second] [(.long q1), (.long (2 : Int64)), (.long q1)])) (fun t k => XS.lloadN X0.here hx rfl (hb hby d3_6) rfl k) ?_
  refine own_st (S' := s₁.setTop (mkF m 8 #[.val (.long q1), .second, .val (.long q1), .second] [(.long q1), (.long q1), (.long (2 : Int64)), (.long q1)])) (fun t k => XS.lloadN X0.here hx rfl (hb hby d3_7) rfl k) ?_
  refine own_st (S' := s₁.setTop (mkF m 9 #[.val (.long q1), .second, .val (.long q1), .second] [(.long (q1 * q1)), (.long (2 : Int64)), (.long q1)])) (fun t k => XS.lmul X0.here hx rfl (hb hby d3_8) rfl k) ?_
  refine own_st (S' := s₁.setTop (mkF m 10 #[.val (.long q1), .second, .val (.long q1), .second] [(.long ((2 : Int64) - (q1 * q1))), (.long q1)])) (fun t k => XS.lsub X0.here hx rfl (hb hby d3_9) rfl k) ?_
  refine own_st (S' := s₁.setTop (mkF m 11 #[.val (.long q1), .second, .val (.long q1), .second] [(.long (q1 * ((2 : Int64) - (q1 * q1))))])) (fun t k => XS.lmul X0.here hx rfl (hb hby d3_10) rfl k) ?_
  obtain ⟨v1, qv1⟩ : ∃ z : Int64, z = (q1 * ((2 : Int64) - (q1 * q1))) := ⟨_, rfl⟩
  show own_Go p.tables e below _ (s₁.setTop (mkF m 11 #[.val (.long q1), .second, .val (.long q1), .second] [(.long (q1 * ((2 : Int64) - (q1 * q1))))]))
  rw [← qv1]
  refine own_st (S' := s₁.setTop (mkF m 12 #[.val (.long q1), .second, .val (.long v1), .second] [])) (fun t k => XS.lstoreN X0.here hx rfl (hb hby d3_11) rfl (l' := #[.val (.long q1), .second, .val (.long v1), .second]) rfl k) ?_
  refine own_st (S' := s₁.setTop (mkF m 13 #[.val (.long q1), .second, .val (.long v1), .second] [(.long v1)])) (fun t k => XS.lloadN X0.here hx rfl (hb hby d3_12) rfl k) ?_
  refine own_st (S' := s₁.setTop (mkF m 16 #[.val (.long q1), .second, .val (.long v1), .second] [(.long (2 : Int64)), (.long v1)])) (fun t k => X0.ldc2Long hx hown (mvT hZ (hw _ (List.mem_of_getElem? (i := 24) rfl))) (g := (mkF m 13 #[.val (.long q1), .second, .val (.long v1), .second] [(.long v1)])) rfl (hb hby d3_13) _ k) ?_
  refine own_st (S' := s₁.setTop (mkF m 17 #[.val (.long q1), .second, .val (.long v1), .second] [(.long q1), (.long (2 : Int64)), (.long v1)])) (fun t k => XS.lloadN X0.here hx rfl (hb hby d3_16) rfl k) ?_
  refine own_st (S' := s₁.setTop (mkF m 18 #[.val (.long q1), .second, .val (.long v1), .second] [(.long v1), (.long q1), (.long (2 : Int64)), (.long v1)])) (fun t k => XS.lloadN X0.here hx rfl (hb hby d3_17) rfl k) ?_
  refine own_st (S' := s₁.setTop (mkF m 19 #[.val (.long q1), .second, .val (.long v1), .second] [(.long (q1 * v1)), (.long (2 : Int64)), (.long v1)])) (fun t k => XS.lmul X0.here hx rfl (hb hby d3_18) rfl k) ?_
  refine own_st (S' := s₁.setTop (mkF m 20 #[.val (.long q1), .second, .val (.long v1), .second] [(.long ((2 : Int64) - (q1 * v1))), (.long v1)])) (fun t k => XS.lsub X0.here hx rfl (hb hby d3_19) rfl k) ?_
  refine own_st (S' := s₁.setTop (mkF m 21 #[.val (.long q1), .second, .val (.long v1), .second] [(.long (v1 * ((2 : Int64) - (q1 * v1))))])) (fun t k => XS.lmul X0.here hx rfl (hb hby d3_20) rfl k) ?_
  obtain ⟨v2, qv2⟩ : ∃ z : Int64, z = (v1 * ((2 : Int64) - (q1 * v1))) := ⟨_, rfl⟩
  show own_Go p.tables e below _ (s₁.setTop (mkF m 21 #[.val (.long q1), .second, .val (.long v1), .second] [(.long (v1 * ((2 : Int64) - (q1 * v1))))]))
  rw [← qv2]
  refine own_st (S' := s₁.setTop (mkF m 22 #[.val (.long q1), .second, .val (.long v2), .second] [])) (fun t k => XS.lstoreN X0.here hx rfl (hb hby d3_21) rfl (l' := #[.val (.long q1), .second, .val (.long v2), .second]) rfl k) ?_
  refine own_st (S' := s₁.setTop (mkF m 23 #[.val (.long q1), .second, .val (.long v2), .second] [(.long v2)])) (fun t k => XS.lloadN X0.here hx rfl (hb hby d3_22) rfl k) ?_
  refine own_st (S' := s₁.setTop (mkF m 26 #[.val (.long q1), .second, .val (.long v2), .second] [(.long (2 : Int64)), (.long v2)])) (fun t k => X0.ldc2Long hx hown (mvT hZ (hw _ (List.mem_of_getElem? (i := 24) rfl))) (g := (mkF m 23 #[.val (.long q1), .second, .val (.long v2), .second] [(.long v2)])) rfl (hb hby d3_23) _ k) ?_
  refine own_st (S' := s₁.setTop (mkF m 27 #[.val (.long q1), .second, .val (.long v2), .second] [(.long q1), (.long (2 : Int64)), (.long v2)])) (fun t k => XS.lloadN X0.here hx rfl (hb hby d3_26) rfl k) ?_
  refine own_st (S' := s₁.setTop (mkF m 28 #[.val (.long q1), .second, .val (.long v2), .second] [(.long v2), (.long q1), (.long (2 : Int64)), (.long v2)])) (fun t k => XS.lloadN X0.here hx rfl (hb hby d3_27) rfl k) ?_
  refine own_st (S' := s₁.setTop (mkF m 29 #[.val (.long q1), .second, .val (.long v2), .second] [(.long (q1 * v2)), (.long (2 : Int64)), (.long v2)])) (fun t k => XS.lmul X0.here hx rfl (hb hby d3_28) rfl k) ?_
  refine own_st (S' := s₁.setTop (mkF m 30 #[.val (.long q1), .second, .val (.long v2), .second] [(.long ((2 : Int64) - (q1 * v2))), (.long v2)])) (fun t k => XS.lsub X0.here hx rfl (hb hby d3_29) rfl k) ?_
  refine own_st (S' := s₁.setTop (mkF m 31 #[.val (.long q1), .second, .val (.long v2), .second] [(.long (v2 * ((2 : Int64) - (q1 * v2))))])) (fun t k => XS.lmul X0.here hx rfl (hb hby d3_30) rfl k) ?_
  obtain ⟨v3, qv3⟩ : ∃ z : Int64, z = (v2 * ((2 : Int64) - (q1 * v2))) := ⟨_, rfl⟩
  show own_Go p.tables e below _ (s₁.setTop (mkF m 31 #[.val (.long q1), .second, .val (.long v2), .second] [(.long (v2 * ((2 : Int64) - (q1 * v2))))]))
  rw [← qv3]
  refine own_st (S' := s₁.setTop (mkF m 32 #[.val (.long q1), .second, .val (.long v3), .second] [])) (fun t k => XS.lstoreN X0.here hx rfl (hb hby d3_31) rfl (l' := #[.val (.long q1), .second, .val (.long v3), .second]) rfl k) ?_
  refine own_st (S' := s₁.setTop (mkF m 33 #[.val (.long q1), .second, .val (.long v3), .second] [(.long v3)])) (fun t k => XS.lloadN X0.here hx rfl (hb hby d3_32) rfl k) ?_
  refine own_st (S' := s₁.setTop (mkF m 36 #[.val (.long q1), .second, .val (.long v3), .second] [(.long (2 : Int64)), (.long v3)])) (fun t k => X0.ldc2Long hx hown (mvT hZ (hw _ (List.mem_of_getElem? (i := 24) rfl))) (g := (mkF m 33 #[.val (.long q1), .second, .val (.long v3), .second] [(.long v3)])) rfl (hb hby d3_33) _ k) ?_
  refine own_st (S' := s₁.setTop (mkF m 37 #[.val (.long q1), .second, .val (.long v3), .second] [(.long q1), (.long (2 : Int64)), (.long v3)])) (fun t k => XS.lloadN X0.here hx rfl (hb hby d3_36) rfl k) ?_
  refine own_st (S' := s₁.setTop (mkF m 38 #[.val (.long q1), .second, .val (.long v3), .second] [(.long v3), (.long q1), (.long (2 : Int64)), (.long v3)])) (fun t k => XS.lloadN X0.here hx rfl (hb hby d3_37) rfl k) ?_
  refine own_st (S' := s₁.setTop (mkF m 39 #[.val (.long q1), .second, .val (.long v3), .second] [(.long (q1 * v3)), (.long (2 : Int64)), (.long v3)])) (fun t k => XS.lmul X0.here hx rfl (hb hby d3_38) rfl k) ?_
  refine own_st (S' := s₁.setTop (mkF m 40 #[.val (.long q1), .second, .val (.long v3), .second] [(.long ((2 : Int64) - (q1 * v3))), (.long v3)])) (fun t k => XS.lsub X0.here hx rfl (hb hby d3_39) rfl k) ?_
  refine own_st (S' := s₁.setTop (mkF m 41 #[.val (.long q1), .second, .val (.long v3), .second] [(.long (v3 * ((2 : Int64) - (q1 * v3))))])) (fun t k => XS.lmul X0.here hx rfl (hb hby d3_40) rfl k) ?_
  obtain ⟨v4, qv4⟩ : ∃ z : Int64, z = (v3 * ((2 : Int64) - (q1 * v3))) := ⟨_, rfl⟩
  show own_Go p.tables e below _ (s₁.setTop (mkF m 41 #[.val (.long q1), .second, .val (.long v3), .second] [(.long (v3 * ((2 : Int64) - (q1 * v3))))]))
  rw [← qv4]
  refine own_st (S' := s₁.setTop (mkF m 42 #[.val (.long q1), .second, .val (.long v4), .second] [])) (fun t k => XS.lstoreN X0.here hx rfl (hb hby d3_41) rfl (l' := #[.val (.long q1), .second, .val (.long v4), .second]) rfl k) ?_
  refine own_st (S' := s₁.setTop (mkF m 43 #[.val (.long q1), .second, .val (.long v4), .second] [(.long v4)])) (fun t k => XS.lloadN X0.here hx rfl (hb hby d3_42) rfl k) ?_
  refine own_st (S' := s₁.setTop (mkF m 46 #[.val (.long q1), .second, .val (.long v4), .second] [(.long (2 : Int64)), (.long v4)])) (fun t k => X0.ldc2Long hx hown (mvT hZ (hw _ (List.mem_of_getElem? (i := 24) rfl))) (g := (mkF m 43 #[.val (.long q1), .second, .val (.long v4), .second] [(.long v4)])) rfl (hb hby d3_43) _ k) ?_
  refine own_st (S' := s₁.setTop (mkF m 47 #[.val (.long q1), .second, .val (.long v4), .second] [(.long q1), (.long (2 : Int64)), (.long v4)])) (fun t k => XS.lloadN X0.here hx rfl (hb hby d3_46) rfl k) ?_
  refine own_st (S' := s₁.setTop (mkF m 48 #[.val (.long q1), .second, .val (.long v4), .second] [(.long v4), (.long q1), (.long (2 : Int64)), (.long v4)])) (fun t k => XS.lloadN X0.here hx rfl (hb hby d3_47) rfl k) ?_
  refine own_st (S' := s₁.setTop (mkF m 49 #[.val (.long q1), .second, .val (.long v4), .second] [(.long (q1 * v4)), (.long (2 : Int64)), (.long v4)])) (fun t k => XS.lmul X0.here hx rfl (hb hby d3_48) rfl k) ?_
  refine own_st (S' := s₁.setTop (mkF m 50 #[.val (.long q1), .second, .val (.long v4), .second] [(.long ((2 : Int64) - (q1 * v4))), (.long v4)])) (fun t k => XS.lsub X0.here hx rfl (hb hby d3_49) rfl k) ?_
  refine own_st (S' := s₁.setTop (mkF m 51 #[.val (.long q1), .second, .val (.long v4), .second] [(.long (v4 * ((2 : Int64) - (q1 * v4))))])) (fun t k => XS.lmul X0.here hx rfl (hb hby d3_50) rfl k) ?_
  obtain ⟨v5, qv5⟩ : ∃ z : Int64, z = (v4 * ((2 : Int64) - (q1 * v4))) := ⟨_, rfl⟩
  show own_Go p.tables e below _ (s₁.setTop (mkF m 51 #[.val (.long q1), .second, .val (.long v4), .second] [(.long (v4 * ((2 : Int64) - (q1 * v4))))]))
  rw [← qv5]
  refine own_st (S' := s₁.setTop (mkF m 52 #[.val (.long q1), .second, .val (.long v5), .second] [])) (fun t k => XS.lstoreN X0.here hx rfl (hb hby d3_51) rfl (l' := #[.val (.long q1), .second, .val (.long v5), .second]) rfl k) ?_
  refine own_st (S' := s₁.setTop (mkF m 53 #[.val (.long q1), .second, .val (.long v5), .second] [(.long v5)])) (fun t k => XS.lloadN X0.here hx rfl (hb hby d3_52) rfl k) ?_
  refine own_st (S' := s₁.setTop (mkF m 56 #[.val (.long q1), .second, .val (.long v5), .second] [(.long (2 : Int64)), (.long v5)])) (fun t k => X0.ldc2Long hx hown (mvT hZ (hw _ (List.mem_of_getElem? (i := 24) rfl))) (g := (mkF m 53 #[.val (.long q1), .second, .val (.long v5), .second] [(.long v5)])) rfl (hb hby d3_53) _ k) ?_
  refine own_st (S' := s₁.setTop (mkF m 57 #[.val (.long q1), .second, .val (.long v5), .second] [(.long q1), (.long (2 : Int64)), (.long v5)])) (fun t k => XS.lloadN X0.here hx rfl (hb hby d3_56) rfl k) ?_
  refine own_st (S' := s₁.setTop (mkF m 58 #[.val (.long q1), .second, .val (.long v5), .second] [(.long v5), (.long q1), (.long (2 : Int64)), (.long v5)])) (fun t k => XS.lloadN X0.here hx rfl (hb hby d3_57) rfl k) ?_
  refine own_st (S' := s₁.setTop (mkF m 59 #[.val (.long q1), .second, .val (.long v5), .second] [(.long (q1 * v5)), (.long (2 : Int64)), (.long v5)])) (fun t k => XS.lmul X0.here hx rfl (hb hby d3_58) rfl k) ?_
  refine own_st (S' := s₁.setTop (mkF m 60 #[.val (.long q1), .second, .val (.long v5), .second] [(.long ((2 : Int64) - (q1 * v5))), (.long v5)])) (fun t k => XS.lsub X0.here hx rfl (hb hby d3_59) rfl k) ?_
  refine own_st (S' := s₁.setTop (mkF m 61 #[.val (.long q1), .second, .val (.long v5), .second] [(.long (v5 * ((2 : Int64) - (q1 * v5))))])) (fun t k => XS.lmul X0.here hx rfl (hb hby d3_60) rfl k) ?_
  obtain ⟨v6, qv6⟩ : ∃ z : Int64, z = (v5 * ((2 : Int64) - (q1 * v5))) := ⟨_, rfl⟩
  show own_Go p.tables e below _ (s₁.setTop (mkF m 61 #[.val (.long q1), .second, .val (.long v5), .second] [(.long (v5 * ((2 : Int64) - (q1 * v5))))]))
  rw [← qv6]
  refine own_st (S' := s₁.setTop (mkF m 62 #[.val (.long q1), .second, .val (.long v6), .second] [])) (fun t k => XS.lstoreN X0.here hx rfl (hb hby d3_61) rfl (l' := #[.val (.long q1), .second, .val (.long v6), .second]) rfl k) ?_
  refine own_st (S' := s₁.setTop (mkF m 63 #[.val (.long q1), .second, .val (.long v6), .second] [(.long v6)])) (fun t k => XS.lloadN X0.here hx rfl (hb hby d3_62) rfl k) ?_
  refine own_retL X0 hx hret hlk (hb hby d3_63) ?_ (by decide) (by decide)
  rw [e0]
  refine ⟨?_, N0, rfl⟩
  subst_vars
  rfl
theorem d4_0 : decode method_3_code 0 = .ok (.lload_n 0, 1) := by decide +kernel
theorem d4_1 : decode method_3_code 1 = .ok (.lload_n 0, 1) := by decide +kernel
theorem d4_2 : decode method_3_code 2 = .ok (.bipush 31, 2) := by decide +kernel
theorem d4_4 : decode method_3_code 4 = .ok (.lushr, 1) := by decide +kernel
theorem d4_5 : decode method_3_code 5 = .ok (.lxor, 1) := by decide +kernel
theorem d4_6 : decode method_3_code 6 = .ok (.lload_n 0, 1) := by decide +kernel
theorem d4_7 : decode method_3_code 7 = .ok (.bipush 62, 2) := by decide +kernel
theorem d4_9 : decode method_3_code 9 = .ok (.lushr, 1) := by decide +kernel
theorem d4_10 : decode method_3_code 10 = .ok (.lxor, 1) := by decide +kernel
theorem d4_11 : decode method_3_code 11 = .ok (.lstore_n 2, 1) := by decide +kernel
theorem d4_12 : decode method_3_code 12 = .ok (.lload_n 2, 1) := by decide +kernel
theorem d4_13 : decode method_3_code 13 = .ok (.ldc2_w 11, 3) := by decide +kernel
theorem d4_16 : decode method_3_code 16 = .ok (.invokestatic 13, 3) := by decide +kernel
theorem d4_19 : decode method_3_code 19 = .ok (.lmul, 1) := by decide +kernel
theorem d4_20 : decode method_3_code 20 = .ok (.lstore_n 2, 1) := by decide +kernel
theorem d4_21 : decode method_3_code 21 = .ok (.lload_n 2, 1) := by decide +kernel
theorem d4_22 : decode method_3_code 22 = .ok (.lload_n 2, 1) := by decide +kernel
theorem d4_23 : decode method_3_code 23 = .ok (.bipush 27, 2) := by decide +kernel
theorem d4_25 : decode method_3_code 25 = .ok (.lushr, 1) := by decide +kernel
theorem d4_26 : decode method_3_code 26 = .ok (.lxor, 1) := by decide +kernel
theorem d4_27 : decode method_3_code 27 = .ok (.lload_n 2, 1) := by decide +kernel
theorem d4_28 : decode method_3_code 28 = .ok (.bipush 54, 2) := by decide +kernel
theorem d4_30 : decode method_3_code 30 = .ok (.lushr, 1) := by decide +kernel
theorem d4_31 : decode method_3_code 31 = .ok (.lxor, 1) := by decide +kernel
theorem d4_32 : decode method_3_code 32 = .ok (.lstore_n 2, 1) := by decide +kernel
theorem d4_33 : decode method_3_code 33 = .ok (.lload_n 2, 1) := by decide +kernel
theorem d4_34 : decode method_3_code 34 = .ok (.ldc2_w 17, 3) := by decide +kernel
theorem d4_37 : decode method_3_code 37 = .ok (.invokestatic 13, 3) := by decide +kernel
theorem d4_40 : decode method_3_code 40 = .ok (.lmul, 1) := by decide +kernel
theorem d4_41 : decode method_3_code 41 = .ok (.lstore_n 2, 1) := by decide +kernel
theorem d4_42 : decode method_3_code 42 = .ok (.lload_n 2, 1) := by decide +kernel
theorem d4_43 : decode method_3_code 43 = .ok (.lload_n 2, 1) := by decide +kernel
theorem d4_44 : decode method_3_code 44 = .ok (.bipush 30, 2) := by decide +kernel
theorem d4_46 : decode method_3_code 46 = .ok (.lushr, 1) := by decide +kernel
theorem d4_47 : decode method_3_code 47 = .ok (.lxor, 1) := by decide +kernel
theorem d4_48 : decode method_3_code 48 = .ok (.lload_n 2, 1) := by decide +kernel
theorem d4_49 : decode method_3_code 49 = .ok (.bipush 60, 2) := by decide +kernel
theorem d4_51 : decode method_3_code 51 = .ok (.lushr, 1) := by decide +kernel
theorem d4_52 : decode method_3_code 52 = .ok (.lxor, 1) := by decide +kernel
theorem d4_53 : decode method_3_code 53 = .ok (.lstore_n 2, 1) := by decide +kernel
theorem d4_54 : decode method_3_code 54 = .ok (.lload_n 2, 1) := by decide +kernel
theorem d4_55 : decode method_3_code 55 = .ok (.lreturn, 1) := by decide +kernel
theorem pd4_0 : parseMethodDescriptor "(J)J" = some ⟨[.long], some .long⟩ := by decide +kernel
theorem pn4 : plainName "com/example/questloom/questloom/game/SeededRandomNextLongPinLaw" = true := by first | (simp [plainName, overriddenIn]; done) | decide +kernel
theorem ef4 (m : MethodId) (q1 : Int64) : entryFrame m #[(.long q1)] 4 = mkF m 0 #[.val (.long q1), .second, .unset, .unset] [] := by first | (simp [entryFrame, mkF, argsToLocals, Value.category]; done) | rfl
def Q4 (Z : State) (q1 : Int64) (h0 : Heap) (n0 : Nat) (v : Option Value) (h : Heap) (L : List Loc) : Prop := v = some (.long (own_unmix q1)) ∧ Fr n0 L ∧ h = h0
set_option maxRecDepth 65536 in
set_option maxHeartbeats 40000000 in
theorem rm4 (l : Launch) (Z : State) (a0 : Array Value) (hw : ∀ d ∈ tables_1, d.before a0 Z = true) (ws : List Jvm.Cond) (q1 : Int64) (h0 : Heap) (n0 : Nat) (Z0 : n0 ≤ h0.size)  :
    MetFree l (⟨"com/example/questloom/questloom/game/SeededRandomNextLongPinLaw", "unmix", "(J)J"⟩ : MethodName) (head1 (Jvm.Cond.code (⟨"com/example/questloom/questloom/game/SeededRandomNextLongPinLaw", "unmix", "(J)J"⟩ : MethodName) method_3_code 4 (some .long) :: ws) ({ frames := 1, cells := 0, slots := 0, locals := 17 } : Room)) (fun as' U => as' = #[(.long q1)] ∧ Z.Warmed39 U.vm ∧ U.heap = h0) (fun _ _ _ _ _ => True) (fun _ U o U' => ∃ v L, o = .returned v ∧ Q4 Z q1 h0 n0 v U'.heap L ∧ FrameEnd U o U' L ({ frames := 1, cells := 0, slots := 0, locals := 17 } : Room).cells ({ frames := 1, cells := 0, slots := 0, locals := 17 } : Room).slots) := by
  refine own_body (plainFor_of_name pn4) ?_
  intro p e s m below meth c s₁ hx hby hml hown0 hnm hret hlk hZ X0 e0
  have hown : s.vm.findClass "com/example/questloom/questloom/game/SeededRandomNextLongPinLaw" = some m.cls := hown0
  have N0 := Fr.nil n0
  rw [ef4]
  show own_Go p.tables e below _ (s₁.setTop (mkF m 0 #[.val (.long q1), .second, .unset, .unset] []))
  refine own_st (S' := s₁.setTop (mkF m 1 #[.val (.long q1), .second, .unset, .unset] [(.long q1)])) (fun t k => XS.lloadN X0.here hx rfl (hb hby d4_0) rfl k) ?_
  refine own_st (S' := s₁.setTop (mkF m 2 #[.val (.long q1), .second, .unset, .unset] [(.long q1), (.long q1)])) (fun t k => XS.lloadN X0.here hx rfl (hb hby d4_1) rfl k) ?_
  refine own_st (S' := s₁.setTop (mkF m 4 #[.val (.long q1), .second, .unset, .unset] [(.int (31 : Int32)), (.long q1), (.long q1)])) (fun t k => XS.bipush X0.here hx rfl (hb hby d4_2) k) ?_
  refine own_st (S' := s₁.setTop (mkF m 5 #[.val (.long q1), .second, .unset, .unset] [(.long ((q1.toUInt64 >>> ((31 : Int32) &&& 0x3f).toInt64.toUInt64).toInt64)), (.long q1)])) (fun t k => XS.lushr X0.here hx rfl (hb hby d4_4) rfl k) ?_
  refine own_st (S' := s₁.setTop (mkF m 6 #[.val (.long q1), .second, .unset, .unset] [(.long (q1 ^^^ ((q1.toUInt64 >>> ((31 : Int32) &&& 0x3f).toInt64.toUInt64).toInt64)))])) (fun t k => XS.lxor X0.here hx rfl (hb hby d4_5) rfl k) ?_
  refine own_st (S' := s₁.setTop (mkF m 7 #[.val (.long q1), .second, .unset, .unset] [(.long q1), (.long (q1 ^^^ ((q1.toUInt64 >>> ((31 : Int32) &&& 0x3f).toInt64.toUInt64).toInt64)))])) (fun t k => XS.lloadN X0.here hx rfl (hb hby d4_6) rfl k) ?_
  refine own_st (S' := s₁.setTop (mkF m 9 #[.val (.long q1), .second, .unset, .unset] [(.int (62 : Int32)), (.long q1), (.long (q1 ^^^ ((q1.toUInt64 >>> ((31 : Int32) &&& 0x3f).toInt64.toUInt64).toInt64)))])) (fun t k => XS.bipush X0.here hx rfl (hb hby d4_7) k) ?_
  refine own_st (S' := s₁.setTop (mkF m 10 #[.val (.long q1), .second, .unset, .unset] [(.long ((q1.toUInt64 >>> ((62 : Int32) &&& 0x3f).toInt64.toUInt64).toInt64)), (.long (q1 ^^^ ((q1.toUInt64 >>> ((31 : Int32) &&& 0x3f).toInt64.toUInt64).toInt64)))])) (fun t k => XS.lushr X0.here hx rfl (hb hby d4_9) rfl k) ?_
  refine own_st (S' := s₁.setTop (mkF m 11 #[.val (.long q1), .second, .unset, .unset] [(.long ((q1 ^^^ ((q1.toUInt64 >>> ((31 : Int32) &&& 0x3f).toInt64.toUInt64).toInt64)) ^^^ ((q1.toUInt64 >>> ((62 : Int32) &&& 0x3f).toInt64.toUInt64).toInt64)))])) (fun t k => XS.lxor X0.here hx rfl (hb hby d4_10) rfl k) ?_
  obtain ⟨v1, qv1⟩ : ∃ z : Int64, z = ((q1 ^^^ ((q1.toUInt64 >>> ((31 : Int32) &&& 0x3f).toInt64.toUInt64).toInt64)) ^^^ ((q1.toUInt64 >>> ((62 : Int32) &&& 0x3f).toInt64.toUInt64).toInt64)) := ⟨_, rfl⟩
  show own_Go p.tables e below _ (s₁.setTop (mkF m 11 #[.val (.long q1), .second, .unset, .unset] [(.long ((q1 ^^^ ((q1.toUInt64 >>> ((31 : Int32) &&& 0x3f).toInt64.toUInt64).toInt64)) ^^^ ((q1.toUInt64 >>> ((62 : Int32) &&& 0x3f).toInt64.toUInt64).toInt64)))]))
  rw [← qv1]
  refine own_st (S' := s₁.setTop (mkF m 12 #[.val (.long q1), .second, .val (.long v1), .second] [])) (fun t k => XS.lstoreN X0.here hx rfl (hb hby d4_11) rfl (l' := #[.val (.long q1), .second, .val (.long v1), .second]) rfl k) ?_
  refine own_st (S' := s₁.setTop (mkF m 13 #[.val (.long q1), .second, .val (.long v1), .second] [(.long v1)])) (fun t k => XS.lloadN X0.here hx rfl (hb hby d4_12) rfl k) ?_
  refine own_st (S' := s₁.setTop (mkF m 16 #[.val (.long q1), .second, .val (.long v1), .second] [(.long (-7723592293110705685 : Int64)), (.long v1)])) (fun t k => X0.ldc2Long hx hown (mvT hZ (hw _ (List.mem_of_getElem? (i := 25) rfl))) (g := (mkF m 13 #[.val (.long q1), .second, .val (.long v1), .second] [(.long v1)])) rfl (hb hby d4_13) _ k) ?_
  obtain ⟨_, _, ⟨T2, L2, k2, n2⟩, -, X2, ⟨Lc2, hQ2, l2, y2, z2⟩, st2⟩ := Jvm.LawKit.callS X0 hx (y := (⟨"com/example/questloom/questloom/game/SeededRandomNextLongPinLaw", "inverse", "(J)J"⟩ : MethodName)) hown (mvT hZ (hw _ (List.mem_of_getElem? (i := 20) rfl))) (mvT hZ (hw _ (List.mem_of_getElem? (i := 21) rfl))) (mvT hZ (hw _ (List.mem_of_getElem? (i := 22) rfl))) (mvT hZ (hw _ (List.mem_of_getElem? (i := 23) rfl))) (by decide) (backOf (W := 2) (rm3 l Z a0 hw [] (-7723592293110705685 : Int64) h0 n0 Z0 ) hZ (hw _ (List.mem_of_getElem? (i := 23) rfl)) (hw _ (List.mem_of_getElem? (i := 22) rfl)) (by decide) (by decide)) (g := (mkF m 16 #[.val (.long q1), .second, .val (.long v1), .second] [(.long (-7723592293110705685 : Int64)), (.long v1)])) rfl (by rw [hml]; rfl) (argsL := [(.long (-7723592293110705685 : Int64))]) (rest := [(.long v1)]) (lenOf pd4_0 rfl) rfl (by show 2 * 0 + _ ≤ _; exact Nat.le_of_eq rfl) (hb hby d4_16) (fun _ _ => ⟨rfl, e0, (by decide : 0 + 0 ≤ _), (by decide : 0 + 0 ≤ _)⟩)
  dsimp only [Pt.U, Pt.locs, Pt.cells, Pt.slots] at X2 l2 y2 z2 st2 hQ2
  subst l2 y2 z2
  obtain ⟨rfl, N2q, hh2⟩ := hQ2
  have N2 := Fr.app N0 N2q
  refine own_st st2 ?_
  show own_Go p.tables e below _ (T2.setTop (mkF m 19 #[.val (.long q1), .second, .val (.long v1), .second] [(.long (own_inv (-7723592293110705685 : Int64))), (.long v1)]))
  obtain ⟨v3, qv3⟩ : ∃ z : Int64, z = (own_inv (-7723592293110705685 : Int64)) := ⟨_, rfl⟩
  rw [← qv3]
  refine own_st (S' := T2.setTop (mkF m 20 #[.val (.long q1), .second, .val (.long v1), .second] [(.long (v1 * v3))])) (fun t k => XS.lmul X2.here hx rfl (hb hby d4_19) rfl k) ?_
  obtain ⟨v4, qv4⟩ : ∃ z : Int64, z = (v1 * v3) := ⟨_, rfl⟩
  show own_Go p.tables e below _ (T2.setTop (mkF m 20 #[.val (.long q1), .second, .val (.long v1), .second] [(.long (v1 * v3))]))
  rw [← qv4]
  refine own_st (S' := T2.setTop (mkF m 21 #[.val (.long q1), .second, .val (.long v4), .second] [])) (fun t k => XS.lstoreN X2.here hx rfl (hb hby d4_20) rfl (l' := #[.val (.long q1), .second, .val (.long v4), .second]) rfl k) ?_
  refine own_st (S' := T2.setTop (mkF m 22 #[.val (.long q1), .second, .val (.long v4), .second] [(.long v4)])) (fun t k => XS.lloadN X2.here hx rfl (hb hby d4_21) rfl k) ?_
  refine own_st (S' := T2.setTop (mkF m 23 #[.val (.long q1), .second, .val (.long v4), .second] [(.long v4), (.long v4)])) (fun t k => XS.lloadN X2.here hx rfl (hb hby d4_22) rfl k) ?_
  refine own_st (S' := T2.setTop (mkF m 25 #[.val (.long q1), .second, .val (.long v4), .second] [(.int (27 : Int32)), (.long v4), (.long v4)])) (fun t k => XS.bipush X2.here hx rfl (hb hby d4_23) k) ?_
  refine own_st (S' := T2.setTop (mkF m 26 #[.val (.long q1), .second, .val (.long v4), .second] [(.long ((v4.toUInt64 >>> ((27 : Int32) &&& 0x3f).toInt64.toUInt64).toInt64)), (.long v4)])) (fun t k => XS.lushr X2.here hx rfl (hb hby d4_25) rfl k) ?_
  refine own_st (S' := T2.setTop (mkF m 27 #[.val (.long q1), .second, .val (.long v4), .second] [(.long (v4 ^^^ ((v4.toUInt64 >>> ((27 : Int32) &&& 0x3f).toInt64.toUInt64).toInt64)))])) (fun t k => XS.lxor X2.here hx rfl (hb hby d4_26) rfl k) ?_
  refine own_st (S' := T2.setTop (mkF m 28 #[.val (.long q1), .second, .val (.long v4), .second] [(.long v4), (.long (v4 ^^^ ((v4.toUInt64 >>> ((27 : Int32) &&& 0x3f).toInt64.toUInt64).toInt64)))])) (fun t k => XS.lloadN X2.here hx rfl (hb hby d4_27) rfl k) ?_
  refine own_st (S' := T2.setTop (mkF m 30 #[.val (.long q1), .second, .val (.long v4), .second] [(.int (54 : Int32)), (.long v4), (.long (v4 ^^^ ((v4.toUInt64 >>> ((27 : Int32) &&& 0x3f).toInt64.toUInt64).toInt64)))])) (fun t k => XS.bipush X2.here hx rfl (hb hby d4_28) k) ?_
  refine own_st (S' := T2.setTop (mkF m 31 #[.val (.long q1), .second, .val (.long v4), .second] [(.long ((v4.toUInt64 >>> ((54 : Int32) &&& 0x3f).toInt64.toUInt64).toInt64)), (.long (v4 ^^^ ((v4.toUInt64 >>> ((27 : Int32) &&& 0x3f).toInt64.toUInt64).toInt64)))])) (fun t k => XS.lushr X2.here hx rfl (hb hby d4_30) rfl k) ?_
  refine own_st (S' := T2.setTop (mkF m 32 #[.val (.long q1), .second, .val (.long v4), .second] [(.long ((v4 ^^^ ((v4.toUInt64 >>> ((27 : Int32) &&& 0x3f).toInt64.toUInt64).toInt64)) ^^^ ((v4.toUInt64 >>> ((54 : Int32) &&& 0x3f).toInt64.toUInt64).toInt64)))])) (fun t k => XS.lxor X2.here hx rfl (hb hby d4_31) rfl k) ?_
  obtain ⟨v5, qv5⟩ : ∃ z : Int64, z = ((v4 ^^^ ((v4.toUInt64 >>> ((27 : Int32) &&& 0x3f).toInt64.toUInt64).toInt64)) ^^^ ((v4.toUInt64 >>> ((54 : Int32) &&& 0x3f).toInt64.toUInt64).toInt64)) := ⟨_, rfl⟩
  show own_Go p.tables e below _ (T2.setTop (mkF m 32 #[.val (.long q1), .second, .val (.long v4), .second] [(.long ((v4 ^^^ ((v4.toUInt64 >>> ((27 : Int32) &&& 0x3f).toInt64.toUInt64).toInt64)) ^^^ ((v4.toUInt64 >>> ((54 : Int32) &&& 0x3f).toInt64.toUInt64).toInt64)))]))
  rw [← qv5]
  refine own_st (S' := T2.setTop (mkF m 33 #[.val (.long q1), .second, .val (.long v5), .second] [])) (fun t k => XS.lstoreN X2.here hx rfl (hb hby d4_32) rfl (l' := #[.val (.long q1), .second, .val (.long v5), .second]) rfl k) ?_
  refine own_st (S' := T2.setTop (mkF m 34 #[.val (.long q1), .second, .val (.long v5), .second] [(.long v5)])) (fun t k => XS.lloadN X2.here hx rfl (hb hby d4_33) rfl k) ?_
  refine own_st (S' := T2.setTop (mkF m 37 #[.val (.long q1), .second, .val (.long v5), .second] [(.long (-4658895280553007687 : Int64)), (.long v5)])) (fun t k => X2.ldc2Long hx hown (mvT hZ (hw _ (List.mem_of_getElem? (i := 19) rfl))) (g := (mkF m 34 #[.val (.long q1), .second, .val (.long v5), .second] [(.long v5)])) rfl (hb hby d4_34) _ k) ?_
  obtain ⟨_, _, ⟨T6, L6, k6, n6⟩, -, X6, ⟨Lc6, hQ6, l6, y6, z6⟩, st6⟩ := Jvm.LawKit.callS X2 hx (y := (⟨"com/example/questloom/questloom/game/SeededRandomNextLongPinLaw", "inverse", "(J)J"⟩ : MethodName)) hown (mvT hZ (hw _ (List.mem_of_getElem? (i := 20) rfl))) (mvT hZ (hw _ (List.mem_of_getElem? (i := 21) rfl))) (mvT hZ (hw _ (List.mem_of_getElem? (i := 22) rfl))) (mvT hZ (hw _ (List.mem_of_getElem? (i := 23) rfl))) (by decide) (backOf (W := 2) (rm3 l Z a0 hw [] (-4658895280553007687 : Int64) h0 n0 Z0 ) hZ (hw _ (List.mem_of_getElem? (i := 23) rfl)) (hw _ (List.mem_of_getElem? (i := 22) rfl)) (by decide) (by decide)) (g := (mkF m 37 #[.val (.long q1), .second, .val (.long v5), .second] [(.long (-4658895280553007687 : Int64)), (.long v5)])) rfl (by rw [hml]; rfl) (argsL := [(.long (-4658895280553007687 : Int64))]) (rest := [(.long v5)]) (lenOf pd4_0 rfl) rfl (by show 2 * 0 + _ ≤ _; exact Nat.le_of_eq rfl) (hb hby d4_37) (fun _ _ => ⟨rfl, hh2, (by decide : 0 + 0 ≤ _), (by decide : 0 + 0 ≤ _)⟩)
  dsimp only [Pt.U, Pt.locs, Pt.cells, Pt.slots] at X6 l6 y6 z6 st6 hQ6
  subst l6 y6 z6
  obtain ⟨rfl, N6q, hh6⟩ := hQ6
  have N6 := Fr.app N2 N6q
  refine own_st st6 ?_
  show own_Go p.tables e below _ (T6.setTop (mkF m 40 #[.val (.long q1), .second, .val (.long v5), .second] [(.long (own_inv (-4658895280553007687 : Int64))), (.long v5)]))
  obtain ⟨v7, qv7⟩ : ∃ z : Int64, z = (own_inv (-4658895280553007687 : Int64)) := ⟨_, rfl⟩
  rw [← qv7]
  refine own_st (S' := T6.setTop (mkF m 41 #[.val (.long q1), .second, .val (.long v5), .second] [(.long (v5 * v7))])) (fun t k => XS.lmul X6.here hx rfl (hb hby d4_40) rfl k) ?_
  obtain ⟨v8, qv8⟩ : ∃ z : Int64, z = (v5 * v7) := ⟨_, rfl⟩
  show own_Go p.tables e below _ (T6.setTop (mkF m 41 #[.val (.long q1), .second, .val (.long v5), .second] [(.long (v5 * v7))]))
  rw [← qv8]
  refine own_st (S' := T6.setTop (mkF m 42 #[.val (.long q1), .second, .val (.long v8), .second] [])) (fun t k => XS.lstoreN X6.here hx rfl (hb hby d4_41) rfl (l' := #[.val (.long q1), .second, .val (.long v8), .second]) rfl k) ?_
  refine own_st (S' := T6.setTop (mkF m 43 #[.val (.long q1), .second, .val (.long v8), .second] [(.long v8)])) (fun t k => XS.lloadN X6.here hx rfl (hb hby d4_42) rfl k) ?_
  refine own_st (S' := T6.setTop (mkF m 44 #[.val (.long q1), .second, .val (.long v8), .second] [(.long v8), (.long v8)])) (fun t k => XS.lloadN X6.here hx rfl (hb hby d4_43) rfl k) ?_
  refine own_st (S' := T6.setTop (mkF m 46 #[.val (.long q1), .second, .val (.long v8), .second] [(.int (30 : Int32)), (.long v8), (.long v8)])) (fun t k => XS.bipush X6.here hx rfl (hb hby d4_44) k) ?_
  refine own_st (S' := T6.setTop (mkF m 47 #[.val (.long q1), .second, .val (.long v8), .second] [(.long ((v8.toUInt64 >>> ((30 : Int32) &&& 0x3f).toInt64.toUInt64).toInt64)), (.long v8)])) (fun t k => XS.lushr X6.here hx rfl (hb hby d4_46) rfl k) ?_
  refine own_st (S' := T6.setTop (mkF m 48 #[.val (.long q1), .second, .val (.long v8), .second] [(.long (v8 ^^^ ((v8.toUInt64 >>> ((30 : Int32) &&& 0x3f).toInt64.toUInt64).toInt64)))])) (fun t k => XS.lxor X6.here hx rfl (hb hby d4_47) rfl k) ?_
  refine own_st (S' := T6.setTop (mkF m 49 #[.val (.long q1), .second, .val (.long v8), .second] [(.long v8), (.long (v8 ^^^ ((v8.toUInt64 >>> ((30 : Int32) &&& 0x3f).toInt64.toUInt64).toInt64)))])) (fun t k => XS.lloadN X6.here hx rfl (hb hby d4_48) rfl k) ?_
  refine own_st (S' := T6.setTop (mkF m 51 #[.val (.long q1), .second, .val (.long v8), .second] [(.int (60 : Int32)), (.long v8), (.long (v8 ^^^ ((v8.toUInt64 >>> ((30 : Int32) &&& 0x3f).toInt64.toUInt64).toInt64)))])) (fun t k => XS.bipush X6.here hx rfl (hb hby d4_49) k) ?_
  refine own_st (S' := T6.setTop (mkF m 52 #[.val (.long q1), .second, .val (.long v8), .second] [(.long ((v8.toUInt64 >>> ((60 : Int32) &&& 0x3f).toInt64.toUInt64).toInt64)), (.long (v8 ^^^ ((v8.toUInt64 >>> ((30 : Int32) &&& 0x3f).toInt64.toUInt64).toInt64)))])) (fun t k => XS.lushr X6.here hx rfl (hb hby d4_51) rfl k) ?_
  refine own_st (S' := T6.setTop (mkF m 53 #[.val (.long q1), .second, .val (.long v8), .second] [(.long ((v8 ^^^ ((v8.toUInt64 >>> ((30 : Int32) &&& 0x3f).toInt64.toUInt64).toInt64)) ^^^ ((v8.toUInt64 >>> ((60 : Int32) &&& 0x3f).toInt64.toUInt64).toInt64)))])) (fun t k => XS.lxor X6.here hx rfl (hb hby d4_52) rfl k) ?_
  obtain ⟨v9, qv9⟩ : ∃ z : Int64, z = ((v8 ^^^ ((v8.toUInt64 >>> ((30 : Int32) &&& 0x3f).toInt64.toUInt64).toInt64)) ^^^ ((v8.toUInt64 >>> ((60 : Int32) &&& 0x3f).toInt64.toUInt64).toInt64)) := ⟨_, rfl⟩
  show own_Go p.tables e below _ (T6.setTop (mkF m 53 #[.val (.long q1), .second, .val (.long v8), .second] [(.long ((v8 ^^^ ((v8.toUInt64 >>> ((30 : Int32) &&& 0x3f).toInt64.toUInt64).toInt64)) ^^^ ((v8.toUInt64 >>> ((60 : Int32) &&& 0x3f).toInt64.toUInt64).toInt64)))]))
  rw [← qv9]
  refine own_st (S' := T6.setTop (mkF m 54 #[.val (.long q1), .second, .val (.long v9), .second] [])) (fun t k => XS.lstoreN X6.here hx rfl (hb hby d4_53) rfl (l' := #[.val (.long q1), .second, .val (.long v9), .second]) rfl k) ?_
  refine own_st (S' := T6.setTop (mkF m 55 #[.val (.long q1), .second, .val (.long v9), .second] [(.long v9)])) (fun t k => XS.lloadN X6.here hx rfl (hb hby d4_54) rfl k) ?_
  refine own_retL X6 hx hret hlk (hb hby d4_55) ?_ (by decide) (by decide)
  rw [hh6]
  refine ⟨?_, N6, rfl⟩
  subst_vars
  rfl
theorem pd0_0 : parseMethodDescriptor "(J)V" = some ⟨[.long], none⟩ := by decide +kernel
theorem pd0_1 : parseMethodDescriptor "()J" = some ⟨[], some .long⟩ := by decide +kernel
theorem pd0_2 : parseMethodDescriptor "(J)J" = some ⟨[.long], some .long⟩ := by decide +kernel
theorem pn0 : plainName "com/example/questloom/questloom/game/SeededRandomNextLongPinLaw" = true := by first | (simp [plainName, overriddenIn]; done) | decide +kernel
theorem ef0 (m : MethodId) (p0 : Int64) : entryFrame m #[(.long p0)] maxLocals = mkF m 0 #[.val (.long p0), .second, .unset, .unset, .unset, .unset, .unset, .unset] [] := by first | (simp [entryFrame, mkF, argsToLocals, Value.category, maxLocals]; done) | rfl
def Q0 (n0 : Nat) (v : Option Value) (h : Heap) (L : List Loc) : Prop := v = some (.int 1) ∧ Fr n0 L
set_option maxRecDepth 65536 in
set_option maxHeartbeats 40000000 in
theorem rm0 (l : Launch) (Z : State) (a0 : Array Value) (hw : ∀ d ∈ tables_1, d.before a0 Z = true) (ws : List Jvm.Cond) (p0 : Int64) (h0 : Heap) (n0 : Nat) (Z0 : n0 ≤ h0.size)  :
    MetFree l x (head1 (Jvm.Cond.code x code maxLocals ret :: ws) room_1) (fun as' U => as' = #[(.long p0)] ∧ Z.Warmed39 U.vm ∧ U.heap = h0) (fun _ _ _ _ _ => True) (fun _ U o U' => ∃ v L, o = .returned v ∧ Q0 n0 v U'.heap L ∧ FrameEnd U o U' L room_1.cells room_1.slots) := by
  refine own_body (plainFor_of_name pn0) ?_
  intro p e s m below meth c s₁ hx hby hml hown0 hnm hret hlk hZ X0 e0
  have hown : s.vm.findClass "com/example/questloom/questloom/game/SeededRandomNextLongPinLaw" = some m.cls := hown0
  have N0 := Fr.nil n0
  rw [ef0]
  show own_Go p.tables e below _ (s₁.setTop (mkF m 0 #[.val (.long p0), .second, .unset, .unset, .unset, .unset, .unset, .unset] []))
  obtain ⟨T1, h1, X1, e1, E1, A1, D1, -, st1⟩ := newO X0 hx hZ hown (hw _ (List.mem_of_getElem? (i := 0) rfl)) (hw _ (List.mem_of_getElem? (i := 1) rfl)) (hw _ (List.mem_of_getElem? (i := 2) rfl)) e0 (g := (mkF m 0 #[.val (.long p0), .second, .unset, .unset, .unset, .unset, .unset, .unset] [])) rfl (hb hby at_0) (by decide) (by decide)
  obtain ⟨b1, g1⟩ : ∃ z, z = h0.size := ⟨_, rfl⟩
  rw [← g1] at A1 D1 st1
  have G_b1 : n0 ≤ b1 := Nat.le_trans Z0 (Nat.le_of_eq g1.symm)
  have Z1 : n0 ≤ h1.size := Nat.le_trans Z0 E1.1
  have f2 : Fld Z h1 b1 "com/example/questloom/questloom/game/SeededRandom" "state" "J" (.long (0 : Int64)) := D1 (Or.inl (hw _ (List.mem_of_getElem? (i := 10) rfl))) (ty := .long) (by decide)
  refine own_st st1 ?_
  show own_Go p.tables e below _ (T1.setTop (mkF m 3 #[.val (.long p0), .second, .unset, .unset, .unset, .unset, .unset, .unset] [(.ref b1)]))
  refine own_st (S' := T1.setTop (mkF m 4 #[.val (.long p0), .second, .unset, .unset, .unset, .unset, .unset, .unset] [(.ref b1), (.ref b1)])) (fun t k => XS.dup X1.here hx rfl (hb hby at_3) rfl rfl k) ?_
  refine own_st (S' := T1.setTop (mkF m 5 #[.val (.long p0), .second, .unset, .unset, .unset, .unset, .unset, .unset] [(.long p0), (.ref b1), (.ref b1)])) (fun t k => XS.lloadN X1.here hx rfl (hb hby at_4) rfl k) ?_
  obtain ⟨_, _, ⟨T3, L3, k3, n3⟩, -, X3, ⟨Lc3, hQ3, l3, y3, z3⟩, st3⟩ := X1.specialBack hx (y := (⟨"com/example/questloom/questloom/game/SeededRandom", "<init>", "(J)V"⟩ : MethodName)) rfl hown (mvT hZ (hw _ (List.mem_of_getElem? (i := 3) rfl))) (mvT hZ (hw _ (List.mem_of_getElem? (i := 4) rfl))) (mvT hZ (hw _ (List.mem_of_getElem? (i := 5) rfl))) (by decide) (backOf (W := 1) (rm1 l Z a0 hw [] b1 p0 (0 : Int64) h1 n0 Z1 A1 f2 G_b1) hZ (hw _ (List.mem_of_getElem? (i := 5) rfl)) (hw _ (List.mem_of_getElem? (i := 2) rfl)) (by decide) (by decide)) (g := (mkF m 5 #[.val (.long p0), .second, .unset, .unset, .unset, .unset, .unset, .unset] [(.long p0), (.ref b1), (.ref b1)])) rfl (by rw [hml]; rfl) (Steps.refl _) (a := b1) (argsL := [(.long p0)]) (rest := [(.ref b1)]) (lenOf pd0_0 rfl) rfl (by show 2 * 0 + _ ≤ _; exact Nat.le_of_eq rfl) (hb hby at_5) (fun _ _ => ⟨rfl, e1, (by decide : 1 + 0 ≤ _), (by decide : 1 + 0 ≤ _)⟩)
  dsimp only [Pt.U, Pt.locs, Pt.cells, Pt.slots] at X3 l3 y3 z3 st3 hQ3
  subst l3 y3 z3
  obtain ⟨rfl, N3q, Kq3, g0_3, g1_3⟩ := hQ3
  have f4 : Exa Z T3.heap b1 "com/example/questloom/questloom/game/SeededRandom" := A1.keep Kq3
  have Z3 : n0 ≤ T3.heap.size := Nat.le_trans Z1 Kq3.1
  have N3 := Fr.app N0 N3q
  refine own_tr st3 ?_
  show own_Go p.tables e below _ (T3.setTop (mkF m 8 #[.val (.long p0), .second, .unset, .unset, .unset, .unset, .unset, .unset] [(.ref b1)]))
  refine own_st (S' := T3.setTop (mkF m 9 #[.val (.long p0), .second, .val (.ref b1), .unset, .unset, .unset, .unset, .unset] [])) (fun t k => XS.astoreN X3.here hx rfl (hb hby at_8) rfl rfl (l' := #[.val (.long p0), .second, .val (.ref b1), .unset, .unset, .unset, .unset, .unset]) rfl k) ?_
  refine own_st (S' := T3.setTop (mkF m 10 #[.val (.long p0), .second, .val (.ref b1), .unset, .unset, .unset, .unset, .unset] [(.ref b1)])) (fun t k => XS.aloadN X3.here hx rfl (hb hby at_9) rfl rfl k) ?_
  obtain ⟨cq5, kq5, q5a, q5b, q5c⟩ := isOf hZ rfl g0_3
  obtain ⟨_, _, ⟨T5, L5, k5, n5⟩, -, X5, ⟨Lc5, hQ5, l5, y5, z5⟩, st5⟩ := X3.virtualBack hx (y := (⟨"com/example/questloom/questloom/game/SeededRandom", "nextLong", "()J"⟩ : MethodName)) (z := (⟨"com/example/questloom/questloom/game/SeededRandom", "nextLong", "()J"⟩ : MethodName)) hown (mvT hZ (hw _ (List.mem_of_getElem? (i := 11) rfl))) (mvT hZ (hw _ (List.mem_of_getElem? (i := 12) rfl))) (notFace_of_selects (args := #[]) (mvT hZ (hw _ (List.mem_of_getElem? (i := 14) rfl)))) (mvT hZ (hw _ (List.mem_of_getElem? (i := 14) rfl))) (mvT hZ (hw _ (List.mem_of_getElem? (i := 13) rfl))) (by decide) (backOf (W := 0) (rm2 l Z a0 hw [] b1 p0 T3.heap n0 Z3 g0_3 g1_3 G_b1) hZ (hw _ (List.mem_of_getElem? (i := 15) rfl)) (hw _ (List.mem_of_getElem? (i := 2) rfl)) (by decide) (by decide)) q5a q5c (g := (mkF m 10 #[.val (.long p0), .second, .val (.ref b1), .unset, .unset, .unset, .unset, .unset] [(.ref b1)])) rfl (by rw [hml]; rfl) (Steps.refl _) (argsL := []) (rest := []) (lenOf pd0_1 rfl) rfl (by show 2 * 0 + _ ≤ _; exact Nat.le_of_eq rfl) (hb hby at_10) (fun _ _ => ⟨rfl, rfl, (by decide : 1 + 0 ≤ _), (by decide : 1 + 0 ≤ _)⟩)
  dsimp only [Pt.U, Pt.locs, Pt.cells, Pt.slots] at X5 l5 y5 z5 st5 hQ5
  subst l5 y5 z5
  obtain ⟨rfl, N5q, Kq5, g0_5, g1_5⟩ := hQ5
  have f6 : Exa Z T5.heap b1 "com/example/questloom/questloom/game/SeededRandom" := g0_3.keep Kq5
  have Z5 : n0 ≤ T5.heap.size := Nat.le_trans Z3 Kq5.1
  have N5 := Fr.app N3 N5q
  refine own_tr st5 ?_
  show own_Go p.tables e below _ (T5.setTop (mkF m 13 #[.val (.long p0), .second, .val (.ref b1), .unset, .unset, .unset, .unset, .unset] [(.long (own_mix (p0 + (-7046029254386353131 : Int64))))]))
  obtain ⟨v7, qv7⟩ : ∃ z : Int64, z = (own_mix (p0 + (-7046029254386353131 : Int64))) := ⟨_, rfl⟩
  rw [← qv7]
  refine own_st (S' := T5.setTop (mkF m 14 #[.val (.long p0), .second, .val (.ref b1), .val (.long v7), .second, .unset, .unset, .unset] [])) (fun t k => XS.lstoreN X5.here hx rfl (hb hby at_13) rfl (l' := #[.val (.long p0), .second, .val (.ref b1), .val (.long v7), .second, .unset, .unset, .unset]) rfl k) ?_
  refine own_st (S' := T5.setTop (mkF m 15 #[.val (.long p0), .second, .val (.ref b1), .val (.long v7), .second, .unset, .unset, .unset] [(.ref b1)])) (fun t k => XS.aloadN X5.here hx rfl (hb hby at_14) rfl rfl k) ?_
  obtain ⟨cq8, kq8, q8a, q8b, q8c⟩ := isOf hZ rfl g0_5
  obtain ⟨_, _, ⟨T8, L8, k8, n8⟩, -, X8, ⟨Lc8, hQ8, l8, y8, z8⟩, st8⟩ := X5.virtualBack hx (y := (⟨"com/example/questloom/questloom/game/SeededRandom", "nextLong", "()J"⟩ : MethodName)) (z := (⟨"com/example/questloom/questloom/game/SeededRandom", "nextLong", "()J"⟩ : MethodName)) hown (mvT hZ (hw _ (List.mem_of_getElem? (i := 11) rfl))) (mvT hZ (hw _ (List.mem_of_getElem? (i := 12) rfl))) (notFace_of_selects (args := #[]) (mvT hZ (hw _ (List.mem_of_getElem? (i := 14) rfl)))) (mvT hZ (hw _ (List.mem_of_getElem? (i := 14) rfl))) (mvT hZ (hw _ (List.mem_of_getElem? (i := 13) rfl))) (by decide) (backOf (W := 0) (rm2 l Z a0 hw [] b1 (p0 + (-7046029254386353131 : Int64)) T5.heap n0 Z5 g0_5 g1_5 G_b1) hZ (hw _ (List.mem_of_getElem? (i := 15) rfl)) (hw _ (List.mem_of_getElem? (i := 2) rfl)) (by decide) (by decide)) q8a q8c (g := (mkF m 15 #[.val (.long p0), .second, .val (.ref b1), .val (.long v7), .second, .unset, .unset, .unset] [(.ref b1)])) rfl (by rw [hml]; rfl) (Steps.refl _) (argsL := []) (rest := []) (lenOf pd0_1 rfl) rfl (by show 2 * 0 + _ ≤ _; exact Nat.le_of_eq rfl) (hb hby at_15) (fun _ _ => ⟨rfl, rfl, (by decide : 1 + 0 ≤ _), (by decide : 1 + 0 ≤ _)⟩)
  dsimp only [Pt.U, Pt.locs, Pt.cells, Pt.slots] at X8 l8 y8 z8 st8 hQ8
  subst l8 y8 z8
  obtain ⟨rfl, N8q, Kq8, g0_8, g1_8⟩ := hQ8
  have f9 : Exa Z T8.heap b1 "com/example/questloom/questloom/game/SeededRandom" := g0_5.keep Kq8
  have Z8 : n0 ≤ T8.heap.size := Nat.le_trans Z5 Kq8.1
  have N8 := Fr.app N5 N8q
  refine own_tr st8 ?_
  show own_Go p.tables e below _ (T8.setTop (mkF m 18 #[.val (.long p0), .second, .val (.ref b1), .val (.long v7), .second, .unset, .unset, .unset] [(.long (own_mix ((p0 + (-7046029254386353131 : Int64)) + (-7046029254386353131 : Int64))))]))
  obtain ⟨v10, qv10⟩ : ∃ z : Int64, z = (own_mix ((p0 + (-7046029254386353131 : Int64)) + (-7046029254386353131 : Int64))) := ⟨_, rfl⟩
  rw [← qv10]
  refine own_st (S' := T8.setTop (mkF m 20 #[.val (.long p0), .second, .val (.ref b1), .val (.long v7), .second, .val (.long v10), .second, .unset] [])) (fun t k => XS.lstore X8.here hx rfl (hb hby at_18) rfl (l' := #[.val (.long p0), .second, .val (.ref b1), .val (.long v7), .second, .val (.long v10), .second, .unset]) rfl k) ?_
  refine own_st (S' := T8.setTop (mkF m 23 #[.val (.long p0), .second, .val (.ref b1), .val (.long v7), .second, .val (.long v10), .second, .unset] [(.long (-4658895280553007687 : Int64))])) (fun t k => X8.ldc2Long hx hown (mvT hZ (hw _ (List.mem_of_getElem? (i := 19) rfl))) (g := (mkF m 20 #[.val (.long p0), .second, .val (.ref b1), .val (.long v7), .second, .val (.long v10), .second, .unset] [])) rfl (hb hby at_20) _ k) ?_
  refine own_st (S' := T8.setTop (mkF m 26 #[.val (.long p0), .second, .val (.ref b1), .val (.long v7), .second, .val (.long v10), .second, .unset] [(.long (-4658895280553007687 : Int64)), (.long (-4658895280553007687 : Int64))])) (fun t k => X8.ldc2Long hx hown (mvT hZ (hw _ (List.mem_of_getElem? (i := 19) rfl))) (g := (mkF m 23 #[.val (.long p0), .second, .val (.ref b1), .val (.long v7), .second, .val (.long v10), .second, .unset] [(.long (-4658895280553007687 : Int64))])) rfl (hb hby at_23) _ k) ?_
  obtain ⟨_, _, ⟨T11, L11, k11, n11⟩, -, X11, ⟨Lc11, hQ11, l11, y11, z11⟩, st11⟩ := Jvm.LawKit.callS X8 hx (y := (⟨"com/example/questloom/questloom/game/SeededRandomNextLongPinLaw", "inverse", "(J)J"⟩ : MethodName)) hown (mvT hZ (hw _ (List.mem_of_getElem? (i := 20) rfl))) (mvT hZ (hw _ (List.mem_of_getElem? (i := 21) rfl))) (mvT hZ (hw _ (List.mem_of_getElem? (i := 22) rfl))) (mvT hZ (hw _ (List.mem_of_getElem? (i := 23) rfl))) (by decide) (backOf (W := 2) (rm3 l Z a0 hw [] (-4658895280553007687 : Int64) T8.heap n0 Z8 ) hZ (hw _ (List.mem_of_getElem? (i := 23) rfl)) (hw _ (List.mem_of_getElem? (i := 22) rfl)) (by decide) (by decide)) (g := (mkF m 26 #[.val (.long p0), .second, .val (.ref b1), .val (.long v7), .second, .val (.long v10), .second, .unset] [(.long (-4658895280553007687 : Int64)), (.long (-4658895280553007687 : Int64))])) rfl (by rw [hml]; rfl) (argsL := [(.long (-4658895280553007687 : Int64))]) (rest := [(.long (-4658895280553007687 : Int64))]) (lenOf pd0_2 rfl) rfl (by show 2 * 0 + _ ≤ _; exact Nat.le_of_eq rfl) (hb hby at_26) (fun _ _ => ⟨rfl, rfl, (by decide : 1 + 0 ≤ _), (by decide : 1 + 0 ≤ _)⟩)
  dsimp only [Pt.U, Pt.locs, Pt.cells, Pt.slots] at X11 l11 y11 z11 st11 hQ11
  subst l11 y11 z11
  obtain ⟨rfl, N11q, hh11⟩ := hQ11
  have N11 := Fr.app N8 N11q
  refine own_st st11 ?_
  show own_Go p.tables e below _ (T11.setTop (mkF m 29 #[.val (.long p0), .second, .val (.ref b1), .val (.long v7), .second, .val (.long v10), .second, .unset] [(.long (own_inv (-4658895280553007687 : Int64))), (.long (-4658895280553007687 : Int64))]))
  obtain ⟨v12, qv12⟩ : ∃ z : Int64, z = (own_inv (-4658895280553007687 : Int64)) := ⟨_, rfl⟩
  rw [← qv12]
  refine own_st (S' := T11.setTop (mkF m 30 #[.val (.long p0), .second, .val (.ref b1), .val (.long v7), .second, .val (.long v10), .second, .unset] [(.long ((-4658895280553007687 : Int64) * v12))])) (fun t k => XS.lmul X11.here hx rfl (hb hby at_29) rfl k) ?_
  refine own_st (S' := T11.setTop (mkF m 31 #[.val (.long p0), .second, .val (.ref b1), .val (.long v7), .second, .val (.long v10), .second, .unset] [(.long (1 : Int64)), (.long ((-4658895280553007687 : Int64) * v12))])) (fun t k => XS.lconst X11.here hx rfl (hb hby at_30) k) ?_
  refine own_st (S' := T11.setTop (mkF m 32 #[.val (.long p0), .second, .val (.ref b1), .val (.long v7), .second, .val (.long v10), .second, .unset] [(.int (lcmpW ((-4658895280553007687 : Int64) * v12) (1 : Int64)))])) (fun t k => XS.lcmp X11.here hx rfl (hb hby at_31) rfl k) ?_
  have hc13 : ((-4658895280553007687 : Int64) * v12) = (1 : Int64) := by rw [qv12, own_inv1]; decide
  refine own_st (S' := T11.setTop (mkF m 35 #[.val (.long p0), .second, .val (.ref b1), .val (.long v7), .second, .val (.long v10), .second, .unset] [])) (fun t k => XS.ifNo X11.here hx rfl (hb hby at_32) rfl ((if0 _ _).trans (teq ((lw_eq _ _).mpr hc13)).2) k) ?_
  show own_Go p.tables e below _ (T11.setTop (mkF m 35 #[.val (.long p0), .second, .val (.ref b1), .val (.long v7), .second, .val (.long v10), .second, .unset] []))
  refine own_st (S' := T11.setTop (mkF m 38 #[.val (.long p0), .second, .val (.ref b1), .val (.long v7), .second, .val (.long v10), .second, .unset] [(.long (-7723592293110705685 : Int64))])) (fun t k => X11.ldc2Long hx hown (mvT hZ (hw _ (List.mem_of_getElem? (i := 25) rfl))) (g := (mkF m 35 #[.val (.long p0), .second, .val (.ref b1), .val (.long v7), .second, .val (.long v10), .second, .unset] [])) rfl (hb hby at_35) _ k) ?_
  refine own_st (S' := T11.setTop (mkF m 41 #[.val (.long p0), .second, .val (.ref b1), .val (.long v7), .second, .val (.long v10), .second, .unset] [(.long (-7723592293110705685 : Int64)), (.long (-7723592293110705685 : Int64))])) (fun t k => X11.ldc2Long hx hown (mvT hZ (hw _ (List.mem_of_getElem? (i := 25) rfl))) (g := (mkF m 38 #[.val (.long p0), .second, .val (.ref b1), .val (.long v7), .second, .val (.long v10), .second, .unset] [(.long (-7723592293110705685 : Int64))])) rfl (hb hby at_38) _ k) ?_
  obtain ⟨_, _, ⟨T14, L14, k14, n14⟩, -, X14, ⟨Lc14, hQ14, l14, y14, z14⟩, st14⟩ := Jvm.LawKit.callS X11 hx (y := (⟨"com/example/questloom/questloom/game/SeededRandomNextLongPinLaw", "inverse", "(J)J"⟩ : MethodName)) hown (mvT hZ (hw _ (List.mem_of_getElem? (i := 20) rfl))) (mvT hZ (hw _ (List.mem_of_getElem? (i := 21) rfl))) (mvT hZ (hw _ (List.mem_of_getElem? (i := 22) rfl))) (mvT hZ (hw _ (List.mem_of_getElem? (i := 23) rfl))) (by decide) (backOf (W := 2) (rm3 l Z a0 hw [] (-7723592293110705685 : Int64) T8.heap n0 Z8 ) hZ (hw _ (List.mem_of_getElem? (i := 23) rfl)) (hw _ (List.mem_of_getElem? (i := 22) rfl)) (by decide) (by decide)) (g := (mkF m 41 #[.val (.long p0), .second, .val (.ref b1), .val (.long v7), .second, .val (.long v10), .second, .unset] [(.long (-7723592293110705685 : Int64)), (.long (-7723592293110705685 : Int64))])) rfl (by rw [hml]; rfl) (argsL := [(.long (-7723592293110705685 : Int64))]) (rest := [(.long (-7723592293110705685 : Int64))]) (lenOf pd0_2 rfl) rfl (by show 2 * 0 + _ ≤ _; exact Nat.le_of_eq rfl) (hb hby at_41) (fun _ _ => ⟨rfl, hh11, (by decide : 1 + 0 ≤ _), (by decide : 1 + 0 ≤ _)⟩)
  dsimp only [Pt.U, Pt.locs, Pt.cells, Pt.slots] at X14 l14 y14 z14 st14 hQ14
  subst l14 y14 z14
  obtain ⟨rfl, N14q, hh14⟩ := hQ14
  have N14 := Fr.app N11 N14q
  refine own_st st14 ?_
  show own_Go p.tables e below _ (T14.setTop (mkF m 44 #[.val (.long p0), .second, .val (.ref b1), .val (.long v7), .second, .val (.long v10), .second, .unset] [(.long (own_inv (-7723592293110705685 : Int64))), (.long (-7723592293110705685 : Int64))]))
  obtain ⟨v15, qv15⟩ : ∃ z : Int64, z = (own_inv (-7723592293110705685 : Int64)) := ⟨_, rfl⟩
  rw [← qv15]
  refine own_st (S' := T14.setTop (mkF m 45 #[.val (.long p0), .second, .val (.ref b1), .val (.long v7), .second, .val (.long v10), .second, .unset] [(.long ((-7723592293110705685 : Int64) * v15))])) (fun t k => XS.lmul X14.here hx rfl (hb hby at_44) rfl k) ?_
  refine own_st (S' := T14.setTop (mkF m 46 #[.val (.long p0), .second, .val (.ref b1), .val (.long v7), .second, .val (.long v10), .second, .unset] [(.long (1 : Int64)), (.long ((-7723592293110705685 : Int64) * v15))])) (fun t k => XS.lconst X14.here hx rfl (hb hby at_45) k) ?_
  refine own_st (S' := T14.setTop (mkF m 47 #[.val (.long p0), .second, .val (.ref b1), .val (.long v7), .second, .val (.long v10), .second, .unset] [(.int (lcmpW ((-7723592293110705685 : Int64) * v15) (1 : Int64)))])) (fun t k => XS.lcmp X14.here hx rfl (hb hby at_46) rfl k) ?_
  have hc16 : ((-7723592293110705685 : Int64) * v15) = (1 : Int64) := by rw [qv15, own_inv2]; decide
  refine own_st (S' := T14.setTop (mkF m 50 #[.val (.long p0), .second, .val (.ref b1), .val (.long v7), .second, .val (.long v10), .second, .unset] [])) (fun t k => XS.ifNo X14.here hx rfl (hb hby at_47) rfl ((if0 _ _).trans (teq ((lw_eq _ _).mpr hc16)).2) k) ?_
  show own_Go p.tables e below _ (T14.setTop (mkF m 50 #[.val (.long p0), .second, .val (.ref b1), .val (.long v7), .second, .val (.long v10), .second, .unset] []))
  refine own_st (S' := T14.setTop (mkF m 51 #[.val (.long p0), .second, .val (.ref b1), .val (.long v7), .second, .val (.long v10), .second, .unset] [(.int (1 : Int32))])) (fun t k => XS.iconst X14.here hx rfl (hb hby at_50) k) ?_
  refine own_st (S' := T14.setTop (mkF m 55 #[.val (.long p0), .second, .val (.ref b1), .val (.long v7), .second, .val (.long v10), .second, .unset] [(.int (1 : Int32))])) (fun t k => XS.goto X14.here hx rfl (pc0 := 51) (pc' := 55) rfl (hb hby at_51) (by decide) (by decide) k) ?_
  refine own_st (S' := T14.setTop (mkF m 57 #[.val (.long p0), .second, .val (.ref b1), .val (.long v7), .second, .val (.long v10), .second, .val (.int (1 : Int32))] [])) (fun t k => XS.istore X14.here hx rfl (hb hby at_55) rfl (l' := #[.val (.long p0), .second, .val (.ref b1), .val (.long v7), .second, .val (.long v10), .second, .val (.int (1 : Int32))]) rfl k) ?_
  refine own_st (S' := T14.setTop (mkF m 59 #[.val (.long p0), .second, .val (.ref b1), .val (.long v7), .second, .val (.long v10), .second, .val (.int (1 : Int32))] [(.int (1 : Int32))])) (fun t k => XS.iload X14.here hx rfl (hb hby at_57) rfl k) ?_
  refine own_st (S' := T14.setTop (mkF m 62 #[.val (.long p0), .second, .val (.ref b1), .val (.long v7), .second, .val (.long v10), .second, .val (.int (1 : Int32))] [])) (fun t k => XS.ifNo X14.here hx rfl (hb hby at_59) rfl ((if0 _ _).trans (feq (by decide)).1) k) ?_
  show own_Go p.tables e below _ (T14.setTop (mkF m 62 #[.val (.long p0), .second, .val (.ref b1), .val (.long v7), .second, .val (.long v10), .second, .val (.int (1 : Int32))] []))
  refine own_st (S' := T14.setTop (mkF m 63 #[.val (.long p0), .second, .val (.ref b1), .val (.long v7), .second, .val (.long v10), .second, .val (.int (1 : Int32))] [(.long v7)])) (fun t k => XS.lloadN X14.here hx rfl (hb hby at_62) rfl k) ?_
  obtain ⟨_, _, ⟨T17, L17, k17, n17⟩, -, X17, ⟨Lc17, hQ17, l17, y17, z17⟩, st17⟩ := Jvm.LawKit.callS X14 hx (y := (⟨"com/example/questloom/questloom/game/SeededRandomNextLongPinLaw", "unmix", "(J)J"⟩ : MethodName)) hown (mvT hZ (hw _ (List.mem_of_getElem? (i := 26) rfl))) (mvT hZ (hw _ (List.mem_of_getElem? (i := 27) rfl))) (mvT hZ (hw _ (List.mem_of_getElem? (i := 22) rfl))) (mvT hZ (hw _ (List.mem_of_getElem? (i := 28) rfl))) (by decide) (backOf (W := 0) (rm4 l Z a0 hw [] v7 T8.heap n0 Z8 ) hZ (hw _ (List.mem_of_getElem? (i := 28) rfl)) (hw _ (List.mem_of_getElem? (i := 22) rfl)) (by decide) (by decide)) (g := (mkF m 63 #[.val (.long p0), .second, .val (.ref b1), .val (.long v7), .second, .val (.long v10), .second, .val (.int (1 : Int32))] [(.long v7)])) rfl (by rw [hml]; rfl) (argsL := [(.long v7)]) (rest := []) (lenOf pd0_2 rfl) rfl (by show 2 * 0 + _ ≤ _; exact Nat.le_of_eq rfl) (hb hby at_63) (fun _ _ => ⟨rfl, hh14, (by decide : 1 + 0 ≤ _), (by decide : 1 + 0 ≤ _)⟩)
  dsimp only [Pt.U, Pt.locs, Pt.cells, Pt.slots] at X17 l17 y17 z17 st17 hQ17
  subst l17 y17 z17
  obtain ⟨rfl, N17q, hh17⟩ := hQ17
  have N17 := Fr.app N14 N17q
  refine own_st st17 ?_
  show own_Go p.tables e below _ (T17.setTop (mkF m 66 #[.val (.long p0), .second, .val (.ref b1), .val (.long v7), .second, .val (.long v10), .second, .val (.int (1 : Int32))] [(.long (own_unmix v7))]))
  obtain ⟨v18, qv18⟩ : ∃ z : Int64, z = (own_unmix v7) := ⟨_, rfl⟩
  rw [← qv18]
  refine own_st (S' := T17.setTop (mkF m 67 #[.val (.long p0), .second, .val (.ref b1), .val (.long v7), .second, .val (.long v10), .second, .val (.int (1 : Int32))] [(.long p0), (.long v18)])) (fun t k => XS.lloadN X17.here hx rfl (hb hby at_66) rfl k) ?_
  refine own_st (S' := T17.setTop (mkF m 70 #[.val (.long p0), .second, .val (.ref b1), .val (.long v7), .second, .val (.long v10), .second, .val (.int (1 : Int32))] [(.long (-7046029254386353131 : Int64)), (.long p0), (.long v18)])) (fun t k => X17.ldc2Long hx hown (mvT hZ (hw _ (List.mem_of_getElem? (i := 29) rfl))) (g := (mkF m 67 #[.val (.long p0), .second, .val (.ref b1), .val (.long v7), .second, .val (.long v10), .second, .val (.int (1 : Int32))] [(.long p0), (.long v18)])) rfl (hb hby at_67) _ k) ?_
  refine own_st (S' := T17.setTop (mkF m 71 #[.val (.long p0), .second, .val (.ref b1), .val (.long v7), .second, .val (.long v10), .second, .val (.int (1 : Int32))] [(.long (p0 + (-7046029254386353131 : Int64))), (.long v18)])) (fun t k => XS.ladd X17.here hx rfl (hb hby at_70) rfl k) ?_
  refine own_st (S' := T17.setTop (mkF m 72 #[.val (.long p0), .second, .val (.ref b1), .val (.long v7), .second, .val (.long v10), .second, .val (.int (1 : Int32))] [(.int (lcmpW v18 (p0 + (-7046029254386353131 : Int64))))])) (fun t k => XS.lcmp X17.here hx rfl (hb hby at_71) rfl k) ?_
  have hc19 : v18 = (p0 + (-7046029254386353131 : Int64)) := by rw [qv18, qv7]; exact own_undo _
  refine own_st (S' := T17.setTop (mkF m 75 #[.val (.long p0), .second, .val (.ref b1), .val (.long v7), .second, .val (.long v10), .second, .val (.int (1 : Int32))] [])) (fun t k => XS.ifNo X17.here hx rfl (hb hby at_72) rfl ((if0 _ _).trans (teq ((lw_eq _ _).mpr hc19)).2) k) ?_
  show own_Go p.tables e below _ (T17.setTop (mkF m 75 #[.val (.long p0), .second, .val (.ref b1), .val (.long v7), .second, .val (.long v10), .second, .val (.int (1 : Int32))] []))
  refine own_st (S' := T17.setTop (mkF m 77 #[.val (.long p0), .second, .val (.ref b1), .val (.long v7), .second, .val (.long v10), .second, .val (.int (1 : Int32))] [(.long v10)])) (fun t k => XS.lload X17.here hx rfl (hb hby at_75) rfl k) ?_
  obtain ⟨_, _, ⟨T20, L20, k20, n20⟩, -, X20, ⟨Lc20, hQ20, l20, y20, z20⟩, st20⟩ := Jvm.LawKit.callS X17 hx (y := (⟨"com/example/questloom/questloom/game/SeededRandomNextLongPinLaw", "unmix", "(J)J"⟩ : MethodName)) hown (mvT hZ (hw _ (List.mem_of_getElem? (i := 26) rfl))) (mvT hZ (hw _ (List.mem_of_getElem? (i := 27) rfl))) (mvT hZ (hw _ (List.mem_of_getElem? (i := 22) rfl))) (mvT hZ (hw _ (List.mem_of_getElem? (i := 28) rfl))) (by decide) (backOf (W := 0) (rm4 l Z a0 hw [] v10 T8.heap n0 Z8 ) hZ (hw _ (List.mem_of_getElem? (i := 28) rfl)) (hw _ (List.mem_of_getElem? (i := 22) rfl)) (by decide) (by decide)) (g := (mkF m 77 #[.val (.long p0), .second, .val (.ref b1), .val (.long v7), .second, .val (.long v10), .second, .val (.int (1 : Int32))] [(.long v10)])) rfl (by rw [hml]; rfl) (argsL := [(.long v10)]) (rest := []) (lenOf pd0_2 rfl) rfl (by show 2 * 0 + _ ≤ _; exact Nat.le_of_eq rfl) (hb hby at_77) (fun _ _ => ⟨rfl, hh17, (by decide : 1 + 0 ≤ _), (by decide : 1 + 0 ≤ _)⟩)
  dsimp only [Pt.U, Pt.locs, Pt.cells, Pt.slots] at X20 l20 y20 z20 st20 hQ20
  subst l20 y20 z20
  obtain ⟨rfl, N20q, hh20⟩ := hQ20
  have N20 := Fr.app N17 N20q
  refine own_st st20 ?_
  show own_Go p.tables e below _ (T20.setTop (mkF m 80 #[.val (.long p0), .second, .val (.ref b1), .val (.long v7), .second, .val (.long v10), .second, .val (.int (1 : Int32))] [(.long (own_unmix v10))]))
  obtain ⟨v21, qv21⟩ : ∃ z : Int64, z = (own_unmix v10) := ⟨_, rfl⟩
  rw [← qv21]
  refine own_st (S' := T20.setTop (mkF m 81 #[.val (.long p0), .second, .val (.ref b1), .val (.long v7), .second, .val (.long v10), .second, .val (.int (1 : Int32))] [(.long p0), (.long v21)])) (fun t k => XS.lloadN X20.here hx rfl (hb hby at_80) rfl k) ?_
  refine own_st (S' := T20.setTop (mkF m 84 #[.val (.long p0), .second, .val (.ref b1), .val (.long v7), .second, .val (.long v10), .second, .val (.int (1 : Int32))] [(.long (-7046029254386353131 : Int64)), (.long p0), (.long v21)])) (fun t k => X20.ldc2Long hx hown (mvT hZ (hw _ (List.mem_of_getElem? (i := 29) rfl))) (g := (mkF m 81 #[.val (.long p0), .second, .val (.ref b1), .val (.long v7), .second, .val (.long v10), .second, .val (.int (1 : Int32))] [(.long p0), (.long v21)])) rfl (hb hby at_81) _ k) ?_
  refine own_st (S' := T20.setTop (mkF m 85 #[.val (.long p0), .second, .val (.ref b1), .val (.long v7), .second, .val (.long v10), .second, .val (.int (1 : Int32))] [(.long (p0 + (-7046029254386353131 : Int64))), (.long v21)])) (fun t k => XS.ladd X20.here hx rfl (hb hby at_84) rfl k) ?_
  refine own_st (S' := T20.setTop (mkF m 88 #[.val (.long p0), .second, .val (.ref b1), .val (.long v7), .second, .val (.long v10), .second, .val (.int (1 : Int32))] [(.long (-7046029254386353131 : Int64)), (.long (p0 + (-7046029254386353131 : Int64))), (.long v21)])) (fun t k => X20.ldc2Long hx hown (mvT hZ (hw _ (List.mem_of_getElem? (i := 29) rfl))) (g := (mkF m 85 #[.val (.long p0), .second, .val (.ref b1), .val (.long v7), .second, .val (.long v10), .second, .val (.int (1 : Int32))] [(.long (p0 + (-7046029254386353131 : Int64))), (.long v21)])) rfl (hb hby at_85) _ k) ?_
  refine own_st (S' := T20.setTop (mkF m 89 #[.val (.long p0), .second, .val (.ref b1), .val (.long v7), .second, .val (.long v10), .second, .val (.int (1 : Int32))] [(.long ((p0 + (-7046029254386353131 : Int64)) + (-7046029254386353131 : Int64))), (.long v21)])) (fun t k => XS.ladd X20.here hx rfl (hb hby at_88) rfl k) ?_
  refine own_st (S' := T20.setTop (mkF m 90 #[.val (.long p0), .second, .val (.ref b1), .val (.long v7), .second, .val (.long v10), .second, .val (.int (1 : Int32))] [(.int (lcmpW v21 ((p0 + (-7046029254386353131 : Int64)) + (-7046029254386353131 : Int64))))])) (fun t k => XS.lcmp X20.here hx rfl (hb hby at_89) rfl k) ?_
  have hc22 : v21 = ((p0 + (-7046029254386353131 : Int64)) + (-7046029254386353131 : Int64)) := by rw [qv21, qv10]; exact own_undo _
  refine own_st (S' := T20.setTop (mkF m 93 #[.val (.long p0), .second, .val (.ref b1), .val (.long v7), .second, .val (.long v10), .second, .val (.int (1 : Int32))] [])) (fun t k => XS.ifNo X20.here hx rfl (hb hby at_90) rfl ((if0 _ _).trans (teq ((lw_eq _ _).mpr hc22)).2) k) ?_
  show own_Go p.tables e below _ (T20.setTop (mkF m 93 #[.val (.long p0), .second, .val (.ref b1), .val (.long v7), .second, .val (.long v10), .second, .val (.int (1 : Int32))] []))
  refine own_st (S' := T20.setTop (mkF m 94 #[.val (.long p0), .second, .val (.ref b1), .val (.long v7), .second, .val (.long v10), .second, .val (.int (1 : Int32))] [(.int (1 : Int32))])) (fun t k => XS.iconst X20.here hx rfl (hb hby at_93) k) ?_
  refine own_st (S' := T20.setTop (mkF m 98 #[.val (.long p0), .second, .val (.ref b1), .val (.long v7), .second, .val (.long v10), .second, .val (.int (1 : Int32))] [(.int (1 : Int32))])) (fun t k => XS.goto X20.here hx rfl (pc0 := 94) (pc' := 98) rfl (hb hby at_94) (by decide) (by decide) k) ?_
  refine own_retN X20 hx (t := .boolean) hret (by simp) hlk (hb hby at_98) ?_ (by decide) (by decide)
  rw [hh20]
  exact ⟨rfl, N20⟩
set_option maxRecDepth 65536 in
set_option maxHeartbeats 40000000 in
theorem comes_1 {Post : Tables → Env → Array Value → State → Outcome → State → Prop} (hpost : ∀ tb e args s v u, (limb_1_1.after args s (.returned v) u = true ∧ limb_1_2.after args s (.returned v) u = true ∧ True) → FrameEnd s (.returned v) u (Jvm.fieldLocs frame_1_writes args s ++ Jvm.arrayLocs frame_1_arrays args s ++ Jvm.staticLocs frame_1_statics s) 16 128 → Post tb e args s (.returned v) u) :
    ArmFor flags0 classFile x code maxLocals ret World_1 tables_1 room_1 Calls_1 rest_1 Pre_1 Post := by
  intro l hfl _ _ p e ha hc hk s m args below hf hA hF happ hP
  obtain ⟨hcalls, hrest, hpre⟩ := hP
  obtain ⟨-, -, -, hnamed, -, -, -, hat⟩ := (Spec.applies_iff hf).mp happ
  obtain ⟨hg, hn⟩ := and_e (Cond.before_iff.mp (show (Jvm.Cond.and given_1 narrow_1).before args s = true from hpre))
  obtain ⟨c0, d0⟩ := and_e hg
  obtain ⟨w0, rfl⟩ : ∃ w0 : Value, args = #[w0] := by
    have hs : args.size = 1 := by simpa [Cond.value, given_1] using c0
    obtain ⟨L⟩ := args
    match L, hs with
    | [w0], _ => exact ⟨w0, rfl⟩
  have hw := fun d (hd : d ∈ tables_1) => atoms_spec (ws := Jvm.Cond.code x code maxLocals ret :: tables_1) hat d (List.mem_cons_of_mem _ hd)
  have hfit : Fit s := fun {y c} hc i hi => by
    obtain ⟨ha, rfl⟩ := Array.getElem?_eq_some_iff.mp hc
    have q := List.all_eq_true.mp ((Array.all_eq_true_iff_forall_mem.mp hF) _ (Array.getElem_mem ha)) i (List.mem_range.mpr hi)
    simpa [Array.getElem?_eq_getElem hi] using q
  obtain ⟨i0, ei0⟩ := isL_v d0
  obtain rfl : w0 = (.long i0) := Option.some.inj ei0
  obtain ⟨n, o, h1, h2, h3, _, L, rfl, ⟨rfl, N⟩, hq⟩ := rm0 l s _ hw tables_1 i0  s.heap s.heap.size (Nat.le_refl _)  p e ha hc hk s m _ below hf ((Spec.applies_iff_loose hf).mp happ).1 ⟨rfl, State.Warmed39.refl s, rfl⟩ trivial
  refine ⟨n, _, h1, h2, h3, hpost _ _ _ _ _ _ ⟨Cond.after_iff.mpr rfl, Cond.after_iff.mpr (eq_i res_at (Term.int_eval (1)) rfl), trivial⟩ ⟨hq.1, hq.2.1, (hq.2.2.sift fun y hy => Or.inr (N y hy)).mono (by decide) (by decide)⟩⟩
theorem main_1_1 : Claimed_1_1 := comes_1 fun _ _ _ _ _ _ h hF => ⟨h.1, hF⟩
theorem main_1_2 : Claimed_1_2 := comes_1 fun _ _ _ _ _ _ h hF => ⟨h.2.1, hF⟩
end Jvm.Pilot.@@N@@
namespace Jvm.Pilot.@@N@@
open Jvm Jvm.ClassFile Sem Op Lib Jvm.Free Jvm.Stand Jvm.Pilot.@@N@@.Jvm.D
/-! MADE BY PROGRAM (witnessworld.py) out of the Statement's table words and the real class files: 9 classes; the members and pool entries that the words name. The judged class is class 1, her method 3. -/
namespace start1
open Jvm.ClassFile
def u (s : String) : CpInfo := .utf8 (stringToUtf16 s)
/-- a pool by its gaps: so many unusable entries, then the entry; so many at the end -/
def gap : Nat → List CpInfo → List CpInfo
  | 0, r => r
  | n + 1, r => .unusable :: gap n r
def poolList (es : List (Nat × CpInfo)) (last : Nat) : List CpInfo := es.foldr (fun e r => gap e.1 (e.2 :: r)) (gap last [])
def pool (es : List (Nat × CpInfo)) (last : Nat) : Array CpInfo := ⟨poolList es last⟩
def fileOf (pool : Array CpInfo) (this : Nat) (attrs : Array Attribute := #[]) (ms : Array MethodInfo := #[]) (fl : Nat := 33) (sup : Nat := 0) (ifs : Array Nat := #[]) (fds : Array FieldInfo := #[]) : ClassFile where
  minorVersion := 0
  majorVersion := 65
  constantPool := pool
  accessFlags := fl
  thisClass := this
  superClass := sup
  interfaces := ifs
  fields := fds
  methods := ms
  attributes := attrs
def plain (name : String) (sup : Option ClassId) : Class where
  name := name
  kind := .ordinary
  loader := none
  accessFlags := 33
  super := sup
  interfaces := #[]
  cf := none
  fields := #[]
  methods := #[]
  instanceTypes := #[]
  staticTypes := #[]
  resolved := #[]
  callSites := []
  init := .initialized
  statics := none
  mirror := none

def pool0 : Array CpInfo := pool [(5, u "<init>"), (0, u "()V"), (1, .class_ 10), (1, u "java/lang/Object")] 113

def k0c0 : Code := { maxStack := 0, maxLocals := 1, code := object_method_1_code, exceptionTable := #[], attributes := #[] }
def k0m0 : Method := { name := "<init>", desc := "()V", sig := { parameters := [], returnType := none }, accessFlags := 1, code := some k0c0 }
/-- java/lang/Object -/
def k0 : Class := { plain "java/lang/Object" none with
  accessFlags := 33
  interfaces := #[]
  cf := some (fileOf pool0 8 #[] #[{ accessFlags := 1, nameIndex := 5, descriptorIndex := 6, attributes := #[] }] 33 0 #[] #[])
  fields := #[]
  methods := #[k0m0]
  instanceTypes := #[]
  staticTypes := #[]
  resolved := Array.replicate 124 none
  statics := none }

def pool1 : Array CpInfo := pool [(2, .class_ 4), (1, u "java/lang/Object"), (0, u "<init>"), (0, u "()V"), (0, .long 2), (1, .class_ 10), (0, u "com/example/questloom/questloom/game/SeededRandomNextLongPinLaw"), (0, .long 10723151780598845931), (1, .methodref 9 14), (0, .nameAndType 15 16), (0, u "inverse"), (0, u "(J)J"), (0, .long 13787848793156543929), (1, .class_ 20), (0, u "com/example/questloom/questloom/game/SeededRandom"), (0, .methodref 19 22), (0, .nameAndType 5 23), (0, u "(J)V"), (0, .methodref 19 25), (0, .nameAndType 26 27), (0, u "nextLong"), (0, u "()J"), (0, .methodref 9 29), (0, .nameAndType 30 16), (0, u "unmix"), (0, .long 11400714819323198485), (1, u "GAMMA"), (0, u "J"), (1, u "C1"), (0, u "C2"), (2, u "law"), (0, u "(J)Z")] 3

def k1m0 : Method := { name := "<init>", desc := "()V", sig := { parameters := [], returnType := none }, accessFlags := 1, code := none }
def k1c1 : Code := { maxStack := 8, maxLocals := 4, code := method_2_code, exceptionTable := #[], attributes := #[] }
def k1m1 : Method := { name := "inverse", desc := "(J)J", sig := { parameters := [.long], returnType := some .long }, accessFlags := 10, code := some k1c1 }
def k1c2 : Code := { maxStack := 5, maxLocals := 4, code := method_3_code, exceptionTable := #[], attributes := #[] }
def k1m2 : Method := { name := "unmix", desc := "(J)J", sig := { parameters := [.long], returnType := some .long }, accessFlags := 10, code := some k1c2 }
def k1c3 : Code := { maxStack := 6, maxLocals := 8, code := code, exceptionTable := #[], attributes := #[] }
def k1m3 : Method := { name := "law", desc := "(J)Z", sig := { parameters := [.long], returnType := some .boolean }, accessFlags := 9, code := some k1c3 }
/-- com/example/questloom/questloom/game/SeededRandomNextLongPinLaw -/
def k1 : Class := { plain "com/example/questloom/questloom/game/SeededRandomNextLongPinLaw" (some 0) with
  accessFlags := 49
  interfaces := #[]
  cf := some (fileOf pool1 9 #[] #[{ accessFlags := 1, nameIndex := 5, descriptorIndex := 6, attributes := #[] }, { accessFlags := 10, nameIndex := 15, descriptorIndex := 16, attributes := #[] }, { accessFlags := 10, nameIndex := 30, descriptorIndex := 16, attributes := #[] }, { accessFlags := 9, nameIndex := 40, descriptorIndex := 41, attributes := #[] }] 49 2 #[] #[{ accessFlags := 26, nameIndex := 33, descriptorIndex := 34, attributes := #[] }, { accessFlags := 26, nameIndex := 36, descriptorIndex := 34, attributes := #[] }, { accessFlags := 26, nameIndex := 37, descriptorIndex := 34, attributes := #[] }])
  fields := #[{ name := "GAMMA", type := .long, accessFlags := 26, slot := 0, constantValue := 0 }, { name := "C1", type := .long, accessFlags := 26, slot := 1, constantValue := 0 }, { name := "C2", type := .long, accessFlags := 26, slot := 2, constantValue := 0 }]
  methods := #[k1m0, k1m1, k1m2, k1m3]
  instanceTypes := #[]
  staticTypes := #[.long, .long, .long]
  resolved := Array.replicate 45 none
  statics := none }

def pool2 : Array CpInfo := pool [(1, .methodref 2 3), (0, .class_ 4), (0, .nameAndType 5 6), (0, u "java/lang/Object"), (0, u "<init>"), (0, u "()V"), (0, .fieldref 8 9), (0, .class_ 10), (0, .nameAndType 11 12), (0, u "com/example/questloom/questloom/game/SeededRandom"), (0, u "state"), (0, u "J"), (0, .long 11400714819323198485), (1, .long 13787848793156543929), (1, .long 10723151780598845931), (7, u "nextLong"), (0, u "()J"), (50, u "GAMMA"), (1, u "(J)V")] 9

def k2c0 : Code := { maxStack := 3, maxLocals := 3, code := prog_37_method_1_code, exceptionTable := #[], attributes := #[] }
def k2m0 : Method := { name := "<init>", desc := "(J)V", sig := { parameters := [.long], returnType := none }, accessFlags := 0, code := some k2c0 }
def k2c1 : Code := { maxStack := 5, maxLocals := 3, code := prog_37_method_2_code, exceptionTable := #[], attributes := #[] }
def k2m1 : Method := { name := "nextLong", desc := "()J", sig := { parameters := [], returnType := some .long }, accessFlags := 0, code := some k2c1 }
/-- com/example/questloom/questloom/game/SeededRandom -/
def k2 : Class := { plain "com/example/questloom/questloom/game/SeededRandom" (some 0) with
  accessFlags := 48
  interfaces := #[]
  cf := some (fileOf pool2 8 #[] #[{ accessFlags := 0, nameIndex := 5, descriptorIndex := 79, attributes := #[] }, { accessFlags := 0, nameIndex := 25, descriptorIndex := 26, attributes := #[] }] 48 2 #[] #[{ accessFlags := 26, nameIndex := 77, descriptorIndex := 12, attributes := #[] }, { accessFlags := 2, nameIndex := 11, descriptorIndex := 12, attributes := #[] }])
  fields := #[{ name := "GAMMA", type := .long, accessFlags := 26, slot := 0, constantValue := 0 }, { name := "state", type := .long, accessFlags := 2, slot := 0, constantValue := 0 }]
  methods := #[k2m0, k2m1]
  instanceTypes := #[.long]
  staticTypes := #[.long]
  resolved := Array.replicate 89 none
  statics := none }

def pool3 : Array CpInfo := pool [(1, u "java/lang/Cloneable"), (0, .class_ 1), (0, u "java/lang/Object"), (0, .class_ 3)] 3

/-- java/lang/Cloneable -/
def k3 : Class := { plain "java/lang/Cloneable" (some 0) with
  accessFlags := 1537
  interfaces := #[]
  cf := some (fileOf pool3 2 #[] #[] 1537 4 #[] #[])
  fields := #[]
  methods := #[]
  instanceTypes := #[]
  staticTypes := #[]
  resolved := Array.replicate 8 none
  statics := none }

def pool4 : Array CpInfo := pool [(1, u "java/io/Serializable"), (0, .class_ 1), (0, u "java/lang/Object"), (0, .class_ 3)] 3

/-- java/io/Serializable -/
def k4 : Class := { plain "java/io/Serializable" (some 0) with
  accessFlags := 1537
  interfaces := #[]
  cf := some (fileOf pool4 2 #[] #[] 1537 4 #[] #[])
  fields := #[]
  methods := #[]
  instanceTypes := #[]
  staticTypes := #[]
  resolved := Array.replicate 8 none
  statics := none }

/-- the primitive byte -/
def k5 : Class := { plain "byte" none with kind := .primitive 'B', accessFlags := 0x411 }
/-- [B -/
def k6 : Class := { plain "[B" (some 0) with kind := .array 5 .byte, interfaces := #[3, 4], accessFlags := 1041 }

/-- the primitive int -/
def k7 : Class := { plain "int" none with kind := .primitive 'I', accessFlags := 0x411 }
/-- [I -/
def k8 : Class := { plain "[I" (some 0) with kind := .array 7 .int, interfaces := #[3, 4], accessFlags := 1041 }

def heap : Heap := #[]
def classes : Array Class := #[k0, k1, k2, k3, k4, k5, k6, k7, k8]
def interned : List (Array UInt16 × Addr) := []
def slotsUsed : Nat := 0
def theMethod : MethodId := ⟨1, 3⟩
def args0 : Array Value := #[.long 5]
def aboutOver (below : List Frame) : State where
  vm := { classes := classes, interned := interned.toArray }
  heap := heap
  slotsUsed := slotsUsed
  threads := #[{ frames := .invoking theMethod args0 :: below }]
def below0 : List Frame := [.native { method := ⟨0, 0⟩, args := #[] }]
def about1 : State := aboutOver below0
def p0 : Program := .bare "" "" ""
def e0 : Env := launch0.env 0 0 0
theorem w_frames : about1.frames = Frame.invoking theMethod args0 :: below0 := rfl
set_option maxRecDepth 65536 in
theorem w_args : argsFit about1.vm theMethod args0 = true := by decide +kernel
set_option maxRecDepth 65536 in
theorem w_heap : heapFits about1 = true := by decide +kernel
set_option maxRecDepth 65536 in
theorem w_runnable : about1.curStatus? = some .runnable := by decide +kernel
set_option maxRecDepth 65536 in
theorem w_alone : about1.alone = true := by decide +kernel
set_option maxRecDepth 65536 in
theorem w_named : about1.methodNamed? x = some theMethod := by decide +kernel
set_option maxRecDepth 65536 in
theorem w_hears : about1.hears theMethod below0 = true := by decide +kernel
set_option maxRecDepth 65536 in
theorem w_ripe : about1.ripe theMethod args0 below0 = true := by decide +kernel
theorem w_running : about1.status = .running := rfl
set_option maxRecDepth 65536 in
theorem w_room : about1.hasRoom e0.platform room_1 = true :=
  launch0.hasRoom_least _ room_1 (by decide +kernel) (by decide +kernel) (by decide +kernel) (by decide +kernel) (by decide +kernel) (by decide +kernel)
theorem allAtoms_all (ts : List Jvm.Cond) (a : Array Jvm.Value) (st : Jvm.State) : (allAtoms ts).before a st = ts.all (fun c => c.before a st) := by
  induction ts with
  | nil => rfl
  | cons c t ih =>
    show (Jvm.Cond.and c (allAtoms t)).before a st = _
    rw [Jvm.Cond.before_and, ih, List.all_cons]
def words1 : List Jvm.Cond := Jvm.Cond.code x code maxLocals ret :: tables_1
/-- a 'code' word, met by the world's own term for the bytes: nothing is compared byte by byte -/
theorem code_word {y : MethodName} {bytes : ByteArray} {mx : Nat} {rt : Option FieldType} {a : Array Value} {s : State} {m : MethodId} {meth : Method} {c : Code} (h1 : s.methodNamed? y = some m) (h2 : s.vm.method? m = some meth) (h3 : meth.code = some c) (h4 : c.code = bytes)
    (h5 : (c.maxLocals == mx && c.exceptionTable.isEmpty && decide (c.maxStack ≤ mostOperands) && decide (meth.sig.returnType = rt) && !meth.locks && decide (parseMethodDescriptor y.desc = some meth.sig)) = true) : (Jvm.Cond.code y bytes mx rt).before a s = true := by
  simp only [Bool.and_eq_true, beq_iff_eq, Bool.not_eq_true', decide_eq_true_eq] at h5
  obtain ⟨⟨⟨⟨⟨g1, g2⟩, g3⟩, g4⟩, g5⟩, g6⟩ := h5
  simp [Cond.before, Cond.holds, Cond.value, h1, h2, h3, h4, g1, g2, g3, g4, g5, g6]
def isCode : Jvm.Cond → Bool
  | .code _ _ _ _ => true
  | _ => false
theorem all_split {L : List Jvm.Cond} {P : Jvm.Cond → Bool} (h1 : L.all (fun c => isCode c || P c) = true) (h2 : ∀ c ∈ L.filter isCode, P c = true) : L.all P = true := by
  refine List.all_eq_true.mpr fun c hc => ?_
  have h := List.all_eq_true.mp h1 c hc
  rcases Bool.eq_false_or_eq_true (isCode c) with hi | hi
  · exact h2 c (List.mem_filter.mpr ⟨hc, hi⟩)
  · simpa [hi] using h
set_option maxRecDepth 65536 in
theorem w_c0 : (Jvm.Cond.code x code maxLocals ret).before args0 about1 = true := code_word (m := ⟨1, 3⟩) (meth := k1m3) (c := k1c3) (by decide +kernel) rfl rfl rfl (by decide +kernel)
set_option maxRecDepth 65536 in
theorem w_c1 : (Jvm.Cond.code ({ cls := "com/example/questloom/questloom/game/SeededRandom", name := "<init>", desc := "(J)V" } : Jvm.MethodName) prog_37_method_1_code (3 : Nat) (Option.none : Option Jvm.ClassFile.FieldType)).before args0 about1 = true := code_word (m := ⟨2, 0⟩) (meth := k2m0) (c := k2c0) (by decide +kernel) rfl rfl rfl (by decide +kernel)
set_option maxRecDepth 65536 in
theorem w_c2 : (Jvm.Cond.code ({ cls := "java/lang/Object", name := "<init>", desc := "()V" } : Jvm.MethodName) object_method_1_code (1 : Nat) (Option.none : Option Jvm.ClassFile.FieldType)).before args0 about1 = true := code_word (m := ⟨0, 0⟩) (meth := k0m0) (c := k0c0) (by decide +kernel) rfl rfl rfl (by decide +kernel)
set_option maxRecDepth 65536 in
theorem w_c3 : (Jvm.Cond.code ({ cls := "com/example/questloom/questloom/game/SeededRandom", name := "nextLong", desc := "()J" } : Jvm.MethodName) prog_37_method_2_code (3 : Nat) (Option.some Jvm.ClassFile.FieldType.long)).before args0 about1 = true := code_word (m := ⟨2, 1⟩) (meth := k2m1) (c := k2c1) (by decide +kernel) rfl rfl rfl (by decide +kernel)
set_option maxRecDepth 65536 in
theorem w_c4 : (Jvm.Cond.code ({ cls := "com/example/questloom/questloom/game/SeededRandomNextLongPinLaw", name := "inverse", desc := "(J)J" } : Jvm.MethodName) method_2_code (4 : Nat) (Option.some Jvm.ClassFile.FieldType.long)).before args0 about1 = true := code_word (m := ⟨1, 1⟩) (meth := k1m1) (c := k1c1) (by decide +kernel) rfl rfl rfl (by decide +kernel)
set_option maxRecDepth 65536 in
theorem w_c5 : (Jvm.Cond.code ({ cls := "com/example/questloom/questloom/game/SeededRandomNextLongPinLaw", name := "unmix", desc := "(J)J" } : Jvm.MethodName) method_3_code (4 : Nat) (Option.some Jvm.ClassFile.FieldType.long)).before args0 about1 = true := code_word (m := ⟨1, 2⟩) (meth := k1m2) (c := k1c2) (by decide +kernel) rfl rfl rfl (by decide +kernel)
def codes1 : List Jvm.Cond := [Jvm.Cond.code x code maxLocals ret, Jvm.Cond.code ({ cls := "com/example/questloom/questloom/game/SeededRandom", name := "<init>", desc := "(J)V" } : Jvm.MethodName) prog_37_method_1_code (3 : Nat) (Option.none : Option Jvm.ClassFile.FieldType), Jvm.Cond.code ({ cls := "java/lang/Object", name := "<init>", desc := "()V" } : Jvm.MethodName) object_method_1_code (1 : Nat) (Option.none : Option Jvm.ClassFile.FieldType), Jvm.Cond.code ({ cls := "com/example/questloom/questloom/game/SeededRandom", name := "nextLong", desc := "()J" } : Jvm.MethodName) prog_37_method_2_code (3 : Nat) (Option.some Jvm.ClassFile.FieldType.long), Jvm.Cond.code ({ cls := "com/example/questloom/questloom/game/SeededRandomNextLongPinLaw", name := "inverse", desc := "(J)J" } : Jvm.MethodName) method_2_code (4 : Nat) (Option.some Jvm.ClassFile.FieldType.long), Jvm.Cond.code ({ cls := "com/example/questloom/questloom/game/SeededRandomNextLongPinLaw", name := "unmix", desc := "(J)J" } : Jvm.MethodName) method_3_code (4 : Nat) (Option.some Jvm.ClassFile.FieldType.long)]
set_option maxRecDepth 65536 in
theorem codes_eq : words1.filter isCode = codes1 := rfl
theorem w_codes : ∀ c ∈ words1.filter isCode, c.before args0 about1 = true := by
  rw [codes_eq]
  intro c hc
  simp only [codes1, List.mem_cons, List.not_mem_nil, or_false] at hc
  rcases hc with rfl | rfl | rfl | rfl | rfl | rfl
  · exact w_c0
  · exact w_c1
  · exact w_c2
  · exact w_c3
  · exact w_c4
  · exact w_c5
set_option maxRecDepth 65536 in
theorem w_t1 : (words1.take 24).all (fun c => isCode c || c.before args0 about1) = true := by decide +kernel
set_option maxRecDepth 65536 in
theorem w_t2 : (words1.drop 24).all (fun c => isCode c || c.before args0 about1) = true := by decide +kernel
theorem w_tables : (allAtoms (Jvm.Cond.code x code maxLocals ret :: tables_1)).before args0 about1 = true := by
  rw [allAtoms_all]
  show words1.all (fun c => c.before args0 about1) = true
  refine all_split ?_ w_codes
  rw [← List.take_append_drop 24 words1, List.all_append, w_t1, w_t2]
  rfl
set_option maxRecDepth 65536 in
theorem w_case : (Jvm.Cond.and given_1 narrow_1).before args0 about1 = true := by decide +kernel
theorem w_applies : (headSpec (Jvm.Cond.code x code maxLocals ret :: tables_1) room_1).applies x e0.platform about1 = true :=
  (Spec.applies_iff w_frames).mpr ⟨w_running, w_runnable, w_alone, w_named, w_hears, w_ripe, w_room, w_tables⟩
theorem atStart : AtStart classFile x code maxLocals ret World_1 tables_1 room_1 Calls_1 rest_1 Pre_1 launch0 p0 e0 about1 theMethod args0 below0 :=
  ⟨lists_1, trivial, launch0.admits_env _ _ _, launch0.least_env, fairChoices_fair.cas, fairChoices_fair.clock, w_frames, w_args, w_heap, w_applies, trivial, trivial, w_case⟩
end start1
theorem witness_1 : WitnessClaimed_1 := ⟨start1.p0, start1.e0, start1.about1, start1.theMethod, start1.args0, start1.below0, start1.atStart⟩
end Jvm.Pilot.@@N@@
