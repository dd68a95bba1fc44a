import JvmDerived
import JvmDerived.Pilot.@@N@@Statement
import JvmDerived.Pilot.@@N@@Code
set_option linter.unusedVariables false
set_option linter.unusedSimpArgs false
namespace Jvm.Pilot.@@N@@
open Jvm Jvm.ClassFile Sem Op Lib Jvm.Free Jvm.Stand Jvm.LawKit Jvm.RoadKit Bundle Jvm.Pilot.@@N@@.Jvm.D
section Own
variable {p : Program} {l : Launch} {e : Env} {R : Room} {s : State} {m : MethodId} {args : Array Value} {below : List Frame} {meth : Method} {c : Code} {T : State} {locs : List Loc} {cells slots : Nat} {Q : Option Value → Heap → List Loc → Prop} {k n : Nat}
/-- from this state the body comes to an end that meets Φ -/
def own_Go (tb : Tables) (e : Env) (below : List Frame) (Φ : Outcome → State → Prop) (S : State) : Prop :=
  ∃ U o, Steps tb e below S U ∧ U.status = .running ∧ Ended U below o ∧ Φ o U
/-- it returned; what it leaves meets Q; nothing else moved -/
def own_F (s : State) (Q : Option Value → Heap → List Loc → Prop) (k n : Nat) (o : Outcome) (U : State) : Prop := ∃ v L, o = .returned v ∧ Q v U.heap L ∧ FrameEnd s o U L k n
theorem own_st {tb : Tables} {Φ : Outcome → State → Prop} {S S' : State} (h : ∀ t, Steps tb e below S' t → Steps tb e below S t) (g : own_Go tb e below Φ S') : own_Go tb e below Φ S := by
  obtain ⟨U, o, h1, r⟩ := g
  exact ⟨U, o, h _ h1, r⟩
theorem own_tr {tb : Tables} {Φ : Outcome → State → Prop} {S S' : State} (h : Steps tb e below S S') (g : own_Go tb e below Φ S') : own_Go tb e below Φ S := by
  obtain ⟨U, o, h1, r⟩ := g
  exact ⟨U, o, h.trans h1, r⟩
theorem own_end (X : Stand p l e R s m args below meth c T locs cells slots) (v : Option Value) (hv : meth.sig.returnType = none → v = none) (hlk : meth.locks = false) (hq : Q v T.heap locs) (hk : cells ≤ k) (hn : slots ≤ n) {S : State}
    (hs : ∀ fs, (∀ (f : JFrame) (acts : List Action), f.method = m → f.locked = none → f.entered = [] → (doReturn e (T.setTop f) acts v).1 = T.setFrames fs) → Steps p.tables e below S (T.setFrames fs)) : own_Go p.tables e below (own_F s Q k n) S := by
  obtain ⟨fs, hr, hrun, hended, hW, hsame⟩ := X.leave (v := v) hv hlk
  exact ⟨_, _, hs fs hr, hrun, hended, v, locs, rfl, hq, ⟨_, rfl⟩, hW, hsame.mono hk hn⟩
theorem own_retN (X : Stand p l e R s m args below meth c T locs cells slots) (hx : p.tables.exec = Jvm.exec) {pc : Nat} {Ls : Array Slot} {z : Int32} {t : FieldType} {rest : List Value} (hret : meth.sig.returnType = some t) (ht : t = .boolean ∨ t = .byte ∨ t = .char ∨ t = .short) (hlk : meth.locks = false)
    (hd : decode c.code pc = .ok (.ireturn, 1)) (hq : Q (some (.int (nar t z))) T.heap locs) (hk : cells ≤ k) (hn : slots ≤ n) : own_Go p.tables e below (own_F s Q k n) (T.setTop (mkF m pc Ls (.int z :: rest))) :=
  own_end X _ (fun h => by rw [hret] at h; cases h) hlk hq hk hn fun fs hr => retN X hx hret ht hd hr
theorem own_retI (X : Stand p l e R s m args below meth c T locs cells slots) (hx : p.tables.exec = Jvm.exec) {pc : Nat} {Ls : Array Slot} {z : Int32} {rest : List Value} (hret : meth.sig.returnType = some .int) (hlk : meth.locks = false)
    (hd : decode c.code pc = .ok (.ireturn, 1)) (hq : Q (some (.int z)) T.heap locs) (hk : cells ≤ k) (hn : slots ≤ n) : own_Go p.tables e below (own_F s Q k n) (T.setTop (mkF m pc Ls (.int z :: rest))) :=
  own_end X _ (fun h => by rw [hret] at h; cases h) hlk hq hk hn fun fs hr => retOut X hx hret rfl (Or.inl ⟨rfl, Or.inl rfl, z, rfl⟩) hd hr
theorem own_retL (X : Stand p l e R s m args below meth c T locs cells slots) (hx : p.tables.exec = Jvm.exec) {pc : Nat} {Ls : Array Slot} {z : Int64} {rest : List Value} (hret : meth.sig.returnType = some .long) (hlk : meth.locks = false)
    (hd : decode c.code pc = .ok (.lreturn, 1)) (hq : Q (some (.long z)) T.heap locs) (hk : cells ≤ k) (hn : slots ≤ n) : own_Go p.tables e below (own_F s Q k n) (T.setTop (mkF m pc Ls (.long z :: rest))) :=
  own_end X _ (fun h => by rw [hret] at h; cases h) hlk hq hk hn fun fs hr => retOut X hx hret rfl (Or.inr (Or.inl ⟨rfl, rfl, z, rfl⟩)) hd hr
theorem own_retA (X : Stand p l e R s m args below meth c T locs cells slots) (hx : p.tables.exec = Jvm.exec) {pc : Nat} {Ls : Array Slot} {w : Value} {t : FieldType} {rest : List Value} (hret : meth.sig.returnType = some t) (ht : t.isReference = true) (hw : w.isRef = true) (hnw : narrow t w = w) (hlk : meth.locks = false)
    (hd : decode c.code pc = .ok (.areturn, 1)) (hq : Q (some w) T.heap locs) (hk : cells ≤ k) (hn : slots ≤ n) : own_Go p.tables e below (own_F s Q k n) (T.setTop (mkF m pc Ls (w :: rest))) :=
  own_end X _ (fun h => by rw [hret] at h; cases h) hlk hq hk hn fun fs hr => retOut X hx hret hnw (Or.inr (Or.inr (Or.inr (Or.inr ⟨rfl, ht, hw⟩)))) hd hr
theorem own_retV (X : Stand p l e R s m args below meth c T locs cells slots) (hx : p.tables.exec = Jvm.exec) {pc : Nat} {Ls : Array Slot} (hret : meth.sig.returnType = none) (hlk : meth.locks = false)
    (hd : decode c.code pc = .ok (.return_, 1)) (hq : Q none T.heap locs) (hk : cells ≤ k) (hn : slots ≤ n) : own_Go p.tables e below (own_F s Q k n) (T.setTop (mkF m pc Ls [])) :=
  own_end X _ (fun _ => rfl) hlk hq hk hn fun fs hr => X.returnOut hx hret hd hr
theorem own_body {y : MethodName} {cd : ByteArray} {mx : Nat} {rt : Option FieldType} {ws : List Jvm.Cond} {rm : Room} {Z : State} {h0 : Heap} {as : Array Value} (hp : plainFor y = true)
    (go : ∀ (p : Program) (e : Env) (s : State) (m : MethodId) (below : List Frame) (meth : Method) (c : Code) (s₁ : State), p.tables.exec = Jvm.exec → c.code = cd → c.maxLocals = mx → s.vm.findClass y.cls = some m.cls → meth.name = y.name → meth.sig.returnType = rt → meth.locks = false → Z.Warmed39 s.vm →
      Stand p l e rm s m as below meth c s₁ [] 0 0 → s₁.heap = h0 → own_Go p.tables e below (own_F s Q rm.cells rm.slots) (s₁.setTop (entryFrame m as mx))) :
    MetFree l y (head1 (Jvm.Cond.code y cd mx rt :: ws) rm) (fun a U => a = as ∧ Z.Warmed39 U.vm ∧ U.heap = h0) (fun _ _ _ _ _ => True) (fun _ U o U' => ∃ v L, o = .returned v ∧ Q v U'.heap L ∧ FrameEnd U o U' L rm.cells rm.slots) := by
  refine MetFree.of_bodySF hp hisR ?_
  intro p e s m args below meth c s₁ Bd hml0 hP hK
  obtain ⟨rfl, hZ, hh⟩ := hP
  exact go p e s m below meth c s₁ Bd.exec Bd.bytes hml0 (findClass_of_methodNamed Bd.named) (name_of_methodNamed Bd.named Bd.method).1 Bd.returns Bd.notSynchronized hZ (Stand.of_body Bd) (by rw [← hh, Bd.state]; rfl)
end Own
theorem own_narb {P : Prop} [Decidable P] : nar .boolean (if P then (1 : Int32) else (0 : Int32)) = if P then (1 : Int32) else (0 : Int32) := by split <;> rfl
/-- an array by its length and what each place holds -/
def own_A (Z : State) (h : Heap) (a : Addr) (ty : FieldType) (n : Nat) (f : Nat → Value) : Prop := ∃ c : Cell, Arr Z h a c ty ∧ c.slots.size = n ∧ n < 2 ^ 31 ∧ ∀ j, j < n → c.slots[j]? = some (f j)
def own_up (f : Nat → Value) (i : Nat) (v : Value) : Nat → Value := fun j => if j = i then v else f j
def own_Ix (j : Int32) (i n : Nat) : Prop := ¬ j < 0 ∧ j.toNatClampNeg = i ∧ i < n
section Arrs
variable {Z : State} {h h' : Heap} {a b : Addr} {ty : FieldType} {n i : Nat} {f : Nat → Value} {v : Value} {sl : Nat} {ws : List Addr} {c : Cell} {j z : Int32}
theorem own_A.lt (F : own_A Z h a ty n f) : a < h.size := by obtain ⟨c, A, -⟩ := F; exact A.lt
theorem own_A.ext (F : own_A Z h a ty n f) (E : Ext h h') : own_A Z h' a ty n f := by obtain ⟨c, A, r⟩ := F; exact ⟨c, A.ext E, r⟩
theorem own_A.other (F : own_A Z h b ty n f) (W : Wr h h' a sl v) (q : b ≠ a) : own_A Z h' b ty n f := by obtain ⟨c, A, r⟩ := F; exact ⟨c, A.other W q, r⟩
theorem own_A.keep (F : own_A Z h a ty n f) (K : Keep h h' ws) (q : a ∉ ws) : own_A Z h' a ty n f := by obtain ⟨c, A, r⟩ := F; exact ⟨c, ⟨K.2.1 a c A.1 q, A.2⟩, r⟩
theorem own_clamp (z : Int32) : z.toNatClampNeg < 2 ^ 31 := by
  have := Int32.toInt_lt z
  simp only [Int32.toNatClampNeg]; omega
theorem own_A.new {k : ClassId} (A : Arr Z h a (newA k ty z) ty) (hz : z.toNatClampNeg = n) : own_A Z h a ty n (fun _ => defaultValue ty) := by
  refine ⟨_, A, by rw [sz_new, hz], by rw [← hz]; exact own_clamp z, fun j hj => ?_⟩
  simp [newA, hz, hj]
theorem own_ix (h1 : ¬ j < 0) (h2 : j.toNatClampNeg = i) (h3 : i < n) : own_Ix j i n := ⟨h1, h2, h3⟩
theorem own_in (S : c.slots.size = n) (h : own_Ix j i n) : ¬ (j < 0 ∨ c.slots.size ≤ j.toNatClampNeg) := by
  obtain ⟨h1, h2, h3⟩ := h
  rw [S, h2]
  exact fun q => q.elim h1 (fun r => absurd h3 (Nat.not_lt.mpr r))
theorem own_at (S : c.slots.size = n) (V : ∀ j, j < n → c.slots[j]? = some (f j)) (h : own_Ix j i n) (hv : f i = v) : c.slots[j.toNatClampNeg]? = some v := by
  obtain ⟨h1, h2, h3⟩ := h
  rw [h2, V i h3, hv]
theorem own_A.set (F : own_A Z h a ty n f) (hj : own_Ix j i n) (W : Wr h h' a j.toNatClampNeg v) : own_A Z h' a ty n (own_up f i v) := by
  obtain ⟨c, A, S, M, V⟩ := F
  obtain ⟨h1, h2, h3⟩ := hj
  rw [h2] at W
  refine ⟨c.setSlot i v, A.same W, by rw [sz_set]; exact S, M, fun j' hj' => ?_⟩
  show (c.slots.setIfInBounds i v)[j']? = _
  unfold own_up
  by_cases e : j' = i
  · subst e; rw [if_pos rfl]; simp [S, hj']
  · rw [if_neg e, Array.getElem?_setIfInBounds_ne (Ne.symm e)]; exact V j' hj'
theorem own_A.cong {g : Nat → Value} (F : own_A Z h a ty n f) (q : ∀ j, j < n → f j = g j) : own_A Z h a ty n g := by
  obtain ⟨c, A, S, M, V⟩ := F
  exact ⟨c, A, S, M, fun j hj => by rw [V j hj, q j hj]⟩
end Arrs
/-- a short array's values by a list -/
def own_V (vs : List Value) : Nat → Value := fun j => vs.getD j .null
theorem own_selP {Z s : State} {a0 args : Array Value} {y : MethodName} {n : Nat} (hZ : Z.Warmed39 s.vm) (wi : (Jvm.Cond.instantiable y.cls n).before a0 Z = true) (wp : (Jvm.Cond.privateMethod y).before a0 Z = true) (wm : (Jvm.Cond.instanceMethod y).before a0 Z = true)
    (hy : y.cls ≠ "java/lang/invoke/MethodHandle" ∧ y.cls ≠ "java/lang/invoke/VarHandle") : (Jvm.Cond.selects y.cls y y).before args s = true := by
  have w : (Jvm.Cond.instantiable y.cls n).before args s = true := mvT hZ wi
  obtain ⟨c, k, h1, h2, -, h4, -⟩ := Cond.instantiable_spec w
  exact selects_self_of_private h1 h2 (Bool.or_eq_false_iff.mp h4).1 (Cond.privateMethod_at (mvP hZ wp (args := #[]))) (mvT hZ wm) hy
section OwnW
variable {p : Program} {l : Launch} {e : Env} {R : Room} {s : State} {vm0 : Vm} {k0 : Nat} {m : MethodId} {args : Array Value} {below : List Frame} {meth : Method} {c : Code} {T : State} {locs : List Loc} {cells slots : Nat} {Q : Option Value → Heap → List Loc → Prop} {k n : Nat}
/-- as own_F, of a body that may load String constants -/
def own_FW (s : State) (Q : Option Value → Heap → List Loc → Prop) (k n : Nat) (o : Outcome) (U : State) : Prop := ∃ v L, o = .returned v ∧ Q v U.heap L ∧ ReturnedEndW s o U L k n
theorem own_endW (X : Stand p l e R (s.setVm vm0) m args below meth c T locs cells slots) (hS : s.Since vm0 k0) (hk0 : k0 ≤ T.heap.size) (v : Option Value) (hv : meth.sig.returnType = none → v = none) (hlk : meth.locks = false) (hq : Q v T.heap locs) (hk : cells ≤ k) (hn : slots ≤ n) {S : State}
    (hs : ∀ fs, (∀ (f : JFrame) (acts : List Action), f.method = m → f.locked = none → f.entered = [] → (doReturn e (T.setTop f) acts v).1 = T.setFrames fs) → Steps p.tables e below S (T.setFrames fs)) : own_Go p.tables e below (own_FW s Q k n) S := by
  obtain ⟨fs, hr, hrun, hended, hW, hsame⟩ := X.leave (v := v) hv hlk
  obtain ⟨h1, h2, h3⟩ := hS.ended (U := T.setFrames fs) hW hk0 hsame
  exact ⟨_, _, hs fs hr, hrun, hended, v, locs, rfl, hq, ⟨_, rfl⟩, h1, h2, h3.mono hk hn⟩
theorem own_retNW (X : Stand p l e R (s.setVm vm0) m args below meth c T locs cells slots) (hS : s.Since vm0 k0) (hk0 : k0 ≤ T.heap.size) (hx : p.tables.exec = Jvm.exec) {pc : Nat} {Ls : Array Slot} {z : Int32} {t : FieldType} {rest : List Value} (hret : meth.sig.returnType = some t) (ht : t = .boolean ∨ t = .byte ∨ t = .char ∨ t = .short) (hlk : meth.locks = false)
    (hd : decode c.code pc = .ok (.ireturn, 1)) (hq : Q (some (.int (nar t z))) T.heap locs) (hk : cells ≤ k) (hn : slots ≤ n) : own_Go p.tables e below (own_FW s Q k n) (T.setTop (mkF m pc Ls (.int z :: rest))) :=
  own_endW X hS hk0 _ (fun h => by rw [hret] at h; cases h) hlk hq hk hn fun fs hr => retN X hx hret ht hd hr
theorem own_retVW (X : Stand p l e R (s.setVm vm0) m args below meth c T locs cells slots) (hS : s.Since vm0 k0) (hk0 : k0 ≤ T.heap.size) (hx : p.tables.exec = Jvm.exec) {pc : Nat} {Ls : Array Slot} (hret : meth.sig.returnType = none) (hlk : meth.locks = false)
    (hd : decode c.code pc = .ok (.return_, 1)) (hq : Q none T.heap locs) (hk : cells ≤ k) (hn : slots ≤ n) : own_Go p.tables e below (own_FW s Q k n) (T.setTop (mkF m pc Ls [])) :=
  own_endW X hS hk0 _ (fun _ => rfl) hlk hq hk hn fun fs hr => X.returnOut hx hret hd hr
theorem own_bodyW {y : MethodName} {cd : ByteArray} {mx : Nat} {rt : Option FieldType} {ws : List Jvm.Cond} {rm : Room} {Z : State} {h0 : Heap} {as : Array Value} (hp : plainFor y = true)
    (go : ∀ (p : Program) (e : Env) (s : State) (m : MethodId) (below : List Frame) (meth : Method) (c : Code) (s₁ : State), p.tables.exec = Jvm.exec → c.code = cd → c.maxLocals = mx → s.vm.findClass y.cls = some m.cls → meth.name = y.name → meth.sig.returnType = rt → meth.locks = false → Z.Warmed39 s.vm →
      Stand p l e rm s m as below meth c s₁ [] 0 0 → s₁.heap = h0 → own_Go p.tables e below (own_FW s Q rm.cells rm.slots) (s₁.setTop (entryFrame m as mx))) :
    MetFree l y (head1 (Jvm.Cond.code y cd mx rt :: ws) rm) (fun a U => a = as ∧ Z.Warmed39 U.vm ∧ U.heap = h0) (fun _ _ _ _ _ => True) (fun _ U o U' => ∃ v L, o = .returned v ∧ Q v U'.heap L ∧ ReturnedEndW U o U' L rm.cells rm.slots) := by
  refine MetFree.of_bodySF hp hisR ?_
  intro p e s m args below meth c s₁ Bd hml0 hP hK
  obtain ⟨rfl, hZ, hh⟩ := hP
  exact go p e s m below meth c s₁ Bd.exec Bd.bytes hml0 (findClass_of_methodNamed Bd.named) (name_of_methodNamed Bd.named Bd.method).1 Bd.returns Bd.notSynchronized hZ (Stand.of_body Bd) (by rw [← hh, Bd.state]; rfl)
end OwnW

theorem own_sl (n : Int32) (k : Nat) (hk : n.toBitVec.toNat % 64 = k) : ((1 : Int64) <<< (n &&& 0x3f).toInt64).toBitVec = 1#64 <<< k := by
  obtain ⟨h1, h2⟩ := sm64 n k hk
  rw [Int64.toBitVec_shiftLeft, h1, BitVec.shiftLeft_eq', smod64 k h2]
  rfl
theorem own_sr (w : Int64) (n : Int32) (k : Nat) (hk : n.toBitVec.toNat % 64 = k) : ((w.toUInt64 >>> (n &&& 0x3f).toInt64.toUInt64).toInt64).toBitVec = w.toBitVec >>> k := by
  obtain ⟨h1, h2⟩ := sm64 n k hk
  show (w.toUInt64.toBitVec >>> ((n &&& 0x3f).toInt64.toBitVec % 64#64)) = _
  rw [h1, BitVec.ushiftRight_eq', BitVec.toNat_umod, BitVec.toNat_ofNat, BitVec.toNat_ofNat]
  have e : k % 2 ^ 64 % (64 % 2 ^ 64) = k := by
    rw [Nat.mod_eq_of_lt (show k < 2 ^ 64 by omega)]
    exact Nat.mod_eq_of_lt h2
  rw [e]
  rfl
theorem own_bit (w : BitVec 64) (k : Nat) (h : k < 64) : ¬ (w &&& (1#64 <<< k)) = 0#64 ↔ ((w >>> k) &&& 1#64) = 1#64 := by
  have e1 : 1#64 <<< k = BitVec.twoPow 64 k := (BitVec.twoPow_eq 64 k).symm ▸ rfl
  have e2 : (1#64) = BitVec.twoPow 64 0 := rfl
  rw [e1, BitVec.and_twoPow]
  have e3 : ((w >>> k) &&& 1#64) = if w.getLsbD k then 1#64 else 0#64 := by
    rw [e2, BitVec.and_twoPow, BitVec.getLsbD_ushiftRight]; simp
  rw [e3]
  cases w.getLsbD k
  · simp
  · simp
    intro q
    have z := congrArg BitVec.toNat q
    rw [BitVec.toNat_twoPow] at z
    have p : 2 ^ k < 2 ^ 64 := Nat.pow_lt_pow_right (by decide) h
    rw [Nat.mod_eq_of_lt p] at z
    have p1 : 0 < 2 ^ k := Nat.pow_pos (by decide)
    simp at z
theorem own_bits (w : Int64) (n b : Int32) (h : n.toBitVec.toNat % 64 = b.toBitVec.toNat % 64) : ¬ (w &&& ((1 : Int64) <<< (n &&& 0x3f).toInt64)) = (0 : Int64) ↔ (((w.toUInt64 >>> (b &&& 0x3f).toInt64.toUInt64).toInt64) &&& (1 : Int64)) = (1 : Int64) := by
  rw [← Int64.toBitVec_inj, ← Int64.toBitVec_inj, Int64.toBitVec_and, Int64.toBitVec_and, own_sl n _ h, own_sr w b _ rfl]
  exact own_bit w.toBitVec _ (Nat.mod_lt _ (by decide))
theorem own_b2 {P Q : Prop} [Decidable P] [Decidable Q] (h : ¬ P ↔ Q) : (if P then (0 : Int32) else (1 : Int32)) = if Q then (1 : Int32) else (0 : Int32) := by
  by_cases p : P
  · rw [if_pos p, if_neg (fun q => h.mpr q p)]
  · rw [if_neg p, if_pos (h.mp p)]
theorem own_nn (v : Int32) (h : 0 ≤ v.toInt) : (v.toBitVec.toNat : Int) = v.toInt := by
  have := v.toBitVec.isLt
  have e : v.toInt = v.toBitVec.toInt := rfl
  rw [e, BitVec.toInt_eq_toNat_cond] at h ⊢
  split at h <;> split <;> omega
theorem own_v {n v : Int32} (q : v = (n &&& (2147483647 : Int32)) % (192 : Int32)) : 0 ≤ v.toInt ∧ v.toInt < 192 := by
  have a := c_mask n (2147483647 : Int32) 31 (by decide) (by decide)
  have r := (c_irem (n &&& (2147483647 : Int32)) (192 : Int32) 192 rfl).1 (by rw [a]; omega)
  rw [q, r]
  omega
theorem own_ushr (v : Int32) (h : 0 ≤ v.toInt) : (((v.toUInt32 >>> ((6 : Int32) &&& 31).toUInt32).toInt32)).toInt = v.toInt / 64 := by
  rw [c_iushr v 6 6 (by decide) (by decide)]
  have := rng32 v
  omega
theorem own_ixx {v : Int32} (h0 : 0 ≤ v.toInt) (i : Nat) (hi : v.toInt / 64 = i) (h3 : i < 3) : own_Ix ((v.toUInt32 >>> ((6 : Int32) &&& 31).toUInt32).toInt32) i 3 := by
  have e := own_ushr v h0
  refine ⟨?_, ?_, h3⟩
  · rw [Int32.lt_iff_toInt_lt, e, hi]
    show ¬ (i : Int) < 0
    omega
  · show (((v.toUInt32 >>> ((6 : Int32) &&& 31).toUInt32).toInt32)).toInt.toNat = i
    rw [e, hi]; omega
theorem own_pick (v : Int32) (p0 p1 p2 : Int64) (h : 0 ≤ v.toInt ∧ v.toInt < 192) : ∃ (i : Nat) (w : Int64), own_Ix ((v.toUInt32 >>> ((6 : Int32) &&& 31).toUInt32).toInt32) i 3 ∧ own_V [(.long p0), (.long p1), (.long p2)] i = .long w ∧
    w = (if v < (64 : Int32) then p0 else (if v < (128 : Int32) then p1 else p2)) := by
  have l64 : v < (64 : Int32) ↔ v.toInt < 64 := Int32.lt_iff_toInt_lt
  have l128 : v < (128 : Int32) ↔ v.toInt < 128 := Int32.lt_iff_toInt_lt
  by_cases c1 : v.toInt < 64
  · exact ⟨0, p0, own_ixx h.1 0 (by omega) (by decide), rfl, by rw [if_pos (l64.mpr c1)]⟩
  · by_cases c2 : v.toInt < 128
    · exact ⟨1, p1, own_ixx h.1 1 (by omega) (by decide), rfl, by rw [if_neg (mt l64.mp c1), if_pos (l128.mpr c2)]⟩
    · exact ⟨2, p2, own_ixx h.1 2 (by omega) (by decide), rfl, by rw [if_neg (mt l64.mp c1), if_neg (mt l128.mp c2)]⟩
theorem own_same (v b : Int32) (h : 0 ≤ v.toInt ∧ v.toInt < 192) (q : b = (if v < (64 : Int32) then v else (if v < (128 : Int32) then (v - (64 : Int32)) else (v - (128 : Int32))))) : v.toBitVec.toNat % 64 = b.toBitVec.toNat % 64 := by
  have l64 : v < (64 : Int32) ↔ v.toInt < 64 := Int32.lt_iff_toInt_lt
  have l128 : v < (128 : Int32) ↔ v.toInt < 128 := Int32.lt_iff_toInt_lt
  have e := own_nn v h.1
  by_cases c1 : v.toInt < 64
  · rw [if_pos (l64.mpr c1)] at q; rw [q]
  · by_cases c2 : v.toInt < 128
    · rw [if_neg (mt l64.mp c1), if_pos (l128.mpr c2)] at q
      have s := c_isub v (64 : Int32)
      have r := rng32 (v - (64 : Int32))
      have o : (64 : Int32).toInt = 64 := rfl
      rw [o, ← q] at s
      rw [← q] at r
      have e2 := own_nn b (by omega)
      omega
    · rw [if_neg (mt l64.mp c1), if_neg (mt l128.mp c2)] at q
      have s := c_isub v (128 : Int32)
      have r := rng32 (v - (128 : Int32))
      have o : (128 : Int32).toInt = 128 := rfl
      rw [o, ← q] at s
      rw [← q] at r
      have e2 := own_nn b (by omega)
      omega
theorem d1_0 : decode prog_99_method_3_code 0 = .ok (.aload_n 0, 1) := by decide +kernel
theorem d1_1 : decode prog_99_method_3_code 1 = .ok (.iload_n 1, 1) := by decide +kernel
theorem d1_2 : decode prog_99_method_3_code 2 = .ok (.bipush 6, 2) := by decide +kernel
theorem d1_4 : decode prog_99_method_3_code 4 = .ok (.iushr, 1) := by decide +kernel
theorem d1_5 : decode prog_99_method_3_code 5 = .ok (.laload, 1) := by decide +kernel
theorem d1_6 : decode prog_99_method_3_code 6 = .ok (.lconst 1, 1) := by decide +kernel
theorem d1_7 : decode prog_99_method_3_code 7 = .ok (.iload_n 1, 1) := by decide +kernel
theorem d1_8 : decode prog_99_method_3_code 8 = .ok (.lshl, 1) := by decide +kernel
theorem d1_9 : decode prog_99_method_3_code 9 = .ok (.land, 1) := by decide +kernel
theorem d1_10 : decode prog_99_method_3_code 10 = .ok (.lconst 0, 1) := by decide +kernel
theorem d1_11 : decode prog_99_method_3_code 11 = .ok (.lcmp, 1) := by decide +kernel
theorem d1_12 : decode prog_99_method_3_code 12 = .ok (.ifCond .eq 7, 3) := by decide +kernel
theorem d1_15 : decode prog_99_method_3_code 15 = .ok (.iconst 1, 1) := by decide +kernel
theorem d1_16 : decode prog_99_method_3_code 16 = .ok (.goto 4, 3) := by decide +kernel
theorem d1_19 : decode prog_99_method_3_code 19 = .ok (.iconst 0, 1) := by decide +kernel
theorem d1_20 : decode prog_99_method_3_code 20 = .ok (.ireturn, 1) := by decide +kernel
theorem pn1 : plainName "com/example/deliberation/deliberation/planner/Bits" = true := by first | (simp [plainName, overriddenIn]; done) | decide +kernel
theorem ef1 (m : MethodId) (ar : Addr) (p1 : Int32) : entryFrame m #[(.ref ar), (.int p1)] 2 = mkF m 0 #[.val (.ref ar), .val (.int p1)] [] := by first | (simp [entryFrame, mkF, argsToLocals, Value.category]; done) | rfl
def Q1 (Z : State) (ar : Addr) (p1 : Int32) (f : Nat → Value) (i : Nat) (w : Int64) (h0 : Heap) (n0 : Nat) (v : Option Value) (h : Heap) (L : List Loc) : Prop := v = some (.int (if (w &&& ((1 : Int64) <<< (p1 &&& 0x3f).toInt64)) = (0 : Int64) then (0 : Int32) else (1 : Int32))) ∧ Fr n0 L ∧ h = h0
set_option maxRecDepth 65536 in
set_option maxHeartbeats 40000000 in
theorem rm1 (l : Launch) (Z : State) (a0 : Array Value) (hw : ∀ d ∈ tables_1, d.before a0 Z = true) (ws : List Jvm.Cond) (ar : Addr) (p1 : Int32) (f : Nat → Value) (i : Nat) (w : Int64) (h0 : Heap) (n0 : Nat) (Z0 : n0 ≤ h0.size) (A_ar : own_A Z h0 ar .long 3 f) (hj : own_Ix ((p1.toUInt32 >>> ((6 : Int32) &&& 31).toUInt32).toInt32) i 3) (hv : f i = .long w) :
    MetFree l (⟨"com/example/deliberation/deliberation/planner/Bits", "get", "([JI)Z"⟩ : MethodName) (head1 (Jvm.Cond.code (⟨"com/example/deliberation/deliberation/planner/Bits", "get", "([JI)Z"⟩ : MethodName) prog_99_method_3_code 2 (some .boolean) :: ws) ({ frames := 0, cells := 0, slots := 0, locals := 0 } : Room)) (fun as' U => as' = #[(.ref ar), (.int p1)] ∧ Z.Warmed39 U.vm ∧ U.heap = h0) (fun _ _ _ _ _ => True) (fun _ U o U' => ∃ v L, o = .returned v ∧ Q1 Z ar p1 f i w h0 n0 v U'.heap L ∧ FrameEnd U o U' L ({ frames := 0, cells := 0, slots := 0, locals := 0 } : Room).cells ({ frames := 0, cells := 0, slots := 0, locals := 0 } : Room).slots) := by
  refine own_body (plainFor_of_name pn1) ?_
  intro p e s m below meth c s₁ hx hby hml hown0 hnm hret hlk hZ X0 e0
  have hown : s.vm.findClass "com/example/deliberation/deliberation/planner/Bits" = some m.cls := hown0
  have N0 := Fr.nil n0
  rw [ef1]
  show own_Go p.tables e below _ (s₁.setTop (mkF m 0 #[.val (.ref ar), .val (.int p1)] []))
  refine own_st (S' := s₁.setTop (mkF m 1 #[.val (.ref ar), .val (.int p1)] [(.ref ar)])) (fun t k => XS.aloadN X0.here hx rfl (hb hby d1_0) rfl rfl k) ?_
  refine own_st (S' := s₁.setTop (mkF m 2 #[.val (.ref ar), .val (.int p1)] [(.int p1), (.ref ar)])) (fun t k => XS.iloadN X0.here hx rfl (hb hby d1_1) rfl k) ?_
  refine own_st (S' := s₁.setTop (mkF m 4 #[.val (.ref ar), .val (.int p1)] [(.int (6 : Int32)), (.int p1), (.ref ar)])) (fun t k => XS.bipush X0.here hx rfl (hb hby d1_2) k) ?_
  refine own_st (S' := s₁.setTop (mkF m 5 #[.val (.ref ar), .val (.int p1)] [(.int ((p1.toUInt32 >>> ((6 : Int32) &&& 31).toUInt32).toInt32)), (.ref ar)])) (fun t k => XS.iushr X0.here hx rfl (hb hby d1_4) rfl k) ?_
  have O1 := A_ar
  obtain ⟨c1, Ar1, S1, M1, V1⟩ := O1
  have at1 : c1.slots[(((p1.toUInt32 >>> ((6 : Int32) &&& 31).toUInt32).toInt32)).toNatClampNeg]? = some (.long w) := own_at S1 V1 hj hv
  refine own_st (S' := s₁.setTop (mkF m 6 #[.val (.ref ar), .val (.int p1)] [(.long w)])) (fun t k => X0.laload hx (j := ((p1.toUInt32 >>> ((6 : Int32) &&& 31).toUInt32).toInt32)) (v := (.long w)) (by rw [e0]; exact Ar1.1) (State.isArrayOf_alike hZ.alike Ar1.2.1) Ar1.2.2 (own_in S1 hj) at1 (g := (mkF m 5 #[.val (.ref ar), .val (.int p1)] [(.int ((p1.toUInt32 >>> ((6 : Int32) &&& 31).toUInt32).toInt32)), (.ref ar)])) rfl rfl (hb hby d1_5) _ k) ?_
  refine own_st (S' := s₁.setTop (mkF m 7 #[.val (.ref ar), .val (.int p1)] [(.long (1 : Int64)), (.long w)])) (fun t k => XS.lconst X0.here hx rfl (hb hby d1_6) k) ?_
  refine own_st (S' := s₁.setTop (mkF m 8 #[.val (.ref ar), .val (.int p1)] [(.int p1), (.long (1 : Int64)), (.long w)])) (fun t k => XS.iloadN X0.here hx rfl (hb hby d1_7) rfl k) ?_
  refine own_st (S' := s₁.setTop (mkF m 9 #[.val (.ref ar), .val (.int p1)] [(.long ((1 : Int64) <<< (p1 &&& 0x3f).toInt64)), (.long w)])) (fun t k => XS.lshl X0.here hx rfl (hb hby d1_8) rfl k) ?_
  refine own_st (S' := s₁.setTop (mkF m 10 #[.val (.ref ar), .val (.int p1)] [(.long (w &&& ((1 : Int64) <<< (p1 &&& 0x3f).toInt64)))])) (fun t k => XS.land X0.here hx rfl (hb hby d1_9) rfl k) ?_
  refine own_st (S' := s₁.setTop (mkF m 11 #[.val (.ref ar), .val (.int p1)] [(.long (0 : Int64)), (.long (w &&& ((1 : Int64) <<< (p1 &&& 0x3f).toInt64)))])) (fun t k => XS.lconst X0.here hx rfl (hb hby d1_10) k) ?_
  refine own_st (S' := s₁.setTop (mkF m 12 #[.val (.ref ar), .val (.int p1)] [(.int (lcmpW (w &&& ((1 : Int64) <<< (p1 &&& 0x3f).toInt64)) (0 : Int64)))])) (fun t k => XS.lcmp X0.here hx rfl (hb hby d1_11) rfl k) ?_
  obtain ⟨v2, qv2⟩ : ∃ z : Int32, z = (if (w &&& ((1 : Int64) <<< (p1 &&& 0x3f).toInt64)) = (0 : Int64) then (0 : Int32) else (1 : Int32)) := ⟨_, rfl⟩
  refine own_st (S' := s₁.setTop (mkF m 20 #[.val (.ref ar), .val (.int p1)] [(.int v2)])) (fun t k => ?_) ?_
  · show Steps p.tables e below (s₁.setTop (mkF m 12 #[.val (.ref ar), .val (.int p1)] [(.int (lcmpW (w &&& ((1 : Int64) <<< (p1 &&& 0x3f).toInt64)) (0 : Int64)))])) _
    by_cases hc3 : (w &&& ((1 : Int64) <<< (p1 &&& 0x3f).toInt64)) = (0 : Int64)
    · rw [if_pos hc3] at qv2
      replace qv2 := Eq.symm qv2
      subst qv2
      refine XS.ifYes X0.here hx rfl (pc0 := 12) (pc' := 19) rfl (hb hby d1_12) rfl ((if0 _ _).trans (teq ((lw_eq _ _).mpr hc3)).1) (by decide) (by decide) ?_
      show Steps p.tables e below (s₁.setTop (mkF m 19 #[.val (.ref ar), .val (.int p1)] [])) _
      refine XS.iconst X0.here hx rfl (hb hby d1_19) ?_
      show Steps p.tables e below (s₁.setTop (mkF m 20 #[.val (.ref ar), .val (.int p1)] [(.int (0 : Int32))])) _
      exact k
    · rw [if_neg hc3] at qv2
      replace qv2 := Eq.symm qv2
      subst qv2
      refine XS.ifNo X0.here hx rfl (hb hby d1_12) rfl ((if0 _ _).trans (feq (mt (lw_eq _ _).mp hc3)).1) ?_
      show Steps p.tables e below (s₁.setTop (mkF m 15 #[.val (.ref ar), .val (.int p1)] [])) _
      refine XS.iconst X0.here hx rfl (hb hby d1_15) ?_
      show Steps p.tables e below (s₁.setTop (mkF m 16 #[.val (.ref ar), .val (.int p1)] [(.int (1 : Int32))])) _
      refine XS.goto X0.here hx rfl (pc0 := 16) (pc' := 20) rfl (hb hby d1_16) (by decide) (by decide) ?_
      show Steps p.tables e below (s₁.setTop (mkF m 20 #[.val (.ref ar), .val (.int p1)] [(.int (1 : Int32))])) _
      exact k
  show own_Go p.tables e below _ (s₁.setTop (mkF m 20 #[.val (.ref ar), .val (.int p1)] [(.int v2)]))
  refine own_retN X0 hx (t := .boolean) hret (by simp) hlk (hb hby d1_20) ?_ (by decide) (by decide)
  rw [e0]
  exact ⟨by rw [qv2]; split <;> rfl, N0, rfl⟩
theorem pd0_0 : parseMethodDescriptor "([JI)Z" = some ⟨[(.array .long), .int], some .boolean⟩ := by decide +kernel
theorem pn0 : plainName "com/example/deliberation/deliberation/planner/BitsGetPinLaw" = true := by first | (simp [plainName, overriddenIn]; done) | decide +kernel
theorem ef0 (m : MethodId) (p0 : Int64) (p1 : Int64) (p2 : Int64) (p3 : Int32) : entryFrame m #[(.long p0), (.long p1), (.long p2), (.int p3)] maxLocals = mkF m 0 #[.val (.long p0), .second, .val (.long p1), .second, .val (.long p2), .second, .val (.int p3), .unset, .unset, .unset, .unset, .unset, .unset, .unset, .unset] [] := by first | (simp [entryFrame, mkF, argsToLocals, Value.category, maxLocals]; done) | rfl
def Q0 (n0 : Nat) (v : Option Value) (h : Heap) (L : List Loc) : Prop := v = some (.int 1) ∧ Fr n0 L
set_option maxRecDepth 65536 in
set_option maxHeartbeats 40000000 in
theorem rm0 (l : Launch) (Z : State) (a0 : Array Value) (hw : ∀ d ∈ tables_1, d.before a0 Z = true) (ws : List Jvm.Cond) (p0 : Int64) (p1 : Int64) (p2 : Int64) (p3 : Int32) (h0 : Heap) (n0 : Nat) (Z0 : n0 ≤ h0.size)  :
    MetFree l x (head1 (Jvm.Cond.code x code maxLocals ret :: ws) room_1) (fun as' U => as' = #[(.long p0), (.long p1), (.long p2), (.int p3)] ∧ Z.Warmed39 U.vm ∧ U.heap = h0) (fun _ _ _ _ _ => True) (fun _ U o U' => ∃ v L, o = .returned v ∧ Q0 n0 v U'.heap L ∧ FrameEnd U o U' L room_1.cells room_1.slots) := by
  refine own_body (plainFor_of_name pn0) ?_
  intro p e s m below meth c s₁ hx hby hml hown0 hnm hret hlk hZ X0 e0
  have hown : s.vm.findClass "com/example/deliberation/deliberation/planner/BitsGetPinLaw" = some m.cls := hown0
  have N0 := Fr.nil n0
  rw [ef0]
  show own_Go p.tables e below _ (s₁.setTop (mkF m 0 #[.val (.long p0), .second, .val (.long p1), .second, .val (.long p2), .second, .val (.int p3), .unset, .unset, .unset, .unset, .unset, .unset, .unset, .unset] []))
  refine own_st (S' := s₁.setTop (mkF m 2 #[.val (.long p0), .second, .val (.long p1), .second, .val (.long p2), .second, .val (.int p3), .unset, .unset, .unset, .unset, .unset, .unset, .unset, .unset] [(.int p3)])) (fun t k => XS.iload X0.here hx rfl (hb hby at_0) rfl k) ?_
  refine own_st (S' := s₁.setTop (mkF m 4 #[.val (.long p0), .second, .val (.long p1), .second, .val (.long p2), .second, .val (.int p3), .unset, .unset, .unset, .unset, .unset, .unset, .unset, .unset] [(.int (2147483647 : Int32)), (.int p3)])) (fun t k => X0.ldcInt hx hown (mvT hZ (hw _ (List.mem_of_getElem? (i := 0) rfl))) (g := (mkF m 2 #[.val (.long p0), .second, .val (.long p1), .second, .val (.long p2), .second, .val (.int p3), .unset, .unset, .unset, .unset, .unset, .unset, .unset, .unset] [(.int p3)])) rfl (hb hby at_2) _ k) ?_
  refine own_st (S' := s₁.setTop (mkF m 5 #[.val (.long p0), .second, .val (.long p1), .second, .val (.long p2), .second, .val (.int p3), .unset, .unset, .unset, .unset, .unset, .unset, .unset, .unset] [(.int (p3 &&& (2147483647 : Int32)))])) (fun t k => XS.iand X0.here hx rfl (hb hby at_4) rfl k) ?_
  refine own_st (S' := s₁.setTop (mkF m 8 #[.val (.long p0), .second, .val (.long p1), .second, .val (.long p2), .second, .val (.int p3), .unset, .unset, .unset, .unset, .unset, .unset, .unset, .unset] [(.int (192 : Int32)), (.int (p3 &&& (2147483647 : Int32)))])) (fun t k => XS.sipush X0.here hx rfl (hb hby at_5) k) ?_
  refine own_st (S' := s₁.setTop (mkF m 9 #[.val (.long p0), .second, .val (.long p1), .second, .val (.long p2), .second, .val (.int p3), .unset, .unset, .unset, .unset, .unset, .unset, .unset, .unset] [(.int ((p3 &&& (2147483647 : Int32)) % (192 : Int32)))])) (fun t k => Jvm.RoadKit.iremM X0 hx rfl (hb hby at_8) rfl (by decide) k) ?_
  obtain ⟨v1, qv1⟩ : ∃ z : Int32, z = ((p3 &&& (2147483647 : Int32)) % (192 : Int32)) := ⟨_, rfl⟩
  show own_Go p.tables e below _ (s₁.setTop (mkF m 9 #[.val (.long p0), .second, .val (.long p1), .second, .val (.long p2), .second, .val (.int p3), .unset, .unset, .unset, .unset, .unset, .unset, .unset, .unset] [(.int ((p3 &&& (2147483647 : Int32)) % (192 : Int32)))]))
  rw [← qv1]
  refine own_st (S' := s₁.setTop (mkF m 11 #[.val (.long p0), .second, .val (.long p1), .second, .val (.long p2), .second, .val (.int p3), .val (.int v1), .unset, .unset, .unset, .unset, .unset, .unset, .unset] [])) (fun t k => XS.istore X0.here hx rfl (hb hby at_9) rfl (l' := #[.val (.long p0), .second, .val (.long p1), .second, .val (.long p2), .second, .val (.int p3), .val (.int v1), .unset, .unset, .unset, .unset, .unset, .unset, .unset]) rfl k) ?_
  refine own_st (S' := s₁.setTop (mkF m 12 #[.val (.long p0), .second, .val (.long p1), .second, .val (.long p2), .second, .val (.int p3), .val (.int v1), .unset, .unset, .unset, .unset, .unset, .unset, .unset] [(.int (3 : Int32))])) (fun t k => XS.iconst X0.here hx rfl (hb hby at_11) k) ?_
  obtain ⟨T2, h2, k2, X2, e2, E2, A2, st2⟩ := newP X0 hx hZ (hw _ (List.mem_of_getElem? (i := 1) rfl)) e0 (g := (mkF m 12 #[.val (.long p0), .second, .val (.long p1), .second, .val (.long p2), .second, .val (.int p3), .val (.int v1), .unset, .unset, .unset, .unset, .unset, .unset, .unset] [(.int (3 : Int32))])) rfl (hb hby at_12) rfl (by decide) (cap := 3) (by decide) (by decide) (by decide) (by decide)
  obtain ⟨b2, g2⟩ : ∃ z, z = h0.size := ⟨_, rfl⟩
  rw [← g2] at A2 st2
  have G_b2 : n0 ≤ b2 := Nat.le_trans Z0 (Nat.le_of_eq g2.symm)
  have Z2 : n0 ≤ h2.size := Nat.le_trans Z0 E2.1
  have f3 : own_A Z h2 b2 .long 3 (fun _ => (.long (0 : Int64))) := own_A.new A2 (by first | rfl | decide | exact rfl)
  have f4 : own_A Z h2 b2 .long 3 (own_V [(.long (0 : Int64)), (.long (0 : Int64)), (.long (0 : Int64))]) := f3.cong (fun j hj => by match j, hj with | 0, _ => rfl | 1, _ => rfl | 2, _ => rfl | j + 3, h => exact absurd h (by omega))
  refine own_st st2 ?_
  show own_Go p.tables e below _ (T2.setTop (mkF m 14 #[.val (.long p0), .second, .val (.long p1), .second, .val (.long p2), .second, .val (.int p3), .val (.int v1), .unset, .unset, .unset, .unset, .unset, .unset, .unset] [(.ref b2)]))
  refine own_st (S' := T2.setTop (mkF m 15 #[.val (.long p0), .second, .val (.long p1), .second, .val (.long p2), .second, .val (.int p3), .val (.int v1), .unset, .unset, .unset, .unset, .unset, .unset, .unset] [(.ref b2), (.ref b2)])) (fun t k => XS.dup X2.here hx rfl (hb hby at_14) rfl rfl k) ?_
  refine own_st (S' := T2.setTop (mkF m 16 #[.val (.long p0), .second, .val (.long p1), .second, .val (.long p2), .second, .val (.int p3), .val (.int v1), .unset, .unset, .unset, .unset, .unset, .unset, .unset] [(.int (0 : Int32)), (.ref b2), (.ref b2)])) (fun t k => XS.iconst X2.here hx rfl (hb hby at_15) k) ?_
  refine own_st (S' := T2.setTop (mkF m 17 #[.val (.long p0), .second, .val (.long p1), .second, .val (.long p2), .second, .val (.int p3), .val (.int v1), .unset, .unset, .unset, .unset, .unset, .unset, .unset] [(.long p0), (.int (0 : Int32)), (.ref b2), (.ref b2)])) (fun t k => XS.lloadN X2.here hx rfl (hb hby at_16) rfl k) ?_
  have O5 := f4
  obtain ⟨c5, Ar5, S5, M5, V5⟩ := O5
  obtain ⟨T5, h5, X5, e5, W5, st5⟩ := stJ X2 hx hZ e2 Ar5 (j := (0 : Int32)) (own_in S5 (own_ix (j := (0 : Int32)) (i := 0) (n := 3) (by decide) (by decide) (by decide))) (g := (mkF m 17 #[.val (.long p0), .second, .val (.long p1), .second, .val (.long p2), .second, .val (.int p3), .val (.int v1), .unset, .unset, .unset, .unset, .unset, .unset, .unset] [(.long p0), (.int (0 : Int32)), (.ref b2), (.ref b2)])) rfl rfl (hb hby at_17)
  refine own_st st5 ?_
  have Z5 : n0 ≤ h5.size := Nat.le_trans Z2 (Keep.of_wr W5).1
  have N5 := Fr.snoc X5 N0 G_b2
  have f6 : own_A Z h5 b2 .long 3 (own_V [(.long p0), (.long (0 : Int64)), (.long (0 : Int64))]) := (own_A.set ⟨c5, Ar5, S5, M5, V5⟩ (own_ix (j := (0 : Int32)) (i := 0) (n := 3) (by decide) (by decide) (by decide)) W5).cong (fun j hj => by match j, hj with | 0, _ => rfl | 1, _ => rfl | 2, _ => rfl | j + 3, h => exact absurd h (by omega))
  show own_Go p.tables e below _ (T5.setTop (mkF m 18 #[.val (.long p0), .second, .val (.long p1), .second, .val (.long p2), .second, .val (.int p3), .val (.int v1), .unset, .unset, .unset, .unset, .unset, .unset, .unset] [(.ref b2)]))
  refine own_st (S' := T5.setTop (mkF m 19 #[.val (.long p0), .second, .val (.long p1), .second, .val (.long p2), .second, .val (.int p3), .val (.int v1), .unset, .unset, .unset, .unset, .unset, .unset, .unset] [(.ref b2), (.ref b2)])) (fun t k => XS.dup X5.here hx rfl (hb hby at_18) rfl rfl k) ?_
  refine own_st (S' := T5.setTop (mkF m 20 #[.val (.long p0), .second, .val (.long p1), .second, .val (.long p2), .second, .val (.int p3), .val (.int v1), .unset, .unset, .unset, .unset, .unset, .unset, .unset] [(.int (1 : Int32)), (.ref b2), (.ref b2)])) (fun t k => XS.iconst X5.here hx rfl (hb hby at_19) k) ?_
  refine own_st (S' := T5.setTop (mkF m 21 #[.val (.long p0), .second, .val (.long p1), .second, .val (.long p2), .second, .val (.int p3), .val (.int v1), .unset, .unset, .unset, .unset, .unset, .unset, .unset] [(.long p1), (.int (1 : Int32)), (.ref b2), (.ref b2)])) (fun t k => XS.lloadN X5.here hx rfl (hb hby at_20) rfl k) ?_
  have O7 := f6
  obtain ⟨c7, Ar7, S7, M7, V7⟩ := O7
  obtain ⟨T7, h7, X7, e7, W7, st7⟩ := stJ X5 hx hZ e5 Ar7 (j := (1 : Int32)) (own_in S7 (own_ix (j := (1 : Int32)) (i := 1) (n := 3) (by decide) (by decide) (by decide))) (g := (mkF m 21 #[.val (.long p0), .second, .val (.long p1), .second, .val (.long p2), .second, .val (.int p3), .val (.int v1), .unset, .unset, .unset, .unset, .unset, .unset, .unset] [(.long p1), (.int (1 : Int32)), (.ref b2), (.ref b2)])) rfl rfl (hb hby at_21)
  refine own_st st7 ?_
  have Z7 : n0 ≤ h7.size := Nat.le_trans Z5 (Keep.of_wr W7).1
  have N7 := Fr.snoc X7 N5 G_b2
  have f8 : own_A Z h7 b2 .long 3 (own_V [(.long p0), (.long p1), (.long (0 : Int64))]) := (own_A.set ⟨c7, Ar7, S7, M7, V7⟩ (own_ix (j := (1 : Int32)) (i := 1) (n := 3) (by decide) (by decide) (by decide)) W7).cong (fun j hj => by match j, hj with | 0, _ => rfl | 1, _ => rfl | 2, _ => rfl | j + 3, h => exact absurd h (by omega))
  show own_Go p.tables e below _ (T7.setTop (mkF m 22 #[.val (.long p0), .second, .val (.long p1), .second, .val (.long p2), .second, .val (.int p3), .val (.int v1), .unset, .unset, .unset, .unset, .unset, .unset, .unset] [(.ref b2)]))
  refine own_st (S' := T7.setTop (mkF m 23 #[.val (.long p0), .second, .val (.long p1), .second, .val (.long p2), .second, .val (.int p3), .val (.int v1), .unset, .unset, .unset, .unset, .unset, .unset, .unset] [(.ref b2), (.ref b2)])) (fun t k => XS.dup X7.here hx rfl (hb hby at_22) rfl rfl k) ?_
  refine own_st (S' := T7.setTop (mkF m 24 #[.val (.long p0), .second, .val (.long p1), .second, .val (.long p2), .second, .val (.int p3), .val (.int v1), .unset, .unset, .unset, .unset, .unset, .unset, .unset] [(.int (2 : Int32)), (.ref b2), (.ref b2)])) (fun t k => XS.iconst X7.here hx rfl (hb hby at_23) k) ?_
  refine own_st (S' := T7.setTop (mkF m 26 #[.val (.long p0), .second, .val (.long p1), .second, .val (.long p2), .second, .val (.int p3), .val (.int v1), .unset, .unset, .unset, .unset, .unset, .unset, .unset] [(.long p2), (.int (2 : Int32)), (.ref b2), (.ref b2)])) (fun t k => XS.lload X7.here hx rfl (hb hby at_24) rfl k) ?_
  have O9 := f8
  obtain ⟨c9, Ar9, S9, M9, V9⟩ := O9
  obtain ⟨T9, h9, X9, e9, W9, st9⟩ := stJ X7 hx hZ e7 Ar9 (j := (2 : Int32)) (own_in S9 (own_ix (j := (2 : Int32)) (i := 2) (n := 3) (by decide) (by decide) (by decide))) (g := (mkF m 26 #[.val (.long p0), .second, .val (.long p1), .second, .val (.long p2), .second, .val (.int p3), .val (.int v1), .unset, .unset, .unset, .unset, .unset, .unset, .unset] [(.long p2), (.int (2 : Int32)), (.ref b2), (.ref b2)])) rfl rfl (hb hby at_26)
  refine own_st st9 ?_
  have Z9 : n0 ≤ h9.size := Nat.le_trans Z7 (Keep.of_wr W9).1
  have N9 := Fr.snoc X9 N7 G_b2
  have f10 : own_A Z h9 b2 .long 3 (own_V [(.long p0), (.long p1), (.long p2)]) := (own_A.set ⟨c9, Ar9, S9, M9, V9⟩ (own_ix (j := (2 : Int32)) (i := 2) (n := 3) (by decide) (by decide) (by decide)) W9).cong (fun j hj => by match j, hj with | 0, _ => rfl | 1, _ => rfl | 2, _ => rfl | j + 3, h => exact absurd h (by omega))
  show own_Go p.tables e below _ (T9.setTop (mkF m 27 #[.val (.long p0), .second, .val (.long p1), .second, .val (.long p2), .second, .val (.int p3), .val (.int v1), .unset, .unset, .unset, .unset, .unset, .unset, .unset] [(.ref b2)]))
  refine own_st (S' := T9.setTop (mkF m 29 #[.val (.long p0), .second, .val (.long p1), .second, .val (.long p2), .second, .val (.int p3), .val (.int v1), .val (.ref b2), .unset, .unset, .unset, .unset, .unset, .unset] [])) (fun t k => XS.astore X9.here hx rfl (hb hby at_27) rfl rfl (l' := #[.val (.long p0), .second, .val (.long p1), .second, .val (.long p2), .second, .val (.int p3), .val (.int v1), .val (.ref b2), .unset, .unset, .unset, .unset, .unset, .unset]) rfl k) ?_
  refine own_st (S' := T9.setTop (mkF m 31 #[.val (.long p0), .second, .val (.long p1), .second, .val (.long p2), .second, .val (.int p3), .val (.int v1), .val (.ref b2), .unset, .unset, .unset, .unset, .unset, .unset] [(.ref b2)])) (fun t k => XS.aload X9.here hx rfl (hb hby at_29) rfl rfl k) ?_
  refine own_st (S' := T9.setTop (mkF m 33 #[.val (.long p0), .second, .val (.long p1), .second, .val (.long p2), .second, .val (.int p3), .val (.int v1), .val (.ref b2), .unset, .unset, .unset, .unset, .unset, .unset] [(.int v1), (.ref b2)])) (fun t k => XS.iload X9.here hx rfl (hb hby at_31) rfl k) ?_
  obtain ⟨i33, w33, hj33, hv33, hq33⟩ := own_pick v1 p0 p1 p2 (own_v qv1)
  obtain ⟨_, _, ⟨T11, L11, k11, n11⟩, -, X11, ⟨Lc11, hQ11, l11, y11, z11⟩, st11⟩ := Jvm.LawKit.callS X9 hx (y := (⟨"com/example/deliberation/deliberation/planner/Bits", "get", "([JI)Z"⟩ : MethodName)) hown (mvT hZ (hw _ (List.mem_of_getElem? (i := 2) rfl))) (mvT hZ (hw _ (List.mem_of_getElem? (i := 3) rfl))) (mvT hZ (hw _ (List.mem_of_getElem? (i := 4) rfl))) (mvT hZ (hw _ (List.mem_of_getElem? (i := 5) rfl))) (by decide) (backOf (W := 0) (rm1 l Z a0 hw [] b2 v1 (own_V [(.long p0), (.long p1), (.long p2)]) i33 w33 h9 n0 Z9 f10 hj33 hv33) hZ (hw _ (List.mem_of_getElem? (i := 5) rfl)) (hw _ (List.mem_of_getElem? (i := 4) rfl)) (by decide) (by decide)) (g := (mkF m 33 #[.val (.long p0), .second, .val (.long p1), .second, .val (.long p2), .second, .val (.int p3), .val (.int v1), .val (.ref b2), .unset, .unset, .unset, .unset, .unset, .unset] [(.int v1), (.ref b2)])) rfl (by rw [hml]; rfl) (argsL := [(.ref b2), (.int v1)]) (rest := []) (lenOf pd0_0 rfl) rfl (by show 2 * 0 + _ ≤ _; exact Nat.le_of_eq rfl) (hb hby at_33) (fun _ _ => ⟨rfl, e9, (by decide : 1 + 0 ≤ _), (by decide : 3 + 0 ≤ _)⟩)
  dsimp only [Pt.U, Pt.locs, Pt.cells, Pt.slots] at X11 l11 y11 z11 st11 hQ11
  subst l11 y11 z11
  obtain ⟨rfl, N11q, hh11⟩ := hQ11
  have N11 := Fr.app N9 N11q
  refine own_st st11 ?_
  show own_Go p.tables e below _ (T11.setTop (mkF m 36 #[.val (.long p0), .second, .val (.long p1), .second, .val (.long p2), .second, .val (.int p3), .val (.int v1), .val (.ref b2), .unset, .unset, .unset, .unset, .unset, .unset] [(.int (if (w33 &&& ((1 : Int64) <<< (v1 &&& 0x3f).toInt64)) = (0 : Int64) then (0 : Int32) else (1 : Int32)))]))
  obtain ⟨v12, qv12⟩ : ∃ z : Int32, z = (if (w33 &&& ((1 : Int64) <<< (v1 &&& 0x3f).toInt64)) = (0 : Int64) then (0 : Int32) else (1 : Int32)) := ⟨_, rfl⟩
  rw [← qv12]
  refine own_st (S' := T11.setTop (mkF m 38 #[.val (.long p0), .second, .val (.long p1), .second, .val (.long p2), .second, .val (.int p3), .val (.int v1), .val (.ref b2), .val (.int v12), .unset, .unset, .unset, .unset, .unset] [])) (fun t k => XS.istore X11.here hx rfl (hb hby at_36) rfl (l' := #[.val (.long p0), .second, .val (.long p1), .second, .val (.long p2), .second, .val (.int p3), .val (.int v1), .val (.ref b2), .val (.int v12), .unset, .unset, .unset, .unset, .unset]) rfl k) ?_
  refine own_st (S' := T11.setTop (mkF m 40 #[.val (.long p0), .second, .val (.long p1), .second, .val (.long p2), .second, .val (.int p3), .val (.int v1), .val (.ref b2), .val (.int v12), .unset, .unset, .unset, .unset, .unset] [(.int v1)])) (fun t k => XS.iload X11.here hx rfl (hb hby at_38) rfl k) ?_
  refine own_st (S' := T11.setTop (mkF m 42 #[.val (.long p0), .second, .val (.long p1), .second, .val (.long p2), .second, .val (.int p3), .val (.int v1), .val (.ref b2), .val (.int v12), .unset, .unset, .unset, .unset, .unset] [(.int (64 : Int32)), (.int v1)])) (fun t k => XS.bipush X11.here hx rfl (hb hby at_40) k) ?_
  obtain ⟨v13, qv13⟩ : ∃ z : Int64, z = (if v1 < (64 : Int32) then p0 else (if v1 < (128 : Int32) then p1 else p2)) := ⟨_, rfl⟩
  obtain ⟨v14, qv14⟩ : ∃ z : Int32, z = (if v1 < (64 : Int32) then v1 else (if v1 < (128 : Int32) then (v1 - (64 : Int32)) else (v1 - (128 : Int32)))) := ⟨_, rfl⟩
  refine own_st (S' := T11.setTop (mkF m 88 #[.val (.long p0), .second, .val (.long p1), .second, .val (.long p2), .second, .val (.int p3), .val (.int v1), .val (.ref b2), .val (.int v12), .val (.long v13), .second, .val (.int v14), .unset, .unset] [])) (fun t k => ?_) ?_
  · show Steps p.tables e below (T11.setTop (mkF m 42 #[.val (.long p0), .second, .val (.long p1), .second, .val (.long p2), .second, .val (.int p3), .val (.int v1), .val (.ref b2), .val (.int v12), .unset, .unset, .unset, .unset, .unset] [(.int (64 : Int32)), (.int v1)])) _
    by_cases hc15 : v1 < (64 : Int32)
    · rw [if_pos hc15] at qv13
      replace qv13 := Eq.symm qv13
      subst qv13
      rw [if_pos hc15] at qv14
      replace qv14 := Eq.symm qv14
      subst qv14
      refine XS.icmpNo X11.here hx rfl (hb hby at_42) rfl (tlt hc15).2.1 ?_
      show Steps p.tables e below (T11.setTop (mkF m 45 #[.val (.long p0), .second, .val (.long p1), .second, .val (.long p2), .second, .val (.int p3), .val (.int v1), .val (.ref b2), .val (.int v12), .unset, .unset, .unset, .unset, .unset] [])) _
      refine XS.lloadN X11.here hx rfl (hb hby at_45) rfl ?_
      show Steps p.tables e below (T11.setTop (mkF m 46 #[.val (.long p0), .second, .val (.long p1), .second, .val (.long p2), .second, .val (.int p3), .val (.int v1), .val (.ref b2), .val (.int v12), .unset, .unset, .unset, .unset, .unset] [(.long p0)])) _
      refine XS.lstore X11.here hx rfl (hb hby at_46) rfl (l' := #[.val (.long p0), .second, .val (.long p1), .second, .val (.long p2), .second, .val (.int p3), .val (.int v1), .val (.ref b2), .val (.int v12), .val (.long p0), .second, .unset, .unset, .unset]) rfl ?_
      show Steps p.tables e below (T11.setTop (mkF m 48 #[.val (.long p0), .second, .val (.long p1), .second, .val (.long p2), .second, .val (.int p3), .val (.int v1), .val (.ref b2), .val (.int v12), .val (.long p0), .second, .unset, .unset, .unset] [])) _
      refine XS.iload X11.here hx rfl (hb hby at_48) rfl ?_
      show Steps p.tables e below (T11.setTop (mkF m 50 #[.val (.long p0), .second, .val (.long p1), .second, .val (.long p2), .second, .val (.int p3), .val (.int v1), .val (.ref b2), .val (.int v12), .val (.long p0), .second, .unset, .unset, .unset] [(.int v1)])) _
      refine XS.istore X11.here hx rfl (hb hby at_50) rfl (l' := #[.val (.long p0), .second, .val (.long p1), .second, .val (.long p2), .second, .val (.int p3), .val (.int v1), .val (.ref b2), .val (.int v12), .val (.long p0), .second, .val (.int v1), .unset, .unset]) rfl ?_
      show Steps p.tables e below (T11.setTop (mkF m 52 #[.val (.long p0), .second, .val (.long p1), .second, .val (.long p2), .second, .val (.int p3), .val (.int v1), .val (.ref b2), .val (.int v12), .val (.long p0), .second, .val (.int v1), .unset, .unset] [])) _
      refine XS.goto X11.here hx rfl (pc0 := 52) (pc' := 88) rfl (hb hby at_52) (by decide) (by decide) ?_
      show Steps p.tables e below (T11.setTop (mkF m 88 #[.val (.long p0), .second, .val (.long p1), .second, .val (.long p2), .second, .val (.int p3), .val (.int v1), .val (.ref b2), .val (.int v12), .val (.long p0), .second, .val (.int v1), .unset, .unset] [])) _
      exact k
    · rw [if_neg hc15] at qv13
      rw [if_neg hc15] at qv14
      refine XS.icmpYes X11.here hx rfl (pc0 := 42) (pc' := 55) rfl (hb hby at_42) rfl (flt hc15).2.1 (by decide) (by decide) ?_
      show Steps p.tables e below (T11.setTop (mkF m 55 #[.val (.long p0), .second, .val (.long p1), .second, .val (.long p2), .second, .val (.int p3), .val (.int v1), .val (.ref b2), .val (.int v12), .unset, .unset, .unset, .unset, .unset] [])) _
      refine XS.iload X11.here hx rfl (hb hby at_55) rfl ?_
      show Steps p.tables e below (T11.setTop (mkF m 57 #[.val (.long p0), .second, .val (.long p1), .second, .val (.long p2), .second, .val (.int p3), .val (.int v1), .val (.ref b2), .val (.int v12), .unset, .unset, .unset, .unset, .unset] [(.int v1)])) _
      refine XS.sipush X11.here hx rfl (hb hby at_57) ?_
      show Steps p.tables e below (T11.setTop (mkF m 60 #[.val (.long p0), .second, .val (.long p1), .second, .val (.long p2), .second, .val (.int p3), .val (.int v1), .val (.ref b2), .val (.int v12), .unset, .unset, .unset, .unset, .unset] [(.int (128 : Int32)), (.int v1)])) _
      by_cases hc16 : v1 < (128 : Int32)
      · rw [if_pos hc16] at qv13
        replace qv13 := Eq.symm qv13
        subst qv13
        rw [if_pos hc16] at qv14
        replace qv14 := Eq.symm qv14
        subst qv14
        refine XS.icmpNo X11.here hx rfl (hb hby at_60) rfl (tlt hc16).2.1 ?_
        show Steps p.tables e below (T11.setTop (mkF m 63 #[.val (.long p0), .second, .val (.long p1), .second, .val (.long p2), .second, .val (.int p3), .val (.int v1), .val (.ref b2), .val (.int v12), .unset, .unset, .unset, .unset, .unset] [])) _
        refine XS.lloadN X11.here hx rfl (hb hby at_63) rfl ?_
        show Steps p.tables e below (T11.setTop (mkF m 64 #[.val (.long p0), .second, .val (.long p1), .second, .val (.long p2), .second, .val (.int p3), .val (.int v1), .val (.ref b2), .val (.int v12), .unset, .unset, .unset, .unset, .unset] [(.long p1)])) _
        refine XS.lstore X11.here hx rfl (hb hby at_64) rfl (l' := #[.val (.long p0), .second, .val (.long p1), .second, .val (.long p2), .second, .val (.int p3), .val (.int v1), .val (.ref b2), .val (.int v12), .val (.long p1), .second, .unset, .unset, .unset]) rfl ?_
        show Steps p.tables e below (T11.setTop (mkF m 66 #[.val (.long p0), .second, .val (.long p1), .second, .val (.long p2), .second, .val (.int p3), .val (.int v1), .val (.ref b2), .val (.int v12), .val (.long p1), .second, .unset, .unset, .unset] [])) _
        refine XS.iload X11.here hx rfl (hb hby at_66) rfl ?_
        show Steps p.tables e below (T11.setTop (mkF m 68 #[.val (.long p0), .second, .val (.long p1), .second, .val (.long p2), .second, .val (.int p3), .val (.int v1), .val (.ref b2), .val (.int v12), .val (.long p1), .second, .unset, .unset, .unset] [(.int v1)])) _
        refine XS.bipush X11.here hx rfl (hb hby at_68) ?_
        show Steps p.tables e below (T11.setTop (mkF m 70 #[.val (.long p0), .second, .val (.long p1), .second, .val (.long p2), .second, .val (.int p3), .val (.int v1), .val (.ref b2), .val (.int v12), .val (.long p1), .second, .unset, .unset, .unset] [(.int (64 : Int32)), (.int v1)])) _
        refine XS.isub X11.here hx rfl (hb hby at_70) rfl ?_
        show Steps p.tables e below (T11.setTop (mkF m 71 #[.val (.long p0), .second, .val (.long p1), .second, .val (.long p2), .second, .val (.int p3), .val (.int v1), .val (.ref b2), .val (.int v12), .val (.long p1), .second, .unset, .unset, .unset] [(.int (v1 - (64 : Int32)))])) _
        refine XS.istore X11.here hx rfl (hb hby at_71) rfl (l' := #[.val (.long p0), .second, .val (.long p1), .second, .val (.long p2), .second, .val (.int p3), .val (.int v1), .val (.ref b2), .val (.int v12), .val (.long p1), .second, .val (.int (v1 - (64 : Int32))), .unset, .unset]) rfl ?_
        show Steps p.tables e below (T11.setTop (mkF m 73 #[.val (.long p0), .second, .val (.long p1), .second, .val (.long p2), .second, .val (.int p3), .val (.int v1), .val (.ref b2), .val (.int v12), .val (.long p1), .second, .val (.int (v1 - (64 : Int32))), .unset, .unset] [])) _
        refine XS.goto X11.here hx rfl (pc0 := 73) (pc' := 88) rfl (hb hby at_73) (by decide) (by decide) ?_
        show Steps p.tables e below (T11.setTop (mkF m 88 #[.val (.long p0), .second, .val (.long p1), .second, .val (.long p2), .second, .val (.int p3), .val (.int v1), .val (.ref b2), .val (.int v12), .val (.long p1), .second, .val (.int (v1 - (64 : Int32))), .unset, .unset] [])) _
        exact k
      · rw [if_neg hc16] at qv13
        replace qv13 := Eq.symm qv13
        subst qv13
        rw [if_neg hc16] at qv14
        replace qv14 := Eq.symm qv14
        subst qv14
        refine XS.icmpYes X11.here hx rfl (pc0 := 60) (pc' := 76) rfl (hb hby at_60) rfl (flt hc16).2.1 (by decide) (by decide) ?_
        show Steps p.tables e below (T11.setTop (mkF m 76 #[.val (.long p0), .second, .val (.long p1), .second, .val (.long p2), .second, .val (.int p3), .val (.int v1), .val (.ref b2), .val (.int v12), .unset, .unset, .unset, .unset, .unset] [])) _
        refine XS.lload X11.here hx rfl (hb hby at_76) rfl ?_
        show Steps p.tables e below (T11.setTop (mkF m 78 #[.val (.long p0), .second, .val (.long p1), .second, .val (.long p2), .second, .val (.int p3), .val (.int v1), .val (.ref b2), .val (.int v12), .unset, .unset, .unset, .unset, .unset] [(.long p2)])) _
        refine XS.lstore X11.here hx rfl (hb hby at_78) rfl (l' := #[.val (.long p0), .second, .val (.long p1), .second, .val (.long p2), .second, .val (.int p3), .val (.int v1), .val (.ref b2), .val (.int v12), .val (.long p2), .second, .unset, .unset, .unset]) rfl ?_
        show Steps p.tables e below (T11.setTop (mkF m 80 #[.val (.long p0), .second, .val (.long p1), .second, .val (.long p2), .second, .val (.int p3), .val (.int v1), .val (.ref b2), .val (.int v12), .val (.long p2), .second, .unset, .unset, .unset] [])) _
        refine XS.iload X11.here hx rfl (hb hby at_80) rfl ?_
        show Steps p.tables e below (T11.setTop (mkF m 82 #[.val (.long p0), .second, .val (.long p1), .second, .val (.long p2), .second, .val (.int p3), .val (.int v1), .val (.ref b2), .val (.int v12), .val (.long p2), .second, .unset, .unset, .unset] [(.int v1)])) _
        refine XS.sipush X11.here hx rfl (hb hby at_82) ?_
        show Steps p.tables e below (T11.setTop (mkF m 85 #[.val (.long p0), .second, .val (.long p1), .second, .val (.long p2), .second, .val (.int p3), .val (.int v1), .val (.ref b2), .val (.int v12), .val (.long p2), .second, .unset, .unset, .unset] [(.int (128 : Int32)), (.int v1)])) _
        refine XS.isub X11.here hx rfl (hb hby at_85) rfl ?_
        show Steps p.tables e below (T11.setTop (mkF m 86 #[.val (.long p0), .second, .val (.long p1), .second, .val (.long p2), .second, .val (.int p3), .val (.int v1), .val (.ref b2), .val (.int v12), .val (.long p2), .second, .unset, .unset, .unset] [(.int (v1 - (128 : Int32)))])) _
        refine XS.istore X11.here hx rfl (hb hby at_86) rfl (l' := #[.val (.long p0), .second, .val (.long p1), .second, .val (.long p2), .second, .val (.int p3), .val (.int v1), .val (.ref b2), .val (.int v12), .val (.long p2), .second, .val (.int (v1 - (128 : Int32))), .unset, .unset]) rfl ?_
        show Steps p.tables e below (T11.setTop (mkF m 88 #[.val (.long p0), .second, .val (.long p1), .second, .val (.long p2), .second, .val (.int p3), .val (.int v1), .val (.ref b2), .val (.int v12), .val (.long p2), .second, .val (.int (v1 - (128 : Int32))), .unset, .unset] [])) _
        exact k
  show own_Go p.tables e below _ (T11.setTop (mkF m 88 #[.val (.long p0), .second, .val (.long p1), .second, .val (.long p2), .second, .val (.int p3), .val (.int v1), .val (.ref b2), .val (.int v12), .val (.long v13), .second, .val (.int v14), .unset, .unset] []))
  refine own_st (S' := T11.setTop (mkF m 90 #[.val (.long p0), .second, .val (.long p1), .second, .val (.long p2), .second, .val (.int p3), .val (.int v1), .val (.ref b2), .val (.int v12), .val (.long v13), .second, .val (.int v14), .unset, .unset] [(.long v13)])) (fun t k => XS.lload X11.here hx rfl (hb hby at_88) rfl k) ?_
  refine own_st (S' := T11.setTop (mkF m 92 #[.val (.long p0), .second, .val (.long p1), .second, .val (.long p2), .second, .val (.int p3), .val (.int v1), .val (.ref b2), .val (.int v12), .val (.long v13), .second, .val (.int v14), .unset, .unset] [(.int v14), (.long v13)])) (fun t k => XS.iload X11.here hx rfl (hb hby at_90) rfl k) ?_
  refine own_st (S' := T11.setTop (mkF m 93 #[.val (.long p0), .second, .val (.long p1), .second, .val (.long p2), .second, .val (.int p3), .val (.int v1), .val (.ref b2), .val (.int v12), .val (.long v13), .second, .val (.int v14), .unset, .unset] [(.long ((v13.toUInt64 >>> (v14 &&& 0x3f).toInt64.toUInt64).toInt64))])) (fun t k => XS.lushr X11.here hx rfl (hb hby at_92) rfl k) ?_
  refine own_st (S' := T11.setTop (mkF m 94 #[.val (.long p0), .second, .val (.long p1), .second, .val (.long p2), .second, .val (.int p3), .val (.int v1), .val (.ref b2), .val (.int v12), .val (.long v13), .second, .val (.int v14), .unset, .unset] [(.long (1 : Int64)), (.long ((v13.toUInt64 >>> (v14 &&& 0x3f).toInt64.toUInt64).toInt64))])) (fun t k => XS.lconst X11.here hx rfl (hb hby at_93) k) ?_
  refine own_st (S' := T11.setTop (mkF m 95 #[.val (.long p0), .second, .val (.long p1), .second, .val (.long p2), .second, .val (.int p3), .val (.int v1), .val (.ref b2), .val (.int v12), .val (.long v13), .second, .val (.int v14), .unset, .unset] [(.long (((v13.toUInt64 >>> (v14 &&& 0x3f).toInt64.toUInt64).toInt64) &&& (1 : Int64)))])) (fun t k => XS.land X11.here hx rfl (hb hby at_94) rfl k) ?_
  refine own_st (S' := T11.setTop (mkF m 96 #[.val (.long p0), .second, .val (.long p1), .second, .val (.long p2), .second, .val (.int p3), .val (.int v1), .val (.ref b2), .val (.int v12), .val (.long v13), .second, .val (.int v14), .unset, .unset] [(.long (1 : Int64)), (.long (((v13.toUInt64 >>> (v14 &&& 0x3f).toInt64.toUInt64).toInt64) &&& (1 : Int64)))])) (fun t k => XS.lconst X11.here hx rfl (hb hby at_95) k) ?_
  refine own_st (S' := T11.setTop (mkF m 97 #[.val (.long p0), .second, .val (.long p1), .second, .val (.long p2), .second, .val (.int p3), .val (.int v1), .val (.ref b2), .val (.int v12), .val (.long v13), .second, .val (.int v14), .unset, .unset] [(.int (lcmpW (((v13.toUInt64 >>> (v14 &&& 0x3f).toInt64.toUInt64).toInt64) &&& (1 : Int64)) (1 : Int64)))])) (fun t k => XS.lcmp X11.here hx rfl (hb hby at_96) rfl k) ?_
  obtain ⟨v17, qv17⟩ : ∃ z : Int32, z = (if (((v13.toUInt64 >>> (v14 &&& 0x3f).toInt64.toUInt64).toInt64) &&& (1 : Int64)) = (1 : Int64) then (1 : Int32) else (0 : Int32)) := ⟨_, rfl⟩
  refine own_st (S' := T11.setTop (mkF m 105 #[.val (.long p0), .second, .val (.long p1), .second, .val (.long p2), .second, .val (.int p3), .val (.int v1), .val (.ref b2), .val (.int v12), .val (.long v13), .second, .val (.int v14), .unset, .unset] [(.int v17)])) (fun t k => ?_) ?_
  · show Steps p.tables e below (T11.setTop (mkF m 97 #[.val (.long p0), .second, .val (.long p1), .second, .val (.long p2), .second, .val (.int p3), .val (.int v1), .val (.ref b2), .val (.int v12), .val (.long v13), .second, .val (.int v14), .unset, .unset] [(.int (lcmpW (((v13.toUInt64 >>> (v14 &&& 0x3f).toInt64.toUInt64).toInt64) &&& (1 : Int64)) (1 : Int64)))])) _
    by_cases hc18 : (((v13.toUInt64 >>> (v14 &&& 0x3f).toInt64.toUInt64).toInt64) &&& (1 : Int64)) = (1 : Int64)
    · rw [if_pos hc18] at qv17
      replace qv17 := Eq.symm qv17
      subst qv17
      refine XS.ifNo X11.here hx rfl (hb hby at_97) rfl ((if0 _ _).trans (teq ((lw_eq _ _).mpr hc18)).2) ?_
      show Steps p.tables e below (T11.setTop (mkF m 100 #[.val (.long p0), .second, .val (.long p1), .second, .val (.long p2), .second, .val (.int p3), .val (.int v1), .val (.ref b2), .val (.int v12), .val (.long v13), .second, .val (.int v14), .unset, .unset] [])) _
      refine XS.iconst X11.here hx rfl (hb hby at_100) ?_
      show Steps p.tables e below (T11.setTop (mkF m 101 #[.val (.long p0), .second, .val (.long p1), .second, .val (.long p2), .second, .val (.int p3), .val (.int v1), .val (.ref b2), .val (.int v12), .val (.long v13), .second, .val (.int v14), .unset, .unset] [(.int (1 : Int32))])) _
      refine XS.goto X11.here hx rfl (pc0 := 101) (pc' := 105) rfl (hb hby at_101) (by decide) (by decide) ?_
      show Steps p.tables e below (T11.setTop (mkF m 105 #[.val (.long p0), .second, .val (.long p1), .second, .val (.long p2), .second, .val (.int p3), .val (.int v1), .val (.ref b2), .val (.int v12), .val (.long v13), .second, .val (.int v14), .unset, .unset] [(.int (1 : Int32))])) _
      exact k
    · rw [if_neg hc18] at qv17
      replace qv17 := Eq.symm qv17
      subst qv17
      refine XS.ifYes X11.here hx rfl (pc0 := 97) (pc' := 104) rfl (hb hby at_97) rfl ((if0 _ _).trans (feq (mt (lw_eq _ _).mp hc18)).2) (by decide) (by decide) ?_
      show Steps p.tables e below (T11.setTop (mkF m 104 #[.val (.long p0), .second, .val (.long p1), .second, .val (.long p2), .second, .val (.int p3), .val (.int v1), .val (.ref b2), .val (.int v12), .val (.long v13), .second, .val (.int v14), .unset, .unset] [])) _
      refine XS.iconst X11.here hx rfl (hb hby at_104) ?_
      show Steps p.tables e below (T11.setTop (mkF m 105 #[.val (.long p0), .second, .val (.long p1), .second, .val (.long p2), .second, .val (.int p3), .val (.int v1), .val (.ref b2), .val (.int v12), .val (.long v13), .second, .val (.int v14), .unset, .unset] [(.int (0 : Int32))])) _
      exact k
  show own_Go p.tables e below _ (T11.setTop (mkF m 105 #[.val (.long p0), .second, .val (.long p1), .second, .val (.long p2), .second, .val (.int p3), .val (.int v1), .val (.ref b2), .val (.int v12), .val (.long v13), .second, .val (.int v14), .unset, .unset] [(.int v17)]))
  refine own_st (S' := T11.setTop (mkF m 107 #[.val (.long p0), .second, .val (.long p1), .second, .val (.long p2), .second, .val (.int p3), .val (.int v1), .val (.ref b2), .val (.int v12), .val (.long v13), .second, .val (.int v14), .val (.int v17), .unset] [])) (fun t k => XS.istore X11.here hx rfl (hb hby at_105) rfl (l' := #[.val (.long p0), .second, .val (.long p1), .second, .val (.long p2), .second, .val (.int p3), .val (.int v1), .val (.ref b2), .val (.int v12), .val (.long v13), .second, .val (.int v14), .val (.int v17), .unset]) rfl k) ?_
  refine own_st (S' := T11.setTop (mkF m 109 #[.val (.long p0), .second, .val (.long p1), .second, .val (.long p2), .second, .val (.int p3), .val (.int v1), .val (.ref b2), .val (.int v12), .val (.long v13), .second, .val (.int v14), .val (.int v17), .unset] [(.ref b2)])) (fun t k => XS.aload X11.here hx rfl (hb hby at_107) rfl rfl k) ?_
  refine own_st (S' := T11.setTop (mkF m 110 #[.val (.long p0), .second, .val (.long p1), .second, .val (.long p2), .second, .val (.int p3), .val (.int v1), .val (.ref b2), .val (.int v12), .val (.long v13), .second, .val (.int v14), .val (.int v17), .unset] [(.int (0 : Int32)), (.ref b2)])) (fun t k => XS.iconst X11.here hx rfl (hb hby at_109) k) ?_
  have O19 := f10
  obtain ⟨c19, Ar19, S19, M19, V19⟩ := O19
  have at19 : c19.slots[((0 : Int32)).toNatClampNeg]? = some (.long p0) := own_at S19 V19 (own_ix (j := (0 : Int32)) (i := 0) (n := 3) (by decide) (by decide) (by decide)) rfl
  refine own_st (S' := T11.setTop (mkF m 111 #[.val (.long p0), .second, .val (.long p1), .second, .val (.long p2), .second, .val (.int p3), .val (.int v1), .val (.ref b2), .val (.int v12), .val (.long v13), .second, .val (.int v14), .val (.int v17), .unset] [(.long p0)])) (fun t k => X11.laload hx (j := (0 : Int32)) (v := (.long p0)) (by rw [hh11]; exact Ar19.1) (State.isArrayOf_alike hZ.alike Ar19.2.1) Ar19.2.2 (own_in S19 (own_ix (j := (0 : Int32)) (i := 0) (n := 3) (by decide) (by decide) (by decide))) at19 (g := (mkF m 110 #[.val (.long p0), .second, .val (.long p1), .second, .val (.long p2), .second, .val (.int p3), .val (.int v1), .val (.ref b2), .val (.int v12), .val (.long v13), .second, .val (.int v14), .val (.int v17), .unset] [(.int (0 : Int32)), (.ref b2)])) rfl rfl (hb hby at_110) _ k) ?_
  refine own_st (S' := T11.setTop (mkF m 112 #[.val (.long p0), .second, .val (.long p1), .second, .val (.long p2), .second, .val (.int p3), .val (.int v1), .val (.ref b2), .val (.int v12), .val (.long v13), .second, .val (.int v14), .val (.int v17), .unset] [(.long p0), (.long p0)])) (fun t k => XS.lloadN X11.here hx rfl (hb hby at_111) rfl k) ?_
  refine own_st (S' := T11.setTop (mkF m 113 #[.val (.long p0), .second, .val (.long p1), .second, .val (.long p2), .second, .val (.int p3), .val (.int v1), .val (.ref b2), .val (.int v12), .val (.long v13), .second, .val (.int v14), .val (.int v17), .unset] [(.int (lcmpW p0 p0))])) (fun t k => XS.lcmp X11.here hx rfl (hb hby at_112) rfl k) ?_
  have hc20 : p0 = p0 := rfl
  refine own_st (S' := T11.setTop (mkF m 116 #[.val (.long p0), .second, .val (.long p1), .second, .val (.long p2), .second, .val (.int p3), .val (.int v1), .val (.ref b2), .val (.int v12), .val (.long v13), .second, .val (.int v14), .val (.int v17), .unset] [])) (fun t k => XS.ifNo X11.here hx rfl (hb hby at_113) rfl ((if0 _ _).trans (teq ((lw_eq _ _).mpr hc20)).2) k) ?_
  show own_Go p.tables e below _ (T11.setTop (mkF m 116 #[.val (.long p0), .second, .val (.long p1), .second, .val (.long p2), .second, .val (.int p3), .val (.int v1), .val (.ref b2), .val (.int v12), .val (.long v13), .second, .val (.int v14), .val (.int v17), .unset] []))
  refine own_st (S' := T11.setTop (mkF m 118 #[.val (.long p0), .second, .val (.long p1), .second, .val (.long p2), .second, .val (.int p3), .val (.int v1), .val (.ref b2), .val (.int v12), .val (.long v13), .second, .val (.int v14), .val (.int v17), .unset] [(.ref b2)])) (fun t k => XS.aload X11.here hx rfl (hb hby at_116) rfl rfl k) ?_
  refine own_st (S' := T11.setTop (mkF m 119 #[.val (.long p0), .second, .val (.long p1), .second, .val (.long p2), .second, .val (.int p3), .val (.int v1), .val (.ref b2), .val (.int v12), .val (.long v13), .second, .val (.int v14), .val (.int v17), .unset] [(.int (1 : Int32)), (.ref b2)])) (fun t k => XS.iconst X11.here hx rfl (hb hby at_118) k) ?_
  have O21 := f10
  obtain ⟨c21, Ar21, S21, M21, V21⟩ := O21
  have at21 : c21.slots[((1 : Int32)).toNatClampNeg]? = some (.long p1) := own_at S21 V21 (own_ix (j := (1 : Int32)) (i := 1) (n := 3) (by decide) (by decide) (by decide)) rfl
  refine own_st (S' := T11.setTop (mkF m 120 #[.val (.long p0), .second, .val (.long p1), .second, .val (.long p2), .second, .val (.int p3), .val (.int v1), .val (.ref b2), .val (.int v12), .val (.long v13), .second, .val (.int v14), .val (.int v17), .unset] [(.long p1)])) (fun t k => X11.laload hx (j := (1 : Int32)) (v := (.long p1)) (by rw [hh11]; exact Ar21.1) (State.isArrayOf_alike hZ.alike Ar21.2.1) Ar21.2.2 (own_in S21 (own_ix (j := (1 : Int32)) (i := 1) (n := 3) (by decide) (by decide) (by decide))) at21 (g := (mkF m 119 #[.val (.long p0), .second, .val (.long p1), .second, .val (.long p2), .second, .val (.int p3), .val (.int v1), .val (.ref b2), .val (.int v12), .val (.long v13), .second, .val (.int v14), .val (.int v17), .unset] [(.int (1 : Int32)), (.ref b2)])) rfl rfl (hb hby at_119) _ k) ?_
  refine own_st (S' := T11.setTop (mkF m 121 #[.val (.long p0), .second, .val (.long p1), .second, .val (.long p2), .second, .val (.int p3), .val (.int v1), .val (.ref b2), .val (.int v12), .val (.long v13), .second, .val (.int v14), .val (.int v17), .unset] [(.long p1), (.long p1)])) (fun t k => XS.lloadN X11.here hx rfl (hb hby at_120) rfl k) ?_
  refine own_st (S' := T11.setTop (mkF m 122 #[.val (.long p0), .second, .val (.long p1), .second, .val (.long p2), .second, .val (.int p3), .val (.int v1), .val (.ref b2), .val (.int v12), .val (.long v13), .second, .val (.int v14), .val (.int v17), .unset] [(.int (lcmpW p1 p1))])) (fun t k => XS.lcmp X11.here hx rfl (hb hby at_121) rfl k) ?_
  have hc22 : p1 = p1 := rfl
  refine own_st (S' := T11.setTop (mkF m 125 #[.val (.long p0), .second, .val (.long p1), .second, .val (.long p2), .second, .val (.int p3), .val (.int v1), .val (.ref b2), .val (.int v12), .val (.long v13), .second, .val (.int v14), .val (.int v17), .unset] [])) (fun t k => XS.ifNo X11.here hx rfl (hb hby at_122) rfl ((if0 _ _).trans (teq ((lw_eq _ _).mpr hc22)).2) k) ?_
  show own_Go p.tables e below _ (T11.setTop (mkF m 125 #[.val (.long p0), .second, .val (.long p1), .second, .val (.long p2), .second, .val (.int p3), .val (.int v1), .val (.ref b2), .val (.int v12), .val (.long v13), .second, .val (.int v14), .val (.int v17), .unset] []))
  refine own_st (S' := T11.setTop (mkF m 127 #[.val (.long p0), .second, .val (.long p1), .second, .val (.long p2), .second, .val (.int p3), .val (.int v1), .val (.ref b2), .val (.int v12), .val (.long v13), .second, .val (.int v14), .val (.int v17), .unset] [(.ref b2)])) (fun t k => XS.aload X11.here hx rfl (hb hby at_125) rfl rfl k) ?_
  refine own_st (S' := T11.setTop (mkF m 128 #[.val (.long p0), .second, .val (.long p1), .second, .val (.long p2), .second, .val (.int p3), .val (.int v1), .val (.ref b2), .val (.int v12), .val (.long v13), .second, .val (.int v14), .val (.int v17), .unset] [(.int (2 : Int32)), (.ref b2)])) (fun t k => XS.iconst X11.here hx rfl (hb hby at_127) k) ?_
  have O23 := f10
  obtain ⟨c23, Ar23, S23, M23, V23⟩ := O23
  have at23 : c23.slots[((2 : Int32)).toNatClampNeg]? = some (.long p2) := own_at S23 V23 (own_ix (j := (2 : Int32)) (i := 2) (n := 3) (by decide) (by decide) (by decide)) rfl
  refine own_st (S' := T11.setTop (mkF m 129 #[.val (.long p0), .second, .val (.long p1), .second, .val (.long p2), .second, .val (.int p3), .val (.int v1), .val (.ref b2), .val (.int v12), .val (.long v13), .second, .val (.int v14), .val (.int v17), .unset] [(.long p2)])) (fun t k => X11.laload hx (j := (2 : Int32)) (v := (.long p2)) (by rw [hh11]; exact Ar23.1) (State.isArrayOf_alike hZ.alike Ar23.2.1) Ar23.2.2 (own_in S23 (own_ix (j := (2 : Int32)) (i := 2) (n := 3) (by decide) (by decide) (by decide))) at23 (g := (mkF m 128 #[.val (.long p0), .second, .val (.long p1), .second, .val (.long p2), .second, .val (.int p3), .val (.int v1), .val (.ref b2), .val (.int v12), .val (.long v13), .second, .val (.int v14), .val (.int v17), .unset] [(.int (2 : Int32)), (.ref b2)])) rfl rfl (hb hby at_128) _ k) ?_
  refine own_st (S' := T11.setTop (mkF m 131 #[.val (.long p0), .second, .val (.long p1), .second, .val (.long p2), .second, .val (.int p3), .val (.int v1), .val (.ref b2), .val (.int v12), .val (.long v13), .second, .val (.int v14), .val (.int v17), .unset] [(.long p2), (.long p2)])) (fun t k => XS.lload X11.here hx rfl (hb hby at_129) rfl k) ?_
  refine own_st (S' := T11.setTop (mkF m 132 #[.val (.long p0), .second, .val (.long p1), .second, .val (.long p2), .second, .val (.int p3), .val (.int v1), .val (.ref b2), .val (.int v12), .val (.long v13), .second, .val (.int v14), .val (.int v17), .unset] [(.int (lcmpW p2 p2))])) (fun t k => XS.lcmp X11.here hx rfl (hb hby at_131) rfl k) ?_
  have hc24 : p2 = p2 := rfl
  refine own_st (S' := T11.setTop (mkF m 135 #[.val (.long p0), .second, .val (.long p1), .second, .val (.long p2), .second, .val (.int p3), .val (.int v1), .val (.ref b2), .val (.int v12), .val (.long v13), .second, .val (.int v14), .val (.int v17), .unset] [])) (fun t k => XS.ifNo X11.here hx rfl (hb hby at_132) rfl ((if0 _ _).trans (teq ((lw_eq _ _).mpr hc24)).2) k) ?_
  show own_Go p.tables e below _ (T11.setTop (mkF m 135 #[.val (.long p0), .second, .val (.long p1), .second, .val (.long p2), .second, .val (.int p3), .val (.int v1), .val (.ref b2), .val (.int v12), .val (.long v13), .second, .val (.int v14), .val (.int v17), .unset] []))
  refine own_st (S' := T11.setTop (mkF m 136 #[.val (.long p0), .second, .val (.long p1), .second, .val (.long p2), .second, .val (.int p3), .val (.int v1), .val (.ref b2), .val (.int v12), .val (.long v13), .second, .val (.int v14), .val (.int v17), .unset] [(.int (1 : Int32))])) (fun t k => XS.iconst X11.here hx rfl (hb hby at_135) k) ?_
  refine own_st (S' := T11.setTop (mkF m 140 #[.val (.long p0), .second, .val (.long p1), .second, .val (.long p2), .second, .val (.int p3), .val (.int v1), .val (.ref b2), .val (.int v12), .val (.long v13), .second, .val (.int v14), .val (.int v17), .unset] [(.int (1 : Int32))])) (fun t k => XS.goto X11.here hx rfl (pc0 := 136) (pc' := 140) rfl (hb hby at_136) (by decide) (by decide) k) ?_
  refine own_st (S' := T11.setTop (mkF m 142 #[.val (.long p0), .second, .val (.long p1), .second, .val (.long p2), .second, .val (.int p3), .val (.int v1), .val (.ref b2), .val (.int v12), .val (.long v13), .second, .val (.int v14), .val (.int v17), .val (.int (1 : Int32))] [])) (fun t k => XS.istore X11.here hx rfl (hb hby at_140) rfl (l' := #[.val (.long p0), .second, .val (.long p1), .second, .val (.long p2), .second, .val (.int p3), .val (.int v1), .val (.ref b2), .val (.int v12), .val (.long v13), .second, .val (.int v14), .val (.int v17), .val (.int (1 : Int32))]) rfl k) ?_
  refine own_st (S' := T11.setTop (mkF m 144 #[.val (.long p0), .second, .val (.long p1), .second, .val (.long p2), .second, .val (.int p3), .val (.int v1), .val (.ref b2), .val (.int v12), .val (.long v13), .second, .val (.int v14), .val (.int v17), .val (.int (1 : Int32))] [(.int v12)])) (fun t k => XS.iload X11.here hx rfl (hb hby at_142) rfl k) ?_
  refine own_st (S' := T11.setTop (mkF m 146 #[.val (.long p0), .second, .val (.long p1), .second, .val (.long p2), .second, .val (.int p3), .val (.int v1), .val (.ref b2), .val (.int v12), .val (.long v13), .second, .val (.int v14), .val (.int v17), .val (.int (1 : Int32))] [(.int v17), (.int v12)])) (fun t k => XS.iload X11.here hx rfl (hb hby at_144) rfl k) ?_
  have hc25 : v12 = v17 := by rw [qv12, qv17, hq33, qv13]; exact own_b2 (own_bits _ _ _ (own_same _ _ (own_v qv1) qv14))
  refine own_st (S' := T11.setTop (mkF m 149 #[.val (.long p0), .second, .val (.long p1), .second, .val (.long p2), .second, .val (.int p3), .val (.int v1), .val (.ref b2), .val (.int v12), .val (.long v13), .second, .val (.int v14), .val (.int v17), .val (.int (1 : Int32))] [])) (fun t k => XS.icmpNo X11.here hx rfl (hb hby at_146) rfl (teq hc25).2 k) ?_
  show own_Go p.tables e below _ (T11.setTop (mkF m 149 #[.val (.long p0), .second, .val (.long p1), .second, .val (.long p2), .second, .val (.int p3), .val (.int v1), .val (.ref b2), .val (.int v12), .val (.long v13), .second, .val (.int v14), .val (.int v17), .val (.int (1 : Int32))] []))
  refine own_st (S' := T11.setTop (mkF m 151 #[.val (.long p0), .second, .val (.long p1), .second, .val (.long p2), .second, .val (.int p3), .val (.int v1), .val (.ref b2), .val (.int v12), .val (.long v13), .second, .val (.int v14), .val (.int v17), .val (.int (1 : Int32))] [(.int (1 : Int32))])) (fun t k => XS.iload X11.here hx rfl (hb hby at_149) rfl k) ?_
  refine own_st (S' := T11.setTop (mkF m 154 #[.val (.long p0), .second, .val (.long p1), .second, .val (.long p2), .second, .val (.int p3), .val (.int v1), .val (.ref b2), .val (.int v12), .val (.long v13), .second, .val (.int v14), .val (.int v17), .val (.int (1 : Int32))] [])) (fun t k => XS.ifNo X11.here hx rfl (hb hby at_151) rfl ((if0 _ _).trans (feq (by decide)).1) k) ?_
  show own_Go p.tables e below _ (T11.setTop (mkF m 154 #[.val (.long p0), .second, .val (.long p1), .second, .val (.long p2), .second, .val (.int p3), .val (.int v1), .val (.ref b2), .val (.int v12), .val (.long v13), .second, .val (.int v14), .val (.int v17), .val (.int (1 : Int32))] []))
  refine own_st (S' := T11.setTop (mkF m 155 #[.val (.long p0), .second, .val (.long p1), .second, .val (.long p2), .second, .val (.int p3), .val (.int v1), .val (.ref b2), .val (.int v12), .val (.long v13), .second, .val (.int v14), .val (.int v17), .val (.int (1 : Int32))] [(.int (1 : Int32))])) (fun t k => XS.iconst X11.here hx rfl (hb hby at_154) k) ?_
  refine own_st (S' := T11.setTop (mkF m 159 #[.val (.long p0), .second, .val (.long p1), .second, .val (.long p2), .second, .val (.int p3), .val (.int v1), .val (.ref b2), .val (.int v12), .val (.long v13), .second, .val (.int v14), .val (.int v17), .val (.int (1 : Int32))] [(.int (1 : Int32))])) (fun t k => XS.goto X11.here hx rfl (pc0 := 155) (pc' := 159) rfl (hb hby at_155) (by decide) (by decide) k) ?_
  refine own_retN X11 hx (t := .boolean) hret (by simp) hlk (hb hby at_159) ?_ (by decide) (by decide)
  rw [hh11]
  exact ⟨rfl, N11⟩
set_option maxRecDepth 65536 in
set_option maxHeartbeats 40000000 in
theorem comes_1 {Post : Tables → Env → Array Value → State → Outcome → State → Prop} (hpost : ∀ tb e args s v u, (limb_1_1.after args s (.returned v) u = true ∧ limb_1_2.after args s (.returned v) u = true ∧ True) → FrameEnd s (.returned v) u (Jvm.fieldLocs frame_1_writes args s ++ Jvm.arrayLocs frame_1_arrays args s ++ Jvm.staticLocs frame_1_statics s) 16 128 → Post tb e args s (.returned v) u) :
    ArmFor flags0 classFile x code maxLocals ret World_1 tables_1 room_1 Calls_1 rest_1 Pre_1 Post := by
  intro l hfl _ _ p e ha hc hk s m args below hf hA hF happ hP
  obtain ⟨hcalls, hrest, hpre⟩ := hP
  obtain ⟨-, -, -, hnamed, -, -, -, hat⟩ := (Spec.applies_iff hf).mp happ
  obtain ⟨hg, hn⟩ := and_e (Cond.before_iff.mp (show (Jvm.Cond.and given_1 narrow_1).before args s = true from hpre))
  obtain ⟨c0, d0⟩ := and_e hg
  obtain ⟨c1, d1⟩ := and_e d0
  obtain ⟨c2, d2⟩ := and_e d1
  obtain ⟨c3, d3⟩ := and_e d2
  obtain ⟨w0, w1, w2, w3, rfl⟩ : ∃ w0 w1 w2 w3 : Value, args = #[w0, w1, w2, w3] := by
    have hs : args.size = 4 := by simpa [Cond.value, given_1] using c0
    obtain ⟨L⟩ := args
    match L, hs with
    | [w0, w1, w2, w3], _ => exact ⟨w0, w1, w2, w3, rfl⟩
  have hw := fun d (hd : d ∈ tables_1) => atoms_spec (ws := Jvm.Cond.code x code maxLocals ret :: tables_1) hat d (List.mem_cons_of_mem _ hd)
  have hfit : Fit s := fun {y c} hc i hi => by
    obtain ⟨ha, rfl⟩ := Array.getElem?_eq_some_iff.mp hc
    have q := List.all_eq_true.mp ((Array.all_eq_true_iff_forall_mem.mp hF) _ (Array.getElem_mem ha)) i (List.mem_range.mpr hi)
    simpa [Array.getElem?_eq_getElem hi] using q
  obtain ⟨i0, ei0⟩ := isL_v c1
  obtain rfl : w0 = (.long i0) := Option.some.inj ei0
  obtain ⟨i1, ei1⟩ := isL_v c2
  obtain rfl : w1 = (.long i1) := Option.some.inj ei1
  obtain ⟨i2, ei2⟩ := isL_v c3
  obtain rfl : w2 = (.long i2) := Option.some.inj ei2
  obtain ⟨i3, ei3⟩ := is_v d3
  obtain rfl : w3 = (.int i3) := Option.some.inj ei3
  obtain ⟨n, o, h1, h2, h3, _, L, rfl, ⟨rfl, N⟩, hq⟩ := rm0 l s _ hw tables_1 i0 i1 i2 i3  s.heap s.heap.size (Nat.le_refl _)  p e ha hc hk s m _ below hf ((Spec.applies_iff_loose hf).mp happ).1 ⟨rfl, State.Warmed39.refl s, rfl⟩ trivial
  refine ⟨n, _, h1, h2, h3, hpost _ _ _ _ _ _ ⟨Cond.after_iff.mpr rfl, Cond.after_iff.mpr (eq_i res_at (Term.int_eval (1)) rfl), trivial⟩ ⟨hq.1, hq.2.1, (hq.2.2.sift fun y hy => Or.inr (N y hy)).mono (by decide) (by decide)⟩⟩
theorem main_1_1 : Claimed_1_1 := comes_1 fun _ _ _ _ _ _ h hF => ⟨h.1, hF⟩
theorem main_1_2 : Claimed_1_2 := comes_1 fun _ _ _ _ _ _ h hF => ⟨h.2.1, hF⟩
end Jvm.Pilot.@@N@@
namespace Jvm.Pilot.@@N@@
open Jvm Jvm.ClassFile Sem Op Lib Jvm.Free Jvm.Stand Jvm.Pilot.@@N@@.Jvm.D
/-! MADE BY PROGRAM (witnessworld.py) out of the Statement's table words and the real class files: 11 classes; the members and pool entries that the words name. The judged class is class 1, her method 1. -/
namespace start1
open Jvm.ClassFile
def u (s : String) : CpInfo := .utf8 (stringToUtf16 s)
/-- a pool by its gaps: so many unusable entries, then the entry; so many at the end -/
def gap : Nat → List CpInfo → List CpInfo
  | 0, r => r
  | n + 1, r => .unusable :: gap n r
def poolList (es : List (Nat × CpInfo)) (last : Nat) : List CpInfo := es.foldr (fun e r => gap e.1 (e.2 :: r)) (gap last [])
def pool (es : List (Nat × CpInfo)) (last : Nat) : Array CpInfo := ⟨poolList es last⟩
def fileOf (pool : Array CpInfo) (this : Nat) (attrs : Array Attribute := #[]) (ms : Array MethodInfo := #[]) (fl : Nat := 33) (sup : Nat := 0) (ifs : Array Nat := #[]) (fds : Array FieldInfo := #[]) : ClassFile where
  minorVersion := 0
  majorVersion := 65
  constantPool := pool
  accessFlags := fl
  thisClass := this
  superClass := sup
  interfaces := ifs
  fields := fds
  methods := ms
  attributes := attrs
def plain (name : String) (sup : Option ClassId) : Class where
  name := name
  kind := .ordinary
  loader := none
  accessFlags := 33
  super := sup
  interfaces := #[]
  cf := none
  fields := #[]
  methods := #[]
  instanceTypes := #[]
  staticTypes := #[]
  resolved := #[]
  callSites := []
  init := .initialized
  statics := none
  mirror := none

def pool0 : Array CpInfo := pool [(5, u "<init>"), (0, u "()V"), (1, .class_ 10), (1, u "java/lang/Object")] 113

def k0m0 : Method := { name := "<init>", desc := "()V", sig := { parameters := [], returnType := none }, accessFlags := 1, code := none }
/-- java/lang/Object -/
def k0 : Class := { plain "java/lang/Object" none with
  accessFlags := 33
  interfaces := #[]
  cf := some (fileOf pool0 8 #[] #[{ accessFlags := 1, nameIndex := 5, descriptorIndex := 6, attributes := #[] }] 33 0 #[] #[])
  fields := #[]
  methods := #[k0m0]
  instanceTypes := #[]
  staticTypes := #[]
  resolved := Array.replicate 124 none
  statics := none }

def pool1 : Array CpInfo := pool [(2, .class_ 4), (1, u "java/lang/Object"), (0, u "<init>"), (0, u "()V"), (0, .integer 2147483647), (0, .methodref 9 10), (0, .class_ 11), (0, .nameAndType 12 13), (0, u "com/example/deliberation/deliberation/planner/Bits"), (0, u "get"), (0, u "([JI)Z"), (0, .class_ 15), (0, u "com/example/deliberation/deliberation/planner/BitsGetPinLaw"), (2, u "law"), (0, u "(JJJI)Z")] 5

def k1m0 : Method := { name := "<init>", desc := "()V", sig := { parameters := [], returnType := none }, accessFlags := 1, code := none }
def k1c1 : Code := { maxStack := 5, maxLocals := 15, code := code, exceptionTable := #[], attributes := #[] }
def k1m1 : Method := { name := "law", desc := "(JJJI)Z", sig := { parameters := [.long, .long, .long, .int], returnType := some .boolean }, accessFlags := 9, code := some k1c1 }
/-- com/example/deliberation/deliberation/planner/BitsGetPinLaw -/
def k1 : Class := { plain "com/example/deliberation/deliberation/planner/BitsGetPinLaw" (some 0) with
  accessFlags := 49
  interfaces := #[]
  cf := some (fileOf pool1 14 #[] #[{ accessFlags := 1, nameIndex := 5, descriptorIndex := 6, attributes := #[] }, { accessFlags := 9, nameIndex := 18, descriptorIndex := 19, attributes := #[] }] 49 2 #[] #[])
  fields := #[]
  methods := #[k1m0, k1m1]
  instanceTypes := #[]
  staticTypes := #[]
  resolved := Array.replicate 25 none
  statics := none }

def pool2 : Array CpInfo := pool [(2, .class_ 4), (1, u "java/lang/Object"), (0, u "<init>"), (0, u "()V"), (14, .class_ 22), (0, u "com/example/deliberation/deliberation/planner/Bits"), (4, u "get"), (0, u "([JI)Z")] 10

def k2m0 : Method := { name := "<init>", desc := "()V", sig := { parameters := [], returnType := none }, accessFlags := 2, code := none }
def k2c1 : Code := { maxStack := 5, maxLocals := 2, code := prog_99_method_3_code, exceptionTable := #[], attributes := #[] }
def k2m1 : Method := { name := "get", desc := "([JI)Z", sig := { parameters := [(.array .long), .int], returnType := some .boolean }, accessFlags := 8, code := some k2c1 }
/-- com/example/deliberation/deliberation/planner/Bits -/
def k2 : Class := { plain "com/example/deliberation/deliberation/planner/Bits" (some 0) with
  accessFlags := 48
  interfaces := #[]
  cf := some (fileOf pool2 21 #[] #[{ accessFlags := 2, nameIndex := 5, descriptorIndex := 6, attributes := #[] }, { accessFlags := 8, nameIndex := 27, descriptorIndex := 28, attributes := #[] }] 48 2 #[] #[])
  fields := #[]
  methods := #[k2m0, k2m1]
  instanceTypes := #[]
  staticTypes := #[]
  resolved := Array.replicate 39 none
  statics := none }

def pool3 : Array CpInfo := pool [(1, u "java/lang/Cloneable"), (0, .class_ 1), (0, u "java/lang/Object"), (0, .class_ 3)] 3

/-- java/lang/Cloneable -/
def k3 : Class := { plain "java/lang/Cloneable" (some 0) with
  accessFlags := 1537
  interfaces := #[]
  cf := some (fileOf pool3 2 #[] #[] 1537 4 #[] #[])
  fields := #[]
  methods := #[]
  instanceTypes := #[]
  staticTypes := #[]
  resolved := Array.replicate 8 none
  statics := none }

def pool4 : Array CpInfo := pool [(1, u "java/io/Serializable"), (0, .class_ 1), (0, u "java/lang/Object"), (0, .class_ 3)] 3

/-- java/io/Serializable -/
def k4 : Class := { plain "java/io/Serializable" (some 0) with
  accessFlags := 1537
  interfaces := #[]
  cf := some (fileOf pool4 2 #[] #[] 1537 4 #[] #[])
  fields := #[]
  methods := #[]
  instanceTypes := #[]
  staticTypes := #[]
  resolved := Array.replicate 8 none
  statics := none }

/-- the primitive byte -/
def k5 : Class := { plain "byte" none with kind := .primitive 'B', accessFlags := 0x411 }
/-- [B -/
def k6 : Class := { plain "[B" (some 0) with kind := .array 5 .byte, interfaces := #[3, 4], accessFlags := 1041 }

/-- the primitive int -/
def k7 : Class := { plain "int" none with kind := .primitive 'I', accessFlags := 0x411 }
/-- [I -/
def k8 : Class := { plain "[I" (some 0) with kind := .array 7 .int, interfaces := #[3, 4], accessFlags := 1041 }

/-- the primitive long -/
def k9 : Class := { plain "long" none with kind := .primitive 'J', accessFlags := 0x411 }
/-- [J -/
def k10 : Class := { plain "[J" (some 0) with kind := .array 9 .long, interfaces := #[3, 4], accessFlags := 1041 }

def heap : Heap := #[]
def classes : Array Class := #[k0, k1, k2, k3, k4, k5, k6, k7, k8, k9, k10]
def interned : List (Array UInt16 × Addr) := []
def slotsUsed : Nat := 0
def theMethod : MethodId := ⟨1, 1⟩
def args0 : Array Value := #[.long 5, .long 6, .long 7, .int 3]
def aboutOver (below : List Frame) : State where
  vm := { classes := classes, interned := interned.toArray }
  heap := heap
  slotsUsed := slotsUsed
  threads := #[{ frames := .invoking theMethod args0 :: below }]
def below0 : List Frame := [.native { method := ⟨0, 0⟩, args := #[] }]
def about1 : State := aboutOver below0
def p0 : Program := .bare "" "" ""
def e0 : Env := launch0.env 0 0 0
theorem w_frames : about1.frames = Frame.invoking theMethod args0 :: below0 := rfl
set_option maxRecDepth 65536 in
theorem w_args : argsFit about1.vm theMethod args0 = true := by decide +kernel
set_option maxRecDepth 65536 in
theorem w_heap : heapFits about1 = true := by decide +kernel
set_option maxRecDepth 65536 in
theorem w_runnable : about1.curStatus? = some .runnable := by decide +kernel
set_option maxRecDepth 65536 in
theorem w_alone : about1.alone = true := by decide +kernel
set_option maxRecDepth 65536 in
theorem w_named : about1.methodNamed? x = some theMethod := by decide +kernel
set_option maxRecDepth 65536 in
theorem w_hears : about1.hears theMethod below0 = true := by decide +kernel
set_option maxRecDepth 65536 in
theorem w_ripe : about1.ripe theMethod args0 below0 = true := by decide +kernel
theorem w_running : about1.status = .running := rfl
set_option maxRecDepth 65536 in
theorem w_room : about1.hasRoom e0.platform room_1 = true :=
  launch0.hasRoom_least _ room_1 (by decide +kernel) (by decide +kernel) (by decide +kernel) (by decide +kernel) (by decide +kernel) (by decide +kernel)
theorem allAtoms_all (ts : List Jvm.Cond) (a : Array Jvm.Value) (st : Jvm.State) : (allAtoms ts).before a st = ts.all (fun c => c.before a st) := by
  induction ts with
  | nil => rfl
  | cons c t ih =>
    show (Jvm.Cond.and c (allAtoms t)).before a st = _
    rw [Jvm.Cond.before_and, ih, List.all_cons]
def words1 : List Jvm.Cond := Jvm.Cond.code x code maxLocals ret :: tables_1
/-- a 'code' word, met by the world's own term for the bytes: nothing is compared byte by byte -/
theorem code_word {y : MethodName} {bytes : ByteArray} {mx : Nat} {rt : Option FieldType} {a : Array Value} {s : State} {m : MethodId} {meth : Method} {c : Code} (h1 : s.methodNamed? y = some m) (h2 : s.vm.method? m = some meth) (h3 : meth.code = some c) (h4 : c.code = bytes)
    (h5 : (c.maxLocals == mx && c.exceptionTable.isEmpty && decide (c.maxStack ≤ mostOperands) && decide (meth.sig.returnType = rt) && !meth.locks && decide (parseMethodDescriptor y.desc = some meth.sig)) = true) : (Jvm.Cond.code y bytes mx rt).before a s = true := by
  simp only [Bool.and_eq_true, beq_iff_eq, Bool.not_eq_true', decide_eq_true_eq] at h5
  obtain ⟨⟨⟨⟨⟨g1, g2⟩, g3⟩, g4⟩, g5⟩, g6⟩ := h5
  simp [Cond.before, Cond.holds, Cond.value, h1, h2, h3, h4, g1, g2, g3, g4, g5, g6]
def isCode : Jvm.Cond → Bool
  | .code _ _ _ _ => true
  | _ => false
theorem all_split {L : List Jvm.Cond} {P : Jvm.Cond → Bool} (h1 : L.all (fun c => isCode c || P c) = true) (h2 : ∀ c ∈ L.filter isCode, P c = true) : L.all P = true := by
  refine List.all_eq_true.mpr fun c hc => ?_
  have h := List.all_eq_true.mp h1 c hc
  rcases Bool.eq_false_or_eq_true (isCode c) with hi | hi
  · exact h2 c (List.mem_filter.mpr ⟨hc, hi⟩)
  · simpa [hi] using h
set_option maxRecDepth 65536 in
theorem w_c0 : (Jvm.Cond.code x code maxLocals ret).before args0 about1 = true := code_word (m := ⟨1, 1⟩) (meth := k1m1) (c := k1c1) (by decide +kernel) rfl rfl rfl (by decide +kernel)
set_option maxRecDepth 65536 in
theorem w_c1 : (Jvm.Cond.code ({ cls := "com/example/deliberation/deliberation/planner/Bits", name := "get", desc := "([JI)Z" } : Jvm.MethodName) prog_99_method_3_code (2 : Nat) (Option.some Jvm.ClassFile.FieldType.boolean)).before args0 about1 = true := code_word (m := ⟨2, 1⟩) (meth := k2m1) (c := k2c1) (by decide +kernel) rfl rfl rfl (by decide +kernel)
def codes1 : List Jvm.Cond := [Jvm.Cond.code x code maxLocals ret, Jvm.Cond.code ({ cls := "com/example/deliberation/deliberation/planner/Bits", name := "get", desc := "([JI)Z" } : Jvm.MethodName) prog_99_method_3_code (2 : Nat) (Option.some Jvm.ClassFile.FieldType.boolean)]
set_option maxRecDepth 65536 in
theorem codes_eq : words1.filter isCode = codes1 := rfl
theorem w_codes : ∀ c ∈ words1.filter isCode, c.before args0 about1 = true := by
  rw [codes_eq]
  intro c hc
  simp only [codes1, List.mem_cons, List.not_mem_nil, or_false] at hc
  rcases hc with rfl | rfl
  · exact w_c0
  · exact w_c1
set_option maxRecDepth 65536 in
theorem w_t1 : words1.all (fun c => isCode c || c.before args0 about1) = true := by decide +kernel
theorem w_tables : (allAtoms (Jvm.Cond.code x code maxLocals ret :: tables_1)).before args0 about1 = true := by
  rw [allAtoms_all]
  show words1.all (fun c => c.before args0 about1) = true
  refine all_split ?_ w_codes
  rw [w_t1]
set_option maxRecDepth 65536 in
theorem w_case : (Jvm.Cond.and given_1 narrow_1).before args0 about1 = true := by decide +kernel
theorem w_applies : (headSpec (Jvm.Cond.code x code maxLocals ret :: tables_1) room_1).applies x e0.platform about1 = true :=
  (Spec.applies_iff w_frames).mpr ⟨w_running, w_runnable, w_alone, w_named, w_hears, w_ripe, w_room, w_tables⟩
theorem atStart : AtStart classFile x code maxLocals ret World_1 tables_1 room_1 Calls_1 rest_1 Pre_1 launch0 p0 e0 about1 theMethod args0 below0 :=
  ⟨lists_1, trivial, launch0.admits_env _ _ _, launch0.least_env, fairChoices_fair.cas, fairChoices_fair.clock, w_frames, w_args, w_heap, w_applies, trivial, trivial, w_case⟩
end start1
theorem witness_1 : WitnessClaimed_1 := ⟨start1.p0, start1.e0, start1.about1, start1.theMethod, start1.args0, start1.below0, start1.atStart⟩
end Jvm.Pilot.@@N@@
