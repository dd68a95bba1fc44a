import JvmDerived
import JvmDerived.Pilot.@@N@@Statement
import JvmDerived.Pilot.@@N@@Code
set_option linter.unusedVariables false
set_option linter.unusedSimpArgs false
namespace Jvm.Pilot.@@N@@
open Jvm Jvm.ClassFile Sem Op Lib Jvm.Free Jvm.Stand Jvm.LawKit Jvm.RoadKit Bundle Jvm.Pilot.@@N@@.Jvm.D
section Own
variable {p : Program} {l : Launch} {e : Env} {R : Room} {s : State} {m : MethodId} {args : Array Value} {below : List Frame} {meth : Method} {c : Code} {T : State} {locs : List Loc} {cells slots : Nat} {Q : Option Value → Heap → List Loc → Prop} {k n : Nat}
/-- from this state the body comes to an end that meets Φ -/
def own_Go (tb : Tables) (e : Env) (below : List Frame) (Φ : Outcome → State → Prop) (S : State) : Prop :=
  ∃ U o, Steps tb e below S U ∧ U.status = .running ∧ Ended U below o ∧ Φ o U
/-- it returned; what it leaves meets Q; nothing else moved -/
def own_F (s : State) (Q : Option Value → Heap → List Loc → Prop) (k n : Nat) (o : Outcome) (U : State) : Prop := ∃ v L, o = .returned v ∧ Q v U.heap L ∧ FrameEnd s o U L k n
theorem own_st {tb : Tables} {Φ : Outcome → State → Prop} {S S' : State} (h : ∀ t, Steps tb e below S' t → Steps tb e below S t) (g : own_Go tb e below Φ S') : own_Go tb e below Φ S := by
  obtain ⟨U, o, h1, r⟩ := g
  exact ⟨U, o, h _ h1, r⟩
theorem own_tr {tb : Tables} {Φ : Outcome → State → Prop} {S S' : State} (h : Steps tb e below S S') (g : own_Go tb e below Φ S') : own_Go tb e below Φ S := by
  obtain ⟨U, o, h1, r⟩ := g
  exact ⟨U, o, h.trans h1, r⟩
theorem own_end (X : Stand p l e R s m args below meth c T locs cells slots) (v : Option Value) (hv : meth.sig.returnType = none → v = none) (hlk : meth.locks = false) (hq : Q v T.heap locs) (hk : cells ≤ k) (hn : slots ≤ n) {S : State}
    (hs : ∀ fs, (∀ (f : JFrame) (acts : List Action), f.method = m → f.locked = none → f.entered = [] → (doReturn e (T.setTop f) acts v).1 = T.setFrames fs) → Steps p.tables e below S (T.setFrames fs)) : own_Go p.tables e below (own_F s Q k n) S := by
  obtain ⟨fs, hr, hrun, hended, hW, hsame⟩ := X.leave (v := v) hv hlk
  exact ⟨_, _, hs fs hr, hrun, hended, v, locs, rfl, hq, ⟨_, rfl⟩, hW, hsame.mono hk hn⟩
theorem own_retN (X : Stand p l e R s m args below meth c T locs cells slots) (hx : p.tables.exec = Jvm.exec) {pc : Nat} {Ls : Array Slot} {z : Int32} {t : FieldType} {rest : List Value} (hret : meth.sig.returnType = some t) (ht : t = .boolean ∨ t = .byte ∨ t = .char ∨ t = .short) (hlk : meth.locks = false)
    (hd : decode c.code pc = .ok (.ireturn, 1)) (hq : Q (some (.int (nar t z))) T.heap locs) (hk : cells ≤ k) (hn : slots ≤ n) : own_Go p.tables e below (own_F s Q k n) (T.setTop (mkF m pc Ls (.int z :: rest))) :=
  own_end X _ (fun h => by rw [hret] at h; cases h) hlk hq hk hn fun fs hr => retN X hx hret ht hd hr
theorem own_retI (X : Stand p l e R s m args below meth c T locs cells slots) (hx : p.tables.exec = Jvm.exec) {pc : Nat} {Ls : Array Slot} {z : Int32} {rest : List Value} (hret : meth.sig.returnType = some .int) (hlk : meth.locks = false)
    (hd : decode c.code pc = .ok (.ireturn, 1)) (hq : Q (some (.int z)) T.heap locs) (hk : cells ≤ k) (hn : slots ≤ n) : own_Go p.tables e below (own_F s Q k n) (T.setTop (mkF m pc Ls (.int z :: rest))) :=
  own_end X _ (fun h => by rw [hret] at h; cases h) hlk hq hk hn fun fs hr => retOut X hx hret rfl (Or.inl ⟨rfl, Or.inl rfl, z, rfl⟩) hd hr
theorem own_retL (X : Stand p l e R s m args below meth c T locs cells slots) (hx : p.tables.exec = Jvm.exec) {pc : Nat} {Ls : Array Slot} {z : Int64} {rest : List Value} (hret : meth.sig.returnType = some .long) (hlk : meth.locks = false)
    (hd : decode c.code pc = .ok (.lreturn, 1)) (hq : Q (some (.long z)) T.heap locs) (hk : cells ≤ k) (hn : slots ≤ n) : own_Go p.tables e below (own_F s Q k n) (T.setTop (mkF m pc Ls (.long z :: rest))) :=
  own_end X _ (fun h => by rw [hret] at h; cases h) hlk hq hk hn fun fs hr => retOut X hx hret rfl (Or.inr (Or.inl ⟨rfl, rfl, z, rfl⟩)) hd hr
theorem own_retA (X : Stand p l e R s m args below meth c T locs cells slots) (hx : p.tables.exec = Jvm.exec) {pc : Nat} {Ls : Array Slot} {w : Value} {t : FieldType} {rest : List Value} (hret : meth.sig.returnType = some t) (ht : t.isReference = true) (hw : w.isRef = true) (hnw : narrow t w = w) (hlk : meth.locks = false)
    (hd : decode c.code pc = .ok (.areturn, 1)) (hq : Q (some w) T.heap locs) (hk : cells ≤ k) (hn : slots ≤ n) : own_Go p.tables e below (own_F s Q k n) (T.setTop (mkF m pc Ls (w :: rest))) :=
  own_end X _ (fun h => by rw [hret] at h; cases h) hlk hq hk hn fun fs hr => retOut X hx hret hnw (Or.inr (Or.inr (Or.inr (Or.inr ⟨rfl, ht, hw⟩)))) hd hr
theorem own_retV (X : Stand p l e R s m args below meth c T locs cells slots) (hx : p.tables.exec = Jvm.exec) {pc : Nat} {Ls : Array Slot} (hret : meth.sig.returnType = none) (hlk : meth.locks = false)
    (hd : decode c.code pc = .ok (.return_, 1)) (hq : Q none T.heap locs) (hk : cells ≤ k) (hn : slots ≤ n) : own_Go p.tables e below (own_F s Q k n) (T.setTop (mkF m pc Ls [])) :=
  own_end X _ (fun _ => rfl) hlk hq hk hn fun fs hr => X.returnOut hx hret hd hr
theorem own_body {y : MethodName} {cd : ByteArray} {mx : Nat} {rt : Option FieldType} {ws : List Jvm.Cond} {rm : Room} {Z : State} {h0 : Heap} {as : Array Value} (hp : plainFor y = true)
    (go : ∀ (p : Program) (e : Env) (s : State) (m : MethodId) (below : List Frame) (meth : Method) (c : Code) (s₁ : State), p.tables.exec = Jvm.exec → c.code = cd → c.maxLocals = mx → s.vm.findClass y.cls = some m.cls → meth.name = y.name → meth.sig.returnType = rt → meth.locks = false → Z.Warmed39 s.vm →
      Stand p l e rm s m as below meth c s₁ [] 0 0 → s₁.heap = h0 → own_Go p.tables e below (own_F s Q rm.cells rm.slots) (s₁.setTop (entryFrame m as mx))) :
    MetFree l y (head1 (Jvm.Cond.code y cd mx rt :: ws) rm) (fun a U => a = as ∧ Z.Warmed39 U.vm ∧ U.heap = h0) (fun _ _ _ _ _ => True) (fun _ U o U' => ∃ v L, o = .returned v ∧ Q v U'.heap L ∧ FrameEnd U o U' L rm.cells rm.slots) := by
  refine MetFree.of_bodySF hp hisR ?_
  intro p e s m args below meth c s₁ Bd hml0 hP hK
  obtain ⟨rfl, hZ, hh⟩ := hP
  exact go p e s m below meth c s₁ Bd.exec Bd.bytes hml0 (findClass_of_methodNamed Bd.named) (name_of_methodNamed Bd.named Bd.method).1 Bd.returns Bd.notSynchronized hZ (Stand.of_body Bd) (by rw [← hh, Bd.state]; rfl)
end Own
theorem own_narb {P : Prop} [Decidable P] : nar .boolean (if P then (1 : Int32) else (0 : Int32)) = if P then (1 : Int32) else (0 : Int32) := by split <;> rfl
/-- an array by its length and what each place holds -/
def own_A (Z : State) (h : Heap) (a : Addr) (ty : FieldType) (n : Nat) (f : Nat → Value) : Prop := ∃ c : Cell, Arr Z h a c ty ∧ c.slots.size = n ∧ n < 2 ^ 31 ∧ ∀ j, j < n → c.slots[j]? = some (f j)
def own_up (f : Nat → Value) (i : Nat) (v : Value) : Nat → Value := fun j => if j = i then v else f j
def own_Ix (j : Int32) (i n : Nat) : Prop := ¬ j < 0 ∧ j.toNatClampNeg = i ∧ i < n
section Arrs
variable {Z : State} {h h' : Heap} {a b : Addr} {ty : FieldType} {n i : Nat} {f : Nat → Value} {v : Value} {sl : Nat} {ws : List Addr} {c : Cell} {j z : Int32}
theorem own_A.lt (F : own_A Z h a ty n f) : a < h.size := by obtain ⟨c, A, -⟩ := F; exact A.lt
theorem own_A.ext (F : own_A Z h a ty n f) (E : Ext h h') : own_A Z h' a ty n f := by obtain ⟨c, A, r⟩ := F; exact ⟨c, A.ext E, r⟩
theorem own_A.other (F : own_A Z h b ty n f) (W : Wr h h' a sl v) (q : b ≠ a) : own_A Z h' b ty n f := by obtain ⟨c, A, r⟩ := F; exact ⟨c, A.other W q, r⟩
theorem own_A.keep (F : own_A Z h a ty n f) (K : Keep h h' ws) (q : a ∉ ws) : own_A Z h' a ty n f := by obtain ⟨c, A, r⟩ := F; exact ⟨c, ⟨K.2.1 a c A.1 q, A.2⟩, r⟩
theorem own_clamp (z : Int32) : z.toNatClampNeg < 2 ^ 31 := by
  have := Int32.toInt_lt z
  simp only [Int32.toNatClampNeg]; omega
theorem own_A.new {k : ClassId} (A : Arr Z h a (newA k ty z) ty) (hz : z.toNatClampNeg = n) : own_A Z h a ty n (fun _ => defaultValue ty) := by
  refine ⟨_, A, by rw [sz_new, hz], by rw [← hz]; exact own_clamp z, fun j hj => ?_⟩
  simp [newA, hz, hj]
theorem own_ix (h1 : ¬ j < 0) (h2 : j.toNatClampNeg = i) (h3 : i < n) : own_Ix j i n := ⟨h1, h2, h3⟩
theorem own_in (S : c.slots.size = n) (h : own_Ix j i n) : ¬ (j < 0 ∨ c.slots.size ≤ j.toNatClampNeg) := by
  obtain ⟨h1, h2, h3⟩ := h
  rw [S, h2]
  exact fun q => q.elim h1 (fun r => absurd h3 (Nat.not_lt.mpr r))
theorem own_at (S : c.slots.size = n) (V : ∀ j, j < n → c.slots[j]? = some (f j)) (h : own_Ix j i n) (hv : f i = v) : c.slots[j.toNatClampNeg]? = some v := by
  obtain ⟨h1, h2, h3⟩ := h
  rw [h2, V i h3, hv]
theorem own_A.set (F : own_A Z h a ty n f) (hj : own_Ix j i n) (W : Wr h h' a j.toNatClampNeg v) : own_A Z h' a ty n (own_up f i v) := by
  obtain ⟨c, A, S, M, V⟩ := F
  obtain ⟨h1, h2, h3⟩ := hj
  rw [h2] at W
  refine ⟨c.setSlot i v, A.same W, by rw [sz_set]; exact S, M, fun j' hj' => ?_⟩
  show (c.slots.setIfInBounds i v)[j']? = _
  unfold own_up
  by_cases e : j' = i
  · subst e; rw [if_pos rfl]; simp [S, hj']
  · rw [if_neg e, Array.getElem?_setIfInBounds_ne (Ne.symm e)]; exact V j' hj'
theorem own_A.cong {g : Nat → Value} (F : own_A Z h a ty n f) (q : ∀ j, j < n → f j = g j) : own_A Z h a ty n g := by
  obtain ⟨c, A, S, M, V⟩ := F
  exact ⟨c, A, S, M, fun j hj => by rw [V j hj, q j hj]⟩
end Arrs
/-- a short array's values by a list -/
def own_V (vs : List Value) : Nat → Value := fun j => vs.getD j .null
theorem own_selP {Z s : State} {a0 args : Array Value} {y : MethodName} {n : Nat} (hZ : Z.Warmed39 s.vm) (wi : (Jvm.Cond.instantiable y.cls n).before a0 Z = true) (wp : (Jvm.Cond.privateMethod y).before a0 Z = true) (wm : (Jvm.Cond.instanceMethod y).before a0 Z = true)
    (hy : y.cls ≠ "java/lang/invoke/MethodHandle" ∧ y.cls ≠ "java/lang/invoke/VarHandle") : (Jvm.Cond.selects y.cls y y).before args s = true := by
  have w : (Jvm.Cond.instantiable y.cls n).before args s = true := mvT hZ wi
  obtain ⟨c, k, h1, h2, -, h4, -⟩ := Cond.instantiable_spec w
  exact selects_self_of_private h1 h2 (Bool.or_eq_false_iff.mp h4).1 (Cond.privateMethod_at (mvP hZ wp (args := #[]))) (mvT hZ wm) hy
section OwnW
variable {p : Program} {l : Launch} {e : Env} {R : Room} {s : State} {vm0 : Vm} {k0 : Nat} {m : MethodId} {args : Array Value} {below : List Frame} {meth : Method} {c : Code} {T : State} {locs : List Loc} {cells slots : Nat} {Q : Option Value → Heap → List Loc → Prop} {k n : Nat}
/-- as own_F, of a body that may load String constants -/
def own_FW (s : State) (Q : Option Value → Heap → List Loc → Prop) (k n : Nat) (o : Outcome) (U : State) : Prop := ∃ v L, o = .returned v ∧ Q v U.heap L ∧ ReturnedEndW s o U L k n
theorem own_endW (X : Stand p l e R (s.setVm vm0) m args below meth c T locs cells slots) (hS : s.Since vm0 k0) (hk0 : k0 ≤ T.heap.size) (v : Option Value) (hv : meth.sig.returnType = none → v = none) (hlk : meth.locks = false) (hq : Q v T.heap locs) (hk : cells ≤ k) (hn : slots ≤ n) {S : State}
    (hs : ∀ fs, (∀ (f : JFrame) (acts : List Action), f.method = m → f.locked = none → f.entered = [] → (doReturn e (T.setTop f) acts v).1 = T.setFrames fs) → Steps p.tables e below S (T.setFrames fs)) : own_Go p.tables e below (own_FW s Q k n) S := by
  obtain ⟨fs, hr, hrun, hended, hW, hsame⟩ := X.leave (v := v) hv hlk
  obtain ⟨h1, h2, h3⟩ := hS.ended (U := T.setFrames fs) hW hk0 hsame
  exact ⟨_, _, hs fs hr, hrun, hended, v, locs, rfl, hq, ⟨_, rfl⟩, h1, h2, h3.mono hk hn⟩
theorem own_retNW (X : Stand p l e R (s.setVm vm0) m args below meth c T locs cells slots) (hS : s.Since vm0 k0) (hk0 : k0 ≤ T.heap.size) (hx : p.tables.exec = Jvm.exec) {pc : Nat} {Ls : Array Slot} {z : Int32} {t : FieldType} {rest : List Value} (hret : meth.sig.returnType = some t) (ht : t = .boolean ∨ t = .byte ∨ t = .char ∨ t = .short) (hlk : meth.locks = false)
    (hd : decode c.code pc = .ok (.ireturn, 1)) (hq : Q (some (.int (nar t z))) T.heap locs) (hk : cells ≤ k) (hn : slots ≤ n) : own_Go p.tables e below (own_FW s Q k n) (T.setTop (mkF m pc Ls (.int z :: rest))) :=
  own_endW X hS hk0 _ (fun h => by rw [hret] at h; cases h) hlk hq hk hn fun fs hr => retN X hx hret ht hd hr
theorem own_retVW (X : Stand p l e R (s.setVm vm0) m args below meth c T locs cells slots) (hS : s.Since vm0 k0) (hk0 : k0 ≤ T.heap.size) (hx : p.tables.exec = Jvm.exec) {pc : Nat} {Ls : Array Slot} (hret : meth.sig.returnType = none) (hlk : meth.locks = false)
    (hd : decode c.code pc = .ok (.return_, 1)) (hq : Q none T.heap locs) (hk : cells ≤ k) (hn : slots ≤ n) : own_Go p.tables e below (own_FW s Q k n) (T.setTop (mkF m pc Ls [])) :=
  own_endW X hS hk0 _ (fun _ => rfl) hlk hq hk hn fun fs hr => X.returnOut hx hret hd hr
theorem own_bodyW {y : MethodName} {cd : ByteArray} {mx : Nat} {rt : Option FieldType} {ws : List Jvm.Cond} {rm : Room} {Z : State} {h0 : Heap} {as : Array Value} (hp : plainFor y = true)
    (go : ∀ (p : Program) (e : Env) (s : State) (m : MethodId) (below : List Frame) (meth : Method) (c : Code) (s₁ : State), p.tables.exec = Jvm.exec → c.code = cd → c.maxLocals = mx → s.vm.findClass y.cls = some m.cls → meth.name = y.name → meth.sig.returnType = rt → meth.locks = false → Z.Warmed39 s.vm →
      Stand p l e rm s m as below meth c s₁ [] 0 0 → s₁.heap = h0 → own_Go p.tables e below (own_FW s Q rm.cells rm.slots) (s₁.setTop (entryFrame m as mx))) :
    MetFree l y (head1 (Jvm.Cond.code y cd mx rt :: ws) rm) (fun a U => a = as ∧ Z.Warmed39 U.vm ∧ U.heap = h0) (fun _ _ _ _ _ => True) (fun _ U o U' => ∃ v L, o = .returned v ∧ Q v U'.heap L ∧ ReturnedEndW U o U' L rm.cells rm.slots) := by
  refine MetFree.of_bodySF hp hisR ?_
  intro p e s m args below meth c s₁ Bd hml0 hP hK
  obtain ⟨rfl, hZ, hh⟩ := hP
  exact go p e s m below meth c s₁ Bd.exec Bd.bytes hml0 (findClass_of_methodNamed Bd.named) (name_of_methodNamed Bd.named Bd.method).1 Bd.returns Bd.notSynchronized hZ (Stand.of_body Bd) (by rw [← hh, Bd.state]; rfl)
end OwnW

def own_s (n x : Int32) : Int32 := x ^^^ ((x.toUInt32 >>> (n &&& 31).toUInt32).toInt32)
def own_key (p b : Int32) : Int32 := (p <<< ((8 : Int32) &&& 31)) ||| (b &&& (255 : Int32))
def own_hash (k : Int32) : Int32 := own_s (13 : Int32) (own_s (15 : Int32) (k * (-1640531535 : Int32)) * (-2048144777 : Int32))
def own_term (p b : Int32) : Int32 := if b = (0 : Int32) then (0 : Int32) else own_hash (own_key p b)
theorem own_xs (n : Nat) (hn : 0 < n) (x y : BitVec 32) (h : x ^^^ (x >>> n) = y ^^^ (y >>> n)) : x = y := by
  have e : x ^^^ y = (x ^^^ y) >>> n := by
    rw [BitVec.ushiftRight_xor_distrib]
    have q : (x ^^^ x >>> n) ^^^ (y ^^^ x >>> n) = (y ^^^ y >>> n) ^^^ (y ^^^ x >>> n) := by rw [h]
    have l : (x ^^^ x >>> n) ^^^ (y ^^^ x >>> n) = x ^^^ y := by
      rw [BitVec.xor_assoc, BitVec.xor_comm (x >>> n), BitVec.xor_assoc y, BitVec.xor_self, BitVec.xor_zero]
    have r : (y ^^^ y >>> n) ^^^ (y ^^^ x >>> n) = x >>> n ^^^ y >>> n := by
      rw [BitVec.xor_comm y (y >>> n), BitVec.xor_assoc, ← BitVec.xor_assoc y y, BitVec.xor_self, BitVec.zero_xor, BitVec.xor_comm]
    rw [l, r] at q
    exact q
  have z : (x ^^^ y).toNat = 0 := by
    have q := congrArg BitVec.toNat e
    rw [BitVec.toNat_ushiftRight, Nat.shiftRight_eq_div_pow] at q
    rcases Nat.eq_zero_or_pos (x ^^^ y).toNat with c | c
    · exact c
    · have l := Nat.div_lt_self c (show 1 < 2 ^ n from Nat.one_lt_two_pow (Nat.pos_iff_ne_zero.mp hn))
      omega
  exact BitVec.xor_eq_zero_iff.mp (BitVec.eq_of_toNat_eq z)
theorem own_sb (n : Int32) (k : Nat) (hk : (n &&& 31).toUInt32.toBitVec % 32#32 = BitVec.ofNat 32 k) (h : k < 32) (x : Int32) : (own_s n x).toBitVec = x.toBitVec ^^^ x.toBitVec >>> k := by
  unfold own_s
  rw [Int32.toBitVec_xor]
  show x.toBitVec ^^^ (x.toBitVec >>> ((n &&& 31).toUInt32.toBitVec % 32#32)) = _
  rw [hk, BitVec.ushiftRight_eq', BitVec.toNat_ofNat, Nat.mod_eq_of_lt (show k < 2 ^ 32 by omega)]
theorem own_si (n : Int32) (k : Nat) (hk : (n &&& 31).toUInt32.toBitVec % 32#32 = BitVec.ofNat 32 k) (h : 0 < k ∧ k < 32) (x y : Int32) (q : own_s n x = own_s n y) : x = y := by
  have z := congrArg Int32.toBitVec q
  rw [own_sb n k hk h.2, own_sb n k hk h.2] at z
  exact Int32.toBitVec_inj.mp (own_xs k h.1 _ _ z)
theorem own_mi (c d : Int32) (h : c * d = 1) (x y : Int32) (q : x * c = y * c) : x = y := by
  have z := congrArg (fun t => t * d) q
  simp only [Int32.mul_assoc, h, Int32.mul_one] at z
  exact z
theorem own_hi (x y : Int32) (q : own_hash x = own_hash y) : x = y := by
  unfold own_hash at q
  exact own_mi (-1640531535) (244002641 : Int32) (by decide) _ _ (own_si 15 15 (by decide) (by decide) _ _ (own_mi (-2048144777) (-1228329145 : Int32) (by decide) _ _ (own_si 13 13 (by decide) (by decide) _ _ q)))
theorem own_h0 : own_hash 0 = 0 := by decide
/-- a byte by its low eight bits -/
theorem own_byte (x y : Int32) (q : (x.toInt8.toInt32 &&& (255 : Int32)) = (y.toInt8.toInt32 &&& (255 : Int32))) : x.toInt8.toInt32 = y.toInt8.toInt32 := by
  have a := c_mask x.toInt8.toInt32 (255 : Int32) 8 (by decide) (by decide)
  have b := c_mask y.toInt8.toInt32 (255 : Int32) 8 (by decide) (by decide)
  have c := c_i2b x
  have d := c_i2b y
  apply Int32.toInt_inj.mp
  have e := congrArg Int32.toInt q
  rw [a, b] at e
  omega
theorem own_keyN (p b : Int32) : (own_key p b).toBitVec.toNat = 256 * (p.toBitVec.toNat % 16777216) + b.toBitVec.toNat % 256 := by
  unfold own_key
  have e1 : (p <<< ((8 : Int32) &&& 31)).toBitVec = p.toBitVec <<< 8 := rfl
  have e2 : (b &&& (255 : Int32)).toBitVec = b.toBitVec &&& 255#32 := rfl
  have e3 : ((p <<< ((8 : Int32) &&& 31)) ||| (b &&& (255 : Int32))).toBitVec = (p.toBitVec <<< 8) ||| (b.toBitVec &&& 255#32) := by rw [Int32.toBitVec_or, e1, e2]
  rw [e3, BitVec.toNat_or, BitVec.toNat_shiftLeft, BitVec.toNat_and]
  have f1 : p.toBitVec.toNat <<< 8 % 2 ^ 32 = (p.toBitVec.toNat % 16777216) <<< 8 := by
    rw [Nat.shiftLeft_eq, Nat.shiftLeft_eq]; omega
  have f2 : b.toBitVec.toNat &&& (255#32).toNat = b.toBitVec.toNat % 2 ^ 8 := Nat.and_two_pow_sub_one_eq_mod b.toBitVec.toNat 8
  rw [f1, f2, ← Nat.shiftLeft_add_eq_or_of_lt (Nat.mod_lt _ (by decide)), Nat.shiftLeft_eq]
  omega
theorem own_andN (b : Int32) : (b &&& (255 : Int32)).toBitVec.toNat = b.toBitVec.toNat % 256 := Nat.and_two_pow_sub_one_eq_mod b.toBitVec.toNat 8
theorem own_b0 (x : Int32) (h : x.toInt8.toInt32.toBitVec.toNat % 256 = 0) : x.toInt8.toInt32 = 0 := by
  have q : (x.toInt8.toInt32 &&& (255 : Int32)) = ((0 : Int32).toInt8.toInt32 &&& (255 : Int32)) := Int32.toBitVec_inj.mp (BitVec.eq_of_toNat_eq (by rw [own_andN, h]; decide))
  exact own_byte x 0 q
theorem own_zero (p x : Int32) : own_term p x.toInt8.toInt32 = (0 : Int32) ↔ x.toInt8.toInt32 = (0 : Int32) := by
  unfold own_term
  constructor
  · intro h
    by_cases c : x.toInt8.toInt32 = (0 : Int32)
    · exact c
    · rw [if_neg c] at h
      have k : own_key p x.toInt8.toInt32 = 0 := own_hi _ _ (h.trans own_h0.symm)
      have n := own_keyN p x.toInt8.toInt32
      rw [k] at n
      exact own_b0 x (by have z : (0 : Int32).toBitVec.toNat = 0 := rfl; omega)
  · intro h
    rw [if_pos h]
theorem own_ax (x y m : BitVec 32) : (x ^^^ y) &&& m = (x &&& m) ^^^ (y &&& m) := by
  apply BitVec.eq_of_getLsbD_eq
  intro i hi
  rw [BitVec.getLsbD_and, BitVec.getLsbD_xor, BitVec.getLsbD_xor, BitVec.getLsbD_and, BitVec.getLsbD_and]
  cases x.getLsbD i <;> cases y.getLsbD i <;> cases m.getLsbD i <;> rfl
theorem own_xm (p q : Int32) : ((p ^^^ q) &&& (16777215 : Int32)) = (0 : Int32) ↔ p.toBitVec.toNat % 16777216 = q.toBitVec.toNat % 16777216 := by
  have e : ((p ^^^ q) &&& (16777215 : Int32)).toBitVec = (p.toBitVec &&& 16777215#32) ^^^ (q.toBitVec &&& 16777215#32) := by
    rw [Int32.toBitVec_and, Int32.toBitVec_xor]
    exact own_ax _ _ _
  have m : ∀ z : BitVec 32, (z &&& 16777215#32).toNat = z.toNat % 16777216 := fun z => by
    rw [BitVec.toNat_and]; exact Nat.and_two_pow_sub_one_eq_mod z.toNat 24
  rw [← Int32.toBitVec_inj, e]
  show (p.toBitVec &&& 16777215#32) ^^^ (q.toBitVec &&& 16777215#32) = 0#32 ↔ _
  rw [BitVec.xor_eq_zero_iff, ← BitVec.toNat_inj, m, m]
theorem own_inj (p q x y : Int32) (hx : ¬ x.toInt8.toInt32 = (0 : Int32)) (hy : ¬ y.toInt8.toInt32 = (0 : Int32)) : own_term p x.toInt8.toInt32 = own_term q y.toInt8.toInt32 ↔ (((p ^^^ q) &&& (16777215 : Int32)) = (0 : Int32) ∧ x.toInt8.toInt32 = y.toInt8.toInt32) := by
  unfold own_term
  rw [if_neg hx, if_neg hy, own_xm]
  have a := own_keyN p x.toInt8.toInt32
  have b := own_keyN q y.toInt8.toInt32
  constructor
  · intro h
    have k := own_hi _ _ h
    rw [k] at a
    refine ⟨by omega, ?_⟩
    have c : x.toInt8.toInt32.toBitVec.toNat % 256 = y.toInt8.toInt32.toBitVec.toNat % 256 := by omega
    exact own_byte x y (Int32.toBitVec_inj.mp (BitVec.eq_of_toNat_eq (by rw [own_andN, own_andN, c])))
  · rintro ⟨h1, h2⟩
    have k : own_key p x.toInt8.toInt32 = own_key q y.toInt8.toInt32 := Int32.toBitVec_inj.mp (BitVec.eq_of_toNat_eq (by rw [a, b, h1, h2]))
    rw [k]
theorem own_v1 {x y v : Int32} {P : Prop} [Decidable P] (q : v = (if P then x.toInt8.toInt32 else y.toInt8.toInt32)) : ∃ z : Int32, v = z.toInt8.toInt32 := by
  by_cases p : P
  · exact ⟨x, by rw [q, if_pos p]⟩
  · exact ⟨y, by rw [q, if_neg p]⟩
theorem own_z16 {v9 a v11 b v12 v14 v16 : Int32} (A : v9 = (0 : Int32) ↔ a = (0 : Int32)) (B : v11 = (0 : Int32) ↔ b = (0 : Int32)) (q12 : v12 = (if v9 = (0 : Int32) then (1 : Int32) else (0 : Int32))) (q14 : v14 = (if a = (0 : Int32) then (1 : Int32) else (0 : Int32)))
    (q16 : v16 = (if v12 = v14 then (if v11 = (0 : Int32) then (if b = (0 : Int32) then (1 : Int32) else (0 : Int32)) else (if b = (0 : Int32) then (0 : Int32) else (1 : Int32))) else (0 : Int32))) : v16 = (1 : Int32) := by
  have h : v12 = v14 := by
    rw [q12, q14]
    by_cases c : a = (0 : Int32)
    · rw [if_pos (A.mpr c), if_pos c]
    · rw [if_neg (mt A.mp c), if_neg c]
  rw [q16, if_pos h]
  by_cases c : b = (0 : Int32)
  · rw [if_pos (B.mpr c), if_pos c]
  · rw [if_neg (mt B.mp c), if_neg c]
theorem own_z26 {v9 v11 v16 v23 v26 : Int32} {P Q : Prop} [Decidable P] [Decidable Q] (h16 : v16 = (1 : Int32)) (I : v9 = v11 ↔ (P ∧ Q)) (q23 : v23 = (if P then (if Q then (1 : Int32) else (0 : Int32)) else (0 : Int32)))
    (q26 : v26 = (if v16 = (0 : Int32) then (0 : Int32) else (if v9 = v11 then (if (1 : Int32) = v23 then (1 : Int32) else (0 : Int32)) else (if (0 : Int32) = v23 then (1 : Int32) else (0 : Int32))))) : v26 = (1 : Int32) := by
  rw [q26, h16, if_neg (by decide)]
  by_cases p : P
  · by_cases q : Q
    · rw [if_pos p, if_pos q] at q23
      rw [if_pos (I.mpr ⟨p, q⟩), q23, if_pos rfl]
    · rw [if_pos p, if_neg q] at q23
      rw [if_neg (fun h => q (I.mp h).2), q23, if_pos rfl]
  · rw [if_neg p] at q23
    rw [if_neg (fun h => p (I.mp h).1), q23, if_pos rfl]
theorem d1_0 : decode prog_110_method_17_code 0 = .ok (.iload_n 1, 1) := by decide +kernel
theorem d1_1 : decode prog_110_method_17_code 1 = .ok (.ifCond .ne 5, 3) := by decide +kernel
theorem d1_4 : decode prog_110_method_17_code 4 = .ok (.iconst 0, 1) := by decide +kernel
theorem d1_5 : decode prog_110_method_17_code 5 = .ok (.ireturn, 1) := by decide +kernel
theorem d1_6 : decode prog_110_method_17_code 6 = .ok (.iload_n 0, 1) := by decide +kernel
theorem d1_7 : decode prog_110_method_17_code 7 = .ok (.bipush 8, 2) := by decide +kernel
theorem d1_9 : decode prog_110_method_17_code 9 = .ok (.ishl, 1) := by decide +kernel
theorem d1_10 : decode prog_110_method_17_code 10 = .ok (.iload_n 1, 1) := by decide +kernel
theorem d1_11 : decode prog_110_method_17_code 11 = .ok (.sipush 255, 3) := by decide +kernel
theorem d1_14 : decode prog_110_method_17_code 14 = .ok (.iand, 1) := by decide +kernel
theorem d1_15 : decode prog_110_method_17_code 15 = .ok (.ior, 1) := by decide +kernel
theorem d1_16 : decode prog_110_method_17_code 16 = .ok (.ldc 85, 2) := by decide +kernel
theorem d1_18 : decode prog_110_method_17_code 18 = .ok (.imul, 1) := by decide +kernel
theorem d1_19 : decode prog_110_method_17_code 19 = .ok (.istore_n 2, 1) := by decide +kernel
theorem d1_20 : decode prog_110_method_17_code 20 = .ok (.iload_n 2, 1) := by decide +kernel
theorem d1_21 : decode prog_110_method_17_code 21 = .ok (.iload_n 2, 1) := by decide +kernel
theorem d1_22 : decode prog_110_method_17_code 22 = .ok (.bipush 15, 2) := by decide +kernel
theorem d1_24 : decode prog_110_method_17_code 24 = .ok (.iushr, 1) := by decide +kernel
theorem d1_25 : decode prog_110_method_17_code 25 = .ok (.ixor, 1) := by decide +kernel
theorem d1_26 : decode prog_110_method_17_code 26 = .ok (.istore_n 2, 1) := by decide +kernel
theorem d1_27 : decode prog_110_method_17_code 27 = .ok (.iload_n 2, 1) := by decide +kernel
theorem d1_28 : decode prog_110_method_17_code 28 = .ok (.ldc 86, 2) := by decide +kernel
theorem d1_30 : decode prog_110_method_17_code 30 = .ok (.imul, 1) := by decide +kernel
theorem d1_31 : decode prog_110_method_17_code 31 = .ok (.istore_n 2, 1) := by decide +kernel
theorem d1_32 : decode prog_110_method_17_code 32 = .ok (.iload_n 2, 1) := by decide +kernel
theorem d1_33 : decode prog_110_method_17_code 33 = .ok (.iload_n 2, 1) := by decide +kernel
theorem d1_34 : decode prog_110_method_17_code 34 = .ok (.bipush 13, 2) := by decide +kernel
theorem d1_36 : decode prog_110_method_17_code 36 = .ok (.iushr, 1) := by decide +kernel
theorem d1_37 : decode prog_110_method_17_code 37 = .ok (.ixor, 1) := by decide +kernel
theorem d1_38 : decode prog_110_method_17_code 38 = .ok (.istore_n 2, 1) := by decide +kernel
theorem d1_39 : decode prog_110_method_17_code 39 = .ok (.iload_n 2, 1) := by decide +kernel
theorem d1_40 : decode prog_110_method_17_code 40 = .ok (.ireturn, 1) := by decide +kernel
theorem pn1 : plainName "com/example/tokenwise/tokenwise/semantics/StateCodec" = true := by first | (simp [plainName, overriddenIn]; done) | decide +kernel
theorem ef1 (m : MethodId) (p1 : Int32) (p2 : Int32) : entryFrame m #[(.int p1), (.int p2)] 3 = mkF m 0 #[.val (.int p1), .val (.int p2), .unset] [] := by first | (simp [entryFrame, mkF, argsToLocals, Value.category]; done) | rfl
def Q1 (Z : State) (p1 : Int32) (p2 : Int32) (h0 : Heap) (n0 : Nat) (v : Option Value) (h : Heap) (L : List Loc) : Prop := v = some (.int (own_term p1 p2)) ∧ Fr n0 L ∧ h = h0
set_option maxRecDepth 65536 in
set_option maxHeartbeats 40000000 in
theorem rm1 (l : Launch) (Z : State) (a0 : Array Value) (hw : ∀ d ∈ tables_1, d.before a0 Z = true) (ws : List Jvm.Cond) (p1 : Int32) (p2 : Int32) (h0 : Heap) (n0 : Nat) (Z0 : n0 ≤ h0.size)  :
    MetFree l (⟨"com/example/tokenwise/tokenwise/semantics/StateCodec", "term", "(IB)I"⟩ : MethodName) (head1 (Jvm.Cond.code (⟨"com/example/tokenwise/tokenwise/semantics/StateCodec", "term", "(IB)I"⟩ : MethodName) prog_110_method_17_code 3 (some .int) :: ws) ({ frames := 0, cells := 0, slots := 0, locals := 0 } : Room)) (fun as' U => as' = #[(.int p1), (.int p2)] ∧ Z.Warmed39 U.vm ∧ U.heap = h0) (fun _ _ _ _ _ => True) (fun _ U o U' => ∃ v L, o = .returned v ∧ Q1 Z p1 p2 h0 n0 v U'.heap L ∧ FrameEnd U o U' L ({ frames := 0, cells := 0, slots := 0, locals := 0 } : Room).cells ({ frames := 0, cells := 0, slots := 0, locals := 0 } : Room).slots) := by
  refine own_body (plainFor_of_name pn1) ?_
  intro p e s m below meth c s₁ hx hby hml hown0 hnm hret hlk hZ X0 e0
  have hown : s.vm.findClass "com/example/tokenwise/tokenwise/semantics/StateCodec" = some m.cls := hown0
  have N0 := Fr.nil n0
  rw [ef1]
  show own_Go p.tables e below _ (s₁.setTop (mkF m 0 #[.val (.int p1), .val (.int p2), .unset] []))
  refine own_st (S' := s₁.setTop (mkF m 1 #[.val (.int p1), .val (.int p2), .unset] [(.int p2)])) (fun t k => XS.iloadN X0.here hx rfl (hb hby d1_0) rfl k) ?_
  by_cases hc1 : p2 = (0 : Int32)
  · refine own_st (S' := s₁.setTop (mkF m 4 #[.val (.int p1), .val (.int p2), .unset] [])) (fun t k => XS.ifNo X0.here hx rfl (hb hby d1_1) rfl ((if0 _ _).trans (teq hc1).2) k) ?_
    show own_Go p.tables e below _ (s₁.setTop (mkF m 4 #[.val (.int p1), .val (.int p2), .unset] []))
    refine own_st (S' := s₁.setTop (mkF m 5 #[.val (.int p1), .val (.int p2), .unset] [(.int (0 : Int32))])) (fun t k => XS.iconst X0.here hx rfl (hb hby d1_4) k) ?_
    refine own_retI X0 hx hret hlk (hb hby d1_5) ?_ (by decide) (by decide)
    rw [e0]
    exact ⟨by unfold own_term; rw [if_pos hc1], N0, rfl⟩
  · refine own_st (S' := s₁.setTop (mkF m 6 #[.val (.int p1), .val (.int p2), .unset] [])) (fun t k => XS.ifYes X0.here hx rfl (pc0 := 1) (pc' := 6) rfl (hb hby d1_1) rfl ((if0 _ _).trans (feq hc1).2) (by decide) (by decide) k) ?_
    show own_Go p.tables e below _ (s₁.setTop (mkF m 6 #[.val (.int p1), .val (.int p2), .unset] []))
    refine own_st (S' := s₁.setTop (mkF m 7 #[.val (.int p1), .val (.int p2), .unset] [(.int p1)])) (fun t k => XS.iloadN X0.here hx rfl (hb hby d1_6) rfl k) ?_
    refine own_st (S' := s₁.setTop (mkF m 9 #[.val (.int p1), .val (.int p2), .unset] [(.int (8 : Int32)), (.int p1)])) (fun t k => XS.bipush X0.here hx rfl (hb hby d1_7) k) ?_
    refine own_st (S' := s₁.setTop (mkF m 10 #[.val (.int p1), .val (.int p2), .unset] [(.int (p1 <<< ((8 : Int32) &&& 31)))])) (fun t k => XS.ishl X0.here hx rfl (hb hby d1_9) rfl k) ?_
    refine own_st (S' := s₁.setTop (mkF m 11 #[.val (.int p1), .val (.int p2), .unset] [(.int p2), (.int (p1 <<< ((8 : Int32) &&& 31)))])) (fun t k => XS.iloadN X0.here hx rfl (hb hby d1_10) rfl k) ?_
    refine own_st (S' := s₁.setTop (mkF m 14 #[.val (.int p1), .val (.int p2), .unset] [(.int (255 : Int32)), (.int p2), (.int (p1 <<< ((8 : Int32) &&& 31)))])) (fun t k => XS.sipush X0.here hx rfl (hb hby d1_11) k) ?_
    refine own_st (S' := s₁.setTop (mkF m 15 #[.val (.int p1), .val (.int p2), .unset] [(.int (p2 &&& (255 : Int32))), (.int (p1 <<< ((8 : Int32) &&& 31)))])) (fun t k => XS.iand X0.here hx rfl (hb hby d1_14) rfl k) ?_
    refine own_st (S' := s₁.setTop (mkF m 16 #[.val (.int p1), .val (.int p2), .unset] [(.int ((p1 <<< ((8 : Int32) &&& 31)) ||| (p2 &&& (255 : Int32))))])) (fun t k => XS.ior X0.here hx rfl (hb hby d1_15) rfl k) ?_
    refine own_st (S' := s₁.setTop (mkF m 18 #[.val (.int p1), .val (.int p2), .unset] [(.int (-1640531535 : Int32)), (.int ((p1 <<< ((8 : Int32) &&& 31)) ||| (p2 &&& (255 : Int32))))])) (fun t k => X0.ldcInt hx hown (mvT hZ (hw _ (List.mem_of_getElem? (i := 4) rfl))) (g := (mkF m 16 #[.val (.int p1), .val (.int p2), .unset] [(.int ((p1 <<< ((8 : Int32) &&& 31)) ||| (p2 &&& (255 : Int32))))])) rfl (hb hby d1_16) _ k) ?_
    refine own_st (S' := s₁.setTop (mkF m 19 #[.val (.int p1), .val (.int p2), .unset] [(.int (((p1 <<< ((8 : Int32) &&& 31)) ||| (p2 &&& (255 : Int32))) * (-1640531535 : Int32)))])) (fun t k => XS.imul X0.here hx rfl (hb hby d1_18) rfl k) ?_
    obtain ⟨v2, qv2⟩ : ∃ z : Int32, z = (((p1 <<< ((8 : Int32) &&& 31)) ||| (p2 &&& (255 : Int32))) * (-1640531535 : Int32)) := ⟨_, rfl⟩
    show own_Go p.tables e below _ (s₁.setTop (mkF m 19 #[.val (.int p1), .val (.int p2), .unset] [(.int (((p1 <<< ((8 : Int32) &&& 31)) ||| (p2 &&& (255 : Int32))) * (-1640531535 : Int32)))]))
    rw [← qv2]
    refine own_st (S' := s₁.setTop (mkF m 20 #[.val (.int p1), .val (.int p2), .val (.int v2)] [])) (fun t k => XS.istoreN X0.here hx rfl (hb hby d1_19) rfl (l' := #[.val (.int p1), .val (.int p2), .val (.int v2)]) rfl k) ?_
    refine own_st (S' := s₁.setTop (mkF m 21 #[.val (.int p1), .val (.int p2), .val (.int v2)] [(.int v2)])) (fun t k => XS.iloadN X0.here hx rfl (hb hby d1_20) rfl k) ?_
    refine own_st (S' := s₁.setTop (mkF m 22 #[.val (.int p1), .val (.int p2), .val (.int v2)] [(.int v2), (.int v2)])) (fun t k => XS.iloadN X0.here hx rfl (hb hby d1_21) rfl k) ?_
    refine own_st (S' := s₁.setTop (mkF m 24 #[.val (.int p1), .val (.int p2), .val (.int v2)] [(.int (15 : Int32)), (.int v2), (.int v2)])) (fun t k => XS.bipush X0.here hx rfl (hb hby d1_22) k) ?_
    refine own_st (S' := s₁.setTop (mkF m 25 #[.val (.int p1), .val (.int p2), .val (.int v2)] [(.int ((v2.toUInt32 >>> ((15 : Int32) &&& 31).toUInt32).toInt32)), (.int v2)])) (fun t k => XS.iushr X0.here hx rfl (hb hby d1_24) rfl k) ?_
    refine own_st (S' := s₁.setTop (mkF m 26 #[.val (.int p1), .val (.int p2), .val (.int v2)] [(.int (v2 ^^^ ((v2.toUInt32 >>> ((15 : Int32) &&& 31).toUInt32).toInt32)))])) (fun t k => XS.ixor X0.here hx rfl (hb hby d1_25) rfl k) ?_
    obtain ⟨v3, qv3⟩ : ∃ z : Int32, z = (v2 ^^^ ((v2.toUInt32 >>> ((15 : Int32) &&& 31).toUInt32).toInt32)) := ⟨_, rfl⟩
    show own_Go p.tables e below _ (s₁.setTop (mkF m 26 #[.val (.int p1), .val (.int p2), .val (.int v2)] [(.int (v2 ^^^ ((v2.toUInt32 >>> ((15 : Int32) &&& 31).toUInt32).toInt32)))]))
    rw [← qv3]
    refine own_st (S' := s₁.setTop (mkF m 27 #[.val (.int p1), .val (.int p2), .val (.int v3)] [])) (fun t k => XS.istoreN X0.here hx rfl (hb hby d1_26) rfl (l' := #[.val (.int p1), .val (.int p2), .val (.int v3)]) rfl k) ?_
    refine own_st (S' := s₁.setTop (mkF m 28 #[.val (.int p1), .val (.int p2), .val (.int v3)] [(.int v3)])) (fun t k => XS.iloadN X0.here hx rfl (hb hby d1_27) rfl k) ?_
    refine own_st (S' := s₁.setTop (mkF m 30 #[.val (.int p1), .val (.int p2), .val (.int v3)] [(.int (-2048144777 : Int32)), (.int v3)])) (fun t k => X0.ldcInt hx hown (mvT hZ (hw _ (List.mem_of_getElem? (i := 5) rfl))) (g := (mkF m 28 #[.val (.int p1), .val (.int p2), .val (.int v3)] [(.int v3)])) rfl (hb hby d1_28) _ k) ?_
    refine own_st (S' := s₁.setTop (mkF m 31 #[.val (.int p1), .val (.int p2), .val (.int v3)] [(.int (v3 * (-2048144777 : Int32)))])) (fun t k => XS.imul X0.here hx rfl (hb hby d1_30) rfl k) ?_
    obtain ⟨v4, qv4⟩ : ∃ z : Int32, z = (v3 * (-2048144777 : Int32)) := ⟨_, rfl⟩
    show own_Go p.tables e below _ (s₁.setTop (mkF m 31 #[.val (.int p1), .val (.int p2), .val (.int v3)] [(.int (v3 * (-2048144777 : Int32)))]))
    rw [← qv4]
    refine own_st (S' := s₁.setTop (mkF m 32 #[.val (.int p1), .val (.int p2), .val (.int v4)] [])) (fun t k => XS.istoreN X0.here hx rfl (hb hby d1_31) rfl (l' := #[.val (.int p1), .val (.int p2), .val (.int v4)]) rfl k) ?_
    refine own_st (S' := s₁.setTop (mkF m 33 #[.val (.int p1), .val (.int p2), .val (.int v4)] [(.int v4)])) (fun t k => XS.iloadN X0.here hx rfl (hb hby d1_32) rfl k) ?_
    refine own_st (S' := s₁.setTop (mkF m 34 #[.val (.int p1), .val (.int p2), .val (.int v4)] [(.int v4), (.int v4)])) (fun t k => XS.iloadN X0.here hx rfl (hb hby d1_33) rfl k) ?_
    refine own_st (S' := s₁.setTop (mkF m 36 #[.val (.int p1), .val (.int p2), .val (.int v4)] [(.int (13 : Int32)), (.int v4), (.int v4)])) (fun t k => XS.bipush X0.here hx rfl (hb hby d1_34) k) ?_
    refine own_st (S' := s₁.setTop (mkF m 37 #[.val (.int p1), .val (.int p2), .val (.int v4)] [(.int ((v4.toUInt32 >>> ((13 : Int32) &&& 31).toUInt32).toInt32)), (.int v4)])) (fun t k => XS.iushr X0.here hx rfl (hb hby d1_36) rfl k) ?_
    refine own_st (S' := s₁.setTop (mkF m 38 #[.val (.int p1), .val (.int p2), .val (.int v4)] [(.int (v4 ^^^ ((v4.toUInt32 >>> ((13 : Int32) &&& 31).toUInt32).toInt32)))])) (fun t k => XS.ixor X0.here hx rfl (hb hby d1_37) rfl k) ?_
    obtain ⟨v5, qv5⟩ : ∃ z : Int32, z = (v4 ^^^ ((v4.toUInt32 >>> ((13 : Int32) &&& 31).toUInt32).toInt32)) := ⟨_, rfl⟩
    show own_Go p.tables e below _ (s₁.setTop (mkF m 38 #[.val (.int p1), .val (.int p2), .val (.int v4)] [(.int (v4 ^^^ ((v4.toUInt32 >>> ((13 : Int32) &&& 31).toUInt32).toInt32)))]))
    rw [← qv5]
    refine own_st (S' := s₁.setTop (mkF m 39 #[.val (.int p1), .val (.int p2), .val (.int v5)] [])) (fun t k => XS.istoreN X0.here hx rfl (hb hby d1_38) rfl (l' := #[.val (.int p1), .val (.int p2), .val (.int v5)]) rfl k) ?_
    refine own_st (S' := s₁.setTop (mkF m 40 #[.val (.int p1), .val (.int p2), .val (.int v5)] [(.int v5)])) (fun t k => XS.iloadN X0.here hx rfl (hb hby d1_39) rfl k) ?_
    refine own_retI X0 hx hret hlk (hb hby d1_40) ?_ (by decide) (by decide)
    rw [e0]
    refine ⟨?_, N0, rfl⟩
    unfold own_term
    rw [if_neg hc1]
    subst_vars
    rfl
theorem pd0_0 : parseMethodDescriptor "(IB)I" = some ⟨[.int, .byte], some .int⟩ := by decide +kernel
theorem pn0 : plainName "com/example/tokenwise/tokenwise/semantics/StateCodecTermPinLaw" = true := by first | (simp [plainName, overriddenIn]; done) | decide +kernel
theorem ef0 (m : MethodId) (p0 : Int32) (p1 : Int32) (p2 : Int32) (p3 : Int32) (p4 : Int32) : entryFrame m #[(.int p0), (.int p1), (.int p2), (.int p3), (.int p4)] maxLocals = mkF m 0 #[.val (.int p0), .val (.int p1), .val (.int p2), .val (.int p3), .val (.int p4), .unset, .unset, .unset, .unset, .unset, .unset, .unset, .unset] [] := by first | (simp [entryFrame, mkF, argsToLocals, Value.category, maxLocals]; done) | rfl
def Q0 (n0 : Nat) (v : Option Value) (h : Heap) (L : List Loc) : Prop := v = some (.int 1) ∧ Fr n0 L
set_option maxRecDepth 65536 in
set_option maxHeartbeats 40000000 in
theorem rm0 (l : Launch) (Z : State) (a0 : Array Value) (hw : ∀ d ∈ tables_1, d.before a0 Z = true) (ws : List Jvm.Cond) (p0 : Int32) (p1 : Int32) (p2 : Int32) (p3 : Int32) (p4 : Int32) (h0 : Heap) (n0 : Nat) (Z0 : n0 ≤ h0.size)  :
    MetFree l x (head1 (Jvm.Cond.code x code maxLocals ret :: ws) room_1) (fun as' U => as' = #[(.int p0), (.int p1), (.int p2), (.int p3), (.int p4)] ∧ Z.Warmed39 U.vm ∧ U.heap = h0) (fun _ _ _ _ _ => True) (fun _ U o U' => ∃ v L, o = .returned v ∧ Q0 n0 v U'.heap L ∧ FrameEnd U o U' L room_1.cells room_1.slots) := by
  refine own_body (plainFor_of_name pn0) ?_
  intro p e s m below meth c s₁ hx hby hml hown0 hnm hret hlk hZ X0 e0
  have hown : s.vm.findClass "com/example/tokenwise/tokenwise/semantics/StateCodecTermPinLaw" = some m.cls := hown0
  have N0 := Fr.nil n0
  rw [ef0]
  show own_Go p.tables e below _ (s₁.setTop (mkF m 0 #[.val (.int p0), .val (.int p1), .val (.int p2), .val (.int p3), .val (.int p4), .unset, .unset, .unset, .unset, .unset, .unset, .unset, .unset] []))
  refine own_st (S' := s₁.setTop (mkF m 1 #[.val (.int p0), .val (.int p1), .val (.int p2), .val (.int p3), .val (.int p4), .unset, .unset, .unset, .unset, .unset, .unset, .unset, .unset] [(.int p1)])) (fun t k => XS.iloadN X0.here hx rfl (hb hby at_0) rfl k) ?_
  refine own_st (S' := s₁.setTop (mkF m 2 #[.val (.int p0), .val (.int p1), .val (.int p2), .val (.int p3), .val (.int p4), .unset, .unset, .unset, .unset, .unset, .unset, .unset, .unset] [(.int p1.toInt8.toInt32)])) (fun t k => XS.i2b X0.here hx rfl (hb hby at_1) rfl k) ?_
  refine own_st (S' := s₁.setTop (mkF m 4 #[.val (.int p0), .val (.int p1), .val (.int p2), .val (.int p3), .val (.int p4), .val (.int p1.toInt8.toInt32), .unset, .unset, .unset, .unset, .unset, .unset, .unset] [])) (fun t k => XS.istore X0.here hx rfl (hb hby at_2) rfl (l' := #[.val (.int p0), .val (.int p1), .val (.int p2), .val (.int p3), .val (.int p4), .val (.int p1.toInt8.toInt32), .unset, .unset, .unset, .unset, .unset, .unset, .unset]) rfl k) ?_
  refine own_st (S' := s₁.setTop (mkF m 6 #[.val (.int p0), .val (.int p1), .val (.int p2), .val (.int p3), .val (.int p4), .val (.int p1.toInt8.toInt32), .unset, .unset, .unset, .unset, .unset, .unset, .unset] [(.int p4)])) (fun t k => XS.iload X0.here hx rfl (hb hby at_4) rfl k) ?_
  refine own_st (S' := s₁.setTop (mkF m 7 #[.val (.int p0), .val (.int p1), .val (.int p2), .val (.int p3), .val (.int p4), .val (.int p1.toInt8.toInt32), .unset, .unset, .unset, .unset, .unset, .unset, .unset] [(.int (4 : Int32)), (.int p4)])) (fun t k => XS.iconst X0.here hx rfl (hb hby at_6) k) ?_
  refine own_st (S' := s₁.setTop (mkF m 8 #[.val (.int p0), .val (.int p1), .val (.int p2), .val (.int p3), .val (.int p4), .val (.int p1.toInt8.toInt32), .unset, .unset, .unset, .unset, .unset, .unset, .unset] [(.int (p4 &&& (4 : Int32)))])) (fun t k => XS.iand X0.here hx rfl (hb hby at_7) rfl k) ?_
  obtain ⟨v1, qv1⟩ : ∃ z : Int32, z = (if (p4 &&& (4 : Int32)) = (0 : Int32) then p2.toInt8.toInt32 else p1.toInt8.toInt32) := ⟨_, rfl⟩
  refine own_st (S' := s₁.setTop (mkF m 18 #[.val (.int p0), .val (.int p1), .val (.int p2), .val (.int p3), .val (.int p4), .val (.int p1.toInt8.toInt32), .unset, .unset, .unset, .unset, .unset, .unset, .unset] [(.int v1)])) (fun t k => ?_) ?_
  · show Steps p.tables e below (s₁.setTop (mkF m 8 #[.val (.int p0), .val (.int p1), .val (.int p2), .val (.int p3), .val (.int p4), .val (.int p1.toInt8.toInt32), .unset, .unset, .unset, .unset, .unset, .unset, .unset] [(.int (p4 &&& (4 : Int32)))])) _
    by_cases hc2 : (p4 &&& (4 : Int32)) = (0 : Int32)
    · rw [if_pos hc2] at qv1
      replace qv1 := Eq.symm qv1
      subst qv1
      refine XS.ifYes X0.here hx rfl (pc0 := 8) (pc' := 16) rfl (hb hby at_8) rfl ((if0 _ _).trans (teq hc2).1) (by decide) (by decide) ?_
      show Steps p.tables e below (s₁.setTop (mkF m 16 #[.val (.int p0), .val (.int p1), .val (.int p2), .val (.int p3), .val (.int p4), .val (.int p1.toInt8.toInt32), .unset, .unset, .unset, .unset, .unset, .unset, .unset] [])) _
      refine XS.iloadN X0.here hx rfl (hb hby at_16) rfl ?_
      show Steps p.tables e below (s₁.setTop (mkF m 17 #[.val (.int p0), .val (.int p1), .val (.int p2), .val (.int p3), .val (.int p4), .val (.int p1.toInt8.toInt32), .unset, .unset, .unset, .unset, .unset, .unset, .unset] [(.int p2)])) _
      refine XS.i2b X0.here hx rfl (hb hby at_17) rfl ?_
      show Steps p.tables e below (s₁.setTop (mkF m 18 #[.val (.int p0), .val (.int p1), .val (.int p2), .val (.int p3), .val (.int p4), .val (.int p1.toInt8.toInt32), .unset, .unset, .unset, .unset, .unset, .unset, .unset] [(.int p2.toInt8.toInt32)])) _
      exact k
    · rw [if_neg hc2] at qv1
      replace qv1 := Eq.symm qv1
      subst qv1
      refine XS.ifNo X0.here hx rfl (hb hby at_8) rfl ((if0 _ _).trans (feq hc2).1) ?_
      show Steps p.tables e below (s₁.setTop (mkF m 11 #[.val (.int p0), .val (.int p1), .val (.int p2), .val (.int p3), .val (.int p4), .val (.int p1.toInt8.toInt32), .unset, .unset, .unset, .unset, .unset, .unset, .unset] [])) _
      refine XS.iload X0.here hx rfl (hb hby at_11) rfl ?_
      show Steps p.tables e below (s₁.setTop (mkF m 13 #[.val (.int p0), .val (.int p1), .val (.int p2), .val (.int p3), .val (.int p4), .val (.int p1.toInt8.toInt32), .unset, .unset, .unset, .unset, .unset, .unset, .unset] [(.int p1.toInt8.toInt32)])) _
      refine XS.goto X0.here hx rfl (pc0 := 13) (pc' := 18) rfl (hb hby at_13) (by decide) (by decide) ?_
      show Steps p.tables e below (s₁.setTop (mkF m 18 #[.val (.int p0), .val (.int p1), .val (.int p2), .val (.int p3), .val (.int p4), .val (.int p1.toInt8.toInt32), .unset, .unset, .unset, .unset, .unset, .unset, .unset] [(.int p1.toInt8.toInt32)])) _
      exact k
  show own_Go p.tables e below _ (s₁.setTop (mkF m 18 #[.val (.int p0), .val (.int p1), .val (.int p2), .val (.int p3), .val (.int p4), .val (.int p1.toInt8.toInt32), .unset, .unset, .unset, .unset, .unset, .unset, .unset] [(.int v1)]))
  refine own_st (S' := s₁.setTop (mkF m 20 #[.val (.int p0), .val (.int p1), .val (.int p2), .val (.int p3), .val (.int p4), .val (.int p1.toInt8.toInt32), .val (.int v1), .unset, .unset, .unset, .unset, .unset, .unset] [])) (fun t k => XS.istore X0.here hx rfl (hb hby at_18) rfl (l' := #[.val (.int p0), .val (.int p1), .val (.int p2), .val (.int p3), .val (.int p4), .val (.int p1.toInt8.toInt32), .val (.int v1), .unset, .unset, .unset, .unset, .unset, .unset]) rfl k) ?_
  refine own_st (S' := s₁.setTop (mkF m 22 #[.val (.int p0), .val (.int p1), .val (.int p2), .val (.int p3), .val (.int p4), .val (.int p1.toInt8.toInt32), .val (.int v1), .unset, .unset, .unset, .unset, .unset, .unset] [(.int p4)])) (fun t k => XS.iload X0.here hx rfl (hb hby at_20) rfl k) ?_
  refine own_st (S' := s₁.setTop (mkF m 23 #[.val (.int p0), .val (.int p1), .val (.int p2), .val (.int p3), .val (.int p4), .val (.int p1.toInt8.toInt32), .val (.int v1), .unset, .unset, .unset, .unset, .unset, .unset] [(.int (3 : Int32)), (.int p4)])) (fun t k => XS.iconst X0.here hx rfl (hb hby at_22) k) ?_
  refine own_st (S' := s₁.setTop (mkF m 24 #[.val (.int p0), .val (.int p1), .val (.int p2), .val (.int p3), .val (.int p4), .val (.int p1.toInt8.toInt32), .val (.int v1), .unset, .unset, .unset, .unset, .unset, .unset] [(.int (p4 &&& (3 : Int32)))])) (fun t k => XS.iand X0.here hx rfl (hb hby at_23) rfl k) ?_
  obtain ⟨v3, qv3⟩ : ∃ z : Int32, z = (p4 &&& (3 : Int32)) := ⟨_, rfl⟩
  show own_Go p.tables e below _ (s₁.setTop (mkF m 24 #[.val (.int p0), .val (.int p1), .val (.int p2), .val (.int p3), .val (.int p4), .val (.int p1.toInt8.toInt32), .val (.int v1), .unset, .unset, .unset, .unset, .unset, .unset] [(.int (p4 &&& (3 : Int32)))]))
  rw [← qv3]
  refine own_st (S' := s₁.setTop (mkF m 26 #[.val (.int p0), .val (.int p1), .val (.int p2), .val (.int p3), .val (.int p4), .val (.int p1.toInt8.toInt32), .val (.int v1), .val (.int v3), .unset, .unset, .unset, .unset, .unset] [])) (fun t k => XS.istore X0.here hx rfl (hb hby at_24) rfl (l' := #[.val (.int p0), .val (.int p1), .val (.int p2), .val (.int p3), .val (.int p4), .val (.int p1.toInt8.toInt32), .val (.int v1), .val (.int v3), .unset, .unset, .unset, .unset, .unset]) rfl k) ?_
  refine own_st (S' := s₁.setTop (mkF m 28 #[.val (.int p0), .val (.int p1), .val (.int p2), .val (.int p3), .val (.int p4), .val (.int p1.toInt8.toInt32), .val (.int v1), .val (.int v3), .unset, .unset, .unset, .unset, .unset] [(.int v3)])) (fun t k => XS.iload X0.here hx rfl (hb hby at_26) rfl k) ?_
  obtain ⟨v4, qv4⟩ : ∃ z : Int32, z = (if v3 = (0 : Int32) then p0 else (if v3 = (1 : Int32) then (p0 + (p3 <<< ((24 : Int32) &&& 31))) else (if v3 = (2 : Int32) then (p0 ^^^ (p3 &&& (255 : Int32))) else p3))) := ⟨_, rfl⟩
  refine own_st (S' := s₁.setTop (mkF m 75 #[.val (.int p0), .val (.int p1), .val (.int p2), .val (.int p3), .val (.int p4), .val (.int p1.toInt8.toInt32), .val (.int v1), .val (.int v3), .val (.int v4), .unset, .unset, .unset, .unset] [])) (fun t k => ?_) ?_
  · show Steps p.tables e below (s₁.setTop (mkF m 28 #[.val (.int p0), .val (.int p1), .val (.int p2), .val (.int p3), .val (.int p4), .val (.int p1.toInt8.toInt32), .val (.int v1), .val (.int v3), .unset, .unset, .unset, .unset, .unset] [(.int v3)])) _
    by_cases hc5 : v3 = (0 : Int32)
    · rw [if_pos hc5] at qv4
      replace qv4 := Eq.symm qv4
      subst qv4
      refine XS.ifNo X0.here hx rfl (hb hby at_28) rfl ((if0 _ _).trans (teq hc5).2) ?_
      show Steps p.tables e below (s₁.setTop (mkF m 31 #[.val (.int p0), .val (.int p1), .val (.int p2), .val (.int p3), .val (.int p4), .val (.int p1.toInt8.toInt32), .val (.int v1), .val (.int v3), .unset, .unset, .unset, .unset, .unset] [])) _
      refine XS.iloadN X0.here hx rfl (hb hby at_31) rfl ?_
      show Steps p.tables e below (s₁.setTop (mkF m 32 #[.val (.int p0), .val (.int p1), .val (.int p2), .val (.int p3), .val (.int p4), .val (.int p1.toInt8.toInt32), .val (.int v1), .val (.int v3), .unset, .unset, .unset, .unset, .unset] [(.int p0)])) _
      refine XS.istore X0.here hx rfl (hb hby at_32) rfl (l' := #[.val (.int p0), .val (.int p1), .val (.int p2), .val (.int p3), .val (.int p4), .val (.int p1.toInt8.toInt32), .val (.int v1), .val (.int v3), .val (.int p0), .unset, .unset, .unset, .unset]) rfl ?_
      show Steps p.tables e below (s₁.setTop (mkF m 34 #[.val (.int p0), .val (.int p1), .val (.int p2), .val (.int p3), .val (.int p4), .val (.int p1.toInt8.toInt32), .val (.int v1), .val (.int v3), .val (.int p0), .unset, .unset, .unset, .unset] [])) _
      refine XS.goto X0.here hx rfl (pc0 := 34) (pc' := 75) rfl (hb hby at_34) (by decide) (by decide) ?_
      show Steps p.tables e below (s₁.setTop (mkF m 75 #[.val (.int p0), .val (.int p1), .val (.int p2), .val (.int p3), .val (.int p4), .val (.int p1.toInt8.toInt32), .val (.int v1), .val (.int v3), .val (.int p0), .unset, .unset, .unset, .unset] [])) _
      exact k
    · rw [if_neg hc5] at qv4
      refine XS.ifYes X0.here hx rfl (pc0 := 28) (pc' := 37) rfl (hb hby at_28) rfl ((if0 _ _).trans (feq hc5).2) (by decide) (by decide) ?_
      show Steps p.tables e below (s₁.setTop (mkF m 37 #[.val (.int p0), .val (.int p1), .val (.int p2), .val (.int p3), .val (.int p4), .val (.int p1.toInt8.toInt32), .val (.int v1), .val (.int v3), .unset, .unset, .unset, .unset, .unset] [])) _
      refine XS.iload X0.here hx rfl (hb hby at_37) rfl ?_
      show Steps p.tables e below (s₁.setTop (mkF m 39 #[.val (.int p0), .val (.int p1), .val (.int p2), .val (.int p3), .val (.int p4), .val (.int p1.toInt8.toInt32), .val (.int v1), .val (.int v3), .unset, .unset, .unset, .unset, .unset] [(.int v3)])) _
      refine XS.iconst X0.here hx rfl (hb hby at_39) ?_
      show Steps p.tables e below (s₁.setTop (mkF m 40 #[.val (.int p0), .val (.int p1), .val (.int p2), .val (.int p3), .val (.int p4), .val (.int p1.toInt8.toInt32), .val (.int v1), .val (.int v3), .unset, .unset, .unset, .unset, .unset] [(.int (1 : Int32)), (.int v3)])) _
      by_cases hc6 : v3 = (1 : Int32)
      · rw [if_pos hc6] at qv4
        replace qv4 := Eq.symm qv4
        subst qv4
        refine XS.icmpNo X0.here hx rfl (hb hby at_40) rfl (teq hc6).2 ?_
        show Steps p.tables e below (s₁.setTop (mkF m 43 #[.val (.int p0), .val (.int p1), .val (.int p2), .val (.int p3), .val (.int p4), .val (.int p1.toInt8.toInt32), .val (.int v1), .val (.int v3), .unset, .unset, .unset, .unset, .unset] [])) _
        refine XS.iloadN X0.here hx rfl (hb hby at_43) rfl ?_
        show Steps p.tables e below (s₁.setTop (mkF m 44 #[.val (.int p0), .val (.int p1), .val (.int p2), .val (.int p3), .val (.int p4), .val (.int p1.toInt8.toInt32), .val (.int v1), .val (.int v3), .unset, .unset, .unset, .unset, .unset] [(.int p0)])) _
        refine XS.iloadN X0.here hx rfl (hb hby at_44) rfl ?_
        show Steps p.tables e below (s₁.setTop (mkF m 45 #[.val (.int p0), .val (.int p1), .val (.int p2), .val (.int p3), .val (.int p4), .val (.int p1.toInt8.toInt32), .val (.int v1), .val (.int v3), .unset, .unset, .unset, .unset, .unset] [(.int p3), (.int p0)])) _
        refine XS.bipush X0.here hx rfl (hb hby at_45) ?_
        show Steps p.tables e below (s₁.setTop (mkF m 47 #[.val (.int p0), .val (.int p1), .val (.int p2), .val (.int p3), .val (.int p4), .val (.int p1.toInt8.toInt32), .val (.int v1), .val (.int v3), .unset, .unset, .unset, .unset, .unset] [(.int (24 : Int32)), (.int p3), (.int p0)])) _
        refine XS.ishl X0.here hx rfl (hb hby at_47) rfl ?_
        show Steps p.tables e below (s₁.setTop (mkF m 48 #[.val (.int p0), .val (.int p1), .val (.int p2), .val (.int p3), .val (.int p4), .val (.int p1.toInt8.toInt32), .val (.int v1), .val (.int v3), .unset, .unset, .unset, .unset, .unset] [(.int (p3 <<< ((24 : Int32) &&& 31))), (.int p0)])) _
        refine XS.iadd X0.here hx rfl (hb hby at_48) rfl ?_
        show Steps p.tables e below (s₁.setTop (mkF m 49 #[.val (.int p0), .val (.int p1), .val (.int p2), .val (.int p3), .val (.int p4), .val (.int p1.toInt8.toInt32), .val (.int v1), .val (.int v3), .unset, .unset, .unset, .unset, .unset] [(.int (p0 + (p3 <<< ((24 : Int32) &&& 31))))])) _
        refine XS.istore X0.here hx rfl (hb hby at_49) rfl (l' := #[.val (.int p0), .val (.int p1), .val (.int p2), .val (.int p3), .val (.int p4), .val (.int p1.toInt8.toInt32), .val (.int v1), .val (.int v3), .val (.int (p0 + (p3 <<< ((24 : Int32) &&& 31)))), .unset, .unset, .unset, .unset]) rfl ?_
        show Steps p.tables e below (s₁.setTop (mkF m 51 #[.val (.int p0), .val (.int p1), .val (.int p2), .val (.int p3), .val (.int p4), .val (.int p1.toInt8.toInt32), .val (.int v1), .val (.int v3), .val (.int (p0 + (p3 <<< ((24 : Int32) &&& 31)))), .unset, .unset, .unset, .unset] [])) _
        refine XS.goto X0.here hx rfl (pc0 := 51) (pc' := 75) rfl (hb hby at_51) (by decide) (by decide) ?_
        show Steps p.tables e below (s₁.setTop (mkF m 75 #[.val (.int p0), .val (.int p1), .val (.int p2), .val (.int p3), .val (.int p4), .val (.int p1.toInt8.toInt32), .val (.int v1), .val (.int v3), .val (.int (p0 + (p3 <<< ((24 : Int32) &&& 31)))), .unset, .unset, .unset, .unset] [])) _
        exact k
      · rw [if_neg hc6] at qv4
        refine XS.icmpYes X0.here hx rfl (pc0 := 40) (pc' := 54) rfl (hb hby at_40) rfl (feq hc6).2 (by decide) (by decide) ?_
        show Steps p.tables e below (s₁.setTop (mkF m 54 #[.val (.int p0), .val (.int p1), .val (.int p2), .val (.int p3), .val (.int p4), .val (.int p1.toInt8.toInt32), .val (.int v1), .val (.int v3), .unset, .unset, .unset, .unset, .unset] [])) _
        refine XS.iload X0.here hx rfl (hb hby at_54) rfl ?_
        show Steps p.tables e below (s₁.setTop (mkF m 56 #[.val (.int p0), .val (.int p1), .val (.int p2), .val (.int p3), .val (.int p4), .val (.int p1.toInt8.toInt32), .val (.int v1), .val (.int v3), .unset, .unset, .unset, .unset, .unset] [(.int v3)])) _
        refine XS.iconst X0.here hx rfl (hb hby at_56) ?_
        show Steps p.tables e below (s₁.setTop (mkF m 57 #[.val (.int p0), .val (.int p1), .val (.int p2), .val (.int p3), .val (.int p4), .val (.int p1.toInt8.toInt32), .val (.int v1), .val (.int v3), .unset, .unset, .unset, .unset, .unset] [(.int (2 : Int32)), (.int v3)])) _
        by_cases hc7 : v3 = (2 : Int32)
        · rw [if_pos hc7] at qv4
          replace qv4 := Eq.symm qv4
          subst qv4
          refine XS.icmpNo X0.here hx rfl (hb hby at_57) rfl (teq hc7).2 ?_
          show Steps p.tables e below (s₁.setTop (mkF m 60 #[.val (.int p0), .val (.int p1), .val (.int p2), .val (.int p3), .val (.int p4), .val (.int p1.toInt8.toInt32), .val (.int v1), .val (.int v3), .unset, .unset, .unset, .unset, .unset] [])) _
          refine XS.iloadN X0.here hx rfl (hb hby at_60) rfl ?_
          show Steps p.tables e below (s₁.setTop (mkF m 61 #[.val (.int p0), .val (.int p1), .val (.int p2), .val (.int p3), .val (.int p4), .val (.int p1.toInt8.toInt32), .val (.int v1), .val (.int v3), .unset, .unset, .unset, .unset, .unset] [(.int p0)])) _
          refine XS.iloadN X0.here hx rfl (hb hby at_61) rfl ?_
          show Steps p.tables e below (s₁.setTop (mkF m 62 #[.val (.int p0), .val (.int p1), .val (.int p2), .val (.int p3), .val (.int p4), .val (.int p1.toInt8.toInt32), .val (.int v1), .val (.int v3), .unset, .unset, .unset, .unset, .unset] [(.int p3), (.int p0)])) _
          refine XS.sipush X0.here hx rfl (hb hby at_62) ?_
          show Steps p.tables e below (s₁.setTop (mkF m 65 #[.val (.int p0), .val (.int p1), .val (.int p2), .val (.int p3), .val (.int p4), .val (.int p1.toInt8.toInt32), .val (.int v1), .val (.int v3), .unset, .unset, .unset, .unset, .unset] [(.int (255 : Int32)), (.int p3), (.int p0)])) _
          refine XS.iand X0.here hx rfl (hb hby at_65) rfl ?_
          show Steps p.tables e below (s₁.setTop (mkF m 66 #[.val (.int p0), .val (.int p1), .val (.int p2), .val (.int p3), .val (.int p4), .val (.int p1.toInt8.toInt32), .val (.int v1), .val (.int v3), .unset, .unset, .unset, .unset, .unset] [(.int (p3 &&& (255 : Int32))), (.int p0)])) _
          refine XS.ixor X0.here hx rfl (hb hby at_66) rfl ?_
          show Steps p.tables e below (s₁.setTop (mkF m 67 #[.val (.int p0), .val (.int p1), .val (.int p2), .val (.int p3), .val (.int p4), .val (.int p1.toInt8.toInt32), .val (.int v1), .val (.int v3), .unset, .unset, .unset, .unset, .unset] [(.int (p0 ^^^ (p3 &&& (255 : Int32))))])) _
          refine XS.istore X0.here hx rfl (hb hby at_67) rfl (l' := #[.val (.int p0), .val (.int p1), .val (.int p2), .val (.int p3), .val (.int p4), .val (.int p1.toInt8.toInt32), .val (.int v1), .val (.int v3), .val (.int (p0 ^^^ (p3 &&& (255 : Int32)))), .unset, .unset, .unset, .unset]) rfl ?_
          show Steps p.tables e below (s₁.setTop (mkF m 69 #[.val (.int p0), .val (.int p1), .val (.int p2), .val (.int p3), .val (.int p4), .val (.int p1.toInt8.toInt32), .val (.int v1), .val (.int v3), .val (.int (p0 ^^^ (p3 &&& (255 : Int32)))), .unset, .unset, .unset, .unset] [])) _
          refine XS.goto X0.here hx rfl (pc0 := 69) (pc' := 75) rfl (hb hby at_69) (by decide) (by decide) ?_
          show Steps p.tables e below (s₁.setTop (mkF m 75 #[.val (.int p0), .val (.int p1), .val (.int p2), .val (.int p3), .val (.int p4), .val (.int p1.toInt8.toInt32), .val (.int v1), .val (.int v3), .val (.int (p0 ^^^ (p3 &&& (255 : Int32)))), .unset, .unset, .unset, .unset] [])) _
          exact k
        · rw [if_neg hc7] at qv4
          replace qv4 := Eq.symm qv4
          subst qv4
          refine XS.icmpYes X0.here hx rfl (pc0 := 57) (pc' := 72) rfl (hb hby at_57) rfl (feq hc7).2 (by decide) (by decide) ?_
          show Steps p.tables e below (s₁.setTop (mkF m 72 #[.val (.int p0), .val (.int p1), .val (.int p2), .val (.int p3), .val (.int p4), .val (.int p1.toInt8.toInt32), .val (.int v1), .val (.int v3), .unset, .unset, .unset, .unset, .unset] [])) _
          refine XS.iloadN X0.here hx rfl (hb hby at_72) rfl ?_
          show Steps p.tables e below (s₁.setTop (mkF m 73 #[.val (.int p0), .val (.int p1), .val (.int p2), .val (.int p3), .val (.int p4), .val (.int p1.toInt8.toInt32), .val (.int v1), .val (.int v3), .unset, .unset, .unset, .unset, .unset] [(.int p3)])) _
          refine XS.istore X0.here hx rfl (hb hby at_73) rfl (l' := #[.val (.int p0), .val (.int p1), .val (.int p2), .val (.int p3), .val (.int p4), .val (.int p1.toInt8.toInt32), .val (.int v1), .val (.int v3), .val (.int p3), .unset, .unset, .unset, .unset]) rfl ?_
          show Steps p.tables e below (s₁.setTop (mkF m 75 #[.val (.int p0), .val (.int p1), .val (.int p2), .val (.int p3), .val (.int p4), .val (.int p1.toInt8.toInt32), .val (.int v1), .val (.int v3), .val (.int p3), .unset, .unset, .unset, .unset] [])) _
          exact k
  show own_Go p.tables e below _ (s₁.setTop (mkF m 75 #[.val (.int p0), .val (.int p1), .val (.int p2), .val (.int p3), .val (.int p4), .val (.int p1.toInt8.toInt32), .val (.int v1), .val (.int v3), .val (.int v4), .unset, .unset, .unset, .unset] []))
  refine own_st (S' := s₁.setTop (mkF m 76 #[.val (.int p0), .val (.int p1), .val (.int p2), .val (.int p3), .val (.int p4), .val (.int p1.toInt8.toInt32), .val (.int v1), .val (.int v3), .val (.int v4), .unset, .unset, .unset, .unset] [(.int p0)])) (fun t k => XS.iloadN X0.here hx rfl (hb hby at_75) rfl k) ?_
  refine own_st (S' := s₁.setTop (mkF m 78 #[.val (.int p0), .val (.int p1), .val (.int p2), .val (.int p3), .val (.int p4), .val (.int p1.toInt8.toInt32), .val (.int v1), .val (.int v3), .val (.int v4), .unset, .unset, .unset, .unset] [(.int p1.toInt8.toInt32), (.int p0)])) (fun t k => XS.iload X0.here hx rfl (hb hby at_76) rfl k) ?_
  obtain ⟨_, _, ⟨T8, L8, k8, n8⟩, -, X8, ⟨Lc8, hQ8, l8, y8, z8⟩, st8⟩ := Jvm.LawKit.callS X0 hx (y := (⟨"com/example/tokenwise/tokenwise/semantics/StateCodec", "term", "(IB)I"⟩ : MethodName)) hown (mvT hZ (hw _ (List.mem_of_getElem? (i := 0) rfl))) (mvT hZ (hw _ (List.mem_of_getElem? (i := 1) rfl))) (mvT hZ (hw _ (List.mem_of_getElem? (i := 2) rfl))) (mvT hZ (hw _ (List.mem_of_getElem? (i := 3) rfl))) (by decide) (backOf (W := 0) (rm1 l Z a0 hw [] p0 p1.toInt8.toInt32 h0 n0 Z0 ) hZ (hw _ (List.mem_of_getElem? (i := 3) rfl)) (hw _ (List.mem_of_getElem? (i := 2) rfl)) (by decide) (by decide)) (g := (mkF m 78 #[.val (.int p0), .val (.int p1), .val (.int p2), .val (.int p3), .val (.int p4), .val (.int p1.toInt8.toInt32), .val (.int v1), .val (.int v3), .val (.int v4), .unset, .unset, .unset, .unset] [(.int p1.toInt8.toInt32), (.int p0)])) rfl (by rw [hml]; rfl) (argsL := [(.int p0), (.int p1.toInt8.toInt32)]) (rest := []) (lenOf pd0_0 rfl) rfl (by show 2 * 0 + _ ≤ _; exact Nat.le_of_eq rfl) (hb hby at_78) (fun _ _ => ⟨rfl, e0, (by decide : 0 + 0 ≤ _), (by decide : 0 + 0 ≤ _)⟩)
  dsimp only [Pt.U, Pt.locs, Pt.cells, Pt.slots] at X8 l8 y8 z8 st8 hQ8
  subst l8 y8 z8
  obtain ⟨rfl, N8q, hh8⟩ := hQ8
  have N8 := Fr.app N0 N8q
  refine own_st st8 ?_
  show own_Go p.tables e below _ (T8.setTop (mkF m 81 #[.val (.int p0), .val (.int p1), .val (.int p2), .val (.int p3), .val (.int p4), .val (.int p1.toInt8.toInt32), .val (.int v1), .val (.int v3), .val (.int v4), .unset, .unset, .unset, .unset] [(.int (own_term p0 p1.toInt8.toInt32))]))
  obtain ⟨v9, qv9⟩ : ∃ z : Int32, z = (own_term p0 p1.toInt8.toInt32) := ⟨_, rfl⟩
  rw [← qv9]
  refine own_st (S' := T8.setTop (mkF m 83 #[.val (.int p0), .val (.int p1), .val (.int p2), .val (.int p3), .val (.int p4), .val (.int p1.toInt8.toInt32), .val (.int v1), .val (.int v3), .val (.int v4), .val (.int v9), .unset, .unset, .unset] [])) (fun t k => XS.istore X8.here hx rfl (hb hby at_81) rfl (l' := #[.val (.int p0), .val (.int p1), .val (.int p2), .val (.int p3), .val (.int p4), .val (.int p1.toInt8.toInt32), .val (.int v1), .val (.int v3), .val (.int v4), .val (.int v9), .unset, .unset, .unset]) rfl k) ?_
  refine own_st (S' := T8.setTop (mkF m 85 #[.val (.int p0), .val (.int p1), .val (.int p2), .val (.int p3), .val (.int p4), .val (.int p1.toInt8.toInt32), .val (.int v1), .val (.int v3), .val (.int v4), .val (.int v9), .unset, .unset, .unset] [(.int v4)])) (fun t k => XS.iload X8.here hx rfl (hb hby at_83) rfl k) ?_
  refine own_st (S' := T8.setTop (mkF m 87 #[.val (.int p0), .val (.int p1), .val (.int p2), .val (.int p3), .val (.int p4), .val (.int p1.toInt8.toInt32), .val (.int v1), .val (.int v3), .val (.int v4), .val (.int v9), .unset, .unset, .unset] [(.int v1), (.int v4)])) (fun t k => XS.iload X8.here hx rfl (hb hby at_85) rfl k) ?_
  obtain ⟨_, _, ⟨T10, L10, k10, n10⟩, -, X10, ⟨Lc10, hQ10, l10, y10, z10⟩, st10⟩ := Jvm.LawKit.callS X8 hx (y := (⟨"com/example/tokenwise/tokenwise/semantics/StateCodec", "term", "(IB)I"⟩ : MethodName)) hown (mvT hZ (hw _ (List.mem_of_getElem? (i := 0) rfl))) (mvT hZ (hw _ (List.mem_of_getElem? (i := 1) rfl))) (mvT hZ (hw _ (List.mem_of_getElem? (i := 2) rfl))) (mvT hZ (hw _ (List.mem_of_getElem? (i := 3) rfl))) (by decide) (backOf (W := 0) (rm1 l Z a0 hw [] v4 v1 h0 n0 Z0 ) hZ (hw _ (List.mem_of_getElem? (i := 3) rfl)) (hw _ (List.mem_of_getElem? (i := 2) rfl)) (by decide) (by decide)) (g := (mkF m 87 #[.val (.int p0), .val (.int p1), .val (.int p2), .val (.int p3), .val (.int p4), .val (.int p1.toInt8.toInt32), .val (.int v1), .val (.int v3), .val (.int v4), .val (.int v9), .unset, .unset, .unset] [(.int v1), (.int v4)])) rfl (by rw [hml]; rfl) (argsL := [(.int v4), (.int v1)]) (rest := []) (lenOf pd0_0 rfl) rfl (by show 2 * 0 + _ ≤ _; exact Nat.le_of_eq rfl) (hb hby at_87) (fun _ _ => ⟨rfl, hh8, (by decide : 0 + 0 ≤ _), (by decide : 0 + 0 ≤ _)⟩)
  dsimp only [Pt.U, Pt.locs, Pt.cells, Pt.slots] at X10 l10 y10 z10 st10 hQ10
  subst l10 y10 z10
  obtain ⟨rfl, N10q, hh10⟩ := hQ10
  have N10 := Fr.app N8 N10q
  refine own_st st10 ?_
  show own_Go p.tables e below _ (T10.setTop (mkF m 90 #[.val (.int p0), .val (.int p1), .val (.int p2), .val (.int p3), .val (.int p4), .val (.int p1.toInt8.toInt32), .val (.int v1), .val (.int v3), .val (.int v4), .val (.int v9), .unset, .unset, .unset] [(.int (own_term v4 v1))]))
  obtain ⟨v11, qv11⟩ : ∃ z : Int32, z = (own_term v4 v1) := ⟨_, rfl⟩
  rw [← qv11]
  refine own_st (S' := T10.setTop (mkF m 92 #[.val (.int p0), .val (.int p1), .val (.int p2), .val (.int p3), .val (.int p4), .val (.int p1.toInt8.toInt32), .val (.int v1), .val (.int v3), .val (.int v4), .val (.int v9), .val (.int v11), .unset, .unset] [])) (fun t k => XS.istore X10.here hx rfl (hb hby at_90) rfl (l' := #[.val (.int p0), .val (.int p1), .val (.int p2), .val (.int p3), .val (.int p4), .val (.int p1.toInt8.toInt32), .val (.int v1), .val (.int v3), .val (.int v4), .val (.int v9), .val (.int v11), .unset, .unset]) rfl k) ?_
  refine own_st (S' := T10.setTop (mkF m 94 #[.val (.int p0), .val (.int p1), .val (.int p2), .val (.int p3), .val (.int p4), .val (.int p1.toInt8.toInt32), .val (.int v1), .val (.int v3), .val (.int v4), .val (.int v9), .val (.int v11), .unset, .unset] [(.int v9)])) (fun t k => XS.iload X10.here hx rfl (hb hby at_92) rfl k) ?_
  obtain ⟨v12, qv12⟩ : ∃ z : Int32, z = (if v9 = (0 : Int32) then (1 : Int32) else (0 : Int32)) := ⟨_, rfl⟩
  refine own_st (S' := T10.setTop (mkF m 102 #[.val (.int p0), .val (.int p1), .val (.int p2), .val (.int p3), .val (.int p4), .val (.int p1.toInt8.toInt32), .val (.int v1), .val (.int v3), .val (.int v4), .val (.int v9), .val (.int v11), .unset, .unset] [(.int v12)])) (fun t k => ?_) ?_
  · show Steps p.tables e below (T10.setTop (mkF m 94 #[.val (.int p0), .val (.int p1), .val (.int p2), .val (.int p3), .val (.int p4), .val (.int p1.toInt8.toInt32), .val (.int v1), .val (.int v3), .val (.int v4), .val (.int v9), .val (.int v11), .unset, .unset] [(.int v9)])) _
    by_cases hc13 : v9 = (0 : Int32)
    · rw [if_pos hc13] at qv12
      replace qv12 := Eq.symm qv12
      subst qv12
      refine XS.ifNo X10.here hx rfl (hb hby at_94) rfl ((if0 _ _).trans (teq hc13).2) ?_
      show Steps p.tables e below (T10.setTop (mkF m 97 #[.val (.int p0), .val (.int p1), .val (.int p2), .val (.int p3), .val (.int p4), .val (.int p1.toInt8.toInt32), .val (.int v1), .val (.int v3), .val (.int v4), .val (.int v9), .val (.int v11), .unset, .unset] [])) _
      refine XS.iconst X10.here hx rfl (hb hby at_97) ?_
      show Steps p.tables e below (T10.setTop (mkF m 98 #[.val (.int p0), .val (.int p1), .val (.int p2), .val (.int p3), .val (.int p4), .val (.int p1.toInt8.toInt32), .val (.int v1), .val (.int v3), .val (.int v4), .val (.int v9), .val (.int v11), .unset, .unset] [(.int (1 : Int32))])) _
      refine XS.goto X10.here hx rfl (pc0 := 98) (pc' := 102) rfl (hb hby at_98) (by decide) (by decide) ?_
      show Steps p.tables e below (T10.setTop (mkF m 102 #[.val (.int p0), .val (.int p1), .val (.int p2), .val (.int p3), .val (.int p4), .val (.int p1.toInt8.toInt32), .val (.int v1), .val (.int v3), .val (.int v4), .val (.int v9), .val (.int v11), .unset, .unset] [(.int (1 : Int32))])) _
      exact k
    · rw [if_neg hc13] at qv12
      replace qv12 := Eq.symm qv12
      subst qv12
      refine XS.ifYes X10.here hx rfl (pc0 := 94) (pc' := 101) rfl (hb hby at_94) rfl ((if0 _ _).trans (feq hc13).2) (by decide) (by decide) ?_
      show Steps p.tables e below (T10.setTop (mkF m 101 #[.val (.int p0), .val (.int p1), .val (.int p2), .val (.int p3), .val (.int p4), .val (.int p1.toInt8.toInt32), .val (.int v1), .val (.int v3), .val (.int v4), .val (.int v9), .val (.int v11), .unset, .unset] [])) _
      refine XS.iconst X10.here hx rfl (hb hby at_101) ?_
      show Steps p.tables e below (T10.setTop (mkF m 102 #[.val (.int p0), .val (.int p1), .val (.int p2), .val (.int p3), .val (.int p4), .val (.int p1.toInt8.toInt32), .val (.int v1), .val (.int v3), .val (.int v4), .val (.int v9), .val (.int v11), .unset, .unset] [(.int (0 : Int32))])) _
      exact k
  show own_Go p.tables e below _ (T10.setTop (mkF m 102 #[.val (.int p0), .val (.int p1), .val (.int p2), .val (.int p3), .val (.int p4), .val (.int p1.toInt8.toInt32), .val (.int v1), .val (.int v3), .val (.int v4), .val (.int v9), .val (.int v11), .unset, .unset] [(.int v12)]))
  refine own_st (S' := T10.setTop (mkF m 104 #[.val (.int p0), .val (.int p1), .val (.int p2), .val (.int p3), .val (.int p4), .val (.int p1.toInt8.toInt32), .val (.int v1), .val (.int v3), .val (.int v4), .val (.int v9), .val (.int v11), .unset, .unset] [(.int p1.toInt8.toInt32), (.int v12)])) (fun t k => XS.iload X10.here hx rfl (hb hby at_102) rfl k) ?_
  obtain ⟨v14, qv14⟩ : ∃ z : Int32, z = (if p1.toInt8.toInt32 = (0 : Int32) then (1 : Int32) else (0 : Int32)) := ⟨_, rfl⟩
  refine own_st (S' := T10.setTop (mkF m 112 #[.val (.int p0), .val (.int p1), .val (.int p2), .val (.int p3), .val (.int p4), .val (.int p1.toInt8.toInt32), .val (.int v1), .val (.int v3), .val (.int v4), .val (.int v9), .val (.int v11), .unset, .unset] [(.int v14), (.int v12)])) (fun t k => ?_) ?_
  · show Steps p.tables e below (T10.setTop (mkF m 104 #[.val (.int p0), .val (.int p1), .val (.int p2), .val (.int p3), .val (.int p4), .val (.int p1.toInt8.toInt32), .val (.int v1), .val (.int v3), .val (.int v4), .val (.int v9), .val (.int v11), .unset, .unset] [(.int p1.toInt8.toInt32), (.int v12)])) _
    by_cases hc15 : p1.toInt8.toInt32 = (0 : Int32)
    · rw [if_pos hc15] at qv14
      replace qv14 := Eq.symm qv14
      subst qv14
      refine XS.ifNo X10.here hx rfl (hb hby at_104) rfl ((if0 _ _).trans (teq hc15).2) ?_
      show Steps p.tables e below (T10.setTop (mkF m 107 #[.val (.int p0), .val (.int p1), .val (.int p2), .val (.int p3), .val (.int p4), .val (.int p1.toInt8.toInt32), .val (.int v1), .val (.int v3), .val (.int v4), .val (.int v9), .val (.int v11), .unset, .unset] [(.int v12)])) _
      refine XS.iconst X10.here hx rfl (hb hby at_107) ?_
      show Steps p.tables e below (T10.setTop (mkF m 108 #[.val (.int p0), .val (.int p1), .val (.int p2), .val (.int p3), .val (.int p4), .val (.int p1.toInt8.toInt32), .val (.int v1), .val (.int v3), .val (.int v4), .val (.int v9), .val (.int v11), .unset, .unset] [(.int (1 : Int32)), (.int v12)])) _
      refine XS.goto X10.here hx rfl (pc0 := 108) (pc' := 112) rfl (hb hby at_108) (by decide) (by decide) ?_
      show Steps p.tables e below (T10.setTop (mkF m 112 #[.val (.int p0), .val (.int p1), .val (.int p2), .val (.int p3), .val (.int p4), .val (.int p1.toInt8.toInt32), .val (.int v1), .val (.int v3), .val (.int v4), .val (.int v9), .val (.int v11), .unset, .unset] [(.int (1 : Int32)), (.int v12)])) _
      exact k
    · rw [if_neg hc15] at qv14
      replace qv14 := Eq.symm qv14
      subst qv14
      refine XS.ifYes X10.here hx rfl (pc0 := 104) (pc' := 111) rfl (hb hby at_104) rfl ((if0 _ _).trans (feq hc15).2) (by decide) (by decide) ?_
      show Steps p.tables e below (T10.setTop (mkF m 111 #[.val (.int p0), .val (.int p1), .val (.int p2), .val (.int p3), .val (.int p4), .val (.int p1.toInt8.toInt32), .val (.int v1), .val (.int v3), .val (.int v4), .val (.int v9), .val (.int v11), .unset, .unset] [(.int v12)])) _
      refine XS.iconst X10.here hx rfl (hb hby at_111) ?_
      show Steps p.tables e below (T10.setTop (mkF m 112 #[.val (.int p0), .val (.int p1), .val (.int p2), .val (.int p3), .val (.int p4), .val (.int p1.toInt8.toInt32), .val (.int v1), .val (.int v3), .val (.int v4), .val (.int v9), .val (.int v11), .unset, .unset] [(.int (0 : Int32)), (.int v12)])) _
      exact k
  show own_Go p.tables e below _ (T10.setTop (mkF m 112 #[.val (.int p0), .val (.int p1), .val (.int p2), .val (.int p3), .val (.int p4), .val (.int p1.toInt8.toInt32), .val (.int v1), .val (.int v3), .val (.int v4), .val (.int v9), .val (.int v11), .unset, .unset] [(.int v14), (.int v12)]))
  obtain ⟨v16, qv16⟩ : ∃ z : Int32, z = (if v12 = v14 then (if v11 = (0 : Int32) then (if v1 = (0 : Int32) then (1 : Int32) else (0 : Int32)) else (if v1 = (0 : Int32) then (0 : Int32) else (1 : Int32))) else (0 : Int32)) := ⟨_, rfl⟩
  refine own_st (S' := T10.setTop (mkF m 143 #[.val (.int p0), .val (.int p1), .val (.int p2), .val (.int p3), .val (.int p4), .val (.int p1.toInt8.toInt32), .val (.int v1), .val (.int v3), .val (.int v4), .val (.int v9), .val (.int v11), .unset, .unset] [(.int v16)])) (fun t k => ?_) ?_
  · show Steps p.tables e below (T10.setTop (mkF m 112 #[.val (.int p0), .val (.int p1), .val (.int p2), .val (.int p3), .val (.int p4), .val (.int p1.toInt8.toInt32), .val (.int v1), .val (.int v3), .val (.int v4), .val (.int v9), .val (.int v11), .unset, .unset] [(.int v14), (.int v12)])) _
    by_cases hc17 : v12 = v14
    · rw [if_pos hc17] at qv16
      refine XS.icmpNo X10.here hx rfl (hb hby at_112) rfl (teq hc17).2 ?_
      show Steps p.tables e below (T10.setTop (mkF m 115 #[.val (.int p0), .val (.int p1), .val (.int p2), .val (.int p3), .val (.int p4), .val (.int p1.toInt8.toInt32), .val (.int v1), .val (.int v3), .val (.int v4), .val (.int v9), .val (.int v11), .unset, .unset] [])) _
      refine XS.iload X10.here hx rfl (hb hby at_115) rfl ?_
      show Steps p.tables e below (T10.setTop (mkF m 117 #[.val (.int p0), .val (.int p1), .val (.int p2), .val (.int p3), .val (.int p4), .val (.int p1.toInt8.toInt32), .val (.int v1), .val (.int v3), .val (.int v4), .val (.int v9), .val (.int v11), .unset, .unset] [(.int v11)])) _
      by_cases hc18 : v11 = (0 : Int32)
      · rw [if_pos hc18] at qv16
        refine XS.ifNo X10.here hx rfl (hb hby at_117) rfl ((if0 _ _).trans (teq hc18).2) ?_
        show Steps p.tables e below (T10.setTop (mkF m 120 #[.val (.int p0), .val (.int p1), .val (.int p2), .val (.int p3), .val (.int p4), .val (.int p1.toInt8.toInt32), .val (.int v1), .val (.int v3), .val (.int v4), .val (.int v9), .val (.int v11), .unset, .unset] [])) _
        refine XS.iconst X10.here hx rfl (hb hby at_120) ?_
        show Steps p.tables e below (T10.setTop (mkF m 121 #[.val (.int p0), .val (.int p1), .val (.int p2), .val (.int p3), .val (.int p4), .val (.int p1.toInt8.toInt32), .val (.int v1), .val (.int v3), .val (.int v4), .val (.int v9), .val (.int v11), .unset, .unset] [(.int (1 : Int32))])) _
        refine XS.goto X10.here hx rfl (pc0 := 121) (pc' := 125) rfl (hb hby at_121) (by decide) (by decide) ?_
        show Steps p.tables e below (T10.setTop (mkF m 125 #[.val (.int p0), .val (.int p1), .val (.int p2), .val (.int p3), .val (.int p4), .val (.int p1.toInt8.toInt32), .val (.int v1), .val (.int v3), .val (.int v4), .val (.int v9), .val (.int v11), .unset, .unset] [(.int (1 : Int32))])) _
        refine XS.iload X10.here hx rfl (hb hby at_125) rfl ?_
        show Steps p.tables e below (T10.setTop (mkF m 127 #[.val (.int p0), .val (.int p1), .val (.int p2), .val (.int p3), .val (.int p4), .val (.int p1.toInt8.toInt32), .val (.int v1), .val (.int v3), .val (.int v4), .val (.int v9), .val (.int v11), .unset, .unset] [(.int v1), (.int (1 : Int32))])) _
        by_cases hc19 : v1 = (0 : Int32)
        · rw [if_pos hc19] at qv16
          replace qv16 := Eq.symm qv16
          subst qv16
          refine XS.ifNo X10.here hx rfl (hb hby at_127) rfl ((if0 _ _).trans (teq hc19).2) ?_
          show Steps p.tables e below (T10.setTop (mkF m 130 #[.val (.int p0), .val (.int p1), .val (.int p2), .val (.int p3), .val (.int p4), .val (.int p1.toInt8.toInt32), .val (.int v1), .val (.int v3), .val (.int v4), .val (.int v9), .val (.int v11), .unset, .unset] [(.int (1 : Int32))])) _
          refine XS.iconst X10.here hx rfl (hb hby at_130) ?_
          show Steps p.tables e below (T10.setTop (mkF m 131 #[.val (.int p0), .val (.int p1), .val (.int p2), .val (.int p3), .val (.int p4), .val (.int p1.toInt8.toInt32), .val (.int v1), .val (.int v3), .val (.int v4), .val (.int v9), .val (.int v11), .unset, .unset] [(.int (1 : Int32)), (.int (1 : Int32))])) _
          refine XS.goto X10.here hx rfl (pc0 := 131) (pc' := 135) rfl (hb hby at_131) (by decide) (by decide) ?_
          show Steps p.tables e below (T10.setTop (mkF m 135 #[.val (.int p0), .val (.int p1), .val (.int p2), .val (.int p3), .val (.int p4), .val (.int p1.toInt8.toInt32), .val (.int v1), .val (.int v3), .val (.int v4), .val (.int v9), .val (.int v11), .unset, .unset] [(.int (1 : Int32)), (.int (1 : Int32))])) _
          refine XS.icmpNo X10.here hx rfl (hb hby at_135) rfl (teq (by decide)).2 ?_
          show Steps p.tables e below (T10.setTop (mkF m 138 #[.val (.int p0), .val (.int p1), .val (.int p2), .val (.int p3), .val (.int p4), .val (.int p1.toInt8.toInt32), .val (.int v1), .val (.int v3), .val (.int v4), .val (.int v9), .val (.int v11), .unset, .unset] [])) _
          refine XS.iconst X10.here hx rfl (hb hby at_138) ?_
          show Steps p.tables e below (T10.setTop (mkF m 139 #[.val (.int p0), .val (.int p1), .val (.int p2), .val (.int p3), .val (.int p4), .val (.int p1.toInt8.toInt32), .val (.int v1), .val (.int v3), .val (.int v4), .val (.int v9), .val (.int v11), .unset, .unset] [(.int (1 : Int32))])) _
          refine XS.goto X10.here hx rfl (pc0 := 139) (pc' := 143) rfl (hb hby at_139) (by decide) (by decide) ?_
          show Steps p.tables e below (T10.setTop (mkF m 143 #[.val (.int p0), .val (.int p1), .val (.int p2), .val (.int p3), .val (.int p4), .val (.int p1.toInt8.toInt32), .val (.int v1), .val (.int v3), .val (.int v4), .val (.int v9), .val (.int v11), .unset, .unset] [(.int (1 : Int32))])) _
          exact k
        · rw [if_neg hc19] at qv16
          replace qv16 := Eq.symm qv16
          subst qv16
          refine XS.ifYes X10.here hx rfl (pc0 := 127) (pc' := 134) rfl (hb hby at_127) rfl ((if0 _ _).trans (feq hc19).2) (by decide) (by decide) ?_
          show Steps p.tables e below (T10.setTop (mkF m 134 #[.val (.int p0), .val (.int p1), .val (.int p2), .val (.int p3), .val (.int p4), .val (.int p1.toInt8.toInt32), .val (.int v1), .val (.int v3), .val (.int v4), .val (.int v9), .val (.int v11), .unset, .unset] [(.int (1 : Int32))])) _
          refine XS.iconst X10.here hx rfl (hb hby at_134) ?_
          show Steps p.tables e below (T10.setTop (mkF m 135 #[.val (.int p0), .val (.int p1), .val (.int p2), .val (.int p3), .val (.int p4), .val (.int p1.toInt8.toInt32), .val (.int v1), .val (.int v3), .val (.int v4), .val (.int v9), .val (.int v11), .unset, .unset] [(.int (0 : Int32)), (.int (1 : Int32))])) _
          refine XS.icmpYes X10.here hx rfl (pc0 := 135) (pc' := 142) rfl (hb hby at_135) rfl (feq (by decide)).2 (by decide) (by decide) ?_
          show Steps p.tables e below (T10.setTop (mkF m 142 #[.val (.int p0), .val (.int p1), .val (.int p2), .val (.int p3), .val (.int p4), .val (.int p1.toInt8.toInt32), .val (.int v1), .val (.int v3), .val (.int v4), .val (.int v9), .val (.int v11), .unset, .unset] [])) _
          refine XS.iconst X10.here hx rfl (hb hby at_142) ?_
          show Steps p.tables e below (T10.setTop (mkF m 143 #[.val (.int p0), .val (.int p1), .val (.int p2), .val (.int p3), .val (.int p4), .val (.int p1.toInt8.toInt32), .val (.int v1), .val (.int v3), .val (.int v4), .val (.int v9), .val (.int v11), .unset, .unset] [(.int (0 : Int32))])) _
          exact k
      · rw [if_neg hc18] at qv16
        refine XS.ifYes X10.here hx rfl (pc0 := 117) (pc' := 124) rfl (hb hby at_117) rfl ((if0 _ _).trans (feq hc18).2) (by decide) (by decide) ?_
        show Steps p.tables e below (T10.setTop (mkF m 124 #[.val (.int p0), .val (.int p1), .val (.int p2), .val (.int p3), .val (.int p4), .val (.int p1.toInt8.toInt32), .val (.int v1), .val (.int v3), .val (.int v4), .val (.int v9), .val (.int v11), .unset, .unset] [])) _
        refine XS.iconst X10.here hx rfl (hb hby at_124) ?_
        show Steps p.tables e below (T10.setTop (mkF m 125 #[.val (.int p0), .val (.int p1), .val (.int p2), .val (.int p3), .val (.int p4), .val (.int p1.toInt8.toInt32), .val (.int v1), .val (.int v3), .val (.int v4), .val (.int v9), .val (.int v11), .unset, .unset] [(.int (0 : Int32))])) _
        refine XS.iload X10.here hx rfl (hb hby at_125) rfl ?_
        show Steps p.tables e below (T10.setTop (mkF m 127 #[.val (.int p0), .val (.int p1), .val (.int p2), .val (.int p3), .val (.int p4), .val (.int p1.toInt8.toInt32), .val (.int v1), .val (.int v3), .val (.int v4), .val (.int v9), .val (.int v11), .unset, .unset] [(.int v1), (.int (0 : Int32))])) _
        by_cases hc20 : v1 = (0 : Int32)
        · rw [if_pos hc20] at qv16
          replace qv16 := Eq.symm qv16
          subst qv16
          refine XS.ifNo X10.here hx rfl (hb hby at_127) rfl ((if0 _ _).trans (teq hc20).2) ?_
          show Steps p.tables e below (T10.setTop (mkF m 130 #[.val (.int p0), .val (.int p1), .val (.int p2), .val (.int p3), .val (.int p4), .val (.int p1.toInt8.toInt32), .val (.int v1), .val (.int v3), .val (.int v4), .val (.int v9), .val (.int v11), .unset, .unset] [(.int (0 : Int32))])) _
          refine XS.iconst X10.here hx rfl (hb hby at_130) ?_
          show Steps p.tables e below (T10.setTop (mkF m 131 #[.val (.int p0), .val (.int p1), .val (.int p2), .val (.int p3), .val (.int p4), .val (.int p1.toInt8.toInt32), .val (.int v1), .val (.int v3), .val (.int v4), .val (.int v9), .val (.int v11), .unset, .unset] [(.int (1 : Int32)), (.int (0 : Int32))])) _
          refine XS.goto X10.here hx rfl (pc0 := 131) (pc' := 135) rfl (hb hby at_131) (by decide) (by decide) ?_
          show Steps p.tables e below (T10.setTop (mkF m 135 #[.val (.int p0), .val (.int p1), .val (.int p2), .val (.int p3), .val (.int p4), .val (.int p1.toInt8.toInt32), .val (.int v1), .val (.int v3), .val (.int v4), .val (.int v9), .val (.int v11), .unset, .unset] [(.int (1 : Int32)), (.int (0 : Int32))])) _
          refine XS.icmpYes X10.here hx rfl (pc0 := 135) (pc' := 142) rfl (hb hby at_135) rfl (feq (by decide)).2 (by decide) (by decide) ?_
          show Steps p.tables e below (T10.setTop (mkF m 142 #[.val (.int p0), .val (.int p1), .val (.int p2), .val (.int p3), .val (.int p4), .val (.int p1.toInt8.toInt32), .val (.int v1), .val (.int v3), .val (.int v4), .val (.int v9), .val (.int v11), .unset, .unset] [])) _
          refine XS.iconst X10.here hx rfl (hb hby at_142) ?_
          show Steps p.tables e below (T10.setTop (mkF m 143 #[.val (.int p0), .val (.int p1), .val (.int p2), .val (.int p3), .val (.int p4), .val (.int p1.toInt8.toInt32), .val (.int v1), .val (.int v3), .val (.int v4), .val (.int v9), .val (.int v11), .unset, .unset] [(.int (0 : Int32))])) _
          exact k
        · rw [if_neg hc20] at qv16
          replace qv16 := Eq.symm qv16
          subst qv16
          refine XS.ifYes X10.here hx rfl (pc0 := 127) (pc' := 134) rfl (hb hby at_127) rfl ((if0 _ _).trans (feq hc20).2) (by decide) (by decide) ?_
          show Steps p.tables e below (T10.setTop (mkF m 134 #[.val (.int p0), .val (.int p1), .val (.int p2), .val (.int p3), .val (.int p4), .val (.int p1.toInt8.toInt32), .val (.int v1), .val (.int v3), .val (.int v4), .val (.int v9), .val (.int v11), .unset, .unset] [(.int (0 : Int32))])) _
          refine XS.iconst X10.here hx rfl (hb hby at_134) ?_
          show Steps p.tables e below (T10.setTop (mkF m 135 #[.val (.int p0), .val (.int p1), .val (.int p2), .val (.int p3), .val (.int p4), .val (.int p1.toInt8.toInt32), .val (.int v1), .val (.int v3), .val (.int v4), .val (.int v9), .val (.int v11), .unset, .unset] [(.int (0 : Int32)), (.int (0 : Int32))])) _
          refine XS.icmpNo X10.here hx rfl (hb hby at_135) rfl (teq (by decide)).2 ?_
          show Steps p.tables e below (T10.setTop (mkF m 138 #[.val (.int p0), .val (.int p1), .val (.int p2), .val (.int p3), .val (.int p4), .val (.int p1.toInt8.toInt32), .val (.int v1), .val (.int v3), .val (.int v4), .val (.int v9), .val (.int v11), .unset, .unset] [])) _
          refine XS.iconst X10.here hx rfl (hb hby at_138) ?_
          show Steps p.tables e below (T10.setTop (mkF m 139 #[.val (.int p0), .val (.int p1), .val (.int p2), .val (.int p3), .val (.int p4), .val (.int p1.toInt8.toInt32), .val (.int v1), .val (.int v3), .val (.int v4), .val (.int v9), .val (.int v11), .unset, .unset] [(.int (1 : Int32))])) _
          refine XS.goto X10.here hx rfl (pc0 := 139) (pc' := 143) rfl (hb hby at_139) (by decide) (by decide) ?_
          show Steps p.tables e below (T10.setTop (mkF m 143 #[.val (.int p0), .val (.int p1), .val (.int p2), .val (.int p3), .val (.int p4), .val (.int p1.toInt8.toInt32), .val (.int v1), .val (.int v3), .val (.int v4), .val (.int v9), .val (.int v11), .unset, .unset] [(.int (1 : Int32))])) _
          exact k
    · rw [if_neg hc17] at qv16
      replace qv16 := Eq.symm qv16
      subst qv16
      refine XS.icmpYes X10.here hx rfl (pc0 := 112) (pc' := 142) rfl (hb hby at_112) rfl (feq hc17).2 (by decide) (by decide) ?_
      show Steps p.tables e below (T10.setTop (mkF m 142 #[.val (.int p0), .val (.int p1), .val (.int p2), .val (.int p3), .val (.int p4), .val (.int p1.toInt8.toInt32), .val (.int v1), .val (.int v3), .val (.int v4), .val (.int v9), .val (.int v11), .unset, .unset] [])) _
      refine XS.iconst X10.here hx rfl (hb hby at_142) ?_
      show Steps p.tables e below (T10.setTop (mkF m 143 #[.val (.int p0), .val (.int p1), .val (.int p2), .val (.int p3), .val (.int p4), .val (.int p1.toInt8.toInt32), .val (.int v1), .val (.int v3), .val (.int v4), .val (.int v9), .val (.int v11), .unset, .unset] [(.int (0 : Int32))])) _
      exact k
  show own_Go p.tables e below _ (T10.setTop (mkF m 143 #[.val (.int p0), .val (.int p1), .val (.int p2), .val (.int p3), .val (.int p4), .val (.int p1.toInt8.toInt32), .val (.int v1), .val (.int v3), .val (.int v4), .val (.int v9), .val (.int v11), .unset, .unset] [(.int v16)]))
  refine own_st (S' := T10.setTop (mkF m 145 #[.val (.int p0), .val (.int p1), .val (.int p2), .val (.int p3), .val (.int p4), .val (.int p1.toInt8.toInt32), .val (.int v1), .val (.int v3), .val (.int v4), .val (.int v9), .val (.int v11), .val (.int v16), .unset] [])) (fun t k => XS.istore X10.here hx rfl (hb hby at_143) rfl (l' := #[.val (.int p0), .val (.int p1), .val (.int p2), .val (.int p3), .val (.int p4), .val (.int p1.toInt8.toInt32), .val (.int v1), .val (.int v3), .val (.int v4), .val (.int v9), .val (.int v11), .val (.int v16), .unset]) rfl k) ?_
  refine own_st (S' := T10.setTop (mkF m 147 #[.val (.int p0), .val (.int p1), .val (.int p2), .val (.int p3), .val (.int p4), .val (.int p1.toInt8.toInt32), .val (.int v1), .val (.int v3), .val (.int v4), .val (.int v9), .val (.int v11), .val (.int v16), .unset] [(.int p1.toInt8.toInt32)])) (fun t k => XS.iload X10.here hx rfl (hb hby at_145) rfl k) ?_
  by_cases hc21 : p1.toInt8.toInt32 = (0 : Int32)
  · refine own_st (S' := T10.setTop (mkF m 155 #[.val (.int p0), .val (.int p1), .val (.int p2), .val (.int p3), .val (.int p4), .val (.int p1.toInt8.toInt32), .val (.int v1), .val (.int v3), .val (.int v4), .val (.int v9), .val (.int v11), .val (.int v16), .unset] [])) (fun t k => XS.ifYes X10.here hx rfl (pc0 := 147) (pc' := 155) rfl (hb hby at_147) rfl ((if0 _ _).trans (teq hc21).1) (by decide) (by decide) k) ?_
    show own_Go p.tables e below _ (T10.setTop (mkF m 155 #[.val (.int p0), .val (.int p1), .val (.int p2), .val (.int p3), .val (.int p4), .val (.int p1.toInt8.toInt32), .val (.int v1), .val (.int v3), .val (.int v4), .val (.int v9), .val (.int v11), .val (.int v16), .unset] []))
    refine own_st (S' := T10.setTop (mkF m 157 #[.val (.int p0), .val (.int p1), .val (.int p2), .val (.int p3), .val (.int p4), .val (.int p1.toInt8.toInt32), .val (.int v1), .val (.int v3), .val (.int v4), .val (.int v9), .val (.int v11), .val (.int v16), .unset] [(.int v16)])) (fun t k => XS.iload X10.here hx rfl (hb hby at_155) rfl k) ?_
    refine own_retN X10 hx (t := .boolean) hret (by simp) hlk (hb hby at_157) ?_ (by decide) (by decide)
    rw [hh10]
    obtain ⟨z0, hz0⟩ := own_v1 qv1
    have hA := own_zero p0 p1
    rw [← qv9] at hA
    have hB : v11 = (0 : Int32) ↔ v1 = (0 : Int32) := by rw [qv11, hz0]; exact own_zero v4 z0
    have h16 := own_z16 hA hB qv12 qv14 qv16
    exact ⟨by rw [h16]; rfl, N10⟩
  · refine own_st (S' := T10.setTop (mkF m 150 #[.val (.int p0), .val (.int p1), .val (.int p2), .val (.int p3), .val (.int p4), .val (.int p1.toInt8.toInt32), .val (.int v1), .val (.int v3), .val (.int v4), .val (.int v9), .val (.int v11), .val (.int v16), .unset] [])) (fun t k => XS.ifNo X10.here hx rfl (hb hby at_147) rfl ((if0 _ _).trans (feq hc21).1) k) ?_
    show own_Go p.tables e below _ (T10.setTop (mkF m 150 #[.val (.int p0), .val (.int p1), .val (.int p2), .val (.int p3), .val (.int p4), .val (.int p1.toInt8.toInt32), .val (.int v1), .val (.int v3), .val (.int v4), .val (.int v9), .val (.int v11), .val (.int v16), .unset] []))
    refine own_st (S' := T10.setTop (mkF m 152 #[.val (.int p0), .val (.int p1), .val (.int p2), .val (.int p3), .val (.int p4), .val (.int p1.toInt8.toInt32), .val (.int v1), .val (.int v3), .val (.int v4), .val (.int v9), .val (.int v11), .val (.int v16), .unset] [(.int v1)])) (fun t k => XS.iload X10.here hx rfl (hb hby at_150) rfl k) ?_
    by_cases hc22 : v1 = (0 : Int32)
    · refine own_st (S' := T10.setTop (mkF m 155 #[.val (.int p0), .val (.int p1), .val (.int p2), .val (.int p3), .val (.int p4), .val (.int p1.toInt8.toInt32), .val (.int v1), .val (.int v3), .val (.int v4), .val (.int v9), .val (.int v11), .val (.int v16), .unset] [])) (fun t k => XS.ifNo X10.here hx rfl (hb hby at_152) rfl ((if0 _ _).trans (teq hc22).2) k) ?_
      show own_Go p.tables e below _ (T10.setTop (mkF m 155 #[.val (.int p0), .val (.int p1), .val (.int p2), .val (.int p3), .val (.int p4), .val (.int p1.toInt8.toInt32), .val (.int v1), .val (.int v3), .val (.int v4), .val (.int v9), .val (.int v11), .val (.int v16), .unset] []))
      refine own_st (S' := T10.setTop (mkF m 157 #[.val (.int p0), .val (.int p1), .val (.int p2), .val (.int p3), .val (.int p4), .val (.int p1.toInt8.toInt32), .val (.int v1), .val (.int v3), .val (.int v4), .val (.int v9), .val (.int v11), .val (.int v16), .unset] [(.int v16)])) (fun t k => XS.iload X10.here hx rfl (hb hby at_155) rfl k) ?_
      refine own_retN X10 hx (t := .boolean) hret (by simp) hlk (hb hby at_157) ?_ (by decide) (by decide)
      rw [hh10]
      obtain ⟨z0, hz0⟩ := own_v1 qv1
      have hA := own_zero p0 p1
      rw [← qv9] at hA
      have hB : v11 = (0 : Int32) ↔ v1 = (0 : Int32) := by rw [qv11, hz0]; exact own_zero v4 z0
      have h16 := own_z16 hA hB qv12 qv14 qv16
      exact ⟨by rw [h16]; rfl, N10⟩
    · refine own_st (S' := T10.setTop (mkF m 158 #[.val (.int p0), .val (.int p1), .val (.int p2), .val (.int p3), .val (.int p4), .val (.int p1.toInt8.toInt32), .val (.int v1), .val (.int v3), .val (.int v4), .val (.int v9), .val (.int v11), .val (.int v16), .unset] [])) (fun t k => XS.ifYes X10.here hx rfl (pc0 := 152) (pc' := 158) rfl (hb hby at_152) rfl ((if0 _ _).trans (feq hc22).2) (by decide) (by decide) k) ?_
      show own_Go p.tables e below _ (T10.setTop (mkF m 158 #[.val (.int p0), .val (.int p1), .val (.int p2), .val (.int p3), .val (.int p4), .val (.int p1.toInt8.toInt32), .val (.int v1), .val (.int v3), .val (.int v4), .val (.int v9), .val (.int v11), .val (.int v16), .unset] []))
      refine own_st (S' := T10.setTop (mkF m 159 #[.val (.int p0), .val (.int p1), .val (.int p2), .val (.int p3), .val (.int p4), .val (.int p1.toInt8.toInt32), .val (.int v1), .val (.int v3), .val (.int v4), .val (.int v9), .val (.int v11), .val (.int v16), .unset] [(.int p0)])) (fun t k => XS.iloadN X10.here hx rfl (hb hby at_158) rfl k) ?_
      refine own_st (S' := T10.setTop (mkF m 161 #[.val (.int p0), .val (.int p1), .val (.int p2), .val (.int p3), .val (.int p4), .val (.int p1.toInt8.toInt32), .val (.int v1), .val (.int v3), .val (.int v4), .val (.int v9), .val (.int v11), .val (.int v16), .unset] [(.int v4), (.int p0)])) (fun t k => XS.iload X10.here hx rfl (hb hby at_159) rfl k) ?_
      refine own_st (S' := T10.setTop (mkF m 162 #[.val (.int p0), .val (.int p1), .val (.int p2), .val (.int p3), .val (.int p4), .val (.int p1.toInt8.toInt32), .val (.int v1), .val (.int v3), .val (.int v4), .val (.int v9), .val (.int v11), .val (.int v16), .unset] [(.int (p0 ^^^ v4))])) (fun t k => XS.ixor X10.here hx rfl (hb hby at_161) rfl k) ?_
      refine own_st (S' := T10.setTop (mkF m 164 #[.val (.int p0), .val (.int p1), .val (.int p2), .val (.int p3), .val (.int p4), .val (.int p1.toInt8.toInt32), .val (.int v1), .val (.int v3), .val (.int v4), .val (.int v9), .val (.int v11), .val (.int v16), .unset] [(.int (16777215 : Int32)), (.int (p0 ^^^ v4))])) (fun t k => X10.ldcInt hx hown (mvT hZ (hw _ (List.mem_of_getElem? (i := 6) rfl))) (g := (mkF m 162 #[.val (.int p0), .val (.int p1), .val (.int p2), .val (.int p3), .val (.int p4), .val (.int p1.toInt8.toInt32), .val (.int v1), .val (.int v3), .val (.int v4), .val (.int v9), .val (.int v11), .val (.int v16), .unset] [(.int (p0 ^^^ v4))])) rfl (hb hby at_162) _ k) ?_
      refine own_st (S' := T10.setTop (mkF m 165 #[.val (.int p0), .val (.int p1), .val (.int p2), .val (.int p3), .val (.int p4), .val (.int p1.toInt8.toInt32), .val (.int v1), .val (.int v3), .val (.int v4), .val (.int v9), .val (.int v11), .val (.int v16), .unset] [(.int ((p0 ^^^ v4) &&& (16777215 : Int32)))])) (fun t k => XS.iand X10.here hx rfl (hb hby at_164) rfl k) ?_
      obtain ⟨v23, qv23⟩ : ∃ z : Int32, z = (if ((p0 ^^^ v4) &&& (16777215 : Int32)) = (0 : Int32) then (if p1.toInt8.toInt32 = v1 then (1 : Int32) else (0 : Int32)) else (0 : Int32)) := ⟨_, rfl⟩
      refine own_st (S' := T10.setTop (mkF m 180 #[.val (.int p0), .val (.int p1), .val (.int p2), .val (.int p3), .val (.int p4), .val (.int p1.toInt8.toInt32), .val (.int v1), .val (.int v3), .val (.int v4), .val (.int v9), .val (.int v11), .val (.int v16), .unset] [(.int v23)])) (fun t k => ?_) ?_
      · show Steps p.tables e below (T10.setTop (mkF m 165 #[.val (.int p0), .val (.int p1), .val (.int p2), .val (.int p3), .val (.int p4), .val (.int p1.toInt8.toInt32), .val (.int v1), .val (.int v3), .val (.int v4), .val (.int v9), .val (.int v11), .val (.int v16), .unset] [(.int ((p0 ^^^ v4) &&& (16777215 : Int32)))])) _
        by_cases hc24 : ((p0 ^^^ v4) &&& (16777215 : Int32)) = (0 : Int32)
        · rw [if_pos hc24] at qv23
          refine XS.ifNo X10.here hx rfl (hb hby at_165) rfl ((if0 _ _).trans (teq hc24).2) ?_
          show Steps p.tables e below (T10.setTop (mkF m 168 #[.val (.int p0), .val (.int p1), .val (.int p2), .val (.int p3), .val (.int p4), .val (.int p1.toInt8.toInt32), .val (.int v1), .val (.int v3), .val (.int v4), .val (.int v9), .val (.int v11), .val (.int v16), .unset] [])) _
          refine XS.iload X10.here hx rfl (hb hby at_168) rfl ?_
          show Steps p.tables e below (T10.setTop (mkF m 170 #[.val (.int p0), .val (.int p1), .val (.int p2), .val (.int p3), .val (.int p4), .val (.int p1.toInt8.toInt32), .val (.int v1), .val (.int v3), .val (.int v4), .val (.int v9), .val (.int v11), .val (.int v16), .unset] [(.int p1.toInt8.toInt32)])) _
          refine XS.iload X10.here hx rfl (hb hby at_170) rfl ?_
          show Steps p.tables e below (T10.setTop (mkF m 172 #[.val (.int p0), .val (.int p1), .val (.int p2), .val (.int p3), .val (.int p4), .val (.int p1.toInt8.toInt32), .val (.int v1), .val (.int v3), .val (.int v4), .val (.int v9), .val (.int v11), .val (.int v16), .unset] [(.int v1), (.int p1.toInt8.toInt32)])) _
          by_cases hc25 : p1.toInt8.toInt32 = v1
          · rw [if_pos hc25] at qv23
            replace qv23 := Eq.symm qv23
            subst qv23
            refine XS.icmpNo X10.here hx rfl (hb hby at_172) rfl (teq hc25).2 ?_
            show Steps p.tables e below (T10.setTop (mkF m 175 #[.val (.int p0), .val (.int p1), .val (.int p2), .val (.int p3), .val (.int p4), .val (.int p1.toInt8.toInt32), .val (.int v1), .val (.int v3), .val (.int v4), .val (.int v9), .val (.int v11), .val (.int v16), .unset] [])) _
            refine XS.iconst X10.here hx rfl (hb hby at_175) ?_
            show Steps p.tables e below (T10.setTop (mkF m 176 #[.val (.int p0), .val (.int p1), .val (.int p2), .val (.int p3), .val (.int p4), .val (.int p1.toInt8.toInt32), .val (.int v1), .val (.int v3), .val (.int v4), .val (.int v9), .val (.int v11), .val (.int v16), .unset] [(.int (1 : Int32))])) _
            refine XS.goto X10.here hx rfl (pc0 := 176) (pc' := 180) rfl (hb hby at_176) (by decide) (by decide) ?_
            show Steps p.tables e below (T10.setTop (mkF m 180 #[.val (.int p0), .val (.int p1), .val (.int p2), .val (.int p3), .val (.int p4), .val (.int p1.toInt8.toInt32), .val (.int v1), .val (.int v3), .val (.int v4), .val (.int v9), .val (.int v11), .val (.int v16), .unset] [(.int (1 : Int32))])) _
            exact k
          · rw [if_neg hc25] at qv23
            replace qv23 := Eq.symm qv23
            subst qv23
            refine XS.icmpYes X10.here hx rfl (pc0 := 172) (pc' := 179) rfl (hb hby at_172) rfl (feq hc25).2 (by decide) (by decide) ?_
            show Steps p.tables e below (T10.setTop (mkF m 179 #[.val (.int p0), .val (.int p1), .val (.int p2), .val (.int p3), .val (.int p4), .val (.int p1.toInt8.toInt32), .val (.int v1), .val (.int v3), .val (.int v4), .val (.int v9), .val (.int v11), .val (.int v16), .unset] [])) _
            refine XS.iconst X10.here hx rfl (hb hby at_179) ?_
            show Steps p.tables e below (T10.setTop (mkF m 180 #[.val (.int p0), .val (.int p1), .val (.int p2), .val (.int p3), .val (.int p4), .val (.int p1.toInt8.toInt32), .val (.int v1), .val (.int v3), .val (.int v4), .val (.int v9), .val (.int v11), .val (.int v16), .unset] [(.int (0 : Int32))])) _
            exact k
        · rw [if_neg hc24] at qv23
          replace qv23 := Eq.symm qv23
          subst qv23
          refine XS.ifYes X10.here hx rfl (pc0 := 165) (pc' := 179) rfl (hb hby at_165) rfl ((if0 _ _).trans (feq hc24).2) (by decide) (by decide) ?_
          show Steps p.tables e below (T10.setTop (mkF m 179 #[.val (.int p0), .val (.int p1), .val (.int p2), .val (.int p3), .val (.int p4), .val (.int p1.toInt8.toInt32), .val (.int v1), .val (.int v3), .val (.int v4), .val (.int v9), .val (.int v11), .val (.int v16), .unset] [])) _
          refine XS.iconst X10.here hx rfl (hb hby at_179) ?_
          show Steps p.tables e below (T10.setTop (mkF m 180 #[.val (.int p0), .val (.int p1), .val (.int p2), .val (.int p3), .val (.int p4), .val (.int p1.toInt8.toInt32), .val (.int v1), .val (.int v3), .val (.int v4), .val (.int v9), .val (.int v11), .val (.int v16), .unset] [(.int (0 : Int32))])) _
          exact k
      show own_Go p.tables e below _ (T10.setTop (mkF m 180 #[.val (.int p0), .val (.int p1), .val (.int p2), .val (.int p3), .val (.int p4), .val (.int p1.toInt8.toInt32), .val (.int v1), .val (.int v3), .val (.int v4), .val (.int v9), .val (.int v11), .val (.int v16), .unset] [(.int v23)]))
      refine own_st (S' := T10.setTop (mkF m 182 #[.val (.int p0), .val (.int p1), .val (.int p2), .val (.int p3), .val (.int p4), .val (.int p1.toInt8.toInt32), .val (.int v1), .val (.int v3), .val (.int v4), .val (.int v9), .val (.int v11), .val (.int v16), .val (.int v23)] [])) (fun t k => XS.istore X10.here hx rfl (hb hby at_180) rfl (l' := #[.val (.int p0), .val (.int p1), .val (.int p2), .val (.int p3), .val (.int p4), .val (.int p1.toInt8.toInt32), .val (.int v1), .val (.int v3), .val (.int v4), .val (.int v9), .val (.int v11), .val (.int v16), .val (.int v23)]) rfl k) ?_
      refine own_st (S' := T10.setTop (mkF m 184 #[.val (.int p0), .val (.int p1), .val (.int p2), .val (.int p3), .val (.int p4), .val (.int p1.toInt8.toInt32), .val (.int v1), .val (.int v3), .val (.int v4), .val (.int v9), .val (.int v11), .val (.int v16), .val (.int v23)] [(.int v16)])) (fun t k => XS.iload X10.here hx rfl (hb hby at_182) rfl k) ?_
      obtain ⟨v26, qv26⟩ : ∃ z : Int32, z = (if v16 = (0 : Int32) then (0 : Int32) else (if v9 = v11 then (if (1 : Int32) = v23 then (1 : Int32) else (0 : Int32)) else (if (0 : Int32) = v23 then (1 : Int32) else (0 : Int32)))) := ⟨_, rfl⟩
      refine own_st (S' := T10.setTop (mkF m 209 #[.val (.int p0), .val (.int p1), .val (.int p2), .val (.int p3), .val (.int p4), .val (.int p1.toInt8.toInt32), .val (.int v1), .val (.int v3), .val (.int v4), .val (.int v9), .val (.int v11), .val (.int v16), .val (.int v23)] [(.int v26)])) (fun t k => ?_) ?_
      · show Steps p.tables e below (T10.setTop (mkF m 184 #[.val (.int p0), .val (.int p1), .val (.int p2), .val (.int p3), .val (.int p4), .val (.int p1.toInt8.toInt32), .val (.int v1), .val (.int v3), .val (.int v4), .val (.int v9), .val (.int v11), .val (.int v16), .val (.int v23)] [(.int v16)])) _
        by_cases hc27 : v16 = (0 : Int32)
        · rw [if_pos hc27] at qv26
          replace qv26 := Eq.symm qv26
          subst qv26
          refine XS.ifYes X10.here hx rfl (pc0 := 184) (pc' := 208) rfl (hb hby at_184) rfl ((if0 _ _).trans (teq hc27).1) (by decide) (by decide) ?_
          show Steps p.tables e below (T10.setTop (mkF m 208 #[.val (.int p0), .val (.int p1), .val (.int p2), .val (.int p3), .val (.int p4), .val (.int p1.toInt8.toInt32), .val (.int v1), .val (.int v3), .val (.int v4), .val (.int v9), .val (.int v11), .val (.int v16), .val (.int v23)] [])) _
          refine XS.iconst X10.here hx rfl (hb hby at_208) ?_
          show Steps p.tables e below (T10.setTop (mkF m 209 #[.val (.int p0), .val (.int p1), .val (.int p2), .val (.int p3), .val (.int p4), .val (.int p1.toInt8.toInt32), .val (.int v1), .val (.int v3), .val (.int v4), .val (.int v9), .val (.int v11), .val (.int v16), .val (.int v23)] [(.int (0 : Int32))])) _
          exact k
        · rw [if_neg hc27] at qv26
          refine XS.ifNo X10.here hx rfl (hb hby at_184) rfl ((if0 _ _).trans (feq hc27).1) ?_
          show Steps p.tables e below (T10.setTop (mkF m 187 #[.val (.int p0), .val (.int p1), .val (.int p2), .val (.int p3), .val (.int p4), .val (.int p1.toInt8.toInt32), .val (.int v1), .val (.int v3), .val (.int v4), .val (.int v9), .val (.int v11), .val (.int v16), .val (.int v23)] [])) _
          refine XS.iload X10.here hx rfl (hb hby at_187) rfl ?_
          show Steps p.tables e below (T10.setTop (mkF m 189 #[.val (.int p0), .val (.int p1), .val (.int p2), .val (.int p3), .val (.int p4), .val (.int p1.toInt8.toInt32), .val (.int v1), .val (.int v3), .val (.int v4), .val (.int v9), .val (.int v11), .val (.int v16), .val (.int v23)] [(.int v9)])) _
          refine XS.iload X10.here hx rfl (hb hby at_189) rfl ?_
          show Steps p.tables e below (T10.setTop (mkF m 191 #[.val (.int p0), .val (.int p1), .val (.int p2), .val (.int p3), .val (.int p4), .val (.int p1.toInt8.toInt32), .val (.int v1), .val (.int v3), .val (.int v4), .val (.int v9), .val (.int v11), .val (.int v16), .val (.int v23)] [(.int v11), (.int v9)])) _
          by_cases hc28 : v9 = v11
          · rw [if_pos hc28] at qv26
            refine XS.icmpNo X10.here hx rfl (hb hby at_191) rfl (teq hc28).2 ?_
            show Steps p.tables e below (T10.setTop (mkF m 194 #[.val (.int p0), .val (.int p1), .val (.int p2), .val (.int p3), .val (.int p4), .val (.int p1.toInt8.toInt32), .val (.int v1), .val (.int v3), .val (.int v4), .val (.int v9), .val (.int v11), .val (.int v16), .val (.int v23)] [])) _
            refine XS.iconst X10.here hx rfl (hb hby at_194) ?_
            show Steps p.tables e below (T10.setTop (mkF m 195 #[.val (.int p0), .val (.int p1), .val (.int p2), .val (.int p3), .val (.int p4), .val (.int p1.toInt8.toInt32), .val (.int v1), .val (.int v3), .val (.int v4), .val (.int v9), .val (.int v11), .val (.int v16), .val (.int v23)] [(.int (1 : Int32))])) _
            refine XS.goto X10.here hx rfl (pc0 := 195) (pc' := 199) rfl (hb hby at_195) (by decide) (by decide) ?_
            show Steps p.tables e below (T10.setTop (mkF m 199 #[.val (.int p0), .val (.int p1), .val (.int p2), .val (.int p3), .val (.int p4), .val (.int p1.toInt8.toInt32), .val (.int v1), .val (.int v3), .val (.int v4), .val (.int v9), .val (.int v11), .val (.int v16), .val (.int v23)] [(.int (1 : Int32))])) _
            refine XS.iload X10.here hx rfl (hb hby at_199) rfl ?_
            show Steps p.tables e below (T10.setTop (mkF m 201 #[.val (.int p0), .val (.int p1), .val (.int p2), .val (.int p3), .val (.int p4), .val (.int p1.toInt8.toInt32), .val (.int v1), .val (.int v3), .val (.int v4), .val (.int v9), .val (.int v11), .val (.int v16), .val (.int v23)] [(.int v23), (.int (1 : Int32))])) _
            by_cases hc29 : (1 : Int32) = v23
            · rw [if_pos hc29] at qv26
              replace qv26 := Eq.symm qv26
              subst qv26
              refine XS.icmpNo X10.here hx rfl (hb hby at_201) rfl (teq hc29).2 ?_
              show Steps p.tables e below (T10.setTop (mkF m 204 #[.val (.int p0), .val (.int p1), .val (.int p2), .val (.int p3), .val (.int p4), .val (.int p1.toInt8.toInt32), .val (.int v1), .val (.int v3), .val (.int v4), .val (.int v9), .val (.int v11), .val (.int v16), .val (.int v23)] [])) _
              refine XS.iconst X10.here hx rfl (hb hby at_204) ?_
              show Steps p.tables e below (T10.setTop (mkF m 205 #[.val (.int p0), .val (.int p1), .val (.int p2), .val (.int p3), .val (.int p4), .val (.int p1.toInt8.toInt32), .val (.int v1), .val (.int v3), .val (.int v4), .val (.int v9), .val (.int v11), .val (.int v16), .val (.int v23)] [(.int (1 : Int32))])) _
              refine XS.goto X10.here hx rfl (pc0 := 205) (pc' := 209) rfl (hb hby at_205) (by decide) (by decide) ?_
              show Steps p.tables e below (T10.setTop (mkF m 209 #[.val (.int p0), .val (.int p1), .val (.int p2), .val (.int p3), .val (.int p4), .val (.int p1.toInt8.toInt32), .val (.int v1), .val (.int v3), .val (.int v4), .val (.int v9), .val (.int v11), .val (.int v16), .val (.int v23)] [(.int (1 : Int32))])) _
              exact k
            · rw [if_neg hc29] at qv26
              replace qv26 := Eq.symm qv26
              subst qv26
              refine XS.icmpYes X10.here hx rfl (pc0 := 201) (pc' := 208) rfl (hb hby at_201) rfl (feq hc29).2 (by decide) (by decide) ?_
              show Steps p.tables e below (T10.setTop (mkF m 208 #[.val (.int p0), .val (.int p1), .val (.int p2), .val (.int p3), .val (.int p4), .val (.int p1.toInt8.toInt32), .val (.int v1), .val (.int v3), .val (.int v4), .val (.int v9), .val (.int v11), .val (.int v16), .val (.int v23)] [])) _
              refine XS.iconst X10.here hx rfl (hb hby at_208) ?_
              show Steps p.tables e below (T10.setTop (mkF m 209 #[.val (.int p0), .val (.int p1), .val (.int p2), .val (.int p3), .val (.int p4), .val (.int p1.toInt8.toInt32), .val (.int v1), .val (.int v3), .val (.int v4), .val (.int v9), .val (.int v11), .val (.int v16), .val (.int v23)] [(.int (0 : Int32))])) _
              exact k
          · rw [if_neg hc28] at qv26
            refine XS.icmpYes X10.here hx rfl (pc0 := 191) (pc' := 198) rfl (hb hby at_191) rfl (feq hc28).2 (by decide) (by decide) ?_
            show Steps p.tables e below (T10.setTop (mkF m 198 #[.val (.int p0), .val (.int p1), .val (.int p2), .val (.int p3), .val (.int p4), .val (.int p1.toInt8.toInt32), .val (.int v1), .val (.int v3), .val (.int v4), .val (.int v9), .val (.int v11), .val (.int v16), .val (.int v23)] [])) _
            refine XS.iconst X10.here hx rfl (hb hby at_198) ?_
            show Steps p.tables e below (T10.setTop (mkF m 199 #[.val (.int p0), .val (.int p1), .val (.int p2), .val (.int p3), .val (.int p4), .val (.int p1.toInt8.toInt32), .val (.int v1), .val (.int v3), .val (.int v4), .val (.int v9), .val (.int v11), .val (.int v16), .val (.int v23)] [(.int (0 : Int32))])) _
            refine XS.iload X10.here hx rfl (hb hby at_199) rfl ?_
            show Steps p.tables e below (T10.setTop (mkF m 201 #[.val (.int p0), .val (.int p1), .val (.int p2), .val (.int p3), .val (.int p4), .val (.int p1.toInt8.toInt32), .val (.int v1), .val (.int v3), .val (.int v4), .val (.int v9), .val (.int v11), .val (.int v16), .val (.int v23)] [(.int v23), (.int (0 : Int32))])) _
            by_cases hc30 : (0 : Int32) = v23
            · rw [if_pos hc30] at qv26
              replace qv26 := Eq.symm qv26
              subst qv26
              refine XS.icmpNo X10.here hx rfl (hb hby at_201) rfl (teq hc30).2 ?_
              show Steps p.tables e below (T10.setTop (mkF m 204 #[.val (.int p0), .val (.int p1), .val (.int p2), .val (.int p3), .val (.int p4), .val (.int p1.toInt8.toInt32), .val (.int v1), .val (.int v3), .val (.int v4), .val (.int v9), .val (.int v11), .val (.int v16), .val (.int v23)] [])) _
              refine XS.iconst X10.here hx rfl (hb hby at_204) ?_
              show Steps p.tables e below (T10.setTop (mkF m 205 #[.val (.int p0), .val (.int p1), .val (.int p2), .val (.int p3), .val (.int p4), .val (.int p1.toInt8.toInt32), .val (.int v1), .val (.int v3), .val (.int v4), .val (.int v9), .val (.int v11), .val (.int v16), .val (.int v23)] [(.int (1 : Int32))])) _
              refine XS.goto X10.here hx rfl (pc0 := 205) (pc' := 209) rfl (hb hby at_205) (by decide) (by decide) ?_
              show Steps p.tables e below (T10.setTop (mkF m 209 #[.val (.int p0), .val (.int p1), .val (.int p2), .val (.int p3), .val (.int p4), .val (.int p1.toInt8.toInt32), .val (.int v1), .val (.int v3), .val (.int v4), .val (.int v9), .val (.int v11), .val (.int v16), .val (.int v23)] [(.int (1 : Int32))])) _
              exact k
            · rw [if_neg hc30] at qv26
              replace qv26 := Eq.symm qv26
              subst qv26
              refine XS.icmpYes X10.here hx rfl (pc0 := 201) (pc' := 208) rfl (hb hby at_201) rfl (feq hc30).2 (by decide) (by decide) ?_
              show Steps p.tables e below (T10.setTop (mkF m 208 #[.val (.int p0), .val (.int p1), .val (.int p2), .val (.int p3), .val (.int p4), .val (.int p1.toInt8.toInt32), .val (.int v1), .val (.int v3), .val (.int v4), .val (.int v9), .val (.int v11), .val (.int v16), .val (.int v23)] [])) _
              refine XS.iconst X10.here hx rfl (hb hby at_208) ?_
              show Steps p.tables e below (T10.setTop (mkF m 209 #[.val (.int p0), .val (.int p1), .val (.int p2), .val (.int p3), .val (.int p4), .val (.int p1.toInt8.toInt32), .val (.int v1), .val (.int v3), .val (.int v4), .val (.int v9), .val (.int v11), .val (.int v16), .val (.int v23)] [(.int (0 : Int32))])) _
              exact k
      show own_Go p.tables e below _ (T10.setTop (mkF m 209 #[.val (.int p0), .val (.int p1), .val (.int p2), .val (.int p3), .val (.int p4), .val (.int p1.toInt8.toInt32), .val (.int v1), .val (.int v3), .val (.int v4), .val (.int v9), .val (.int v11), .val (.int v16), .val (.int v23)] [(.int v26)]))
      refine own_retN X10 hx (t := .boolean) hret (by simp) hlk (hb hby at_209) ?_ (by decide) (by decide)
      rw [hh10]
      obtain ⟨z0, hz0⟩ := own_v1 qv1
      have hA := own_zero p0 p1
      rw [← qv9] at hA
      have hB : v11 = (0 : Int32) ↔ v1 = (0 : Int32) := by rw [qv11, hz0]; exact own_zero v4 z0
      have h16 := own_z16 hA hB qv12 qv14 qv16
      have hI : v9 = v11 ↔ (((p0 ^^^ v4) &&& (16777215 : Int32)) = (0 : Int32) ∧ p1.toInt8.toInt32 = v1) := by rw [qv9, qv11, hz0]; exact own_inj p0 v4 p1 z0 hc21 (by rw [← hz0]; exact hc22)
      have h26 := own_z26 h16 hI qv23 qv26
      exact ⟨by rw [h26]; rfl, N10⟩
set_option maxRecDepth 65536 in
set_option maxHeartbeats 40000000 in
theorem comes_1 {Post : Tables → Env → Array Value → State → Outcome → State → Prop} (hpost : ∀ tb e args s v u, (limb_1_1.after args s (.returned v) u = true ∧ limb_1_2.after args s (.returned v) u = true ∧ True) → FrameEnd s (.returned v) u (Jvm.fieldLocs frame_1_writes args s ++ Jvm.arrayLocs frame_1_arrays args s ++ Jvm.staticLocs frame_1_statics s) 0 0 → Post tb e args s (.returned v) u) :
    ArmFor flags0 classFile x code maxLocals ret World_1 tables_1 room_1 Calls_1 rest_1 Pre_1 Post := by
  intro l hfl _ _ p e ha hc hk s m args below hf hA hF happ hP
  obtain ⟨hcalls, hrest, hpre⟩ := hP
  obtain ⟨-, -, -, hnamed, -, -, -, hat⟩ := (Spec.applies_iff hf).mp happ
  obtain ⟨hg, hn⟩ := and_e (Cond.before_iff.mp (show (Jvm.Cond.and given_1 narrow_1).before args s = true from hpre))
  obtain ⟨c0, d0⟩ := and_e hg
  obtain ⟨c1, d1⟩ := and_e d0
  obtain ⟨c2, d2⟩ := and_e d1
  obtain ⟨c3, d3⟩ := and_e d2
  obtain ⟨c4, d4⟩ := and_e d3
  obtain ⟨w0, w1, w2, w3, w4, rfl⟩ : ∃ w0 w1 w2 w3 w4 : Value, args = #[w0, w1, w2, w3, w4] := by
    have hs : args.size = 5 := by simpa [Cond.value, given_1] using c0
    obtain ⟨L⟩ := args
    match L, hs with
    | [w0, w1, w2, w3, w4], _ => exact ⟨w0, w1, w2, w3, w4, rfl⟩
  have hw := fun d (hd : d ∈ tables_1) => atoms_spec (ws := Jvm.Cond.code x code maxLocals ret :: tables_1) hat d (List.mem_cons_of_mem _ hd)
  have hfit : Fit s := fun {y c} hc i hi => by
    obtain ⟨ha, rfl⟩ := Array.getElem?_eq_some_iff.mp hc
    have q := List.all_eq_true.mp ((Array.all_eq_true_iff_forall_mem.mp hF) _ (Array.getElem_mem ha)) i (List.mem_range.mpr hi)
    simpa [Array.getElem?_eq_getElem hi] using q
  obtain ⟨i0, ei0⟩ := is_v c1
  obtain rfl : w0 = (.int i0) := Option.some.inj ei0
  obtain ⟨i1, ei1⟩ := is_v c2
  obtain rfl : w1 = (.int i1) := Option.some.inj ei1
  obtain ⟨i2, ei2⟩ := is_v c3
  obtain rfl : w2 = (.int i2) := Option.some.inj ei2
  obtain ⟨i3, ei3⟩ := is_v c4
  obtain rfl : w3 = (.int i3) := Option.some.inj ei3
  obtain ⟨i4, ei4⟩ := is_v d4
  obtain rfl : w4 = (.int i4) := Option.some.inj ei4
  obtain ⟨n, o, h1, h2, h3, _, L, rfl, ⟨rfl, N⟩, hq⟩ := rm0 l s _ hw tables_1 i0 i1 i2 i3 i4  s.heap s.heap.size (Nat.le_refl _)  p e ha hc hk s m _ below hf ((Spec.applies_iff_loose hf).mp happ).1 ⟨rfl, State.Warmed39.refl s, rfl⟩ trivial
  refine ⟨n, _, h1, h2, h3, hpost _ _ _ _ _ _ ⟨Cond.after_iff.mpr rfl, Cond.after_iff.mpr (eq_i res_at (Term.int_eval (1)) rfl), trivial⟩ ⟨hq.1, hq.2.1, (hq.2.2.sift fun y hy => Or.inr (N y hy)).mono (by decide) (by decide)⟩⟩
theorem main_1_1 : Claimed_1_1 := comes_1 fun _ _ _ _ _ _ h hF => ⟨h.1, hF⟩
theorem main_1_2 : Claimed_1_2 := comes_1 fun _ _ _ _ _ _ h hF => ⟨h.2.1, hF⟩
end Jvm.Pilot.@@N@@
namespace Jvm.Pilot.@@N@@
open Jvm Jvm.ClassFile Sem Op Lib Jvm.Free Jvm.Stand Jvm.Pilot.@@N@@.Jvm.D
/-! MADE BY PROGRAM (witnessworld.py) out of the Statement's table words and the real class files: 9 classes; the members and pool entries that the words name. The judged class is class 1, her method 1. -/
namespace start1
open Jvm.ClassFile
def u (s : String) : CpInfo := .utf8 (stringToUtf16 s)
/-- a pool by its gaps: so many unusable entries, then the entry; so many at the end -/
def gap : Nat → List CpInfo → List CpInfo
  | 0, r => r
  | n + 1, r => .unusable :: gap n r
def poolList (es : List (Nat × CpInfo)) (last : Nat) : List CpInfo := es.foldr (fun e r => gap e.1 (e.2 :: r)) (gap last [])
def pool (es : List (Nat × CpInfo)) (last : Nat) : Array CpInfo := ⟨poolList es last⟩
def fileOf (pool : Array CpInfo) (this : Nat) (attrs : Array Attribute := #[]) (ms : Array MethodInfo := #[]) (fl : Nat := 33) (sup : Nat := 0) (ifs : Array Nat := #[]) (fds : Array FieldInfo := #[]) : ClassFile where
  minorVersion := 0
  majorVersion := 65
  constantPool := pool
  accessFlags := fl
  thisClass := this
  superClass := sup
  interfaces := ifs
  fields := fds
  methods := ms
  attributes := attrs
def plain (name : String) (sup : Option ClassId) : Class where
  name := name
  kind := .ordinary
  loader := none
  accessFlags := 33
  super := sup
  interfaces := #[]
  cf := none
  fields := #[]
  methods := #[]
  instanceTypes := #[]
  staticTypes := #[]
  resolved := #[]
  callSites := []
  init := .initialized
  statics := none
  mirror := none

def pool0 : Array CpInfo := pool [(5, u "<init>"), (0, u "()V"), (1, .class_ 10), (1, u "java/lang/Object")] 113

def k0m0 : Method := { name := "<init>", desc := "()V", sig := { parameters := [], returnType := none }, accessFlags := 1, code := none }
/-- java/lang/Object -/
def k0 : Class := { plain "java/lang/Object" none with
  accessFlags := 33
  interfaces := #[]
  cf := some (fileOf pool0 8 #[] #[{ accessFlags := 1, nameIndex := 5, descriptorIndex := 6, attributes := #[] }] 33 0 #[] #[])
  fields := #[]
  methods := #[k0m0]
  instanceTypes := #[]
  staticTypes := #[]
  resolved := Array.replicate 124 none
  statics := none }

def pool1 : Array CpInfo := pool [(2, .class_ 4), (1, u "java/lang/Object"), (0, u "<init>"), (0, u "()V"), (0, .methodref 8 9), (0, .class_ 10), (0, .nameAndType 11 12), (0, u "com/example/tokenwise/tokenwise/semantics/StateCodec"), (0, u "term"), (0, u "(IB)I"), (0, .integer 16777215), (0, .class_ 15), (0, u "com/example/tokenwise/tokenwise/semantics/StateCodecTermPinLaw"), (2, u "law"), (0, u "(IIIII)Z")] 3

def k1m0 : Method := { name := "<init>", desc := "()V", sig := { parameters := [], returnType := none }, accessFlags := 2, code := none }
def k1c1 : Code := { maxStack := 3, maxLocals := 13, code := code, exceptionTable := #[], attributes := #[] }
def k1m1 : Method := { name := "law", desc := "(IIIII)Z", sig := { parameters := [.int, .int, .int, .int, .int], returnType := some .boolean }, accessFlags := 9, code := some k1c1 }
/-- com/example/tokenwise/tokenwise/semantics/StateCodecTermPinLaw -/
def k1 : Class := { plain "com/example/tokenwise/tokenwise/semantics/StateCodecTermPinLaw" (some 0) with
  accessFlags := 49
  interfaces := #[]
  cf := some (fileOf pool1 14 #[] #[{ accessFlags := 2, nameIndex := 5, descriptorIndex := 6, attributes := #[] }, { accessFlags := 9, nameIndex := 18, descriptorIndex := 19, attributes := #[] }] 49 2 #[] #[])
  fields := #[]
  methods := #[k1m0, k1m1]
  instanceTypes := #[]
  staticTypes := #[]
  resolved := Array.replicate 23 none
  statics := none }

def pool2 : Array CpInfo := pool [(2, .class_ 4), (1, u "java/lang/Object"), (0, u "<init>"), (0, u "()V"), (0, .class_ 8), (0, u "com/example/tokenwise/tokenwise/semantics/StateCodec"), (55, u "ZEROS"), (0, u "[B"), (14, u "term"), (0, u "(IB)I"), (3, .integer 2654435761), (0, .integer 2246822519), (1, u "MAX_COUNT_BYTES"), (0, u "I")] 38

def k2m0 : Method := { name := "<init>", desc := "()V", sig := { parameters := [], returnType := none }, accessFlags := 2, code := none }
def k2c1 : Code := { maxStack := 3, maxLocals := 3, code := prog_110_method_17_code, exceptionTable := #[], attributes := #[] }
def k2m1 : Method := { name := "term", desc := "(IB)I", sig := { parameters := [.int, .byte], returnType := some .int }, accessFlags := 8, code := some k2c1 }
/-- com/example/tokenwise/tokenwise/semantics/StateCodec -/
def k2 : Class := { plain "com/example/tokenwise/tokenwise/semantics/StateCodec" (some 0) with
  accessFlags := 48
  interfaces := #[]
  cf := some (fileOf pool2 7 #[] #[{ accessFlags := 2, nameIndex := 5, descriptorIndex := 6, attributes := #[] }, { accessFlags := 8, nameIndex := 80, descriptorIndex := 81, attributes := #[] }] 48 2 #[] #[{ accessFlags := 26, nameIndex := 88, descriptorIndex := 89, attributes := #[] }, { accessFlags := 26, nameIndex := 64, descriptorIndex := 65, attributes := #[] }])
  fields := #[{ name := "MAX_COUNT_BYTES", type := .int, accessFlags := 26, slot := 0, constantValue := 0 }, { name := "ZEROS", type := (.array .byte), accessFlags := 26, slot := 1, constantValue := 0 }]
  methods := #[k2m0, k2m1]
  instanceTypes := #[]
  staticTypes := #[.int, (.array .byte)]
  resolved := Array.replicate 128 none
  statics := none }

def pool3 : Array CpInfo := pool [(1, u "java/lang/Cloneable"), (0, .class_ 1), (0, u "java/lang/Object"), (0, .class_ 3)] 3

/-- java/lang/Cloneable -/
def k3 : Class := { plain "java/lang/Cloneable" (some 0) with
  accessFlags := 1537
  interfaces := #[]
  cf := some (fileOf pool3 2 #[] #[] 1537 4 #[] #[])
  fields := #[]
  methods := #[]
  instanceTypes := #[]
  staticTypes := #[]
  resolved := Array.replicate 8 none
  statics := none }

def pool4 : Array CpInfo := pool [(1, u "java/io/Serializable"), (0, .class_ 1), (0, u "java/lang/Object"), (0, .class_ 3)] 3

/-- java/io/Serializable -/
def k4 : Class := { plain "java/io/Serializable" (some 0) with
  accessFlags := 1537
  interfaces := #[]
  cf := some (fileOf pool4 2 #[] #[] 1537 4 #[] #[])
  fields := #[]
  methods := #[]
  instanceTypes := #[]
  staticTypes := #[]
  resolved := Array.replicate 8 none
  statics := none }

/-- the primitive byte -/
def k5 : Class := { plain "byte" none with kind := .primitive 'B', accessFlags := 0x411 }
/-- [B -/
def k6 : Class := { plain "[B" (some 0) with kind := .array 5 .byte, interfaces := #[3, 4], accessFlags := 1041 }

/-- the primitive int -/
def k7 : Class := { plain "int" none with kind := .primitive 'I', accessFlags := 0x411 }
/-- [I -/
def k8 : Class := { plain "[I" (some 0) with kind := .array 7 .int, interfaces := #[3, 4], accessFlags := 1041 }

def heap : Heap := #[]
def classes : Array Class := #[k0, k1, k2, k3, k4, k5, k6, k7, k8]
def interned : List (Array UInt16 × Addr) := []
def slotsUsed : Nat := 0
def theMethod : MethodId := ⟨1, 1⟩
def args0 : Array Value := #[.int 5, .int 6, .int 7, .int 8, .int 9]
def aboutOver (below : List Frame) : State where
  vm := { classes := classes, interned := interned.toArray }
  heap := heap
  slotsUsed := slotsUsed
  threads := #[{ frames := .invoking theMethod args0 :: below }]
def below0 : List Frame := [.native { method := ⟨0, 0⟩, args := #[] }]
def about1 : State := aboutOver below0
def p0 : Program := .bare "" "" ""
def e0 : Env := launch0.env 0 0 0
theorem w_frames : about1.frames = Frame.invoking theMethod args0 :: below0 := rfl
set_option maxRecDepth 65536 in
theorem w_args : argsFit about1.vm theMethod args0 = true := by decide +kernel
set_option maxRecDepth 65536 in
theorem w_heap : heapFits about1 = true := by decide +kernel
set_option maxRecDepth 65536 in
theorem w_runnable : about1.curStatus? = some .runnable := by decide +kernel
set_option maxRecDepth 65536 in
theorem w_alone : about1.alone = true := by decide +kernel
set_option maxRecDepth 65536 in
theorem w_named : about1.methodNamed? x = some theMethod := by decide +kernel
set_option maxRecDepth 65536 in
theorem w_hears : about1.hears theMethod below0 = true := by decide +kernel
set_option maxRecDepth 65536 in
theorem w_ripe : about1.ripe theMethod args0 below0 = true := by decide +kernel
theorem w_running : about1.status = .running := rfl
set_option maxRecDepth 65536 in
theorem w_room : about1.hasRoom e0.platform room_1 = true :=
  launch0.hasRoom_least _ room_1 (by decide +kernel) (by decide +kernel) (by decide +kernel) (by decide +kernel) (by decide +kernel) (by decide +kernel)
theorem allAtoms_all (ts : List Jvm.Cond) (a : Array Jvm.Value) (st : Jvm.State) : (allAtoms ts).before a st = ts.all (fun c => c.before a st) := by
  induction ts with
  | nil => rfl
  | cons c t ih =>
    show (Jvm.Cond.and c (allAtoms t)).before a st = _
    rw [Jvm.Cond.before_and, ih, List.all_cons]
def words1 : List Jvm.Cond := Jvm.Cond.code x code maxLocals ret :: tables_1
/-- a 'code' word, met by the world's own term for the bytes: nothing is compared byte by byte -/
theorem code_word {y : MethodName} {bytes : ByteArray} {mx : Nat} {rt : Option FieldType} {a : Array Value} {s : State} {m : MethodId} {meth : Method} {c : Code} (h1 : s.methodNamed? y = some m) (h2 : s.vm.method? m = some meth) (h3 : meth.code = some c) (h4 : c.code = bytes)
    (h5 : (c.maxLocals == mx && c.exceptionTable.isEmpty && decide (c.maxStack ≤ mostOperands) && decide (meth.sig.returnType = rt) && !meth.locks && decide (parseMethodDescriptor y.desc = some meth.sig)) = true) : (Jvm.Cond.code y bytes mx rt).before a s = true := by
  simp only [Bool.and_eq_true, beq_iff_eq, Bool.not_eq_true', decide_eq_true_eq] at h5
  obtain ⟨⟨⟨⟨⟨g1, g2⟩, g3⟩, g4⟩, g5⟩, g6⟩ := h5
  simp [Cond.before, Cond.holds, Cond.value, h1, h2, h3, h4, g1, g2, g3, g4, g5, g6]
def isCode : Jvm.Cond → Bool
  | .code _ _ _ _ => true
  | _ => false
theorem all_split {L : List Jvm.Cond} {P : Jvm.Cond → Bool} (h1 : L.all (fun c => isCode c || P c) = true) (h2 : ∀ c ∈ L.filter isCode, P c = true) : L.all P = true := by
  refine List.all_eq_true.mpr fun c hc => ?_
  have h := List.all_eq_true.mp h1 c hc
  rcases Bool.eq_false_or_eq_true (isCode c) with hi | hi
  · exact h2 c (List.mem_filter.mpr ⟨hc, hi⟩)
  · simpa [hi] using h
set_option maxRecDepth 65536 in
theorem w_c0 : (Jvm.Cond.code x code maxLocals ret).before args0 about1 = true := code_word (m := ⟨1, 1⟩) (meth := k1m1) (c := k1c1) (by decide +kernel) rfl rfl rfl (by decide +kernel)
set_option maxRecDepth 65536 in
theorem w_c1 : (Jvm.Cond.code ({ cls := "com/example/tokenwise/tokenwise/semantics/StateCodec", name := "term", desc := "(IB)I" } : Jvm.MethodName) prog_110_method_17_code (3 : Nat) (Option.some Jvm.ClassFile.FieldType.int)).before args0 about1 = true := code_word (m := ⟨2, 1⟩) (meth := k2m1) (c := k2c1) (by decide +kernel) rfl rfl rfl (by decide +kernel)
def codes1 : List Jvm.Cond := [Jvm.Cond.code x code maxLocals ret, Jvm.Cond.code ({ cls := "com/example/tokenwise/tokenwise/semantics/StateCodec", name := "term", desc := "(IB)I" } : Jvm.MethodName) prog_110_method_17_code (3 : Nat) (Option.some Jvm.ClassFile.FieldType.int)]
set_option maxRecDepth 65536 in
theorem codes_eq : words1.filter isCode = codes1 := rfl
theorem w_codes : ∀ c ∈ words1.filter isCode, c.before args0 about1 = true := by
  rw [codes_eq]
  intro c hc
  simp only [codes1, List.mem_cons, List.not_mem_nil, or_false] at hc
  rcases hc with rfl | rfl
  · exact w_c0
  · exact w_c1
set_option maxRecDepth 65536 in
theorem w_t1 : words1.all (fun c => isCode c || c.before args0 about1) = true := by decide +kernel
theorem w_tables : (allAtoms (Jvm.Cond.code x code maxLocals ret :: tables_1)).before args0 about1 = true := by
  rw [allAtoms_all]
  show words1.all (fun c => c.before args0 about1) = true
  refine all_split ?_ w_codes
  rw [w_t1]
set_option maxRecDepth 65536 in
theorem w_case : (Jvm.Cond.and given_1 narrow_1).before args0 about1 = true := by decide +kernel
theorem w_applies : (headSpec (Jvm.Cond.code x code maxLocals ret :: tables_1) room_1).applies x e0.platform about1 = true :=
  (Spec.applies_iff w_frames).mpr ⟨w_running, w_runnable, w_alone, w_named, w_hears, w_ripe, w_room, w_tables⟩
theorem atStart : AtStart classFile x code maxLocals ret World_1 tables_1 room_1 Calls_1 rest_1 Pre_1 launch0 p0 e0 about1 theMethod args0 below0 :=
  ⟨lists_1, trivial, launch0.admits_env _ _ _, launch0.least_env, fairChoices_fair.cas, fairChoices_fair.clock, w_frames, w_args, w_heap, w_applies, trivial, trivial, w_case⟩
end start1
theorem witness_1 : WitnessClaimed_1 := ⟨start1.p0, start1.e0, start1.about1, start1.theMethod, start1.args0, start1.below0, start1.atStart⟩
end Jvm.Pilot.@@N@@
