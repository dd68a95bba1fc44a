import JvmDerived
import JvmDerived.Pilot.@@N@@Statement
import JvmDerived.Pilot.@@N@@Code
set_option linter.unusedVariables false
set_option linter.unusedSimpArgs false
namespace Jvm.Pilot.@@N@@
open Jvm Jvm.ClassFile Sem Op Lib Jvm.Free Jvm.Stand Jvm.LawKit Jvm.RoadKit Bundle Jvm.Pilot.@@N@@.Jvm.D
section Own
variable {p : Program} {l : Launch} {e : Env} {R : Room} {s : State} {m : MethodId} {args : Array Value} {below : List Frame} {meth : Method} {c : Code} {T : State} {locs : List Loc} {cells slots : Nat} {Q : Option Value → Heap → List Loc → Prop} {k n : Nat}
/-- from this state the body comes to an end that meets Φ -/
def own_Go (tb : Tables) (e : Env) (below : List Frame) (Φ : Outcome → State → Prop) (S : State) : Prop :=
  ∃ U o, Steps tb e below S U ∧ U.status = .running ∧ Ended U below o ∧ Φ o U
/-- it returned; what it leaves meets Q; nothing else moved -/
def own_F (s : State) (Q : Option Value → Heap → List Loc → Prop) (k n : Nat) (o : Outcome) (U : State) : Prop := ∃ v L, o = .returned v ∧ Q v U.heap L ∧ FrameEnd s o U L k n
theorem own_st {tb : Tables} {Φ : Outcome → State → Prop} {S S' : State} (h : ∀ t, Steps tb e below S' t → Steps tb e below S t) (g : own_Go tb e below Φ S') : own_Go tb e below Φ S := by
  obtain ⟨U, o, h1, r⟩ := g
  exact ⟨U, o, h _ h1, r⟩
theorem own_tr {tb : Tables} {Φ : Outcome → State → Prop} {S S' : State} (h : Steps tb e below S S') (g : own_Go tb e below Φ S') : own_Go tb e below Φ S := by
  obtain ⟨U, o, h1, r⟩ := g
  exact ⟨U, o, h.trans h1, r⟩
theorem own_end (X : Stand p l e R s m args below meth c T locs cells slots) (v : Option Value) (hv : meth.sig.returnType = none → v = none) (hlk : meth.locks = false) (hq : Q v T.heap locs) (hk : cells ≤ k) (hn : slots ≤ n) {S : State}
    (hs : ∀ fs, (∀ (f : JFrame) (acts : List Action), f.method = m → f.locked = none → f.entered = [] → (doReturn e (T.setTop f) acts v).1 = T.setFrames fs) → Steps p.tables e below S (T.setFrames fs)) : own_Go p.tables e below (own_F s Q k n) S := by
  obtain ⟨fs, hr, hrun, hended, hW, hsame⟩ := X.leave (v := v) hv hlk
  exact ⟨_, _, hs fs hr, hrun, hended, v, locs, rfl, hq, ⟨_, rfl⟩, hW, hsame.mono hk hn⟩
theorem own_retN (X : Stand p l e R s m args below meth c T locs cells slots) (hx : p.tables.exec = Jvm.exec) {pc : Nat} {Ls : Array Slot} {z : Int32} {t : FieldType} {rest : List Value} (hret : meth.sig.returnType = some t) (ht : t = .boolean ∨ t = .byte ∨ t = .char ∨ t = .short) (hlk : meth.locks = false)
    (hd : decode c.code pc = .ok (.ireturn, 1)) (hq : Q (some (.int (nar t z))) T.heap locs) (hk : cells ≤ k) (hn : slots ≤ n) : own_Go p.tables e below (own_F s Q k n) (T.setTop (mkF m pc Ls (.int z :: rest))) :=
  own_end X _ (fun h => by rw [hret] at h; cases h) hlk hq hk hn fun fs hr => retN X hx hret ht hd hr
theorem own_retI (X : Stand p l e R s m args below meth c T locs cells slots) (hx : p.tables.exec = Jvm.exec) {pc : Nat} {Ls : Array Slot} {z : Int32} {rest : List Value} (hret : meth.sig.returnType = some .int) (hlk : meth.locks = false)
    (hd : decode c.code pc = .ok (.ireturn, 1)) (hq : Q (some (.int z)) T.heap locs) (hk : cells ≤ k) (hn : slots ≤ n) : own_Go p.tables e below (own_F s Q k n) (T.setTop (mkF m pc Ls (.int z :: rest))) :=
  own_end X _ (fun h => by rw [hret] at h; cases h) hlk hq hk hn fun fs hr => retOut X hx hret rfl (Or.inl ⟨rfl, Or.inl rfl, z, rfl⟩) hd hr
theorem own_retL (X : Stand p l e R s m args below meth c T locs cells slots) (hx : p.tables.exec = Jvm.exec) {pc : Nat} {Ls : Array Slot} {z : Int64} {rest : List Value} (hret : meth.sig.returnType = some .long) (hlk : meth.locks = false)
    (hd : decode c.code pc = .ok (.lreturn, 1)) (hq : Q (some (.long z)) T.heap locs) (hk : cells ≤ k) (hn : slots ≤ n) : own_Go p.tables e below (own_F s Q k n) (T.setTop (mkF m pc Ls (.long z :: rest))) :=
  own_end X _ (fun h => by rw [hret] at h; cases h) hlk hq hk hn fun fs hr => retOut X hx hret rfl (Or.inr (Or.inl ⟨rfl, rfl, z, rfl⟩)) hd hr
theorem own_retA (X : Stand p l e R s m args below meth c T locs cells slots) (hx : p.tables.exec = Jvm.exec) {pc : Nat} {Ls : Array Slot} {w : Value} {t : FieldType} {rest : List Value} (hret : meth.sig.returnType = some t) (ht : t.isReference = true) (hw : w.isRef = true) (hnw : narrow t w = w) (hlk : meth.locks = false)
    (hd : decode c.code pc = .ok (.areturn, 1)) (hq : Q (some w) T.heap locs) (hk : cells ≤ k) (hn : slots ≤ n) : own_Go p.tables e below (own_F s Q k n) (T.setTop (mkF m pc Ls (w :: rest))) :=
  own_end X _ (fun h => by rw [hret] at h; cases h) hlk hq hk hn fun fs hr => retOut X hx hret hnw (Or.inr (Or.inr (Or.inr (Or.inr ⟨rfl, ht, hw⟩)))) hd hr
theorem own_retD (X : Stand p l e R s m args below meth c T locs cells slots) (hx : p.tables.exec = Jvm.exec) {pc : Nat} {Ls : Array Slot} {z : UInt64} {rest : List Value} (hret : meth.sig.returnType = some .double) (hlk : meth.locks = false)
    (hd : decode c.code pc = .ok (.dreturn, 1)) (hq : Q (some (.double z)) T.heap locs) (hk : cells ≤ k) (hn : slots ≤ n) : own_Go p.tables e below (own_F s Q k n) (T.setTop (mkF m pc Ls (.double z :: rest))) :=
  own_end X _ (fun h => by rw [hret] at h; cases h) hlk hq hk hn fun fs hr => retOut X hx hret rfl (Or.inr (Or.inr (Or.inl ⟨rfl, rfl, z, rfl⟩))) hd hr
theorem own_retV (X : Stand p l e R s m args below meth c T locs cells slots) (hx : p.tables.exec = Jvm.exec) {pc : Nat} {Ls : Array Slot} (hret : meth.sig.returnType = none) (hlk : meth.locks = false)
    (hd : decode c.code pc = .ok (.return_, 1)) (hq : Q none T.heap locs) (hk : cells ≤ k) (hn : slots ≤ n) : own_Go p.tables e below (own_F s Q k n) (T.setTop (mkF m pc Ls [])) :=
  own_end X _ (fun _ => rfl) hlk hq hk hn fun fs hr => X.returnOut hx hret hd hr
theorem own_body {y : MethodName} {cd : ByteArray} {mx : Nat} {rt : Option FieldType} {ws : List Jvm.Cond} {rm : Room} {Z : State} {h0 : Heap} {as : Array Value} (hp : plainFor y = true)
    (go : ∀ (p : Program) (e : Env) (s : State) (m : MethodId) (below : List Frame) (meth : Method) (c : Code) (s₁ : State), p.tables.exec = Jvm.exec → c.code = cd → c.maxLocals = mx → s.vm.findClass y.cls = some m.cls → meth.name = y.name → meth.sig.returnType = rt → meth.locks = false → Z.Warmed39 s.vm →
      Stand p l e rm s m as below meth c s₁ [] 0 0 → s₁.heap = h0 → own_Go p.tables e below (own_F s Q rm.cells rm.slots) (s₁.setTop (entryFrame m as mx))) :
    MetFree l y (head1 (Jvm.Cond.code y cd mx rt :: ws) rm) (fun a U => a = as ∧ Z.Warmed39 U.vm ∧ U.heap = h0) (fun _ _ _ _ _ => True) (fun _ U o U' => ∃ v L, o = .returned v ∧ Q v U'.heap L ∧ FrameEnd U o U' L rm.cells rm.slots) := by
  refine MetFree.of_bodySF hp hisR ?_
  intro p e s m args below meth c s₁ Bd hml0 hP hK
  obtain ⟨rfl, hZ, hh⟩ := hP
  exact go p e s m below meth c s₁ Bd.exec Bd.bytes hml0 (findClass_of_methodNamed Bd.named) (name_of_methodNamed Bd.named Bd.method).1 Bd.returns Bd.notSynchronized hZ (Stand.of_body Bd) (by rw [← hh, Bd.state]; rfl)
end Own
theorem own_narb {P : Prop} [Decidable P] : nar .boolean (if P then (1 : Int32) else (0 : Int32)) = if P then (1 : Int32) else (0 : Int32) := by split <;> rfl
/-- an array by its length and what each place holds -/
def own_A (Z : State) (h : Heap) (a : Addr) (ty : FieldType) (n : Nat) (f : Nat → Value) : Prop := ∃ c : Cell, Arr Z h a c ty ∧ c.slots.size = n ∧ n < 2 ^ 31 ∧ ∀ j, j < n → c.slots[j]? = some (f j)
def own_up (f : Nat → Value) (i : Nat) (v : Value) : Nat → Value := fun j => if j = i then v else f j
def own_Ix (j : Int32) (i n : Nat) : Prop := ¬ j < 0 ∧ j.toNatClampNeg = i ∧ i < n
section Arrs
variable {Z : State} {h h' : Heap} {a b : Addr} {ty : FieldType} {n i : Nat} {f : Nat → Value} {v : Value} {sl : Nat} {ws : List Addr} {c : Cell} {j z : Int32}
theorem own_A.lt (F : own_A Z h a ty n f) : a < h.size := by obtain ⟨c, A, -⟩ := F; exact A.lt
theorem own_A.ext (F : own_A Z h a ty n f) (E : Ext h h') : own_A Z h' a ty n f := by obtain ⟨c, A, r⟩ := F; exact ⟨c, A.ext E, r⟩
theorem own_A.other (F : own_A Z h b ty n f) (W : Wr h h' a sl v) (q : b ≠ a) : own_A Z h' b ty n f := by obtain ⟨c, A, r⟩ := F; exact ⟨c, A.other W q, r⟩
theorem own_A.keep (F : own_A Z h a ty n f) (K : Keep h h' ws) (q : a ∉ ws) : own_A Z h' a ty n f := by obtain ⟨c, A, r⟩ := F; exact ⟨c, ⟨K.2.1 a c A.1 q, A.2⟩, r⟩
theorem own_clamp (z : Int32) : z.toNatClampNeg < 2 ^ 31 := by
  have := Int32.toInt_lt z
  simp only [Int32.toNatClampNeg]; omega
theorem own_A.new {k : ClassId} (A : Arr Z h a (newA k ty z) ty) (hz : z.toNatClampNeg = n) : own_A Z h a ty n (fun _ => defaultValue ty) := by
  refine ⟨_, A, by rw [sz_new, hz], by rw [← hz]; exact own_clamp z, fun j hj => ?_⟩
  simp [newA, hz, hj]
theorem own_ix (h1 : ¬ j < 0) (h2 : j.toNatClampNeg = i) (h3 : i < n) : own_Ix j i n := ⟨h1, h2, h3⟩
theorem own_in (S : c.slots.size = n) (h : own_Ix j i n) : ¬ (j < 0 ∨ c.slots.size ≤ j.toNatClampNeg) := by
  obtain ⟨h1, h2, h3⟩ := h
  rw [S, h2]
  exact fun q => q.elim h1 (fun r => absurd h3 (Nat.not_lt.mpr r))
theorem own_at (S : c.slots.size = n) (V : ∀ j, j < n → c.slots[j]? = some (f j)) (h : own_Ix j i n) (hv : f i = v) : c.slots[j.toNatClampNeg]? = some v := by
  obtain ⟨h1, h2, h3⟩ := h
  rw [h2, V i h3, hv]
theorem own_A.set (F : own_A Z h a ty n f) (hj : own_Ix j i n) (W : Wr h h' a j.toNatClampNeg v) : own_A Z h' a ty n (own_up f i v) := by
  obtain ⟨c, A, S, M, V⟩ := F
  obtain ⟨h1, h2, h3⟩ := hj
  rw [h2] at W
  refine ⟨c.setSlot i v, A.same W, by rw [sz_set]; exact S, M, fun j' hj' => ?_⟩
  show (c.slots.setIfInBounds i v)[j']? = _
  unfold own_up
  by_cases e : j' = i
  · subst e; rw [if_pos rfl]; simp [S, hj']
  · rw [if_neg e, Array.getElem?_setIfInBounds_ne (Ne.symm e)]; exact V j' hj'
theorem own_A.cong {g : Nat → Value} (F : own_A Z h a ty n f) (q : ∀ j, j < n → f j = g j) : own_A Z h a ty n g := by
  obtain ⟨c, A, S, M, V⟩ := F
  exact ⟨c, A, S, M, fun j hj => by rw [V j hj, q j hj]⟩
end Arrs
/-- a short array's values by a list -/
def own_V (vs : List Value) : Nat → Value := fun j => vs.getD j .null
theorem own_selP {Z s : State} {a0 args : Array Value} {y : MethodName} {n : Nat} (hZ : Z.Warmed39 s.vm) (wi : (Jvm.Cond.instantiable y.cls n).before a0 Z = true) (wp : (Jvm.Cond.privateMethod y).before a0 Z = true) (wm : (Jvm.Cond.instanceMethod y).before a0 Z = true)
    (hy : y.cls ≠ "java/lang/invoke/MethodHandle" ∧ y.cls ≠ "java/lang/invoke/VarHandle") : (Jvm.Cond.selects y.cls y y).before args s = true := by
  have w : (Jvm.Cond.instantiable y.cls n).before args s = true := mvT hZ wi
  obtain ⟨c, k, h1, h2, -, h4, -⟩ := Cond.instantiable_spec w
  exact selects_self_of_private h1 h2 (Bool.or_eq_false_iff.mp h4).1 (Cond.privateMethod_at (mvP hZ wp (args := #[]))) (mvT hZ wm) hy
section OwnW
variable {p : Program} {l : Launch} {e : Env} {R : Room} {s : State} {vm0 : Vm} {k0 : Nat} {m : MethodId} {args : Array Value} {below : List Frame} {meth : Method} {c : Code} {T : State} {locs : List Loc} {cells slots : Nat} {Q : Option Value → Heap → List Loc → Prop} {k n : Nat}
/-- as own_F, of a body that may load String constants -/
def own_FW (s : State) (Q : Option Value → Heap → List Loc → Prop) (k n : Nat) (o : Outcome) (U : State) : Prop := ∃ v L, o = .returned v ∧ Q v U.heap L ∧ ReturnedEndW s o U L k n
theorem own_endW (X : Stand p l e R (s.setVm vm0) m args below meth c T locs cells slots) (hS : s.Since vm0 k0) (hk0 : k0 ≤ T.heap.size) (v : Option Value) (hv : meth.sig.returnType = none → v = none) (hlk : meth.locks = false) (hq : Q v T.heap locs) (hk : cells ≤ k) (hn : slots ≤ n) {S : State}
    (hs : ∀ fs, (∀ (f : JFrame) (acts : List Action), f.method = m → f.locked = none → f.entered = [] → (doReturn e (T.setTop f) acts v).1 = T.setFrames fs) → Steps p.tables e below S (T.setFrames fs)) : own_Go p.tables e below (own_FW s Q k n) S := by
  obtain ⟨fs, hr, hrun, hended, hW, hsame⟩ := X.leave (v := v) hv hlk
  obtain ⟨h1, h2, h3⟩ := hS.ended (U := T.setFrames fs) hW hk0 hsame
  exact ⟨_, _, hs fs hr, hrun, hended, v, locs, rfl, hq, ⟨_, rfl⟩, h1, h2, h3.mono hk hn⟩
theorem own_retNW (X : Stand p l e R (s.setVm vm0) m args below meth c T locs cells slots) (hS : s.Since vm0 k0) (hk0 : k0 ≤ T.heap.size) (hx : p.tables.exec = Jvm.exec) {pc : Nat} {Ls : Array Slot} {z : Int32} {t : FieldType} {rest : List Value} (hret : meth.sig.returnType = some t) (ht : t = .boolean ∨ t = .byte ∨ t = .char ∨ t = .short) (hlk : meth.locks = false)
    (hd : decode c.code pc = .ok (.ireturn, 1)) (hq : Q (some (.int (nar t z))) T.heap locs) (hk : cells ≤ k) (hn : slots ≤ n) : own_Go p.tables e below (own_FW s Q k n) (T.setTop (mkF m pc Ls (.int z :: rest))) :=
  own_endW X hS hk0 _ (fun h => by rw [hret] at h; cases h) hlk hq hk hn fun fs hr => retN X hx hret ht hd hr
theorem own_retVW (X : Stand p l e R (s.setVm vm0) m args below meth c T locs cells slots) (hS : s.Since vm0 k0) (hk0 : k0 ≤ T.heap.size) (hx : p.tables.exec = Jvm.exec) {pc : Nat} {Ls : Array Slot} (hret : meth.sig.returnType = none) (hlk : meth.locks = false)
    (hd : decode c.code pc = .ok (.return_, 1)) (hq : Q none T.heap locs) (hk : cells ≤ k) (hn : slots ≤ n) : own_Go p.tables e below (own_FW s Q k n) (T.setTop (mkF m pc Ls [])) :=
  own_endW X hS hk0 _ (fun _ => rfl) hlk hq hk hn fun fs hr => X.returnOut hx hret hd hr
theorem own_bodyW {y : MethodName} {cd : ByteArray} {mx : Nat} {rt : Option FieldType} {ws : List Jvm.Cond} {rm : Room} {Z : State} {h0 : Heap} {as : Array Value} (hp : plainFor y = true)
    (go : ∀ (p : Program) (e : Env) (s : State) (m : MethodId) (below : List Frame) (meth : Method) (c : Code) (s₁ : State), p.tables.exec = Jvm.exec → c.code = cd → c.maxLocals = mx → s.vm.findClass y.cls = some m.cls → meth.name = y.name → meth.sig.returnType = rt → meth.locks = false → Z.Warmed39 s.vm →
      Stand p l e rm s m as below meth c s₁ [] 0 0 → s₁.heap = h0 → own_Go p.tables e below (own_FW s Q rm.cells rm.slots) (s₁.setTop (entryFrame m as mx))) :
    MetFree l y (head1 (Jvm.Cond.code y cd mx rt :: ws) rm) (fun a U => a = as ∧ Z.Warmed39 U.vm ∧ U.heap = h0) (fun _ _ _ _ _ => True) (fun _ U o U' => ∃ v L, o = .returned v ∧ Q v U'.heap L ∧ ReturnedEndW U o U' L rm.cells rm.slots) := by
  refine MetFree.of_bodySF hp hisR ?_
  intro p e s m args below meth c s₁ Bd hml0 hP hK
  obtain ⟨rfl, hZ, hh⟩ := hP
  exact go p e s m below meth c s₁ Bd.exec Bd.bytes hml0 (findClass_of_methodNamed Bd.named) (name_of_methodNamed Bd.named Bd.method).1 Bd.returns Bd.notSynchronized hZ (Stand.of_body Bd) (by rw [← hh, Bd.state]; rfl)
/-- as own_bodyW, from the case's own start -/
theorem own_bodyZ {y : MethodName} {cd : ByteArray} {mx : Nat} {rt : Option FieldType} {ws : List Jvm.Cond} {rm : Room} {Z : State} {as : Array Value} (hp : plainFor y = true)
    (go : ∀ (p : Program) (e : Env) (m : MethodId) (below : List Frame) (meth : Method) (c : Code) (s₁ : State), p.tables.exec = Jvm.exec → c.code = cd → c.maxLocals = mx → Z.vm.findClass y.cls = some m.cls → meth.name = y.name → meth.sig.returnType = rt → meth.locks = false →
      Stand p l e rm Z m as below meth c s₁ [] 0 0 → s₁.heap = Z.heap → own_Go p.tables e below (own_FW Z Q rm.cells rm.slots) (s₁.setTop (entryFrame m as mx))) :
    MetFree l y (head1 (Jvm.Cond.code y cd mx rt :: ws) rm) (fun a U => a = as ∧ U = Z) (fun _ _ _ _ _ => True) (fun _ U o U' => ∃ v L, o = .returned v ∧ Q v U'.heap L ∧ ReturnedEndW U o U' L rm.cells rm.slots) := by
  refine MetFree.of_bodySF hp hisR ?_
  intro p e s m args below meth c s₁ Bd hml0 hP hK
  obtain ⟨rfl, rfl⟩ := hP
  exact go p e m below meth c s₁ Bd.exec Bd.bytes hml0 (findClass_of_methodNamed Bd.named) (name_of_methodNamed Bd.named Bd.method).1 Bd.returns Bd.notSynchronized (Stand.of_body Bd) (by rw [Bd.state]; rfl)
end OwnW

def own_ab (d : UInt64) : UInt64 := d &&& 0x7fffffffffffffff
def own_r1 (d : UInt64) : UInt64 := FP.dadd (4841369599423283200 : UInt64) (own_ab d)
def own_r2 (d : UInt64) : UInt64 := FP.dsub (own_r1 d) (4841369599423283200 : UInt64)
def own_cs (d : UInt64) : UInt64 := copySign64 FP.dconst1 d
def own_rn (d : UInt64) : UInt64 := FP.dmul (own_cs d) (own_r2 d)
/-- what the walk of DecimalTerm's constructor asks of its double -/
def own_ok (d : UInt64) : Bool := decide (own_ab d ≤ 0x7ff0000000000000) && decide (own_ab (own_r1 d) ≤ 0x7ff0000000000000) && decide (own_ab (own_r2 d) ≤ 0x7ff0000000000000) && decide (own_ab (own_rn d) ≤ 0x7ff0000000000000) &&
  decide (FP.dIsNaN d = false) && decide (¬ (0 : Int32) < cmpValue (FP.dcmp (own_ab d) (9218868437227405311 : UInt64)) .g) && decide (cmpValue (FP.dcmp (own_ab d) (4841369599423283200 : UInt64)) .g < (0 : Int32)) && decide (¬ cmpValue (FP.dcmp d (own_rn d)) .l = (0 : Int32))
def own_dv (n : Int32) : UInt64 := FP.dadd (FP.i2d n) (4602678819172646912 : UInt64)
theorem own_all : ∀ k : Fin 256, own_ok (own_dv (Int32.ofNat k.1 - (128 : Int32))) = true := by decide +kernel
theorem own_okE {d : UInt64} (h : own_ok d = true) : own_ab d ≤ 0x7ff0000000000000 ∧ own_ab (own_r1 d) ≤ 0x7ff0000000000000 ∧ own_ab (own_r2 d) ≤ 0x7ff0000000000000 ∧ own_ab (own_rn d) ≤ 0x7ff0000000000000 ∧ FP.dIsNaN d = false ∧ (¬ (0 : Int32) < cmpValue (FP.dcmp (own_ab d) (9218868437227405311 : UInt64)) .g) ∧ cmpValue (FP.dcmp (own_ab d) (4841369599423283200 : UInt64)) .g < (0 : Int32) ∧ ¬ cmpValue (FP.dcmp d (own_rn d)) .l = (0 : Int32) := by
  simp only [own_ok, Bool.and_eq_true, decide_eq_true_eq] at h
  obtain ⟨⟨⟨⟨⟨⟨⟨h1, h2⟩, h3⟩, h4⟩, h5⟩, h6⟩, h7⟩, h8⟩ := h
  exact ⟨h1, h2, h3, h4, h5, h6, h7, h8⟩
theorem own_dok {x v : Int32} (q : v = (((x.toUInt32 >>> ((2 : Int32) &&& 31).toUInt32).toInt32) &&& (255 : Int32)) - (128 : Int32)) : own_ok (own_dv v) = true := by
  obtain ⟨w, hw⟩ : ∃ w : Int32, w = (((x.toUInt32 >>> ((2 : Int32) &&& 31).toUInt32).toInt32) &&& (255 : Int32)) := ⟨_, rfl⟩
  have b : 0 ≤ w.toInt ∧ w.toInt ≤ 255 := by rw [hw, c_mask _ _ 8 (by decide) (by decide)]; omega
  rw [← hw] at q
  have e : w = Int32.ofNat w.toInt.toNat := by
    apply Int32.toInt_inj.mp
    rw [Int32.toInt_ofNat_of_lt (by omega)]
    omega
  have a := own_all ⟨w.toInt.toNat, by omega⟩
  rw [q, e]
  exact a
section OwnNo
variable {vm : Vm} {c t : ClassId} {k k' : Class}
/-- a class without a superclass is below itself alone -/
theorem own_sub0 (hk : vm.classes[c]? = some k) (hs : k.super = none) (hne : c ≠ t) : ∀ fuel, vm.isSubclassAux fuel c t = false
  | 0 => rfl
  | f + 1 => by
    show (c == t || match vm.classes[c]? with | some k => (match k.super with | some p => vm.isSubclassAux f p t | none => false) | none => false) = false
    rw [hk]
    show (c == t || match k.super with | some p => vm.isSubclassAux f p t | none => false) = false
    rw [hs, beq_false_of_ne hne]
    rfl
/-- an ordinary class is no instance of a class that is no interface and not above it -/
theorem own_asg (hk : vm.classes[c]? = some k) (ht : vm.classes[t]? = some k') (o : k.kind = .ordinary) (o' : k'.kind = .ordinary) (ni : k'.isInterface = false) (hne : c ≠ t) (ns : vm.isSubclass c t = false) : vm.assignable c t = false := by
  have step : vm.assignable c t = (c == t || if k'.isInterface then (vm.superinterfaces c).contains t else vm.isSubclass c t) := by
    simp only [Vm.assignable, Vm.assignableAux, hk, ht, o, o']
  rw [step, ni, ns, beq_false_of_ne hne]
  rfl
end OwnNo
theorem own_NSroot {Z : State} {a0 : Array Value} {O K : String} {n : Nat} (w : (Jvm.Cond.noSuperclass O).before a0 Z = true) (wk : (Jvm.Cond.instantiable K n).before a0 Z = true) (hn : O ≠ K) : NS Z O K := by
  obtain ⟨t, -, ht, -⟩ := Cond.instantiable_spec wk
  obtain ⟨c, k, hc, hk, hs, -⟩ := Cond.noSuperclass_spec w
  exact ⟨c, t, hc, ht, own_sub0 hk hs (ids_ne hc ht hn)⟩
theorem own_no {Z : State} {a0 : Array Value} {C S K : String} {n : Nat} (w : (Jvm.Cond.superclass C S).before a0 Z = true) (wk : (Jvm.Cond.instantiable K n).before a0 Z = true) (nn : NS Z C K) (hn : C ≠ K) : ∃ c t, Z.vm.findClass C = some c ∧ Z.vm.findClass K = some t ∧ Z.vm.assignable c t = false := by
  obtain ⟨c, t, fc, ft, sub⟩ := nn
  obtain ⟨-, k, -, -, hk, -, -, hkind, -⟩ := Cond.superclass_spec fc w
  obtain ⟨t2, k2, ft2, hk2, hkind2, plain2, -⟩ := Cond.instantiable_spec wk
  obtain rfl : t = t2 := Option.some.inj (ft.symm.trans ft2)
  exact ⟨c, t, fc, ft, own_asg hk hk2 hkind hkind2 (Bool.or_eq_false_iff.mp plain2).1 (ids_ne fc ft hn) (sub _)⟩
theorem own_if {P Q : Prop} [Decidable P] [Decidable Q] (h : P ↔ Q) : (if P then (1 : Int32) else (0 : Int32)) = if Q then (1 : Int32) else (0 : Int32) := by
  by_cases p : P
  · rw [if_pos p, if_pos (h.mp p)]
  · rw [if_neg p, if_neg (fun q => p (h.mpr q))]
theorem own_addz (a d : Int64) : a = a + d ↔ d = (0 : Int64) := by
  constructor
  · intro h
    have r := congrArg Int64.toInt h
    have s := c_ladd a d
    have b := rng64 d
    apply Int64.toInt_inj.mp
    show d.toInt = 0
    omega
  · intro h
    rw [h, Int64.add_zero]
theorem d2_0 : decode jdk_30_method_1_code 0 = .ok (.aload_n 0, 1) := by decide +kernel
theorem d2_1 : decode jdk_30_method_1_code 1 = .ok (.invokespecial 1, 3) := by decide +kernel
theorem d2_4 : decode jdk_30_method_1_code 4 = .ok (.return_, 1) := by decide +kernel
theorem pn2 : plainName "java/lang/Record" = true := by first | (simp [plainName, overriddenIn]; done) | decide +kernel
theorem ef2 (m : MethodId) (a : Addr) : entryFrame m #[(.ref a)] 1 = mkF m 0 #[.val (.ref a)] [] := by first | (simp [entryFrame, mkF, argsToLocals, Value.category]; done) | rfl
def Q2 (Z : State) (a : Addr) (h0 : Heap) (n0 : Nat) (v : Option Value) (h : Heap) (L : List Loc) : Prop := v = none ∧ Fr n0 L ∧ h = h0
set_option maxRecDepth 65536 in
set_option maxHeartbeats 40000000 in
theorem rm2 (l : Launch) (Z : State) (a0 : Array Value) (hw : ∀ d ∈ tables_1, d.before a0 Z = true) (ws : List Jvm.Cond) (a : Addr) (h0 : Heap) (n0 : Nat) (Z0 : n0 ≤ h0.size)  :
    MetFree l (⟨"java/lang/Record", "<init>", "()V"⟩ : MethodName) (head1 (Jvm.Cond.code (⟨"java/lang/Record", "<init>", "()V"⟩ : MethodName) jdk_30_method_1_code 1 none :: ws) ({ frames := 1, cells := 0, slots := 0, locals := 12 } : Room)) (fun as' U => as' = #[(.ref a)] ∧ Z.Warmed39 U.vm ∧ U.heap = h0) (fun _ _ _ _ _ => True) (fun _ U o U' => ∃ v L, o = .returned v ∧ Q2 Z a h0 n0 v U'.heap L ∧ FrameEnd U o U' L ({ frames := 1, cells := 0, slots := 0, locals := 12 } : Room).cells ({ frames := 1, cells := 0, slots := 0, locals := 12 } : Room).slots) := by
  refine own_body (plainFor_of_name pn2) ?_
  intro p e s m below meth c s₁ hx hby hml hown0 hnm hret hlk hZ X0 e0
  have hown : s.vm.findClass "java/lang/Record" = some m.cls := hown0
  have N0 := Fr.nil n0
  rw [ef2]
  show own_Go p.tables e below _ (s₁.setTop (mkF m 0 #[.val (.ref a)] []))
  refine own_st (S' := s₁.setTop (mkF m 1 #[.val (.ref a)] [(.ref a)])) (fun t k => XS.aloadN X0.here hx rfl (hb hby d2_0) rfl rfl k) ?_
  obtain ⟨T1, X1, e1, st1⟩ := initO X0 hx hZ hown (hw _ (List.mem_of_getElem? (i := 11) rfl)) (hw _ (List.mem_of_getElem? (i := 12) rfl)) (hw _ (List.mem_of_getElem? (i := 13) rfl)) e0 (g := (mkF m 1 #[.val (.ref a)] [(.ref a)])) rfl (by rw [hml]; rfl) rfl (hb hby d2_1) (by decide) (W := 0) (by show 2 * 0 + _ ≤ _; exact Nat.le_of_eq rfl) (by decide)
  refine own_st st1 ?_
  show own_Go p.tables e below _ (T1.setTop (mkF m 4 #[.val (.ref a)] []))
  refine own_retV X1 hx hret hlk (hb hby d2_4) ?_ (by decide) (by decide)
  rw [e1]
  exact ⟨rfl, N0, rfl⟩
theorem d1_0 : decode prog_138_method_1_code 0 = .ok (.aload_n 0, 1) := by decide +kernel
theorem d1_1 : decode prog_138_method_1_code 1 = .ok (.invokespecial 1, 3) := by decide +kernel
theorem d1_4 : decode prog_138_method_1_code 4 = .ok (.aload_n 0, 1) := by decide +kernel
theorem d1_5 : decode prog_138_method_1_code 5 = .ok (.lload_n 1, 1) := by decide +kernel
theorem d1_6 : decode prog_138_method_1_code 6 = .ok (.putfield 7, 3) := by decide +kernel
theorem d1_9 : decode prog_138_method_1_code 9 = .ok (.return_, 1) := by decide +kernel
theorem pd1_0 : parseMethodDescriptor "()V" = some ⟨[], none⟩ := by decide +kernel
theorem pn1 : plainName "com/example/deliberation/deliberation/term/IntegerTerm" = true := by first | (simp [plainName, overriddenIn]; done) | decide +kernel
theorem ef1 (m : MethodId) (a : Addr) (q1 : Int64) : entryFrame m #[(.ref a), (.long q1)] 3 = mkF m 0 #[.val (.ref a), .val (.long q1), .second] [] := by first | (simp [entryFrame, mkF, argsToLocals, Value.category]; done) | rfl
def Q1 (Z : State) (a : Addr) (q1 : Int64) (w : Int64) (h0 : Heap) (n0 : Nat) (v : Option Value) (h : Heap) (L : List Loc) : Prop := v = none ∧ Fr n0 L ∧ Keep h0 h [a] ∧ Exa Z h a "com/example/deliberation/deliberation/term/IntegerTerm" ∧ Fld Z h a "com/example/deliberation/deliberation/term/IntegerTerm" "value" "J" (.long q1)
set_option maxRecDepth 65536 in
set_option maxHeartbeats 40000000 in
theorem rm1 (l : Launch) (Z : State) (a0 : Array Value) (hw : ∀ d ∈ tables_1, d.before a0 Z = true) (ws : List Jvm.Cond) (a : Addr) (q1 : Int64) (w : Int64) (h0 : Heap) (n0 : Nat) (Z0 : n0 ≤ h0.size) (E_a : Exa Z h0 a "com/example/deliberation/deliberation/term/IntegerTerm") (F_a_value : Fld Z h0 a "com/example/deliberation/deliberation/term/IntegerTerm" "value" "J" (.long w)) (G_a : n0 ≤ a) :
    MetFree l (⟨"com/example/deliberation/deliberation/term/IntegerTerm", "<init>", "(J)V"⟩ : MethodName) (head1 (Jvm.Cond.code (⟨"com/example/deliberation/deliberation/term/IntegerTerm", "<init>", "(J)V"⟩ : MethodName) prog_138_method_1_code 3 none :: ws) ({ frames := 2, cells := 0, slots := 0, locals := 24 } : Room)) (fun as' U => as' = #[(.ref a), (.long q1)] ∧ Z.Warmed39 U.vm ∧ U.heap = h0) (fun _ _ _ _ _ => True) (fun _ U o U' => ∃ v L, o = .returned v ∧ Q1 Z a q1 w h0 n0 v U'.heap L ∧ FrameEnd U o U' L ({ frames := 2, cells := 0, slots := 0, locals := 24 } : Room).cells ({ frames := 2, cells := 0, slots := 0, locals := 24 } : Room).slots) := by
  refine own_body (plainFor_of_name pn1) ?_
  intro p e s m below meth c s₁ hx hby hml hown0 hnm hret hlk hZ X0 e0
  have hown : s.vm.findClass "com/example/deliberation/deliberation/term/IntegerTerm" = some m.cls := hown0
  have N0 := Fr.nil n0
  rw [ef1]
  have K0 : Keep h0 h0 [a] := Keep.refl h0 [a]
  show own_Go p.tables e below _ (s₁.setTop (mkF m 0 #[.val (.ref a), .val (.long q1), .second] []))
  refine own_st (S' := s₁.setTop (mkF m 1 #[.val (.ref a), .val (.long q1), .second] [(.ref a)])) (fun t k => XS.aloadN X0.here hx rfl (hb hby d1_0) rfl rfl k) ?_
  obtain ⟨_, _, ⟨T1, L1, k1, n1⟩, -, X1, ⟨Lc1, hQ1, l1, y1, z1⟩, st1⟩ := X0.specialBack hx (y := (⟨"java/lang/Record", "<init>", "()V"⟩ : MethodName)) rfl hown (mvT hZ (hw _ (List.mem_of_getElem? (i := 6) rfl))) (mvT hZ (hw _ (List.mem_of_getElem? (i := 7) rfl))) (mvT hZ (hw _ (List.mem_of_getElem? (i := 10) rfl))) (by decide) (backOf (W := 0) (rm2 l Z a0 hw [] a h0 n0 Z0 ) hZ (hw _ (List.mem_of_getElem? (i := 10) rfl)) (hw _ (List.mem_of_getElem? (i := 9) rfl)) (by decide) (by decide)) (g := (mkF m 1 #[.val (.ref a), .val (.long q1), .second] [(.ref a)])) rfl (by rw [hml]; rfl) (Steps.refl _) (a := a) (argsL := []) (rest := []) (lenOf pd1_0 rfl) rfl (by show 2 * 0 + _ ≤ _; exact Nat.le_of_eq rfl) (hb hby d1_1) (fun _ _ => ⟨rfl, e0, (by decide : 0 + 0 ≤ _), (by decide : 0 + 0 ≤ _)⟩)
  dsimp only [Pt.U, Pt.locs, Pt.cells, Pt.slots] at X1 l1 y1 z1 st1 hQ1
  rw [l1, y1, z1] at X1
  obtain ⟨rfl, N1q, hh1⟩ := hQ1
  have N1 := Fr.app N0 N1q
  refine own_tr st1 ?_
  show own_Go p.tables e below _ (T1.setTop (mkF m 4 #[.val (.ref a), .val (.long q1), .second] []))
  refine own_st (S' := T1.setTop (mkF m 5 #[.val (.ref a), .val (.long q1), .second] [(.ref a)])) (fun t k => XS.aloadN X1.here hx rfl (hb hby d1_4) rfl rfl k) ?_
  refine own_st (S' := T1.setTop (mkF m 6 #[.val (.ref a), .val (.long q1), .second] [(.long q1), (.ref a)])) (fun t k => XS.lloadN X1.here hx rfl (hb hby d1_5) rfl k) ?_
  obtain ⟨T2, h2, X2, e2, W2, st2⟩ := putF X1 hx hZ hown (host := "") (Or.inl (hw _ (List.mem_of_getElem? (i := 14) rfl))) Via.refl hh1 F_a_value E_a (Or.inr ⟨(hw _ (List.mem_of_getElem? (i := 15) rfl)), rfl, hnm⟩) (hw _ (List.mem_of_getElem? (i := 1) rfl)) (ty := .long) (by decide) rfl rfl (g := (mkF m 6 #[.val (.ref a), .val (.long q1), .second] [(.long q1), (.ref a)])) rfl rfl (hb hby d1_6)
  refine own_st st2 ?_
  have f3 : Exa Z h2 a "com/example/deliberation/deliberation/term/IntegerTerm" := E_a.wr W2
  have Z2 : n0 ≤ h2.size := Nat.le_trans Z0 (Keep.of_wr W2).1
  have N2 := Fr.snoc X2 N1 G_a
  have K2 : Keep h0 h2 [a] := K0.wr W2 (Or.inl (List.mem_of_getElem? (i := 0) rfl))
  have f4 : Fld Z h2 a "com/example/deliberation/deliberation/term/IntegerTerm" "value" "J" (.long q1) := F_a_value.same W2
  show own_Go p.tables e below _ (T2.setTop (mkF m 9 #[.val (.ref a), .val (.long q1), .second] []))
  refine own_retV X2 hx hret hlk (hb hby d1_9) ?_ (by decide) (by decide)
  rw [e2]
  exact ⟨rfl, N2, K2, f3, f4⟩
theorem d3_0 : decode prog_138_method_4_code 0 = .ok (.aload_n 1, 1) := by decide +kernel
theorem d3_1 : decode prog_138_method_4_code 1 = .ok (.instanceof 8, 3) := by decide +kernel
theorem d3_4 : decode prog_138_method_4_code 4 = .ok (.ifCond .eq 24, 3) := by decide +kernel
theorem d3_7 : decode prog_138_method_4_code 7 = .ok (.aload_n 1, 1) := by decide +kernel
theorem d3_8 : decode prog_138_method_4_code 8 = .ok (.checkcast 8, 3) := by decide +kernel
theorem d3_11 : decode prog_138_method_4_code 11 = .ok (.astore_n 2, 1) := by decide +kernel
theorem d3_12 : decode prog_138_method_4_code 12 = .ok (.aload_n 0, 1) := by decide +kernel
theorem d3_13 : decode prog_138_method_4_code 13 = .ok (.getfield 7, 3) := by decide +kernel
theorem d3_16 : decode prog_138_method_4_code 16 = .ok (.aload_n 2, 1) := by decide +kernel
theorem d3_17 : decode prog_138_method_4_code 17 = .ok (.getfield 7, 3) := by decide +kernel
theorem d3_20 : decode prog_138_method_4_code 20 = .ok (.lcmp, 1) := by decide +kernel
theorem d3_21 : decode prog_138_method_4_code 21 = .ok (.ifCond .ne 7, 3) := by decide +kernel
theorem d3_24 : decode prog_138_method_4_code 24 = .ok (.iconst 1, 1) := by decide +kernel
theorem d3_25 : decode prog_138_method_4_code 25 = .ok (.goto 4, 3) := by decide +kernel
theorem d3_28 : decode prog_138_method_4_code 28 = .ok (.iconst 0, 1) := by decide +kernel
theorem d3_29 : decode prog_138_method_4_code 29 = .ok (.ireturn, 1) := by decide +kernel
theorem pn3 : plainName "com/example/deliberation/deliberation/term/IntegerTerm" = true := by first | (simp [plainName, overriddenIn]; done) | decide +kernel
theorem ef3 (m : MethodId) (a : Addr) (r : Addr) : entryFrame m #[(.ref a), (.ref r)] 3 = mkF m 0 #[.val (.ref a), .val (.ref r), .unset] [] := by first | (simp [entryFrame, mkF, argsToLocals, Value.category]; done) | rfl
def Q3 (Z : State) (a : Addr) (r : Addr) (w1 : Int64) (w2 : Int64) (h0 : Heap) (n0 : Nat) (v : Option Value) (h : Heap) (L : List Loc) : Prop := v = some (.int (if w1 = w2 then (1 : Int32) else (0 : Int32))) ∧ Fr n0 L ∧ h = h0
set_option maxRecDepth 65536 in
set_option maxHeartbeats 40000000 in
theorem rm3 (l : Launch) (Z : State) (a0 : Array Value) (hw : ∀ d ∈ tables_1, d.before a0 Z = true) (ws : List Jvm.Cond) (a : Addr) (r : Addr) (w1 : Int64) (w2 : Int64) (h0 : Heap) (n0 : Nat) (Z0 : n0 ≤ h0.size) (E_r : Exa Z h0 r "com/example/deliberation/deliberation/term/IntegerTerm") (F_a_value : Fld Z h0 a "com/example/deliberation/deliberation/term/IntegerTerm" "value" "J" (.long w1)) (F_r_value : Fld Z h0 r "com/example/deliberation/deliberation/term/IntegerTerm" "value" "J" (.long w2)) :
    MetFree l (⟨"com/example/deliberation/deliberation/term/IntegerTerm", "equals", "(Ljava/lang/Object;)Z"⟩ : MethodName) (head1 (Jvm.Cond.code (⟨"com/example/deliberation/deliberation/term/IntegerTerm", "equals", "(Ljava/lang/Object;)Z"⟩ : MethodName) prog_138_method_4_code 3 (some .boolean) :: ws) ({ frames := 0, cells := 0, slots := 0, locals := 0 } : Room)) (fun as' U => as' = #[(.ref a), (.ref r)] ∧ Z.Warmed39 U.vm ∧ U.heap = h0) (fun _ _ _ _ _ => True) (fun _ U o U' => ∃ v L, o = .returned v ∧ Q3 Z a r w1 w2 h0 n0 v U'.heap L ∧ FrameEnd U o U' L ({ frames := 0, cells := 0, slots := 0, locals := 0 } : Room).cells ({ frames := 0, cells := 0, slots := 0, locals := 0 } : Room).slots) := by
  refine own_body (plainFor_of_name pn3) ?_
  intro p e s m below meth c s₁ hx hby hml hown0 hnm hret hlk hZ X0 e0
  have hown : s.vm.findClass "com/example/deliberation/deliberation/term/IntegerTerm" = some m.cls := hown0
  have N0 := Fr.nil n0
  rw [ef3]
  show own_Go p.tables e below _ (s₁.setTop (mkF m 0 #[.val (.ref a), .val (.ref r), .unset] []))
  refine own_st (S' := s₁.setTop (mkF m 1 #[.val (.ref a), .val (.ref r), .unset] [(.ref r)])) (fun t k => XS.aloadN X0.here hx rfl (hb hby d3_0) rfl rfl k) ?_
  obtain ⟨T1, X1, e1, st1⟩ := instY X0 hx hZ hown (hw _ (List.mem_of_getElem? (i := 21) rfl)) e0 (Ins.self E_r) (g := (mkF m 1 #[.val (.ref a), .val (.ref r), .unset] [(.ref r)])) rfl rfl (hb hby d3_1)
  refine own_st st1 ?_
  show own_Go p.tables e below _ (T1.setTop (mkF m 4 #[.val (.ref a), .val (.ref r), .unset] [(.int (1 : Int32))]))
  refine own_st (S' := T1.setTop (mkF m 7 #[.val (.ref a), .val (.ref r), .unset] [])) (fun t k => XS.ifNo X1.here hx rfl (hb hby d3_4) rfl ((if0 _ _).trans (feq (by decide)).1) k) ?_
  show own_Go p.tables e below _ (T1.setTop (mkF m 7 #[.val (.ref a), .val (.ref r), .unset] []))
  refine own_st (S' := T1.setTop (mkF m 8 #[.val (.ref a), .val (.ref r), .unset] [(.ref r)])) (fun t k => XS.aloadN X1.here hx rfl (hb hby d3_7) rfl rfl k) ?_
  obtain ⟨T2, X2, e2, st2⟩ := castY X1 hx hZ hown (hw _ (List.mem_of_getElem? (i := 21) rfl)) e1 (Ins.self E_r) (g := (mkF m 8 #[.val (.ref a), .val (.ref r), .unset] [(.ref r)])) rfl rfl (hb hby d3_8)
  refine own_st st2 ?_
  show own_Go p.tables e below _ (T2.setTop (mkF m 11 #[.val (.ref a), .val (.ref r), .unset] [(.ref r)]))
  refine own_st (S' := T2.setTop (mkF m 12 #[.val (.ref a), .val (.ref r), .val (.ref r)] [])) (fun t k => XS.astoreN X2.here hx rfl (hb hby d3_11) rfl rfl (l' := #[.val (.ref a), .val (.ref r), .val (.ref r)]) rfl k) ?_
  refine own_st (S' := T2.setTop (mkF m 13 #[.val (.ref a), .val (.ref r), .val (.ref r)] [(.ref a)])) (fun t k => XS.aloadN X2.here hx rfl (hb hby d3_12) rfl rfl k) ?_
  obtain ⟨T3, X3, e3, st3⟩ := getF X2 hx hZ hown (host := "") (Or.inl (hw _ (List.mem_of_getElem? (i := 14) rfl))) Via.refl e2 F_a_value (g := (mkF m 13 #[.val (.ref a), .val (.ref r), .val (.ref r)] [(.ref a)])) rfl rfl (hb hby d3_13)
  refine own_st st3 ?_
  show own_Go p.tables e below _ (T3.setTop (mkF m 16 #[.val (.ref a), .val (.ref r), .val (.ref r)] [(.long w1)]))
  refine own_st (S' := T3.setTop (mkF m 17 #[.val (.ref a), .val (.ref r), .val (.ref r)] [(.ref r), (.long w1)])) (fun t k => XS.aloadN X3.here hx rfl (hb hby d3_16) rfl rfl k) ?_
  obtain ⟨T4, X4, e4, st4⟩ := getF X3 hx hZ hown (host := "") (Or.inl (hw _ (List.mem_of_getElem? (i := 14) rfl))) Via.refl e3 F_r_value (g := (mkF m 17 #[.val (.ref a), .val (.ref r), .val (.ref r)] [(.ref r), (.long w1)])) rfl rfl (hb hby d3_17)
  refine own_st st4 ?_
  show own_Go p.tables e below _ (T4.setTop (mkF m 20 #[.val (.ref a), .val (.ref r), .val (.ref r)] [(.long w2), (.long w1)]))
  refine own_st (S' := T4.setTop (mkF m 21 #[.val (.ref a), .val (.ref r), .val (.ref r)] [(.int (lcmpW w1 w2))])) (fun t k => XS.lcmp X4.here hx rfl (hb hby d3_20) rfl k) ?_
  obtain ⟨v5, qv5⟩ : ∃ z : Int32, z = (if w1 = w2 then (1 : Int32) else (0 : Int32)) := ⟨_, rfl⟩
  refine own_st (S' := T4.setTop (mkF m 29 #[.val (.ref a), .val (.ref r), .val (.ref r)] [(.int v5)])) (fun t k => ?_) ?_
  · show Steps p.tables e below (T4.setTop (mkF m 21 #[.val (.ref a), .val (.ref r), .val (.ref r)] [(.int (lcmpW w1 w2))])) _
    by_cases hc6 : w1 = w2
    · rw [if_pos hc6] at qv5
      replace qv5 := Eq.symm qv5
      subst qv5
      refine XS.ifNo X4.here hx rfl (hb hby d3_21) rfl ((if0 _ _).trans (teq ((lw_eq _ _).mpr hc6)).2) ?_
      show Steps p.tables e below (T4.setTop (mkF m 24 #[.val (.ref a), .val (.ref r), .val (.ref r)] [])) _
      refine XS.iconst X4.here hx rfl (hb hby d3_24) ?_
      show Steps p.tables e below (T4.setTop (mkF m 25 #[.val (.ref a), .val (.ref r), .val (.ref r)] [(.int (1 : Int32))])) _
      refine XS.goto X4.here hx rfl (pc0 := 25) (pc' := 29) rfl (hb hby d3_25) (by decide) (by decide) ?_
      show Steps p.tables e below (T4.setTop (mkF m 29 #[.val (.ref a), .val (.ref r), .val (.ref r)] [(.int (1 : Int32))])) _
      exact k
    · rw [if_neg hc6] at qv5
      replace qv5 := Eq.symm qv5
      subst qv5
      refine XS.ifYes X4.here hx rfl (pc0 := 21) (pc' := 28) rfl (hb hby d3_21) rfl ((if0 _ _).trans (feq (mt (lw_eq _ _).mp hc6)).2) (by decide) (by decide) ?_
      show Steps p.tables e below (T4.setTop (mkF m 28 #[.val (.ref a), .val (.ref r), .val (.ref r)] [])) _
      refine XS.iconst X4.here hx rfl (hb hby d3_28) ?_
      show Steps p.tables e below (T4.setTop (mkF m 29 #[.val (.ref a), .val (.ref r), .val (.ref r)] [(.int (0 : Int32))])) _
      exact k
  show own_Go p.tables e below _ (T4.setTop (mkF m 29 #[.val (.ref a), .val (.ref r), .val (.ref r)] [(.int v5)]))
  refine own_retN X4 hx (t := .boolean) hret (by simp) hlk (hb hby d3_29) ?_ (by decide) (by decide)
  rw [e4]
  exact ⟨(by rw [qv5, own_narb]), N0, rfl⟩
theorem d5_0 : decode prog_138_method_4_code 0 = .ok (.aload_n 1, 1) := by decide +kernel
theorem d5_1 : decode prog_138_method_4_code 1 = .ok (.instanceof 8, 3) := by decide +kernel
theorem d5_4 : decode prog_138_method_4_code 4 = .ok (.ifCond .eq 24, 3) := by decide +kernel
theorem d5_28 : decode prog_138_method_4_code 28 = .ok (.iconst 0, 1) := by decide +kernel
theorem d5_29 : decode prog_138_method_4_code 29 = .ok (.ireturn, 1) := by decide +kernel
theorem pn5 : plainName "com/example/deliberation/deliberation/term/IntegerTerm" = true := by first | (simp [plainName, overriddenIn]; done) | decide +kernel
theorem ef5 (m : MethodId) (a : Addr) : entryFrame m #[(.ref a), .null] 3 = mkF m 0 #[.val (.ref a), .val .null, .unset] [] := by first | (simp [entryFrame, mkF, argsToLocals, Value.category]; done) | rfl
def Q5 (Z : State) (a : Addr) (h0 : Heap) (n0 : Nat) (v : Option Value) (h : Heap) (L : List Loc) : Prop := v = some (.int (0 : Int32)) ∧ Fr n0 L ∧ h = h0
set_option maxRecDepth 65536 in
set_option maxHeartbeats 40000000 in
theorem rm5 (l : Launch) (Z : State) (a0 : Array Value) (hw : ∀ d ∈ tables_1, d.before a0 Z = true) (ws : List Jvm.Cond) (a : Addr) (h0 : Heap) (n0 : Nat) (Z0 : n0 ≤ h0.size)  :
    MetFree l (⟨"com/example/deliberation/deliberation/term/IntegerTerm", "equals", "(Ljava/lang/Object;)Z"⟩ : MethodName) (head1 (Jvm.Cond.code (⟨"com/example/deliberation/deliberation/term/IntegerTerm", "equals", "(Ljava/lang/Object;)Z"⟩ : MethodName) prog_138_method_4_code 3 (some .boolean) :: ws) ({ frames := 0, cells := 0, slots := 0, locals := 0 } : Room)) (fun as' U => as' = #[(.ref a), .null] ∧ Z.Warmed39 U.vm ∧ U.heap = h0) (fun _ _ _ _ _ => True) (fun _ U o U' => ∃ v L, o = .returned v ∧ Q5 Z a h0 n0 v U'.heap L ∧ FrameEnd U o U' L ({ frames := 0, cells := 0, slots := 0, locals := 0 } : Room).cells ({ frames := 0, cells := 0, slots := 0, locals := 0 } : Room).slots) := by
  refine own_body (plainFor_of_name pn5) ?_
  intro p e s m below meth c s₁ hx hby hml hown0 hnm hret hlk hZ X0 e0
  have hown : s.vm.findClass "com/example/deliberation/deliberation/term/IntegerTerm" = some m.cls := hown0
  have N0 := Fr.nil n0
  rw [ef5]
  show own_Go p.tables e below _ (s₁.setTop (mkF m 0 #[.val (.ref a), .val .null, .unset] []))
  refine own_st (S' := s₁.setTop (mkF m 1 #[.val (.ref a), .val .null, .unset] [.null])) (fun t k => XS.aloadN X0.here hx rfl (hb hby d5_0) rfl rfl k) ?_
  refine own_st (S' := s₁.setTop (mkF m 4 #[.val (.ref a), .val .null, .unset] [(.int (0 : Int32))])) (fun t k => X0.instanceofNull hx (g := (mkF m 1 #[.val (.ref a), .val .null, .unset] [.null])) rfl rfl (hb hby d5_1) _ k) ?_
  refine own_st (S' := s₁.setTop (mkF m 28 #[.val (.ref a), .val .null, .unset] [])) (fun t k => XS.ifYes X0.here hx rfl (pc0 := 4) (pc' := 28) rfl (hb hby d5_4) rfl ((if0 _ _).trans (teq (by decide)).1) (by decide) (by decide) k) ?_
  show own_Go p.tables e below _ (s₁.setTop (mkF m 28 #[.val (.ref a), .val .null, .unset] []))
  refine own_st (S' := s₁.setTop (mkF m 29 #[.val (.ref a), .val .null, .unset] [(.int (0 : Int32))])) (fun t k => XS.iconst X0.here hx rfl (hb hby d5_28) k) ?_
  refine own_retN X0 hx (t := .boolean) hret (by simp) hlk (hb hby d5_29) ?_ (by decide) (by decide)
  rw [e0]
  exact ⟨(by rfl), N0, rfl⟩
theorem d6_0 : decode prog_138_method_4_code 0 = .ok (.aload_n 1, 1) := by decide +kernel
theorem d6_1 : decode prog_138_method_4_code 1 = .ok (.instanceof 8, 3) := by decide +kernel
theorem d6_4 : decode prog_138_method_4_code 4 = .ok (.ifCond .eq 24, 3) := by decide +kernel
theorem d6_28 : decode prog_138_method_4_code 28 = .ok (.iconst 0, 1) := by decide +kernel
theorem d6_29 : decode prog_138_method_4_code 29 = .ok (.ireturn, 1) := by decide +kernel
theorem pn6 : plainName "com/example/deliberation/deliberation/term/IntegerTerm" = true := by first | (simp [plainName, overriddenIn]; done) | decide +kernel
theorem ef6 (m : MethodId) (a : Addr) (r : Addr) : entryFrame m #[(.ref a), (.ref r)] 3 = mkF m 0 #[.val (.ref a), .val (.ref r), .unset] [] := by first | (simp [entryFrame, mkF, argsToLocals, Value.category]; done) | rfl
def Q6 (Z : State) (a : Addr) (r : Addr) (h0 : Heap) (n0 : Nat) (v : Option Value) (h : Heap) (L : List Loc) : Prop := v = some (.int (0 : Int32)) ∧ Fr n0 L ∧ h = h0
set_option maxRecDepth 65536 in
set_option maxHeartbeats 40000000 in
theorem rm6 (l : Launch) (Z : State) (a0 : Array Value) (hw : ∀ d ∈ tables_1, d.before a0 Z = true) (ws : List Jvm.Cond) (a : Addr) (r : Addr) (h0 : Heap) (n0 : Nat) (Z0 : n0 ≤ h0.size) (E_r : Exa Z h0 r "com/example/deliberation/deliberation/term/DecimalTerm") :
    MetFree l (⟨"com/example/deliberation/deliberation/term/IntegerTerm", "equals", "(Ljava/lang/Object;)Z"⟩ : MethodName) (head1 (Jvm.Cond.code (⟨"com/example/deliberation/deliberation/term/IntegerTerm", "equals", "(Ljava/lang/Object;)Z"⟩ : MethodName) prog_138_method_4_code 3 (some .boolean) :: ws) ({ frames := 0, cells := 0, slots := 0, locals := 0 } : Room)) (fun as' U => as' = #[(.ref a), (.ref r)] ∧ Z.Warmed39 U.vm ∧ U.heap = h0) (fun _ _ _ _ _ => True) (fun _ U o U' => ∃ v L, o = .returned v ∧ Q6 Z a r h0 n0 v U'.heap L ∧ FrameEnd U o U' L ({ frames := 0, cells := 0, slots := 0, locals := 0 } : Room).cells ({ frames := 0, cells := 0, slots := 0, locals := 0 } : Room).slots) := by
  refine own_body (plainFor_of_name pn6) ?_
  intro p e s m below meth c s₁ hx hby hml hown0 hnm hret hlk hZ X0 e0
  have hown : s.vm.findClass "com/example/deliberation/deliberation/term/IntegerTerm" = some m.cls := hown0
  have N0 := Fr.nil n0
  rw [ef6]
  show own_Go p.tables e below _ (s₁.setTop (mkF m 0 #[.val (.ref a), .val (.ref r), .unset] []))
  refine own_st (S' := s₁.setTop (mkF m 1 #[.val (.ref a), .val (.ref r), .unset] [(.ref r)])) (fun t k => XS.aloadN X0.here hx rfl (hb hby d6_0) rfl rfl k) ?_
  obtain ⟨T1, X1, e1, st1⟩ := instNo X0 hx hZ hown (hw _ (List.mem_of_getElem? (i := 21) rfl)) e0 E_r (own_no (hw _ (List.mem_of_getElem? (i := 54) rfl)) (hw _ (List.mem_of_getElem? (i := 1) rfl)) (NS.step (hw _ (List.mem_of_getElem? (i := 54) rfl)) (NS.step (hw _ (List.mem_of_getElem? (i := 55) rfl)) (own_NSroot (hw _ (List.mem_of_getElem? (i := 56) rfl)) (hw _ (List.mem_of_getElem? (i := 1) rfl)) (by decide)) (by decide)) (by decide)) (by decide)) (g := (mkF m 1 #[.val (.ref a), .val (.ref r), .unset] [(.ref r)])) rfl rfl (hb hby d6_1)
  refine own_st st1 ?_
  show own_Go p.tables e below _ (T1.setTop (mkF m 4 #[.val (.ref a), .val (.ref r), .unset] [(.int (0 : Int32))]))
  refine own_st (S' := T1.setTop (mkF m 28 #[.val (.ref a), .val (.ref r), .unset] [])) (fun t k => XS.ifYes X1.here hx rfl (pc0 := 4) (pc' := 28) rfl (hb hby d6_4) rfl ((if0 _ _).trans (teq (by decide)).1) (by decide) (by decide) k) ?_
  show own_Go p.tables e below _ (T1.setTop (mkF m 28 #[.val (.ref a), .val (.ref r), .unset] []))
  refine own_st (S' := T1.setTop (mkF m 29 #[.val (.ref a), .val (.ref r), .unset] [(.int (0 : Int32))])) (fun t k => XS.iconst X1.here hx rfl (hb hby d6_28) k) ?_
  refine own_retN X1 hx (t := .boolean) hret (by simp) hlk (hb hby d6_29) ?_ (by decide) (by decide)
  rw [e1]
  exact ⟨(by rfl), N0, rfl⟩
theorem d7_0 : decode jdk_117_method_8_code 0 = .ok (.dload_n 0, 1) := by decide +kernel
theorem d7_1 : decode jdk_117_method_8_code 1 = .ok (.invokestatic 38, 3) := by decide +kernel
theorem d7_4 : decode jdk_117_method_8_code 4 = .ok (.ldc2_w 111, 3) := by decide +kernel
theorem d7_7 : decode jdk_117_method_8_code 7 = .ok (.dcmp .g, 1) := by decide +kernel
theorem d7_8 : decode jdk_117_method_8_code 8 = .ok (.ifCond .gt 7, 3) := by decide +kernel
theorem d7_11 : decode jdk_117_method_8_code 11 = .ok (.iconst 1, 1) := by decide +kernel
theorem d7_12 : decode jdk_117_method_8_code 12 = .ok (.goto 4, 3) := by decide +kernel
theorem d7_16 : decode jdk_117_method_8_code 16 = .ok (.ireturn, 1) := by decide +kernel
theorem pd7_0 : parseMethodDescriptor "(D)D" = some ⟨[.double], some .double⟩ := by decide +kernel
theorem pn7 : plainName "java/lang/Double" = true := by first | (simp [plainName, overriddenIn]; done) | decide +kernel
theorem ef7 (m : MethodId) (d : UInt64) : entryFrame m #[(.double d)] 2 = mkF m 0 #[.val (.double d), .second] [] := by first | (simp [entryFrame, mkF, argsToLocals, Value.category]; done) | rfl
def Q7 (Z : State) (d : UInt64) (h0 : Heap) (n0 : Nat) (v : Option Value) (h : Heap) (L : List Loc) : Prop := v = some (.int (1 : Int32)) ∧ Fr n0 L ∧ h = h0
set_option maxRecDepth 65536 in
set_option maxHeartbeats 40000000 in
theorem rm7 (l : Launch) (Z : State) (a0 : Array Value) (hw : ∀ d ∈ tables_1, d.before a0 Z = true) (ws : List Jvm.Cond) (d : UInt64) (h0 : Heap) (n0 : Nat) (Z0 : n0 ≤ h0.size) (hok0 : own_ok d = true) :
    MetFree l (⟨"java/lang/Double", "isFinite", "(D)Z"⟩ : MethodName) (head1 (Jvm.Cond.code (⟨"java/lang/Double", "isFinite", "(D)Z"⟩ : MethodName) jdk_117_method_8_code 2 (some .boolean) :: ws) ({ frames := 1, cells := 0, slots := 0, locals := 13 } : Room)) (fun as' U => as' = #[(.double d)] ∧ Z.Warmed39 U.vm ∧ U.heap = h0) (fun _ _ _ _ _ => True) (fun _ U o U' => ∃ v L, o = .returned v ∧ Q7 Z d h0 n0 v U'.heap L ∧ FrameEnd U o U' L ({ frames := 1, cells := 0, slots := 0, locals := 13 } : Room).cells ({ frames := 1, cells := 0, slots := 0, locals := 13 } : Room).slots) := by
  refine own_body (plainFor_of_name pn7) ?_
  intro p e s m below meth c s₁ hx hby hml hown0 hnm hret hlk hZ X0 e0
  have hown : s.vm.findClass "java/lang/Double" = some m.cls := hown0
  have N0 := Fr.nil n0
  rw [ef7]
  have hok := own_okE hok0
  show own_Go p.tables e below _ (s₁.setTop (mkF m 0 #[.val (.double d), .second] []))
  refine own_st (S' := s₁.setTop (mkF m 1 #[.val (.double d), .second] [(.double d)])) (fun t k => XS.dloadN X0.here hx rfl (hb hby d7_0) rfl k) ?_
  obtain ⟨T1, X1, e1, st1⟩ := natS X0 hx hZ (y := (⟨"java/lang/Math", "abs", "(D)D"⟩ : MethodName)) hown (hw _ (List.mem_of_getElem? (i := 35) rfl)) (hw _ (List.mem_of_getElem? (i := 36) rfl)) (hw _ (List.mem_of_getElem? (i := 37) rfl)) (hw _ (List.mem_of_getElem? (i := 38) rfl)) (by decide) e0 (W := 0) (F := (fun a => a = #[.double d] ∧ d &&& 0x7fffffffffffffff ≤ 0x7ff0000000000000)) (val' := (.double (own_ab d))) (fun hc => (Jvm.Free.NT.Abs64.pays hc (mvT hZ (hw _ (List.mem_of_getElem? (i := 36) rfl))) (by decide) (by decide)).mono (fun A a h => ⟨d, h.2.2⟩) (fun A a v B hp hq => ⟨hq.2 d hp.2.2, hq.1⟩)) (g := (mkF m 1 #[.val (.double d), .second] [(.double d)])) rfl (by rw [hml]; rfl) (argsL := [(.double d)]) (rest := []) (lenOf pd7_0 rfl) rfl (by show 2 * 0 + _ ≤ _; exact Nat.le_of_eq rfl) (hb hby d7_1) (by decide) (by decide) ⟨rfl, hok.1⟩ rfl
  refine own_st st1 ?_
  show own_Go p.tables e below _ (T1.setTop (mkF m 4 #[.val (.double d), .second] [(.double (own_ab d))]))
  refine own_st (S' := T1.setTop (mkF m 7 #[.val (.double d), .second] [(.double (9218868437227405311 : UInt64)), (.double (own_ab d))])) (fun t k => X1.ldc2DoubleC hx hown (mvT hZ (hw _ (List.mem_of_getElem? (i := 39) rfl))) (g := (mkF m 4 #[.val (.double d), .second] [(.double (own_ab d))])) rfl (hb hby d7_4) _ k) ?_
  refine own_st (S' := T1.setTop (mkF m 8 #[.val (.double d), .second] [(.int (cmpValue (FP.dcmp (own_ab d) (9218868437227405311 : UInt64)) .g))])) (fun t k => XS.dcmpS X1.here hx rfl (hb hby d7_7) rfl rfl k) ?_
  have hc2 : ¬ ((0 : Int32) < (cmpValue (FP.dcmp (own_ab d) (9218868437227405311 : UInt64)) .g)) := hok.2.2.2.2.2.1
  refine own_st (S' := T1.setTop (mkF m 11 #[.val (.double d), .second] [])) (fun t k => XS.ifNo X1.here hx rfl (hb hby d7_8) rfl ((if0 _ _).trans (flt hc2).2.2.1) k) ?_
  show own_Go p.tables e below _ (T1.setTop (mkF m 11 #[.val (.double d), .second] []))
  refine own_st (S' := T1.setTop (mkF m 12 #[.val (.double d), .second] [(.int (1 : Int32))])) (fun t k => XS.iconst X1.here hx rfl (hb hby d7_11) k) ?_
  refine own_st (S' := T1.setTop (mkF m 16 #[.val (.double d), .second] [(.int (1 : Int32))])) (fun t k => XS.goto X1.here hx rfl (pc0 := 12) (pc' := 16) rfl (hb hby d7_12) (by decide) (by decide) k) ?_
  refine own_retN X1 hx (t := .boolean) hret (by simp) hlk (hb hby d7_16) ?_ (by decide) (by decide)
  rw [e1]
  exact ⟨(by rfl), N0, rfl⟩
theorem d8_0 : decode jdk_128_method_19_code 0 = .ok (.ldc2_w 93, 3) := by decide +kernel
theorem d8_3 : decode jdk_128_method_19_code 3 = .ok (.dstore_n 2, 1) := by decide +kernel
theorem d8_4 : decode jdk_128_method_19_code 4 = .ok (.dconst 1, 1) := by decide +kernel
theorem d8_5 : decode jdk_128_method_19_code 5 = .ok (.dload_n 0, 1) := by decide +kernel
theorem d8_6 : decode jdk_128_method_19_code 6 = .ok (.invokestatic 95, 3) := by decide +kernel
theorem d8_9 : decode jdk_128_method_19_code 9 = .ok (.dstore 4, 2) := by decide +kernel
theorem d8_11 : decode jdk_128_method_19_code 11 = .ok (.dload_n 0, 1) := by decide +kernel
theorem d8_12 : decode jdk_128_method_19_code 12 = .ok (.invokestatic 98, 3) := by decide +kernel
theorem d8_15 : decode jdk_128_method_19_code 15 = .ok (.dstore_n 0, 1) := by decide +kernel
theorem d8_16 : decode jdk_128_method_19_code 16 = .ok (.dload_n 0, 1) := by decide +kernel
theorem d8_17 : decode jdk_128_method_19_code 17 = .ok (.dload_n 2, 1) := by decide +kernel
theorem d8_18 : decode jdk_128_method_19_code 18 = .ok (.dcmp .g, 1) := by decide +kernel
theorem d8_19 : decode jdk_128_method_19_code 19 = .ok (.ifCond .ge 9, 3) := by decide +kernel
theorem d8_22 : decode jdk_128_method_19_code 22 = .ok (.dload_n 2, 1) := by decide +kernel
theorem d8_23 : decode jdk_128_method_19_code 23 = .ok (.dload_n 0, 1) := by decide +kernel
theorem d8_24 : decode jdk_128_method_19_code 24 = .ok (.dadd, 1) := by decide +kernel
theorem d8_25 : decode jdk_128_method_19_code 25 = .ok (.dload_n 2, 1) := by decide +kernel
theorem d8_26 : decode jdk_128_method_19_code 26 = .ok (.dsub, 1) := by decide +kernel
theorem d8_27 : decode jdk_128_method_19_code 27 = .ok (.dstore_n 0, 1) := by decide +kernel
theorem d8_28 : decode jdk_128_method_19_code 28 = .ok (.dload 4, 2) := by decide +kernel
theorem d8_30 : decode jdk_128_method_19_code 30 = .ok (.dload_n 0, 1) := by decide +kernel
theorem d8_31 : decode jdk_128_method_19_code 31 = .ok (.dmul, 1) := by decide +kernel
theorem d8_32 : decode jdk_128_method_19_code 32 = .ok (.dreturn, 1) := by decide +kernel
theorem pd8_0 : parseMethodDescriptor "(DD)D" = some ⟨[.double, .double], some .double⟩ := by decide +kernel
theorem pd8_1 : parseMethodDescriptor "(D)D" = some ⟨[.double], some .double⟩ := by decide +kernel
theorem pn8 : plainName "java/lang/StrictMath" = true := by first | (simp [plainName, overriddenIn]; done) | decide +kernel
theorem ef8 (m : MethodId) (d : UInt64) : entryFrame m #[(.double d)] 6 = mkF m 0 #[.val (.double d), .second, .unset, .unset, .unset, .unset] [] := by first | (simp [entryFrame, mkF, argsToLocals, Value.category]; done) | rfl
def Q8 (Z : State) (d : UInt64) (h0 : Heap) (n0 : Nat) (v : Option Value) (h : Heap) (L : List Loc) : Prop := v = some (.double (own_rn d)) ∧ Fr n0 L ∧ h = h0
section OwnLight
variable {p : Program} {l : Launch} {e : Env} {below : List Frame} {s T : State} {m : MethodId} {c : Code} {sa : Array Value}
/-- a static call's link, where a frame stands (no claim on the room) -/
theorem own_lnk (ad : l.admits e) (hx : p.tables.exec = Jvm.exec) (hW : s.WarmedH T.vm) (H : At T m c below) {own : String} {index : Nat} {y : MethodName} (hown : s.vm.findClass own = some m.cls) (w1 : (Cond.methodLink own index y).before sa s = true) (w2 : (Cond.static y).before sa s = true) (w3 : (Cond.initialized y.cls).before sa s = true)
    {mk : MethodId} {xM : Method} (hn : s.methodNamed? y = some mk) (hm : s.vm.method? mk = some xM) (hy : y.cls ≠ "java/lang/invoke/MethodHandle" ∧ y.cls ≠ "java/lang/invoke/VarHandle") {g : JFrame} (hg : g.method = m) {aL rest : List Value} (hlen : aL.length = xM.sig.parameters.length) (hst : g.stack = aL.reverse ++ rest) (hd : decode c.code g.pc = .ok (.invokestatic index, 3)) :
    ∃ vm', s.WarmedH vm' ∧ ∀ target, Steps p.tables e below (doInvoke e ((T.setVm vm').setTop { g with stack := rest }) [] mk aL.toArray).1 target → Steps p.tables e below (T.setTop g) target := by
  obtain ⟨ci, lk, rg⟩ := Cond.methodLink_spec hown hn w1 e.platform (by rw [ad.platform])
  obtain ⟨ky, ky1, ky2⟩ := className_of_methodNamed hn
  have en : s.MethodEntry e T.vm m.cls index mk ci := State.methodEntry hW lk rg fun k hk => by
    cases ky1.symm.trans hk
    rw [ky2]; exact hy
  obtain ⟨dk, cf, nt, mn, md, via, ck, _, d1, d2, d3, d4, -, -, d5, -, np, -⟩ := lk.here
  cases ky1.symm.trans d5
  obtain ⟨dk', v1, v2⟩ := en.warmed.alike.2.2 _ _ d1
  obtain ⟨ky', v3, v4⟩ := en.warmed.alike.2.2 _ _ ky1
  have no : (ky.methods.any fun z => z.name == mn && !z.isStatic && signaturePolymorphic ky z) = false := by simp [np]
  have no' : (ky'.methods.any fun z => z.name == mn && !z.isStatic && signaturePolymorphic ky' z) = false := by rw [v4]; exact no
  have st := Cond.static_spec hn hm w2
  have ini0 : ky.init = .initialized := Cond.initialized_spec (findClass_of_methodNamed hn) ky1 w3
  have ini : ky'.init = .initialized := by rw [v4]; exact ini0
  refine ⟨T.vm.called m.cls ci index mk, en.warmed, fun target hr => ?_⟩
  subst hg
  jvm_step H [hx, hd, invokestatic.wp_cold (e := e) (s := T) (s₀ := s) (f := g) H.top (by rw [ad.platform]) hW en d1 d2 d3 d4 ky1 no,
    invokestatic.wp_ready (e := e) (s := T.setVm (T.vm.called g.method.cls ci index mk)) (k := ky') (meth := xM) (m := mk) (args := aL) (rest := rest) (f := g) H.top
      ⟨ci, mn, md, via, mk.cls, ky', memberRef_ask_via (e := e) v1 (by rw [v2]; exact d2) d3 d4, en.classReady, v3, no'⟩ en.ready v3 (by show (T.vm.called g.method.cls ci index mk).method? mk = some xM; rw [en.warmed.alike.method?]; exact hm) (by rw [v4]; exact np xM) st ini hlen hst]
  intro acts
  rw [doInvoke_state]
  exact hr
/-- a native of Math that draws nothing, where a frame stands -/
theorem own_natL (ad : l.admits e) (hx : p.tables.exec = Jvm.exec) (hW : s.WarmedH T.vm) (H : At T m c below) {own : String} {index : Nat} {y : MethodName} (hown : s.vm.findClass own = some m.cls) (w1 : (Cond.methodLink own index y).before sa s = true) (w2 : (Cond.static y).before sa s = true) (w3 : (Cond.initialized y.cls).before sa s = true) {by0 : ByteArray} {ml : Nat} {rt rt' : Option FieldType} (w4 : (Cond.code y by0 ml rt).before sa s = true)
    (hy : y.cls ≠ "java/lang/invoke/MethodHandle" ∧ y.cls ≠ "java/lang/invoke/VarHandle") {ps : List FieldType} (hp : parseMethodDescriptor y.desc = some { parameters := ps, returnType := rt' }) {row : NativeRow} (hrow : NativeRow.find? p.tables.natives y.cls y.name y.desc = some row) (hin : overriddenIn.contains y.cls = true)
    {g : JFrame} (hg : g.method = m) {aL rest : List Value} (hlen : aL.length = ps.length) (hst : g.stack = aL.reverse ++ rest) (hd : decode c.code g.pc = .ok (.invokestatic index, 3))
    (hgb : givenBack (argsToLocals aL.toArray ml) ps.length = aL.toArray) {v : Value} (hw : ∀ (U : State) (Q : Option Value → Jvm.Pre), (∀ d' acts', Q (some v) d' acts' U) → wp (row.sem aL.toArray) Q (fun _ _ _ => False) e false [] U)
    (hf : ∀ vm', e.platform.stackFull ((((T.setVm vm').setTop { g with stack := rest }).threads[((T.setVm vm').setTop { g with stack := rest }).cur]?).getD { frames := [] }) ((T.setVm vm').setTop { g with stack := rest }).frames ml = false) :
    ∃ vm', s.WarmedH vm' ∧ ∀ target, Steps p.tables e below ((T.setVm vm').setTop { g with pc := g.pc + 3, stack := v :: rest }) target → Steps p.tables e below (T.setTop g) target := by
  obtain ⟨mk, k, x, cd, hn, N, hml⟩ := OverriddenOf.of_code w4 w2 hp
  obtain ⟨vm', wv, st⟩ := own_lnk (aL := aL) (rest := rest) ad hx hW H hown w1 w2 w3 hn (xM := x) (by simp [Vm.method?, N.cls, N.meth]) hy hg (by rw [N.sig]; exact hlen) hst hd
  refine ⟨vm', wv, fun target k => st target ?_⟩
  obtain ⟨k', N'⟩ := N.alike wv.alike
  subst hg
  have H' : At (T.setVm vm') g.method c below := H.setVm (hW.alike.symm.trans wv.alike)
  exact Steps.overriddenEnds (row := row) (code := cd) (v := some v) (T := id) (g := { g with stack := rest }) H' [] N'.cls N'.meth (by rw [N'.className]; exact hin) N'.boot N'.hasCode N'.noLock (by rw [N'.className, N'.name, N'.desc]; exact hrow) (by rw [hml]; exact hf vm') (by rw [hml, N'.sig, N'.static]; exact hgb)
    (fun _ => rfl) rfl (fun fs => H'.code) (fun fs Q q => hw _ Q q) hd k
/-- a double constant, where a frame stands -/
theorem own_ldcL (hx : p.tables.exec = Jvm.exec) (hW : s.WarmedH T.vm) (H : At T m c below) {own : String} {index : Nat} {b : UInt64} (hown : s.vm.findClass own = some m.cls) (w : (Cond.constantDouble own index b).before sa s = true) {g : JFrame} (hg : g.method = m) (hd : decode c.code g.pc = .ok (.ldc2_w index, 3)) {target : State}
    (k : Steps p.tables e below (T.setTop { g with pc := g.pc + 3, stack := .double b :: g.stack }) target) : Steps p.tables e below (T.setTop g) target := by
  obtain ⟨kc, cf, h1, h2, h3⟩ := Cond.constantDouble_spec hown w
  obtain ⟨k', q1, q2⟩ := hW.alike.2.2 _ _ h1
  subst hg
  jvm_step H [hx, hd, ldc2_w.wp_double (s := T) (f := g) H.top q1 (by rw [q2]; exact h2) h3]
  exact k
/-- the room as the machine reckons it -/
theorem own_full {g0 : JFrame} {fs : List Frame} (hf : T.frames = .java g0 :: fs) {g : JFrame} {ml : Nat} (h1 : fs.length + 1 < (e.platform.stackLimits T.me).1) (h2 : stackWeight fs + (11 + g.locals.size + 2 * g.monitorRoom + (g.stack.map fun v => v.category).sum) + ml + 11 ≤ (e.platform.stackLimits T.me).2) (vm' : Vm) :
    e.platform.stackFull ((((T.setVm vm').setTop g).threads[((T.setVm vm').setTop g).cur]?).getD { frames := [] }) ((T.setVm vm').setTop g).frames ml = false := by
  have hf' : (T.setVm vm').frames = .java g0 :: fs := hf
  have cu : (T.setVm vm').cur < (T.setVm vm').threads.size := State.cur_lt_of_frames hf'
  have w := stackUse_le_stackWeight (.java g :: fs)
  have w2 : stackWeight (.java g :: fs) = (11 + g.locals.size + 2 * g.monitorRoom + (g.stack.map fun v => v.category).sum) + stackWeight fs := by simp [stackWeight, Frame.weight]
  show e.platform.stackFull ((T.setVm vm').setTop g).me ((T.setVm vm').setTop g).frames ml = false
  rw [State.setTop_of_frames _ hf', State.frames_setFrames _ cu]
  have lim : e.platform.stackLimits ((T.setVm vm').setFrames (.java g :: fs)).me = e.platform.stackLimits T.me := by rw [State.stackLimits_setFrames]; rfl
  refine Platform.stackFull_eq_false ?_ ?_
  · rw [lim]; simpa using h1
  · rw [lim]; omega
/-- a return of a double to what lies below, where a frame stands -/
theorem own_retAt (hx : p.tables.exec = Jvm.exec) (H : At T m c below) {meth : Method} (hm : T.vm.method? m = some meth) (hret : meth.sig.returnType = some .double) (hlk : meth.locks = false) {pc : Nat} {Ls : Array Slot} {z : UInt64} {rest : List Value} (hd : decode c.code pc = .ok (.dreturn, 1)) {g0 : JFrame} {fs fs' : List Frame} (hf : T.frames = .java g0 :: fs) (ho : handOver T (some (.double z)) fs = some fs') :
    Steps p.tables e below (T.setTop (mkF m pc Ls (.double z :: rest))) (T.setFrames fs') := by
  have cu : T.cur < T.threads.size := State.cur_lt_of_frames hf
  have rt : ∀ (f : JFrame) (acts : List Action), f.method = m → f.locked = none → f.entered = [] → (doReturn e (T.setTop f) acts (some (.double z))).1 = T.setFrames fs' := fun f acts q1 q2 q3 => by
    subst q1
    rw [State.setTop_of_frames _ hf, (doReturn_plain (s := T.setFrames (.java f :: fs)) (f := f) (below := fs) (fs := fs') (meth := meth) (State.frames_setFrames _ cu) hm hlk q2 q3 ho).1, State.setFrames_setFrames]
  show Steps p.tables e below (T.setTop { method := m, pc := pc, locals := Ls, stack := .double z :: rest, locked := none }) _
  jvm_step H [H.top, hx, hd, hm, hret, narrow]
  first | (intro acts; rw [rt _ acts rfl rfl rfl]) | (refine ⟨meth, hm, ⟨_, hret, rfl⟩, fun acts => ?_⟩; rw [rt _ acts rfl rfl rfl])
  exact Steps.refl _
end OwnLight

set_option maxRecDepth 65536 in
theorem own_rintAt {p : Program} {l : Launch} {e : Env} {below : List Frame} {s T Z : State} {m : MethodId} {c : Code} {a0 : Array Value} {d : UInt64} (hok0 : own_ok d = true) (hw : ∀ d ∈ tables_1, d.before a0 Z = true) (hZ : Z.Warmed39 s.vm) (ad : l.admits e) (hx : p.tables.exec = Jvm.exec) (hW : s.WarmedH T.vm) (H0 : At T m c below) (hby : c.code = jdk_128_method_19_code) (hown : s.vm.findClass "java/lang/StrictMath" = some m.cls)
    {g0 : JFrame} {fs : List Frame} (hf : T.frames = .java g0 :: fs) (h1 : fs.length + 1 < (e.platform.stackLimits T.me).1) (h2 : stackWeight fs + 60 ≤ (e.platform.stackLimits T.me).2) :
    ∃ vm' Ls, s.WarmedH vm' ∧ Steps p.tables e below (T.setTop (mkF m 0 #[.val (.double d), .second, .unset, .unset, .unset, .unset] [])) ((T.setVm vm').setTop (mkF m 32 Ls [.double (own_rn d)])) := by
  have hok := own_okE hok0
  obtain ⟨vm1, wv1, st1⟩ := own_natL (sa := #[]) (T := T) ad hx hW H0 hown (mvT hZ (hw _ (List.mem_of_getElem? (i := 48) rfl))) (mvT hZ (hw _ (List.mem_of_getElem? (i := 49) rfl))) (mvT hZ (hw _ (List.mem_of_getElem? (i := 37) rfl))) (mvT hZ (hw _ (List.mem_of_getElem? (i := 50) rfl))) (by decide) pd8_0 (mathCopySign64_row p) (by decide) (g := (mkF m 6 #[.val (.double d), .second, .val (.double (4841369599423283200 : UInt64)), .second, .unset, .unset] [(.double d), (.double FP.dconst1)])) rfl (aL := [(.double FP.dconst1), (.double d)]) (rest := []) rfl rfl (hb hby d8_6) (givenBack_DD FP.dconst1 d 4) (v := (.double (own_cs d))) (fun U Q q => Jvm.W.copySign64_of hok.2.2.2.2.1 (q _ _)) (own_full (T := T) (g0 := g0) (fs := fs) (g := (mkF m 6 #[.val (.double d), .second, .val (.double (4841369599423283200 : UInt64)), .second, .unset, .unset] [])) hf h1 (by show stackWeight fs + (11 + 6 + 2 * 0 + 0) + 4 + 11 ≤ _; exact Nat.le_trans (by omega) h2))
  have H1 : At (T.setVm vm1) m c below := H0.setVm (hW.alike.symm.trans wv1.alike)
  obtain ⟨vm2, wv2, st2⟩ := own_natL (sa := #[]) (T := (T.setVm vm1)) ad hx wv1 H1 hown (mvT hZ (hw _ (List.mem_of_getElem? (i := 51) rfl))) (mvT hZ (hw _ (List.mem_of_getElem? (i := 36) rfl))) (mvT hZ (hw _ (List.mem_of_getElem? (i := 37) rfl))) (mvT hZ (hw _ (List.mem_of_getElem? (i := 38) rfl))) (by decide) pd8_1 (mathAbs64_row p) (by decide) (g := (mkF m 12 #[.val (.double d), .second, .val (.double (4841369599423283200 : UInt64)), .second, .val (.double (own_cs d)), .second] [(.double d)])) rfl (aL := [(.double d)]) (rest := []) rfl rfl (hb hby d8_12) (givenBack_D d 2) (v := (.double (own_ab d))) (fun U Q q => Jvm.W.abs64_of hok.1 (q _ _)) (own_full (T := (T.setVm vm1)) (g0 := g0) (fs := fs) (g := (mkF m 12 #[.val (.double d), .second, .val (.double (4841369599423283200 : UInt64)), .second, .val (.double (own_cs d)), .second] [])) hf h1 (by show stackWeight fs + (11 + 6 + 2 * 0 + 0) + 2 + 11 ≤ _; exact Nat.le_trans (by omega) h2))
  have H2 : At (T.setVm vm2) m c below := H0.setVm (hW.alike.symm.trans wv2.alike)
  refine ⟨vm2, #[.val (.double (FP.dsub (FP.dadd (4841369599423283200 : UInt64) (own_ab d)) (4841369599423283200 : UInt64))), .second, .val (.double (4841369599423283200 : UInt64)), .second, .val (.double (own_cs d)), .second], wv2, ?_⟩
  refine own_ldcL (sa := #[]) hx hW H0 hown (mvT hZ (hw _ (List.mem_of_getElem? (i := 47) rfl))) (g := (mkF m 0 #[.val (.double d), .second, .unset, .unset, .unset, .unset] [])) rfl (hb hby d8_0) ?_
  show Steps p.tables e below (T.setTop (mkF m 3 #[.val (.double d), .second, .unset, .unset, .unset, .unset] [(.double (4841369599423283200 : UInt64))])) _
  refine XS.dstoreN H0 hx rfl (hb hby d8_3) rfl (l' := #[.val (.double d), .second, .val (.double (4841369599423283200 : UInt64)), .second, .unset, .unset]) rfl ?_
  show Steps p.tables e below (T.setTop (mkF m 4 #[.val (.double d), .second, .val (.double (4841369599423283200 : UInt64)), .second, .unset, .unset] [])) _
  refine XS.dconst1 H0 hx rfl (hb hby d8_4) rfl ?_
  show Steps p.tables e below (T.setTop (mkF m 5 #[.val (.double d), .second, .val (.double (4841369599423283200 : UInt64)), .second, .unset, .unset] [(.double FP.dconst1)])) _
  refine XS.dloadN H0 hx rfl (hb hby d8_5) rfl ?_
  show Steps p.tables e below (T.setTop (mkF m 6 #[.val (.double d), .second, .val (.double (4841369599423283200 : UInt64)), .second, .unset, .unset] [(.double d), (.double FP.dconst1)])) _
  refine st1 _ ?_
  refine XS.dstore H1 hx rfl (hb hby d8_9) rfl (l' := #[.val (.double d), .second, .val (.double (4841369599423283200 : UInt64)), .second, .val (.double (own_cs d)), .second]) rfl ?_
  show Steps p.tables e below ((T.setVm vm1).setTop (mkF m 11 #[.val (.double d), .second, .val (.double (4841369599423283200 : UInt64)), .second, .val (.double (own_cs d)), .second] [])) _
  refine XS.dloadN H1 hx rfl (hb hby d8_11) rfl ?_
  show Steps p.tables e below ((T.setVm vm1).setTop (mkF m 12 #[.val (.double d), .second, .val (.double (4841369599423283200 : UInt64)), .second, .val (.double (own_cs d)), .second] [(.double d)])) _
  refine st2 _ ?_
  refine XS.dstoreN H2 hx rfl (hb hby d8_15) rfl (l' := #[.val (.double (own_ab d)), .second, .val (.double (4841369599423283200 : UInt64)), .second, .val (.double (own_cs d)), .second]) rfl ?_
  show Steps p.tables e below ((T.setVm vm2).setTop (mkF m 16 #[.val (.double (own_ab d)), .second, .val (.double (4841369599423283200 : UInt64)), .second, .val (.double (own_cs d)), .second] [])) _
  refine XS.dloadN H2 hx rfl (hb hby d8_16) rfl ?_
  show Steps p.tables e below ((T.setVm vm2).setTop (mkF m 17 #[.val (.double (own_ab d)), .second, .val (.double (4841369599423283200 : UInt64)), .second, .val (.double (own_cs d)), .second] [(.double (own_ab d))])) _
  refine XS.dloadN H2 hx rfl (hb hby d8_17) rfl ?_
  show Steps p.tables e below ((T.setVm vm2).setTop (mkF m 18 #[.val (.double (own_ab d)), .second, .val (.double (4841369599423283200 : UInt64)), .second, .val (.double (own_cs d)), .second] [(.double (4841369599423283200 : UInt64)), (.double (own_ab d))])) _
  refine XS.dcmpS H2 hx rfl (hb hby d8_18) rfl rfl ?_
  show Steps p.tables e below ((T.setVm vm2).setTop (mkF m 19 #[.val (.double (own_ab d)), .second, .val (.double (4841369599423283200 : UInt64)), .second, .val (.double (own_cs d)), .second] [(.int (cmpValue (FP.dcmp (own_ab d) (4841369599423283200 : UInt64)) .g))])) _
  have hc3 : (cmpValue (FP.dcmp (own_ab d) (4841369599423283200 : UInt64)) .g) < (0 : Int32) := hok.2.2.2.2.2.2.1
  refine XS.ifNo H2 hx rfl (hb hby d8_19) rfl ((if0 _ _).trans (tlt hc3).2.1) ?_
  show Steps p.tables e below ((T.setVm vm2).setTop (mkF m 22 #[.val (.double (own_ab d)), .second, .val (.double (4841369599423283200 : UInt64)), .second, .val (.double (own_cs d)), .second] [])) _
  refine XS.dloadN H2 hx rfl (hb hby d8_22) rfl ?_
  show Steps p.tables e below ((T.setVm vm2).setTop (mkF m 23 #[.val (.double (own_ab d)), .second, .val (.double (4841369599423283200 : UInt64)), .second, .val (.double (own_cs d)), .second] [(.double (4841369599423283200 : UInt64))])) _
  refine XS.dloadN H2 hx rfl (hb hby d8_23) rfl ?_
  show Steps p.tables e below ((T.setVm vm2).setTop (mkF m 24 #[.val (.double (own_ab d)), .second, .val (.double (4841369599423283200 : UInt64)), .second, .val (.double (own_cs d)), .second] [(.double (own_ab d)), (.double (4841369599423283200 : UInt64))])) _
  refine XS.daddS H2 hx rfl (hb hby d8_24) rfl hok.2.1 rfl ?_
  show Steps p.tables e below ((T.setVm vm2).setTop (mkF m 25 #[.val (.double (own_ab d)), .second, .val (.double (4841369599423283200 : UInt64)), .second, .val (.double (own_cs d)), .second] [(.double (FP.dadd (4841369599423283200 : UInt64) (own_ab d)))])) _
  refine XS.dloadN H2 hx rfl (hb hby d8_25) rfl ?_
  show Steps p.tables e below ((T.setVm vm2).setTop (mkF m 26 #[.val (.double (own_ab d)), .second, .val (.double (4841369599423283200 : UInt64)), .second, .val (.double (own_cs d)), .second] [(.double (4841369599423283200 : UInt64)), (.double (FP.dadd (4841369599423283200 : UInt64) (own_ab d)))])) _
  refine XS.dsubS H2 hx rfl (hb hby d8_26) rfl hok.2.2.1 rfl ?_
  show Steps p.tables e below ((T.setVm vm2).setTop (mkF m 27 #[.val (.double (own_ab d)), .second, .val (.double (4841369599423283200 : UInt64)), .second, .val (.double (own_cs d)), .second] [(.double (FP.dsub (FP.dadd (4841369599423283200 : UInt64) (own_ab d)) (4841369599423283200 : UInt64)))])) _
  refine XS.dstoreN H2 hx rfl (hb hby d8_27) rfl (l' := #[.val (.double (FP.dsub (FP.dadd (4841369599423283200 : UInt64) (own_ab d)) (4841369599423283200 : UInt64))), .second, .val (.double (4841369599423283200 : UInt64)), .second, .val (.double (own_cs d)), .second]) rfl ?_
  show Steps p.tables e below ((T.setVm vm2).setTop (mkF m 28 #[.val (.double (FP.dsub (FP.dadd (4841369599423283200 : UInt64) (own_ab d)) (4841369599423283200 : UInt64))), .second, .val (.double (4841369599423283200 : UInt64)), .second, .val (.double (own_cs d)), .second] [])) _
  refine XS.dload H2 hx rfl (hb hby d8_28) rfl ?_
  show Steps p.tables e below ((T.setVm vm2).setTop (mkF m 30 #[.val (.double (FP.dsub (FP.dadd (4841369599423283200 : UInt64) (own_ab d)) (4841369599423283200 : UInt64))), .second, .val (.double (4841369599423283200 : UInt64)), .second, .val (.double (own_cs d)), .second] [(.double (own_cs d))])) _
  refine XS.dloadN H2 hx rfl (hb hby d8_30) rfl ?_
  show Steps p.tables e below ((T.setVm vm2).setTop (mkF m 31 #[.val (.double (FP.dsub (FP.dadd (4841369599423283200 : UInt64) (own_ab d)) (4841369599423283200 : UInt64))), .second, .val (.double (4841369599423283200 : UInt64)), .second, .val (.double (own_cs d)), .second] [(.double (FP.dsub (FP.dadd (4841369599423283200 : UInt64) (own_ab d)) (4841369599423283200 : UInt64))), (.double (own_cs d))])) _
  refine XS.dmulS H2 hx rfl (hb hby d8_31) rfl hok.2.2.2.1 rfl ?_
  show Steps p.tables e below ((T.setVm vm2).setTop (mkF m 32 #[.val (.double (FP.dsub (FP.dadd (4841369599423283200 : UInt64) (own_ab d)) (4841369599423283200 : UInt64))), .second, .val (.double (4841369599423283200 : UInt64)), .second, .val (.double (own_cs d)), .second] [(.double (FP.dmul (own_cs d) (FP.dsub (FP.dadd (4841369599423283200 : UInt64) (own_ab d)) (4841369599423283200 : UInt64))))])) _
  exact Steps.refl _
/-! Math.rint: the model's own row hands the call on to StrictMath.rint -/
def own_rowR : NativeRow := Native.java_lang_Math.nans.byStrictMath "rint" "nat.java_lang_Math.rint"
set_option maxRecDepth 100000 in
theorem own_findR (p : Program) : NativeRow.find? p.tables.natives "java/lang/Math" "rint" "(D)D" = some own_rowR := by
  cases p <;> rfl
/-- the row's frame, while StrictMath.rint runs (none) and when it has answered -/
def own_nf (mk : MethodId) (d : UInt64) (o : Option UInt64) : NFrame := { method := mk, args := #[.double d], stage := 1, saved := #[], awaiting := o.isNone, answer := o.map fun r => .returned (some (.double r)), words := 0 }
theorem own_semR (d : UInt64) (e : Env) (S : State) {cS : ClassId} {kS : Class} {i : Nat} (h1 : S.vm.findClass "java/lang/StrictMath" = some cS) (h2 : S.vm.classes[cS]? = some kS) (h3 : kS.init = .initialized) (h4 : kS.findMethod "rint" "(D)D" = some i) :
    ∃ acts, (own_rowR.sem #[.double d]).run e S = .ctl (.call ⟨cS, i⟩ #[.double d] 1 #[]) S acts := by
  have w : wpRun (own_rowR.sem #[.double d]) (fun _ _ _ => False) (fun c s₂ _ => c = .call ⟨cS, i⟩ #[.double d] 1 #[] ∧ s₂ = S) e S := by
    unfold own_rowR Native.java_lang_Math.nans.byStrictMath
    simp [jvm, wpRun, W.classNamed_ready h1, W.ensureInit_ready ⟨kS, h2, h3⟩, theClass, callThen, h2, h4]
    exact ⟨rfl, rfl, rfl, rfl⟩
  have w' := (wpRun_iff_run _ _ _ _ _).mp w
  generalize (own_rowR.sem #[.double d]).run e S = x at w' ⊢
  rcases x with ⟨v, t, a⟩ | ⟨y, t, a⟩
  · exact w'.elim
  · cases y <;> first | exact w'.elim | (obtain ⟨q1, q2⟩ := w'; rw [q2, q1]; exact ⟨a, rfl⟩)
theorem own_resR {r : UInt64} (h : r &&& 0x7fffffffffffffff ≤ 0x7ff0000000000000) (e : Env) (S : State) :
    ∃ acts, (own_rowR.resume 1 #[] (.returned (some (.double r)))).run e S = .ok (some (.double r)) S acts := by
  have w : wpRun (own_rowR.resume 1 #[] (.returned (some (.double r)))) (fun v s₂ _ => v = some (.double r) ∧ s₂ = S) (fun _ _ _ => False) e S := by
    unfold own_rowR Native.java_lang_Math.nans.byStrictMath
    simp [jvm, wpRun, anyNaN64, h]
  have w' := (wpRun_iff_run _ _ _ _ _).mp w
  generalize (own_rowR.resume 1 #[] (.returned (some (.double r)))).run e S = x at w' ⊢
  rcases x with ⟨v, t, a⟩ | ⟨y, t, a⟩
  · obtain ⟨q1, q2⟩ := w'; rw [q1, q2]; exact ⟨a, rfl⟩
  · cases y <;> exact w'.elim
section OwnRint
variable {p : Program} {e : Env} {U : State} {mk : MethodId} {k : Class} {x : Method} {d r : UInt64} {g : JFrame} {fs : List Frame}
/-- into the row: the bytecode frame gives way to the row's -/
theorem own_inR (hc : U.cur < U.threads.size) (hk : U.vm.classes[mk.cls]? = some k) (hx : k.methods[mk.idx]? = some x) (hb : k.loader = none) (n1 : k.name = "java/lang/Math") (n2 : x.name = "rint") (n3 : x.desc = "(D)D") (hp : x.sig.parameters.length = 1)
    {cS : ClassId} {kS : Class} {i : Nat} (h1 : U.vm.findClass "java/lang/StrictMath" = some cS) (h2 : U.vm.classes[cS]? = some kS) (h3 : kS.init = .initialized) (h4 : kS.findMethod "rint" "(D)D" = some i) :
    ∃ acts, (stepThread p.tables e (U.setFrames (.java (entryFrame mk #[.double d] 2) :: fs))).1 = (doInvoke e (U.setFrames (.native (own_nf mk d none) :: fs)) acts ⟨cS, i⟩ #[.double d]).1 := by
  obtain ⟨acts, hr⟩ := own_semR d e (U.setFrames (.native { method := mk, args := #[.double d] } :: fs)) (cS := cS) (kS := kS) (i := i) h1 h2 h3 h4
  have f1 : (U.setFrames (.java (entryFrame mk #[.double d] 2) :: fs)).frames = .java (entryFrame mk #[.double d] 2) :: fs := State.frames_setFrames _ hc
  have ov : overridden p.tables e (U.setFrames (.java (entryFrame mk #[.double d] 2) :: fs)) (entryFrame mk #[.double d] 2) = some own_rowR :=
    Jvm.Free.Fl.Abs.overridden_some (k := k) (x := x) rfl hk (by rw [n1]; decide) hb hx (by rw [n1, n2, n3]; exact own_findR p)
  have b3 : (U.vm.classes[mk.cls]?.bind fun z => z.methods[mk.idx]?) = some x := by rw [hk]; exact hx
  have w3 : ((U.vm.classes[mk.cls]?).bind fun k => Option.map (fun n => upcallWords k.name n.name) k.methods[mk.idx]?).getD 0 = 0 := by simp [hk, hx, n1, n2, upcallWords]
  have tk : ∀ n : Nat, List.take (1 + n) [Value.double d] = [Value.double d] := fun n => List.take_of_length_le (Nat.le_add_right 1 n)
  refine ⟨acts, ?_⟩
  unfold stepThread
  simp only [f1, ov]
  simp [entryFrame, argsToLocals, Value.category, argCount, b3, hp, tk, hr, afterNative, w3, State.setFrames_setFrames, own_nf]
/-- out of the row: the answer goes to the invoker -/
theorem own_outR (hf : U.frames = .native (own_nf mk d (some r)) :: .java g :: fs) (hk : U.vm.classes[mk.cls]? = some k) (hx : k.methods[mk.idx]? = some x) (hb : k.loader = none) (n1 : k.name = "java/lang/Math") (n2 : x.name = "rint") (n3 : x.desc = "(D)D")
    (hr : r &&& 0x7fffffffffffffff ≤ 0x7ff0000000000000) {c : Code} (hc : U.code? g.method = some c) {ig : Instr} {len : Nat} (hd : decode c.code g.pc = .ok (ig, len)) :
    (stepThread p.tables e U).1 = U.setFrames (.java { g with pc := g.pc + len, stack := .double r :: g.stack } :: fs) := by
  obtain ⟨acts, q⟩ := own_resR hr e U
  rw [Jvm.Free.Hsc.stepThread_resumed' (o := .returned (some (.double r))) hf hk hb hx (by rw [n1, n2, n3]; exact own_findR p) rfl]
  show (afterNative e _ _ ((own_rowR.resume 1 #[] (.returned (some (.double r)))).run e U)).1 = _
  rw [q]
  refine doReturn_native hf rfl ?_
  simp [handOver, hc, hd, Except.toOption]
end OwnRint
set_option maxRecDepth 100000 in
/-- Math.rint at a site -/
theorem own_backR {l : Launch} {R : Room} {p : Program} {e : Env} {below : List Frame} {s : State} {args : Array Value} {Z : State} {a0 : Array Value} {h : Heap} {len W n0 : Nat} {d : UInt64}
    (hok0 : own_ok d = true) (hw : ∀ d ∈ tables_1, d.before a0 Z = true) (hZ : Z.Warmed39 s.vm) (hx : p.tables.exec = Jvm.exec) (hf : 3 ≤ R.frames) (hl : W + (2 + 11) + 64 ≤ R.locals) :
    Back l R p e below s args ⟨"java/lang/Math", "rint", "(D)D"⟩ len W (fun A a => a = #[.double d] ∧ A.U.heap = h ∧ A.cells + 0 ≤ R.cells ∧ A.slots + 0 ≤ R.slots)
      (fun A _ v B => ∃ L, Q8 Z d h n0 v B.U.heap L ∧ B.locs = A.locs ++ L ∧ B.cells = A.cells + 0 ∧ B.slots = A.slots + 0) := by
  intro m meth c A g ig mk a X hg hsize hdg hW hn ⟨ha, hh, hc0, hs0⟩
  obtain ⟨U, Ls, c0, s0⟩ := A
  dsimp only [Pt.U, Pt.locs, Pt.cells, Pt.slots] at hh hc0 hs0 X hn ⊢
  subst ha
  have hU : Z.Warmed39 U.vm := wtrans hZ X.warmed
  have hok := own_okE hok0
  -- the two methods
  obtain ⟨xM, cM, m1, m2, -, m3, -, m4, -, m5⟩ := Cond.code_spec hn (mv (args := #[.double d]) hU (hw _ (List.mem_of_getElem? (i := 42) rfl)))
  obtain ⟨kM, k1, k2⟩ := className_of_methodNamed hn
  obtain ⟨k3, k4⟩ := name_of_methodNamed hn m1
  have k5 : kM.methods[mk.idx]? = some xM := by simpa [Vm.method?, k1] using m1
  have k6 : kM.loader = none := Vm.bootOf_findClass (findClass_of_methodNamed hn) k1
  have k7 : xM.sig.parameters.length = 1 := by
    have q : parseMethodDescriptor "(D)D" = some ⟨[.double], some .double⟩ := by decide +kernel
    rw [← Option.some.inj (q.symm.trans m5)]
    rfl
  have cS := mv (args := #[.double d]) hU (hw _ (List.mem_of_getElem? (i := 46) rfl))
  obtain ⟨iS, nS⟩ := Cond.code_named cS
  obtain ⟨xS, dS, s1, s2, s4, s3, s5, s6, -, -⟩ := Cond.code_spec nS cS
  obtain ⟨kS, t1, t0⟩ := className_of_methodNamed nS
  have t2 : U.vm.findClass "java/lang/StrictMath" = some iS.cls := findClass_of_methodNamed nS
  have t3 : kS.init = .initialized := Cond.initialized_spec t2 t1 (mv (args := #[.double d]) hU (hw _ (List.mem_of_getElem? (i := 45) rfl)))
  have t4 : kS.findMethod "rint" "(D)D" = some iS.idx := by
    have q := nS
    simp only [State.methodNamed?, Option.bind_eq_bind, Option.pure_def, t2, Option.bind_some, t1] at q
    cases f : kS.findMethod "rint" "(D)D" with
    | none => rw [f] at q; cases q
    | some j => rw [f] at q; simp at q; rw [← q]
  -- the frames and the room
  have H : At U g.method c below := by rw [hg]; exact X.here
  obtain ⟨g0, q0⟩ := Option.isSome_iff_exists.mp H.top
  obtain ⟨fs, hfs⟩ := State.topJava?_eq_some.mp q0
  have cu : U.cur < U.threads.size := State.cur_lt_of_frames hfs
  have tl : U.frames.tail = fs := by rw [hfs]; rfl
  obtain ⟨mid, hmid⟩ := H.above
  rw [tl] at hmid
  have rM : (U.calling g mk #[.double d]).hasRoom e.platform ({ frames := 2, locals := 64, cells := 0, slots := 0 } : Room) = true :=
    X.room_calling hsize m1 m2 hf (by rw [m3]; show _ + 64 ≤ _; omega) hc0 hs0
  have top : U.setTop g = U.setFrames (.java g :: fs) := State.setTop_of_frames _ hfs
  obtain ⟨b1, b2⟩ : fs.length + 4 ≤ (e.platform.stackLimits U.me).1 ∧ stackWeight (.java g :: fs) + 1024 + (2 + 11) + 64 ≤ (e.platform.stackLimits U.me).2 := by
    have fc := State.frames_calling H.top g mk #[.double d]
    obtain ⟨-, b1, -, b2⟩ := State.hasRoom_stack rM
    rw [State.localsInUse_invoking fc (meth := xM) (c := cM) m1 m2, m3] at b2
    rw [fc] at b1
    rw [tl] at b1 b2
    rw [State.calling_eq H.top, State.stackLimits_setFrames] at b1 b2
    exact ⟨by simpa using b1, b2⟩
  have wN : stackWeight (.native (own_nf mk d none) :: .java g :: fs) = 1024 + stackWeight (.java g :: fs) := by
    simp [stackWeight, Frame.weight, Frame.words, own_nf, vmFrameWords]
  -- 1: the bytecode frame of Math.rint
  have full : e.platform.stackFull (U.setTop g).me (U.setTop g).frames cM.maxLocals = false := by
    have w := stackUse_le_stackWeight (.java g :: fs)
    rw [top, State.frames_setFrames _ cu]
    refine Platform.stackFull_eq_false ?_ ?_
    · rw [State.stackLimits_setFrames]
      simp only [List.length_cons]
      omega
    · rw [State.stackLimits_setFrames]
      omega
  have go1 : (doInvoke e (U.setTop g) [] mk #[.double d]).1 = U.setFrames (.java (entryFrame mk #[.double d] 2) :: .java g :: fs) := by
    rw [(doInvoke_java (s := U.setTop g) (e := e) (acts := []) (args := #[.double d]) (meth := xM) (code := cM) m1 m2 m4 full).1, m3, State.pushFrame, State.frames_setTop _ hfs, top, State.setFrames_setFrames]
    rfl
  -- 2: the row's frame
  obtain ⟨acts, go2⟩ := own_inR (p := p) (e := e) (d := d) (fs := .java g :: fs) cu k1 k5 k6 k2 k3 k4 k7 t2 t1 t3 t4
  -- 3: StrictMath.rint
  have full3 : e.platform.stackFull (U.setFrames (.native (own_nf mk d none) :: .java g :: fs)).me (U.setFrames (.native (own_nf mk d none) :: .java g :: fs)).frames dS.maxLocals = false := by
    have w := stackUse_le_stackWeight (.native (own_nf mk d none) :: .java g :: fs)
    rw [State.frames_setFrames _ cu]
    refine Platform.stackFull_eq_false ?_ ?_
    · rw [State.stackLimits_setFrames]
      simp only [List.length_cons]
      omega
    · rw [State.stackLimits_setFrames, s3]
      omega
  obtain ⟨V, eV⟩ : ∃ V, V = U.setFrames (.java (entryFrame iS #[.double d] 6) :: .native (own_nf mk d none) :: .java g :: fs) := ⟨_, rfl⟩
  have go3 : (doInvoke e (U.setFrames (.native (own_nf mk d none) :: .java g :: fs)) acts ⟨iS.cls, iS.idx⟩ #[.double d]).1 = V := by
    rw [(doInvoke_java (s := U.setFrames (.native (own_nf mk d none) :: .java g :: fs)) (m := iS) (e := e) (acts := acts) (args := #[.double d]) (meth := xS) (code := dS) s1 s2 s6 full3).1, s3, State.pushFrame, State.frames_setFrames _ cu, State.setFrames_setFrames, eV]
    rfl
  have fV : V.frames = .java (entryFrame iS #[.double d] 6) :: .native (own_nf mk d none) :: .java g :: fs := by rw [eV]; exact State.frames_setFrames _ cu
  have tV : V.setTop (mkF iS 0 #[.val (.double d), .second, .unset, .unset, .unset, .unset] []) = V := by
    rw [State.setTop_of_frames _ fV, eV, State.setFrames_setFrames, ef8]
  have HV : At V iS dS below := by
    refine ⟨?_, ⟨.native (own_nf mk d none) :: .java g :: mid, by rw [fV, hmid]; rfl⟩, ?_, ?_, ?_, ?_, ?_⟩
    · simp [State.topJava?, fV]
    · rw [eV]; exact H.running
    · rw [eV]; simpa using H.runnable
    · rw [eV]; simpa using H.alone
    · rw [eV]; show U.code? iS = some dS; simp [State.code?_eq, s1, s2]
    · rw [eV]; exact State.plainMethod.of_named (s := U.setFrames _) (plainFor_of_name pn8) nS s1
  have lV : e.platform.stackLimits V.me = e.platform.stackLimits U.me := by rw [eV, State.stackLimits_setFrames]
  have owS : s.vm.findClass "java/lang/StrictMath" = some iS.cls := by rw [← X.warmed.alike.findClass]; exact t2
  obtain ⟨vm', Ls', wv, go4⟩ := own_rintAt (p := p) (below := below) (d := d) (T := V) hok0 hw hZ X.admits hx (by rw [eV]; exact X.warmed) HV s4 owS fV (by rw [lV]; simp only [List.length_cons]; omega) (by rw [lV, wN]; omega)
  rw [tV] at go4
  have al : U.vm.Alike vm' := X.warmed.alike.symm.trans wv.alike
  have HW : At (V.setVm vm') iS dS below := HV.setVm (by rw [eV]; exact al)
  have go5 := own_retAt (p := p) (e := e) hx HW (meth := xS) (by show vm'.method? iS = some xS; rw [al.method?]; exact s1) s5 s6 (Ls := Ls') (rest := []) (z := own_rn d) (hb s4 d8_32) (g0 := entryFrame iS #[.double d] 6) (fs := .native (own_nf mk d none) :: .java g :: fs) (fs' := .native (own_nf mk d (some (own_rn d))) :: .java g :: fs) fV rfl
  -- 4: back to the invoker
  obtain ⟨N, eN⟩ : ∃ N, N = (V.setVm vm').setFrames (.native (own_nf mk d (some (own_rn d))) :: .java g :: fs) := ⟨_, rfl⟩
  have eN' : N = (U.setVm vm').setFrames (.native (own_nf mk d (some (own_rn d))) :: .java g :: fs) := by
    rw [eN, eV]
    show ((U.setFrames _).setFrames _).setVm vm' = _
    rw [State.setFrames_setFrames]
    rfl
  have fN : N.frames = .native (own_nf mk d (some (own_rn d))) :: .java g :: fs := by rw [eN']; exact State.frames_setFrames (s := U.setVm vm') _ cu
  rw [← eN] at go5
  obtain ⟨kV, v1, v2⟩ := al.2.2 _ _ k1
  have cV : N.code? g.method = some c := by
    have q : N.code? g.method = U.code? g.method := by rw [State.code?_eq, State.code?_eq, eN']; show _ = (U.vm.method? g.method).bind _; rw [← al.method?]; rfl
    rw [q]; exact H.code
  have go6 := own_outR (p := p) (e := e) fN (by rw [eN']; exact v1) (by rw [v2]; exact k5) (by rw [v2]; exact k6) (by rw [v2]; exact k2) k3 k4 hok.2.2.2.1 cV hdg
  have fin : N.setFrames (.java { g with pc := g.pc + len, stack := .double (own_rn d) :: g.stack } :: fs) = (U.setVm vm').setTop { g with pc := g.pc + len, stack := .double (own_rn d) :: g.stack } := by
    rw [State.setTop_of_frames (s := U.setVm vm') _ hfs, eN', State.setFrames_setFrames]
  subst hg
  refine ⟨some (.double (own_rn d)), ⟨U.setVm vm', Ls, c0, s0⟩, X.noted wv, ⟨[], ⟨rfl, Fr.nil n0, hh⟩, (List.append_nil _).symm, rfl, rfl⟩, ?_⟩
  show Steps p.tables e below _ ((U.setVm vm').setTop { g with pc := g.pc + len, stack := .double (own_rn d) :: g.stack })
  rw [go1, ← fin]
  refine Steps.head ⟨H.running, by simpa using H.runnable, by simpa using H.alone⟩ ⟨.java (entryFrame mk #[.double d] 2) :: .java g :: mid, by rw [State.frames_setFrames _ cu, hmid]; rfl, by simp, by simp⟩ ?_
  rw [go2, go3]
  refine go4.trans (go5.trans ?_)
  refine Steps.head ⟨by rw [eN']; exact H.running, by rw [eN']; simpa using H.runnable, by rw [eN']; simpa using H.alone⟩ ⟨.native (own_nf mk d (some (own_rn d))) :: .java g :: mid, by rw [fN, hmid]; rfl, by simp, by simp⟩ ?_
  rw [go6]
  exact Steps.refl _

theorem d10_0 : decode prog_134_method_1_code 0 = .ok (.aload_n 0, 1) := by decide +kernel
theorem d10_1 : decode prog_134_method_1_code 1 = .ok (.invokespecial 1, 3) := by decide +kernel
theorem d10_4 : decode prog_134_method_1_code 4 = .ok (.dload_n 1, 1) := by decide +kernel
theorem d10_5 : decode prog_134_method_1_code 5 = .ok (.invokestatic 7, 3) := by decide +kernel
theorem d10_8 : decode prog_134_method_1_code 8 = .ok (.ifCond .eq 12, 3) := by decide +kernel
theorem d10_11 : decode prog_134_method_1_code 11 = .ok (.dload_n 1, 1) := by decide +kernel
theorem d10_12 : decode prog_134_method_1_code 12 = .ok (.dload_n 1, 1) := by decide +kernel
theorem d10_13 : decode prog_134_method_1_code 13 = .ok (.invokestatic 13, 3) := by decide +kernel
theorem d10_16 : decode prog_134_method_1_code 16 = .ok (.dcmp .l, 1) := by decide +kernel
theorem d10_17 : decode prog_134_method_1_code 17 = .ok (.ifCond .ne 17, 3) := by decide +kernel
theorem d10_34 : decode prog_134_method_1_code 34 = .ok (.aload_n 0, 1) := by decide +kernel
theorem d10_35 : decode prog_134_method_1_code 35 = .ok (.dload_n 1, 1) := by decide +kernel
theorem d10_36 : decode prog_134_method_1_code 36 = .ok (.putfield 28, 3) := by decide +kernel
theorem d10_39 : decode prog_134_method_1_code 39 = .ok (.return_, 1) := by decide +kernel
theorem pd10_0 : parseMethodDescriptor "()V" = some ⟨[], none⟩ := by decide +kernel
theorem pd10_1 : parseMethodDescriptor "(D)Z" = some ⟨[.double], some .boolean⟩ := by decide +kernel
theorem pd10_2 : parseMethodDescriptor "(D)D" = some ⟨[.double], some .double⟩ := by decide +kernel
theorem pn10 : plainName "com/example/deliberation/deliberation/term/DecimalTerm" = true := by first | (simp [plainName, overriddenIn]; done) | decide +kernel
theorem ef10 (m : MethodId) (a : Addr) (d : UInt64) : entryFrame m #[(.ref a), (.double d)] 3 = mkF m 0 #[.val (.ref a), .val (.double d), .second] [] := by first | (simp [entryFrame, mkF, argsToLocals, Value.category]; done) | rfl
def Q10 (Z : State) (a : Addr) (d : UInt64) (u : UInt64) (h0 : Heap) (n0 : Nat) (v : Option Value) (h : Heap) (L : List Loc) : Prop := v = none ∧ Fr n0 L ∧ Keep h0 h [a] ∧ Exa Z h a "com/example/deliberation/deliberation/term/DecimalTerm"
set_option maxRecDepth 65536 in
set_option maxHeartbeats 40000000 in
theorem rm10 (l : Launch) (Z : State) (a0 : Array Value) (hw : ∀ d ∈ tables_1, d.before a0 Z = true) (ws : List Jvm.Cond) (a : Addr) (d : UInt64) (u : UInt64) (h0 : Heap) (n0 : Nat) (Z0 : n0 ≤ h0.size) (E_a : Exa Z h0 a "com/example/deliberation/deliberation/term/DecimalTerm") (F_a_value : Fld Z h0 a "com/example/deliberation/deliberation/term/DecimalTerm" "value" "D" (.double u)) (G_a : n0 ≤ a) (hok0 : own_ok d = true) :
    MetFree l (⟨"com/example/deliberation/deliberation/term/DecimalTerm", "<init>", "(D)V"⟩ : MethodName) (head1 (Jvm.Cond.code (⟨"com/example/deliberation/deliberation/term/DecimalTerm", "<init>", "(D)V"⟩ : MethodName) prog_134_method_1_code 3 none :: ws) ({ frames := 3, cells := 0, slots := 0, locals := 83 } : Room)) (fun as' U => as' = #[(.ref a), (.double d)] ∧ Z.Warmed39 U.vm ∧ U.heap = h0) (fun _ _ _ _ _ => True) (fun _ U o U' => ∃ v L, o = .returned v ∧ Q10 Z a d u h0 n0 v U'.heap L ∧ FrameEnd U o U' L ({ frames := 3, cells := 0, slots := 0, locals := 83 } : Room).cells ({ frames := 3, cells := 0, slots := 0, locals := 83 } : Room).slots) := by
  refine own_body (plainFor_of_name pn10) ?_
  intro p e s m below meth c s₁ hx hby hml hown0 hnm hret hlk hZ X0 e0
  have hown : s.vm.findClass "com/example/deliberation/deliberation/term/DecimalTerm" = some m.cls := hown0
  have N0 := Fr.nil n0
  rw [ef10]
  have K0 : Keep h0 h0 [a] := Keep.refl h0 [a]
  have hok := own_okE hok0
  show own_Go p.tables e below _ (s₁.setTop (mkF m 0 #[.val (.ref a), .val (.double d), .second] []))
  refine own_st (S' := s₁.setTop (mkF m 1 #[.val (.ref a), .val (.double d), .second] [(.ref a)])) (fun t k => XS.aloadN X0.here hx rfl (hb hby d10_0) rfl rfl k) ?_
  obtain ⟨_, _, ⟨T1, L1, k1, n1⟩, -, X1, ⟨Lc1, hQ1, l1, y1, z1⟩, st1⟩ := X0.specialBack hx (y := (⟨"java/lang/Record", "<init>", "()V"⟩ : MethodName)) rfl hown (mvT hZ (hw _ (List.mem_of_getElem? (i := 30) rfl))) (mvT hZ (hw _ (List.mem_of_getElem? (i := 7) rfl))) (mvT hZ (hw _ (List.mem_of_getElem? (i := 10) rfl))) (by decide) (backOf (W := 0) (rm2 l Z a0 hw [] a h0 n0 Z0 ) hZ (hw _ (List.mem_of_getElem? (i := 10) rfl)) (hw _ (List.mem_of_getElem? (i := 9) rfl)) (by decide) (by decide)) (g := (mkF m 1 #[.val (.ref a), .val (.double d), .second] [(.ref a)])) rfl (by rw [hml]; rfl) (Steps.refl _) (a := a) (argsL := []) (rest := []) (lenOf pd10_0 rfl) rfl (by show 2 * 0 + _ ≤ _; exact Nat.le_of_eq rfl) (hb hby d10_1) (fun _ _ => ⟨rfl, e0, (by decide : 0 + 0 ≤ _), (by decide : 0 + 0 ≤ _)⟩)
  dsimp only [Pt.U, Pt.locs, Pt.cells, Pt.slots] at X1 l1 y1 z1 st1 hQ1
  rw [l1, y1, z1] at X1
  obtain ⟨rfl, N1q, hh1⟩ := hQ1
  have N1 := Fr.app N0 N1q
  refine own_tr st1 ?_
  show own_Go p.tables e below _ (T1.setTop (mkF m 4 #[.val (.ref a), .val (.double d), .second] []))
  refine own_st (S' := T1.setTop (mkF m 5 #[.val (.ref a), .val (.double d), .second] [(.double d)])) (fun t k => XS.dloadN X1.here hx rfl (hb hby d10_4) rfl k) ?_
  obtain ⟨_, _, ⟨T2, L2, k2, n2⟩, -, X2, ⟨Lc2, hQ2, l2, y2, z2⟩, st2⟩ := Jvm.LawKit.callS X1 hx (y := (⟨"java/lang/Double", "isFinite", "(D)Z"⟩ : MethodName)) hown (mvT hZ (hw _ (List.mem_of_getElem? (i := 31) rfl))) (mvT hZ (hw _ (List.mem_of_getElem? (i := 32) rfl))) (mvT hZ (hw _ (List.mem_of_getElem? (i := 33) rfl))) (mvT hZ (hw _ (List.mem_of_getElem? (i := 34) rfl))) (by decide) (backOf (W := 0) (rm7 l Z a0 hw [] d h0 n0 Z0 hok0) hZ (hw _ (List.mem_of_getElem? (i := 34) rfl)) (hw _ (List.mem_of_getElem? (i := 33) rfl)) (by decide) (by decide)) (g := (mkF m 5 #[.val (.ref a), .val (.double d), .second] [(.double d)])) rfl (by rw [hml]; rfl) (argsL := [(.double d)]) (rest := []) (lenOf pd10_1 rfl) rfl (by show 2 * 0 + _ ≤ _; exact Nat.le_of_eq rfl) (hb hby d10_5) (fun _ _ => ⟨rfl, hh1, (by decide : 0 + 0 ≤ _), (by decide : 0 + 0 ≤ _)⟩)
  dsimp only [Pt.U, Pt.locs, Pt.cells, Pt.slots] at X2 l2 y2 z2 st2 hQ2
  rw [l2, y2, z2] at X2
  obtain ⟨rfl, N2q, hh2⟩ := hQ2
  have N2 := Fr.app N1 N2q
  refine own_st st2 ?_
  show own_Go p.tables e below _ (T2.setTop (mkF m 8 #[.val (.ref a), .val (.double d), .second] [(.int (1 : Int32))]))
  refine own_st (S' := T2.setTop (mkF m 11 #[.val (.ref a), .val (.double d), .second] [])) (fun t k => XS.ifNo X2.here hx rfl (hb hby d10_8) rfl ((if0 _ _).trans (feq (by decide)).1) k) ?_
  show own_Go p.tables e below _ (T2.setTop (mkF m 11 #[.val (.ref a), .val (.double d), .second] []))
  refine own_st (S' := T2.setTop (mkF m 12 #[.val (.ref a), .val (.double d), .second] [(.double d)])) (fun t k => XS.dloadN X2.here hx rfl (hb hby d10_11) rfl k) ?_
  refine own_st (S' := T2.setTop (mkF m 13 #[.val (.ref a), .val (.double d), .second] [(.double d), (.double d)])) (fun t k => XS.dloadN X2.here hx rfl (hb hby d10_12) rfl k) ?_
  obtain ⟨_, _, ⟨T3, L3, k3, n3⟩, -, X3, ⟨Lc3, hQ3, l3, y3, z3⟩, st3⟩ := Jvm.LawKit.callS X2 hx (y := (⟨"java/lang/Math", "rint", "(D)D"⟩ : MethodName)) hown (mvT hZ (hw _ (List.mem_of_getElem? (i := 40) rfl))) (mvT hZ (hw _ (List.mem_of_getElem? (i := 41) rfl))) (mvT hZ (hw _ (List.mem_of_getElem? (i := 37) rfl))) (mvT hZ (hw _ (List.mem_of_getElem? (i := 42) rfl))) (by decide) (own_backR (W := 2) (d := d) (h := h0) (n0 := n0) hok0 hw hZ hx (by decide) (by decide)) (g := (mkF m 13 #[.val (.ref a), .val (.double d), .second] [(.double d), (.double d)])) rfl (by rw [hml]; rfl) (argsL := [(.double d)]) (rest := [(.double d)]) (lenOf pd10_2 rfl) rfl (by show 2 * 0 + _ ≤ _; exact Nat.le_of_eq rfl) (hb hby d10_13) (fun _ _ => ⟨rfl, hh2, (by decide : 0 + 0 ≤ _), (by decide : 0 + 0 ≤ _)⟩)
  dsimp only [Pt.U, Pt.locs, Pt.cells, Pt.slots] at X3 l3 y3 z3 st3 hQ3
  rw [l3, y3, z3] at X3
  obtain ⟨rfl, N3q, hh3⟩ := hQ3
  have N3 := Fr.app N2 N3q
  refine own_st st3 ?_
  show own_Go p.tables e below _ (T3.setTop (mkF m 16 #[.val (.ref a), .val (.double d), .second] [(.double (own_rn d)), (.double d)]))
  refine own_st (S' := T3.setTop (mkF m 17 #[.val (.ref a), .val (.double d), .second] [(.int (cmpValue (FP.dcmp d (own_rn d)) .l))])) (fun t k => XS.dcmpS X3.here hx rfl (hb hby d10_16) rfl rfl k) ?_
  have hc4 : ¬ ((cmpValue (FP.dcmp d (own_rn d)) .l) = (0 : Int32)) := hok.2.2.2.2.2.2.2
  refine own_st (S' := T3.setTop (mkF m 34 #[.val (.ref a), .val (.double d), .second] [])) (fun t k => XS.ifYes X3.here hx rfl (pc0 := 17) (pc' := 34) rfl (hb hby d10_17) rfl ((if0 _ _).trans (feq hc4).2) (by decide) (by decide) k) ?_
  show own_Go p.tables e below _ (T3.setTop (mkF m 34 #[.val (.ref a), .val (.double d), .second] []))
  refine own_st (S' := T3.setTop (mkF m 35 #[.val (.ref a), .val (.double d), .second] [(.ref a)])) (fun t k => XS.aloadN X3.here hx rfl (hb hby d10_34) rfl rfl k) ?_
  refine own_st (S' := T3.setTop (mkF m 36 #[.val (.ref a), .val (.double d), .second] [(.double d), (.ref a)])) (fun t k => XS.dloadN X3.here hx rfl (hb hby d10_35) rfl k) ?_
  obtain ⟨T5, h5, X5, e5, W5, st5⟩ := putF X3 hx hZ hown (host := "") (Or.inl (hw _ (List.mem_of_getElem? (i := 52) rfl))) Via.refl hh3 F_a_value E_a (Or.inr ⟨(hw _ (List.mem_of_getElem? (i := 53) rfl)), rfl, hnm⟩) (hw _ (List.mem_of_getElem? (i := 25) rfl)) (ty := .double) (by decide) rfl rfl (g := (mkF m 36 #[.val (.ref a), .val (.double d), .second] [(.double d), (.ref a)])) rfl rfl (hb hby d10_36)
  refine own_st st5 ?_
  have f6 : Exa Z h5 a "com/example/deliberation/deliberation/term/DecimalTerm" := E_a.wr W5
  have Z5 : n0 ≤ h5.size := Nat.le_trans Z0 (Keep.of_wr W5).1
  have N5 := Fr.snoc X5 N3 G_a
  have K5 : Keep h0 h5 [a] := K0.wr W5 (Or.inl (List.mem_of_getElem? (i := 0) rfl))
  have f7 : Fld Z h5 a "com/example/deliberation/deliberation/term/DecimalTerm" "value" "D" (.double d) := F_a_value.same W5
  show own_Go p.tables e below _ (T5.setTop (mkF m 39 #[.val (.ref a), .val (.double d), .second] []))
  refine own_retV X5 hx hret hlk (hb hby d10_39) ?_ (by decide) (by decide)
  rw [e5]
  exact ⟨rfl, N5, K5, f6⟩
theorem pd0_0 : parseMethodDescriptor "(J)V" = some ⟨[.long], none⟩ := by decide +kernel
theorem pd0_1 : parseMethodDescriptor "(Ljava/lang/Object;)Z" = some ⟨[(.object "java/lang/Object")], some .boolean⟩ := by decide +kernel
theorem pd0_2 : parseMethodDescriptor "(D)V" = some ⟨[.double], none⟩ := by decide +kernel
theorem pn0 : plainName "com/example/deliberation/deliberation/term/IntegerTermEqualsPinLaw" = true := by first | (simp [plainName, overriddenIn]; done) | decide +kernel
theorem ef0 (m : MethodId) (p0 : Int64) (p1 : Int64) (p2 : Int32) : entryFrame m #[(.long p0), (.long p1), (.int p2)] maxLocals = mkF m 0 #[.val (.long p0), .second, .val (.long p1), .second, .val (.int p2), .unset, .unset, .unset, .unset, .unset, .unset, .unset, .unset] [] := by first | (simp [entryFrame, mkF, argsToLocals, Value.category, maxLocals]; done) | rfl
def Q0 (n0 : Nat) (v : Option Value) (h : Heap) (L : List Loc) : Prop := v = some (.int 1) ∧ Fr n0 L
set_option maxRecDepth 65536 in
set_option maxHeartbeats 40000000 in
theorem rm0 (l : Launch) (Z : State) (a0 : Array Value) (hw : ∀ d ∈ tables_1, d.before a0 Z = true) (ws : List Jvm.Cond) (p0 : Int64) (p1 : Int64) (p2 : Int32) (h0 : Heap) (n0 : Nat) (Z0 : n0 ≤ h0.size)  :
    MetFree l x (head1 (Jvm.Cond.code x code maxLocals ret :: ws) room_1) (fun as' U => as' = #[(.long p0), (.long p1), (.int p2)] ∧ Z.Warmed39 U.vm ∧ U.heap = h0) (fun _ _ _ _ _ => True) (fun _ U o U' => ∃ v L, o = .returned v ∧ Q0 n0 v U'.heap L ∧ FrameEnd U o U' L room_1.cells room_1.slots) := by
  refine own_body (plainFor_of_name pn0) ?_
  intro p e s m below meth c s₁ hx hby hml hown0 hnm hret hlk hZ X0 e0
  have hown : s.vm.findClass "com/example/deliberation/deliberation/term/IntegerTermEqualsPinLaw" = some m.cls := hown0
  have N0 := Fr.nil n0
  rw [ef0]
  show own_Go p.tables e below _ (s₁.setTop (mkF m 0 #[.val (.long p0), .second, .val (.long p1), .second, .val (.int p2), .unset, .unset, .unset, .unset, .unset, .unset, .unset, .unset] []))
  obtain ⟨T1, h1, X1, e1, E1, A1, D1, -, st1⟩ := newO X0 hx hZ hown (hw _ (List.mem_of_getElem? (i := 0) rfl)) (hw _ (List.mem_of_getElem? (i := 1) rfl)) (hw _ (List.mem_of_getElem? (i := 2) rfl)) e0 (g := (mkF m 0 #[.val (.long p0), .second, .val (.long p1), .second, .val (.int p2), .unset, .unset, .unset, .unset, .unset, .unset, .unset, .unset] [])) rfl (hb hby at_0) (by decide) (by decide)
  obtain ⟨b1, g1⟩ : ∃ z, z = h0.size := ⟨_, rfl⟩
  rw [← g1] at A1 D1 st1
  have G_b1 : n0 ≤ b1 := Nat.le_trans Z0 (Nat.le_of_eq g1.symm)
  have Z1 : n0 ≤ h1.size := Nat.le_trans Z0 E1.1
  have f2 : Fld Z h1 b1 "com/example/deliberation/deliberation/term/IntegerTerm" "value" "J" (.long (0 : Int64)) := D1 (Or.inr (hw _ (List.mem_of_getElem? (i := 15) rfl))) (ty := .long) (by decide)
  refine own_st st1 ?_
  show own_Go p.tables e below _ (T1.setTop (mkF m 3 #[.val (.long p0), .second, .val (.long p1), .second, .val (.int p2), .unset, .unset, .unset, .unset, .unset, .unset, .unset, .unset] [(.ref b1)]))
  refine own_st (S' := T1.setTop (mkF m 4 #[.val (.long p0), .second, .val (.long p1), .second, .val (.int p2), .unset, .unset, .unset, .unset, .unset, .unset, .unset, .unset] [(.ref b1), (.ref b1)])) (fun t k => XS.dup X1.here hx rfl (hb hby at_3) rfl rfl k) ?_
  refine own_st (S' := T1.setTop (mkF m 5 #[.val (.long p0), .second, .val (.long p1), .second, .val (.int p2), .unset, .unset, .unset, .unset, .unset, .unset, .unset, .unset] [(.long p0), (.ref b1), (.ref b1)])) (fun t k => XS.lloadN X1.here hx rfl (hb hby at_4) rfl k) ?_
  obtain ⟨_, _, ⟨T3, L3, k3, n3⟩, -, X3, ⟨Lc3, hQ3, l3, y3, z3⟩, st3⟩ := X1.specialBack hx (y := (⟨"com/example/deliberation/deliberation/term/IntegerTerm", "<init>", "(J)V"⟩ : MethodName)) rfl hown (mvT hZ (hw _ (List.mem_of_getElem? (i := 3) rfl))) (mvT hZ (hw _ (List.mem_of_getElem? (i := 4) rfl))) (mvT hZ (hw _ (List.mem_of_getElem? (i := 5) rfl))) (by decide) (backOf (W := 1) (rm1 l Z a0 hw [] b1 p0 (0 : Int64) h1 n0 Z1 A1 f2 G_b1) hZ (hw _ (List.mem_of_getElem? (i := 5) rfl)) (hw _ (List.mem_of_getElem? (i := 2) rfl)) (by decide) (by decide)) (g := (mkF m 5 #[.val (.long p0), .second, .val (.long p1), .second, .val (.int p2), .unset, .unset, .unset, .unset, .unset, .unset, .unset, .unset] [(.long p0), (.ref b1), (.ref b1)])) rfl (by rw [hml]; rfl) (Steps.refl _) (a := b1) (argsL := [(.long p0)]) (rest := [(.ref b1)]) (lenOf pd0_0 rfl) rfl (by show 2 * 0 + _ ≤ _; exact Nat.le_of_eq rfl) (hb hby at_5) (fun _ _ => ⟨rfl, e1, (by decide : 1 + 0 ≤ _), (by decide : 1 + 0 ≤ _)⟩)
  dsimp only [Pt.U, Pt.locs, Pt.cells, Pt.slots] at X3 l3 y3 z3 st3 hQ3
  rw [l3, y3, z3] at X3
  obtain ⟨rfl, N3q, Kq3, g0_3, g1_3⟩ := hQ3
  have f4 : Exa Z T3.heap b1 "com/example/deliberation/deliberation/term/IntegerTerm" := A1.keep Kq3
  have Z3 : n0 ≤ T3.heap.size := Nat.le_trans Z1 Kq3.1
  have N3 := Fr.app N0 N3q
  refine own_tr st3 ?_
  show own_Go p.tables e below _ (T3.setTop (mkF m 8 #[.val (.long p0), .second, .val (.long p1), .second, .val (.int p2), .unset, .unset, .unset, .unset, .unset, .unset, .unset, .unset] [(.ref b1)]))
  refine own_st (S' := T3.setTop (mkF m 10 #[.val (.long p0), .second, .val (.long p1), .second, .val (.int p2), .val (.ref b1), .unset, .unset, .unset, .unset, .unset, .unset, .unset] [])) (fun t k => XS.astore X3.here hx rfl (hb hby at_8) rfl rfl (l' := #[.val (.long p0), .second, .val (.long p1), .second, .val (.int p2), .val (.ref b1), .unset, .unset, .unset, .unset, .unset, .unset, .unset]) rfl k) ?_
  refine own_st (S' := T3.setTop (mkF m 12 #[.val (.long p0), .second, .val (.long p1), .second, .val (.int p2), .val (.ref b1), .unset, .unset, .unset, .unset, .unset, .unset, .unset] [(.int p2)])) (fun t k => XS.iload X3.here hx rfl (hb hby at_10) rfl k) ?_
  refine own_st (S' := T3.setTop (mkF m 13 #[.val (.long p0), .second, .val (.long p1), .second, .val (.int p2), .val (.ref b1), .unset, .unset, .unset, .unset, .unset, .unset, .unset] [(.int (3 : Int32)), (.int p2)])) (fun t k => XS.iconst X3.here hx rfl (hb hby at_12) k) ?_
  refine own_st (S' := T3.setTop (mkF m 14 #[.val (.long p0), .second, .val (.long p1), .second, .val (.int p2), .val (.ref b1), .unset, .unset, .unset, .unset, .unset, .unset, .unset] [(.int (p2 &&& (3 : Int32)))])) (fun t k => XS.iand X3.here hx rfl (hb hby at_13) rfl k) ?_
  obtain ⟨v5, qv5⟩ : ∃ z : Int32, z = (p2 &&& (3 : Int32)) := ⟨_, rfl⟩
  show own_Go p.tables e below _ (T3.setTop (mkF m 14 #[.val (.long p0), .second, .val (.long p1), .second, .val (.int p2), .val (.ref b1), .unset, .unset, .unset, .unset, .unset, .unset, .unset] [(.int (p2 &&& (3 : Int32)))]))
  rw [← qv5]
  refine own_st (S' := T3.setTop (mkF m 16 #[.val (.long p0), .second, .val (.long p1), .second, .val (.int p2), .val (.ref b1), .val (.int v5), .unset, .unset, .unset, .unset, .unset, .unset] [])) (fun t k => XS.istore X3.here hx rfl (hb hby at_14) rfl (l' := #[.val (.long p0), .second, .val (.long p1), .second, .val (.int p2), .val (.ref b1), .val (.int v5), .unset, .unset, .unset, .unset, .unset, .unset]) rfl k) ?_
  refine own_st (S' := T3.setTop (mkF m 18 #[.val (.long p0), .second, .val (.long p1), .second, .val (.int p2), .val (.ref b1), .val (.int v5), .unset, .unset, .unset, .unset, .unset, .unset] [(.int v5)])) (fun t k => XS.iload X3.here hx rfl (hb hby at_16) rfl k) ?_
  by_cases hc6 : v5 = (0 : Int32)
  · refine own_st (S' := T3.setTop (mkF m 21 #[.val (.long p0), .second, .val (.long p1), .second, .val (.int p2), .val (.ref b1), .val (.int v5), .unset, .unset, .unset, .unset, .unset, .unset] [])) (fun t k => XS.ifNo X3.here hx rfl (hb hby at_18) rfl ((if0 _ _).trans (teq hc6).2) k) ?_
    show own_Go p.tables e below _ (T3.setTop (mkF m 21 #[.val (.long p0), .second, .val (.long p1), .second, .val (.int p2), .val (.ref b1), .val (.int v5), .unset, .unset, .unset, .unset, .unset, .unset] []))
    obtain ⟨T7, h7, X7, e7, E7, A7, D7, -, st7⟩ := newO X3 hx hZ hown (hw _ (List.mem_of_getElem? (i := 0) rfl)) (hw _ (List.mem_of_getElem? (i := 1) rfl)) (hw _ (List.mem_of_getElem? (i := 2) rfl)) rfl (g := (mkF m 21 #[.val (.long p0), .second, .val (.long p1), .second, .val (.int p2), .val (.ref b1), .val (.int v5), .unset, .unset, .unset, .unset, .unset, .unset] [])) rfl (hb hby at_21) (by decide) (by decide)
    obtain ⟨b7, g7⟩ : ∃ z, z = T3.heap.size := ⟨_, rfl⟩
    rw [← g7] at A7 D7 st7
    have G_b7 : n0 ≤ b7 := Nat.le_trans Z3 (Nat.le_of_eq g7.symm)
    have ne_b1_b7 : b1 ≠ b7 := Nat.ne_of_lt (Nat.lt_of_lt_of_le g0_3.lt (Nat.le_of_eq g7.symm))
    have f8 : Exa Z h7 b1 "com/example/deliberation/deliberation/term/IntegerTerm" := g0_3.ext E7
    have f9 : Fld Z h7 b1 "com/example/deliberation/deliberation/term/IntegerTerm" "value" "J" (.long p0) := g1_3.ext E7
    have Z7 : n0 ≤ h7.size := Nat.le_trans Z3 E7.1
    have f10 : Fld Z h7 b7 "com/example/deliberation/deliberation/term/IntegerTerm" "value" "J" (.long (0 : Int64)) := D7 (Or.inr (hw _ (List.mem_of_getElem? (i := 15) rfl))) (ty := .long) (by decide)
    refine own_st st7 ?_
    show own_Go p.tables e below _ (T7.setTop (mkF m 24 #[.val (.long p0), .second, .val (.long p1), .second, .val (.int p2), .val (.ref b1), .val (.int v5), .unset, .unset, .unset, .unset, .unset, .unset] [(.ref b7)]))
    refine own_st (S' := T7.setTop (mkF m 25 #[.val (.long p0), .second, .val (.long p1), .second, .val (.int p2), .val (.ref b1), .val (.int v5), .unset, .unset, .unset, .unset, .unset, .unset] [(.ref b7), (.ref b7)])) (fun t k => XS.dup X7.here hx rfl (hb hby at_24) rfl rfl k) ?_
    refine own_st (S' := T7.setTop (mkF m 26 #[.val (.long p0), .second, .val (.long p1), .second, .val (.int p2), .val (.ref b1), .val (.int v5), .unset, .unset, .unset, .unset, .unset, .unset] [(.long p1), (.ref b7), (.ref b7)])) (fun t k => XS.lloadN X7.here hx rfl (hb hby at_25) rfl k) ?_
    obtain ⟨_, _, ⟨T11, L11, k11, n11⟩, -, X11, ⟨Lc11, hQ11, l11, y11, z11⟩, st11⟩ := X7.specialBack hx (y := (⟨"com/example/deliberation/deliberation/term/IntegerTerm", "<init>", "(J)V"⟩ : MethodName)) rfl hown (mvT hZ (hw _ (List.mem_of_getElem? (i := 3) rfl))) (mvT hZ (hw _ (List.mem_of_getElem? (i := 4) rfl))) (mvT hZ (hw _ (List.mem_of_getElem? (i := 5) rfl))) (by decide) (backOf (W := 1) (rm1 l Z a0 hw [] b7 p1 (0 : Int64) h7 n0 Z7 A7 f10 G_b7) hZ (hw _ (List.mem_of_getElem? (i := 5) rfl)) (hw _ (List.mem_of_getElem? (i := 2) rfl)) (by decide) (by decide)) (g := (mkF m 26 #[.val (.long p0), .second, .val (.long p1), .second, .val (.int p2), .val (.ref b1), .val (.int v5), .unset, .unset, .unset, .unset, .unset, .unset] [(.long p1), (.ref b7), (.ref b7)])) rfl (by rw [hml]; rfl) (Steps.refl _) (a := b7) (argsL := [(.long p1)]) (rest := [(.ref b7)]) (lenOf pd0_0 rfl) rfl (by show 2 * 0 + _ ≤ _; exact Nat.le_of_eq rfl) (hb hby at_26) (fun _ _ => ⟨rfl, e7, (by decide : 2 + 0 ≤ _), (by decide : 2 + 0 ≤ _)⟩)
    dsimp only [Pt.U, Pt.locs, Pt.cells, Pt.slots] at X11 l11 y11 z11 st11 hQ11
    rw [l11, y11, z11] at X11
    obtain ⟨rfl, N11q, Kq11, g0_11, g1_11⟩ := hQ11
    have f12 : Exa Z T11.heap b1 "com/example/deliberation/deliberation/term/IntegerTerm" := f8.keep Kq11
    have f13 : Fld Z T11.heap b1 "com/example/deliberation/deliberation/term/IntegerTerm" "value" "J" (.long p0) := f9.keep Kq11 (ninS ne_b1_b7 nin0)
    have f14 : Exa Z T11.heap b7 "com/example/deliberation/deliberation/term/IntegerTerm" := A7.keep Kq11
    have Z11 : n0 ≤ T11.heap.size := Nat.le_trans Z7 Kq11.1
    have N11 := Fr.app N3 N11q
    refine own_tr st11 ?_
    show own_Go p.tables e below _ (T11.setTop (mkF m 29 #[.val (.long p0), .second, .val (.long p1), .second, .val (.int p2), .val (.ref b1), .val (.int v5), .unset, .unset, .unset, .unset, .unset, .unset] [(.ref b7)]))
    refine own_st (S' := T11.setTop (mkF m 31 #[.val (.long p0), .second, .val (.long p1), .second, .val (.int p2), .val (.ref b1), .val (.int v5), .val (.ref b7), .unset, .unset, .unset, .unset, .unset] [])) (fun t k => XS.astore X11.here hx rfl (hb hby at_29) rfl rfl (l' := #[.val (.long p0), .second, .val (.long p1), .second, .val (.int p2), .val (.ref b1), .val (.int v5), .val (.ref b7), .unset, .unset, .unset, .unset, .unset]) rfl k) ?_
    refine own_st (S' := T11.setTop (mkF m 33 #[.val (.long p0), .second, .val (.long p1), .second, .val (.int p2), .val (.ref b1), .val (.int v5), .val (.ref b7), .unset, .unset, .unset, .unset, .unset] [(.ref b1)])) (fun t k => XS.aload X11.here hx rfl (hb hby at_31) rfl rfl k) ?_
    refine own_st (S' := T11.setTop (mkF m 35 #[.val (.long p0), .second, .val (.long p1), .second, .val (.int p2), .val (.ref b1), .val (.int v5), .val (.ref b7), .unset, .unset, .unset, .unset, .unset] [(.ref b7), (.ref b1)])) (fun t k => XS.aload X11.here hx rfl (hb hby at_33) rfl rfl k) ?_
    obtain ⟨cq15, kq15, q15a, q15b, q15c⟩ := isOf hZ rfl f12
    obtain ⟨_, _, ⟨T15, L15, k15, n15⟩, -, X15, ⟨Lc15, hQ15, l15, y15, z15⟩, st15⟩ := X11.virtualBack hx (y := (⟨"com/example/deliberation/deliberation/term/IntegerTerm", "equals", "(Ljava/lang/Object;)Z"⟩ : MethodName)) (z := (⟨"com/example/deliberation/deliberation/term/IntegerTerm", "equals", "(Ljava/lang/Object;)Z"⟩ : MethodName)) hown (mvT hZ (hw _ (List.mem_of_getElem? (i := 16) rfl))) (mvT hZ (hw _ (List.mem_of_getElem? (i := 17) rfl))) (notFace_of_selects (args := #[]) (mvT hZ (hw _ (List.mem_of_getElem? (i := 19) rfl)))) (mvT hZ (hw _ (List.mem_of_getElem? (i := 19) rfl))) (mvT hZ (hw _ (List.mem_of_getElem? (i := 18) rfl))) (by decide) (backOf (W := 0) (rm3 l Z a0 hw [] b1 b7 p0 p1 T11.heap n0 Z11 g0_11 f13 g1_11) hZ (hw _ (List.mem_of_getElem? (i := 20) rfl)) (hw _ (List.mem_of_getElem? (i := 2) rfl)) (by decide) (by decide)) q15a q15c (g := (mkF m 35 #[.val (.long p0), .second, .val (.long p1), .second, .val (.int p2), .val (.ref b1), .val (.int v5), .val (.ref b7), .unset, .unset, .unset, .unset, .unset] [(.ref b7), (.ref b1)])) rfl (by rw [hml]; rfl) (Steps.refl _) (argsL := [(.ref b7)]) (rest := []) (lenOf pd0_1 rfl) rfl (by show 2 * 0 + _ ≤ _; exact Nat.le_of_eq rfl) (hb hby at_35) (fun _ _ => ⟨rfl, rfl, (by decide : 2 + 0 ≤ _), (by decide : 2 + 0 ≤ _)⟩)
    dsimp only [Pt.U, Pt.locs, Pt.cells, Pt.slots] at X15 l15 y15 z15 st15 hQ15
    rw [l15, y15, z15] at X15
    obtain ⟨rfl, N15q, hh15⟩ := hQ15
    have N15 := Fr.app N11 N15q
    refine own_tr st15 ?_
    show own_Go p.tables e below _ (T15.setTop (mkF m 38 #[.val (.long p0), .second, .val (.long p1), .second, .val (.int p2), .val (.ref b1), .val (.int v5), .val (.ref b7), .unset, .unset, .unset, .unset, .unset] [(.int (if p0 = p1 then (1 : Int32) else (0 : Int32)))]))
    obtain ⟨v16, qv16⟩ : ∃ z : Int32, z = (if p0 = p1 then (1 : Int32) else (0 : Int32)) := ⟨_, rfl⟩
    rw [← qv16]
    refine own_st (S' := T15.setTop (mkF m 40 #[.val (.long p0), .second, .val (.long p1), .second, .val (.int p2), .val (.ref b1), .val (.int v5), .val (.ref b7), .val (.int v16), .unset, .unset, .unset, .unset] [])) (fun t k => XS.istore X15.here hx rfl (hb hby at_38) rfl (l' := #[.val (.long p0), .second, .val (.long p1), .second, .val (.int p2), .val (.ref b1), .val (.int v5), .val (.ref b7), .val (.int v16), .unset, .unset, .unset, .unset]) rfl k) ?_
    refine own_st (S' := T15.setTop (mkF m 42 #[.val (.long p0), .second, .val (.long p1), .second, .val (.int p2), .val (.ref b1), .val (.int v5), .val (.ref b7), .val (.int v16), .unset, .unset, .unset, .unset] [(.int v16)])) (fun t k => XS.iload X15.here hx rfl (hb hby at_40) rfl k) ?_
    refine own_st (S' := T15.setTop (mkF m 43 #[.val (.long p0), .second, .val (.long p1), .second, .val (.int p2), .val (.ref b1), .val (.int v5), .val (.ref b7), .val (.int v16), .unset, .unset, .unset, .unset] [(.long p0), (.int v16)])) (fun t k => XS.lloadN X15.here hx rfl (hb hby at_42) rfl k) ?_
    refine own_st (S' := T15.setTop (mkF m 44 #[.val (.long p0), .second, .val (.long p1), .second, .val (.int p2), .val (.ref b1), .val (.int v5), .val (.ref b7), .val (.int v16), .unset, .unset, .unset, .unset] [(.long p1), (.long p0), (.int v16)])) (fun t k => XS.lloadN X15.here hx rfl (hb hby at_43) rfl k) ?_
    refine own_st (S' := T15.setTop (mkF m 45 #[.val (.long p0), .second, .val (.long p1), .second, .val (.int p2), .val (.ref b1), .val (.int v5), .val (.ref b7), .val (.int v16), .unset, .unset, .unset, .unset] [(.int (lcmpW p0 p1)), (.int v16)])) (fun t k => XS.lcmp X15.here hx rfl (hb hby at_44) rfl k) ?_
    obtain ⟨v17, qv17⟩ : ∃ z : Int32, z = (if p0 = p1 then (1 : Int32) else (0 : Int32)) := ⟨_, rfl⟩
    refine own_st (S' := T15.setTop (mkF m 53 #[.val (.long p0), .second, .val (.long p1), .second, .val (.int p2), .val (.ref b1), .val (.int v5), .val (.ref b7), .val (.int v16), .unset, .unset, .unset, .unset] [(.int v17), (.int v16)])) (fun t k => ?_) ?_
    · show Steps p.tables e below (T15.setTop (mkF m 45 #[.val (.long p0), .second, .val (.long p1), .second, .val (.int p2), .val (.ref b1), .val (.int v5), .val (.ref b7), .val (.int v16), .unset, .unset, .unset, .unset] [(.int (lcmpW p0 p1)), (.int v16)])) _
      by_cases hc18 : p0 = p1
      · rw [if_pos hc18] at qv17
        replace qv17 := Eq.symm qv17
        subst qv17
        refine XS.ifNo X15.here hx rfl (hb hby at_45) rfl ((if0 _ _).trans (teq ((lw_eq _ _).mpr hc18)).2) ?_
        show Steps p.tables e below (T15.setTop (mkF m 48 #[.val (.long p0), .second, .val (.long p1), .second, .val (.int p2), .val (.ref b1), .val (.int v5), .val (.ref b7), .val (.int v16), .unset, .unset, .unset, .unset] [(.int v16)])) _
        refine XS.iconst X15.here hx rfl (hb hby at_48) ?_
        show Steps p.tables e below (T15.setTop (mkF m 49 #[.val (.long p0), .second, .val (.long p1), .second, .val (.int p2), .val (.ref b1), .val (.int v5), .val (.ref b7), .val (.int v16), .unset, .unset, .unset, .unset] [(.int (1 : Int32)), (.int v16)])) _
        refine XS.goto X15.here hx rfl (pc0 := 49) (pc' := 53) rfl (hb hby at_49) (by decide) (by decide) ?_
        show Steps p.tables e below (T15.setTop (mkF m 53 #[.val (.long p0), .second, .val (.long p1), .second, .val (.int p2), .val (.ref b1), .val (.int v5), .val (.ref b7), .val (.int v16), .unset, .unset, .unset, .unset] [(.int (1 : Int32)), (.int v16)])) _
        exact k
      · rw [if_neg hc18] at qv17
        replace qv17 := Eq.symm qv17
        subst qv17
        refine XS.ifYes X15.here hx rfl (pc0 := 45) (pc' := 52) rfl (hb hby at_45) rfl ((if0 _ _).trans (feq (mt (lw_eq _ _).mp hc18)).2) (by decide) (by decide) ?_
        show Steps p.tables e below (T15.setTop (mkF m 52 #[.val (.long p0), .second, .val (.long p1), .second, .val (.int p2), .val (.ref b1), .val (.int v5), .val (.ref b7), .val (.int v16), .unset, .unset, .unset, .unset] [(.int v16)])) _
        refine XS.iconst X15.here hx rfl (hb hby at_52) ?_
        show Steps p.tables e below (T15.setTop (mkF m 53 #[.val (.long p0), .second, .val (.long p1), .second, .val (.int p2), .val (.ref b1), .val (.int v5), .val (.ref b7), .val (.int v16), .unset, .unset, .unset, .unset] [(.int (0 : Int32)), (.int v16)])) _
        exact k
    show own_Go p.tables e below _ (T15.setTop (mkF m 53 #[.val (.long p0), .second, .val (.long p1), .second, .val (.int p2), .val (.ref b1), .val (.int v5), .val (.ref b7), .val (.int v16), .unset, .unset, .unset, .unset] [(.int v17), (.int v16)]))
    have hc19 : v16 = v17 := by rw [qv16, qv17]
    refine own_st (S' := T15.setTop (mkF m 56 #[.val (.long p0), .second, .val (.long p1), .second, .val (.int p2), .val (.ref b1), .val (.int v5), .val (.ref b7), .val (.int v16), .unset, .unset, .unset, .unset] [])) (fun t k => XS.icmpNo X15.here hx rfl (hb hby at_53) rfl (teq hc19).2 k) ?_
    show own_Go p.tables e below _ (T15.setTop (mkF m 56 #[.val (.long p0), .second, .val (.long p1), .second, .val (.int p2), .val (.ref b1), .val (.int v5), .val (.ref b7), .val (.int v16), .unset, .unset, .unset, .unset] []))
    refine own_st (S' := T15.setTop (mkF m 58 #[.val (.long p0), .second, .val (.long p1), .second, .val (.int p2), .val (.ref b1), .val (.int v5), .val (.ref b7), .val (.int v16), .unset, .unset, .unset, .unset] [(.ref b7)])) (fun t k => XS.aload X15.here hx rfl (hb hby at_56) rfl rfl k) ?_
    refine own_st (S' := T15.setTop (mkF m 60 #[.val (.long p0), .second, .val (.long p1), .second, .val (.int p2), .val (.ref b1), .val (.int v5), .val (.ref b7), .val (.int v16), .unset, .unset, .unset, .unset] [(.ref b1), (.ref b7)])) (fun t k => XS.aload X15.here hx rfl (hb hby at_58) rfl rfl k) ?_
    obtain ⟨cq20, kq20, q20a, q20b, q20c⟩ := isOf hZ hh15 g0_11
    obtain ⟨_, _, ⟨T20, L20, k20, n20⟩, -, X20, ⟨Lc20, hQ20, l20, y20, z20⟩, st20⟩ := X15.virtualBack hx (y := (⟨"com/example/deliberation/deliberation/term/IntegerTerm", "equals", "(Ljava/lang/Object;)Z"⟩ : MethodName)) (z := (⟨"com/example/deliberation/deliberation/term/IntegerTerm", "equals", "(Ljava/lang/Object;)Z"⟩ : MethodName)) hown (mvT hZ (hw _ (List.mem_of_getElem? (i := 16) rfl))) (mvT hZ (hw _ (List.mem_of_getElem? (i := 17) rfl))) (notFace_of_selects (args := #[]) (mvT hZ (hw _ (List.mem_of_getElem? (i := 19) rfl)))) (mvT hZ (hw _ (List.mem_of_getElem? (i := 19) rfl))) (mvT hZ (hw _ (List.mem_of_getElem? (i := 18) rfl))) (by decide) (backOf (W := 0) (rm3 l Z a0 hw [] b7 b1 p1 p0 T11.heap n0 Z11 f12 g1_11 f13) hZ (hw _ (List.mem_of_getElem? (i := 20) rfl)) (hw _ (List.mem_of_getElem? (i := 2) rfl)) (by decide) (by decide)) q20a q20c (g := (mkF m 60 #[.val (.long p0), .second, .val (.long p1), .second, .val (.int p2), .val (.ref b1), .val (.int v5), .val (.ref b7), .val (.int v16), .unset, .unset, .unset, .unset] [(.ref b1), (.ref b7)])) rfl (by rw [hml]; rfl) (Steps.refl _) (argsL := [(.ref b1)]) (rest := []) (lenOf pd0_1 rfl) rfl (by show 2 * 0 + _ ≤ _; exact Nat.le_of_eq rfl) (hb hby at_60) (fun _ _ => ⟨rfl, hh15, (by decide : 2 + 0 ≤ _), (by decide : 2 + 0 ≤ _)⟩)
    dsimp only [Pt.U, Pt.locs, Pt.cells, Pt.slots] at X20 l20 y20 z20 st20 hQ20
    rw [l20, y20, z20] at X20
    obtain ⟨rfl, N20q, hh20⟩ := hQ20
    have N20 := Fr.app N15 N20q
    refine own_tr st20 ?_
    show own_Go p.tables e below _ (T20.setTop (mkF m 63 #[.val (.long p0), .second, .val (.long p1), .second, .val (.int p2), .val (.ref b1), .val (.int v5), .val (.ref b7), .val (.int v16), .unset, .unset, .unset, .unset] [(.int (if p1 = p0 then (1 : Int32) else (0 : Int32)))]))
    obtain ⟨v21, qv21⟩ : ∃ z : Int32, z = (if p1 = p0 then (1 : Int32) else (0 : Int32)) := ⟨_, rfl⟩
    rw [← qv21]
    refine own_st (S' := T20.setTop (mkF m 65 #[.val (.long p0), .second, .val (.long p1), .second, .val (.int p2), .val (.ref b1), .val (.int v5), .val (.ref b7), .val (.int v16), .unset, .unset, .unset, .unset] [(.int v16), (.int v21)])) (fun t k => XS.iload X20.here hx rfl (hb hby at_63) rfl k) ?_
    have hc22 : v21 = v16 := by rw [qv21, qv16]; exact own_if ⟨Eq.symm, Eq.symm⟩
    refine own_st (S' := T20.setTop (mkF m 68 #[.val (.long p0), .second, .val (.long p1), .second, .val (.int p2), .val (.ref b1), .val (.int v5), .val (.ref b7), .val (.int v16), .unset, .unset, .unset, .unset] [])) (fun t k => XS.icmpNo X20.here hx rfl (hb hby at_65) rfl (teq hc22).2 k) ?_
    show own_Go p.tables e below _ (T20.setTop (mkF m 68 #[.val (.long p0), .second, .val (.long p1), .second, .val (.int p2), .val (.ref b1), .val (.int v5), .val (.ref b7), .val (.int v16), .unset, .unset, .unset, .unset] []))
    refine own_st (S' := T20.setTop (mkF m 69 #[.val (.long p0), .second, .val (.long p1), .second, .val (.int p2), .val (.ref b1), .val (.int v5), .val (.ref b7), .val (.int v16), .unset, .unset, .unset, .unset] [(.int (1 : Int32))])) (fun t k => XS.iconst X20.here hx rfl (hb hby at_68) k) ?_
    refine own_st (S' := T20.setTop (mkF m 73 #[.val (.long p0), .second, .val (.long p1), .second, .val (.int p2), .val (.ref b1), .val (.int v5), .val (.ref b7), .val (.int v16), .unset, .unset, .unset, .unset] [(.int (1 : Int32))])) (fun t k => XS.goto X20.here hx rfl (pc0 := 69) (pc' := 73) rfl (hb hby at_69) (by decide) (by decide) k) ?_
    refine own_retN X20 hx (t := .boolean) hret (by simp) hlk (hb hby at_73) ?_ (by decide) (by decide)
    rw [hh20]
    exact ⟨rfl, N20⟩
  · refine own_st (S' := T3.setTop (mkF m 74 #[.val (.long p0), .second, .val (.long p1), .second, .val (.int p2), .val (.ref b1), .val (.int v5), .unset, .unset, .unset, .unset, .unset, .unset] [])) (fun t k => XS.ifYes X3.here hx rfl (pc0 := 18) (pc' := 74) rfl (hb hby at_18) rfl ((if0 _ _).trans (feq hc6).2) (by decide) (by decide) k) ?_
    show own_Go p.tables e below _ (T3.setTop (mkF m 74 #[.val (.long p0), .second, .val (.long p1), .second, .val (.int p2), .val (.ref b1), .val (.int v5), .unset, .unset, .unset, .unset, .unset, .unset] []))
    refine own_st (S' := T3.setTop (mkF m 76 #[.val (.long p0), .second, .val (.long p1), .second, .val (.int p2), .val (.ref b1), .val (.int v5), .unset, .unset, .unset, .unset, .unset, .unset] [(.int v5)])) (fun t k => XS.iload X3.here hx rfl (hb hby at_74) rfl k) ?_
    refine own_st (S' := T3.setTop (mkF m 77 #[.val (.long p0), .second, .val (.long p1), .second, .val (.int p2), .val (.ref b1), .val (.int v5), .unset, .unset, .unset, .unset, .unset, .unset] [(.int (1 : Int32)), (.int v5)])) (fun t k => XS.iconst X3.here hx rfl (hb hby at_76) k) ?_
    by_cases hc23 : v5 = (1 : Int32)
    · refine own_st (S' := T3.setTop (mkF m 80 #[.val (.long p0), .second, .val (.long p1), .second, .val (.int p2), .val (.ref b1), .val (.int v5), .unset, .unset, .unset, .unset, .unset, .unset] [])) (fun t k => XS.icmpNo X3.here hx rfl (hb hby at_77) rfl (teq hc23).2 k) ?_
      show own_Go p.tables e below _ (T3.setTop (mkF m 80 #[.val (.long p0), .second, .val (.long p1), .second, .val (.int p2), .val (.ref b1), .val (.int v5), .unset, .unset, .unset, .unset, .unset, .unset] []))
      refine own_st (S' := T3.setTop (mkF m 82 #[.val (.long p0), .second, .val (.long p1), .second, .val (.int p2), .val (.ref b1), .val (.int v5), .unset, .unset, .unset, .unset, .unset, .unset] [(.int p2)])) (fun t k => XS.iload X3.here hx rfl (hb hby at_80) rfl k) ?_
      refine own_st (S' := T3.setTop (mkF m 83 #[.val (.long p0), .second, .val (.long p1), .second, .val (.int p2), .val (.ref b1), .val (.int v5), .unset, .unset, .unset, .unset, .unset, .unset] [(.int (2 : Int32)), (.int p2)])) (fun t k => XS.iconst X3.here hx rfl (hb hby at_82) k) ?_
      refine own_st (S' := T3.setTop (mkF m 84 #[.val (.long p0), .second, .val (.long p1), .second, .val (.int p2), .val (.ref b1), .val (.int v5), .unset, .unset, .unset, .unset, .unset, .unset] [(.int ((p2.toUInt32 >>> ((2 : Int32) &&& 31).toUInt32).toInt32))])) (fun t k => XS.iushr X3.here hx rfl (hb hby at_83) rfl k) ?_
      refine own_st (S' := T3.setTop (mkF m 86 #[.val (.long p0), .second, .val (.long p1), .second, .val (.int p2), .val (.ref b1), .val (.int v5), .unset, .unset, .unset, .unset, .unset, .unset] [(.int (7 : Int32)), (.int ((p2.toUInt32 >>> ((2 : Int32) &&& 31).toUInt32).toInt32))])) (fun t k => XS.bipush X3.here hx rfl (hb hby at_84) k) ?_
      refine own_st (S' := T3.setTop (mkF m 87 #[.val (.long p0), .second, .val (.long p1), .second, .val (.int p2), .val (.ref b1), .val (.int v5), .unset, .unset, .unset, .unset, .unset, .unset] [(.int (((p2.toUInt32 >>> ((2 : Int32) &&& 31).toUInt32).toInt32) &&& (7 : Int32)))])) (fun t k => XS.iand X3.here hx rfl (hb hby at_86) rfl k) ?_
      refine own_st (S' := T3.setTop (mkF m 88 #[.val (.long p0), .second, .val (.long p1), .second, .val (.int p2), .val (.ref b1), .val (.int v5), .unset, .unset, .unset, .unset, .unset, .unset] [(.long (((p2.toUInt32 >>> ((2 : Int32) &&& 31).toUInt32).toInt32) &&& (7 : Int32)).toInt64)])) (fun t k => XS.i2l X3.here hx rfl (hb hby at_87) rfl k) ?_
      refine own_st (S' := T3.setTop (mkF m 91 #[.val (.long p0), .second, .val (.long p1), .second, .val (.int p2), .val (.ref b1), .val (.int v5), .unset, .unset, .unset, .unset, .unset, .unset] [(.long (3 : Int64)), (.long (((p2.toUInt32 >>> ((2 : Int32) &&& 31).toUInt32).toInt32) &&& (7 : Int32)).toInt64)])) (fun t k => X3.ldc2Long hx hown (mvT hZ (hw _ (List.mem_of_getElem? (i := 57) rfl))) (g := (mkF m 88 #[.val (.long p0), .second, .val (.long p1), .second, .val (.int p2), .val (.ref b1), .val (.int v5), .unset, .unset, .unset, .unset, .unset, .unset] [(.long (((p2.toUInt32 >>> ((2 : Int32) &&& 31).toUInt32).toInt32) &&& (7 : Int32)).toInt64)])) rfl (hb hby at_88) _ k) ?_
      refine own_st (S' := T3.setTop (mkF m 92 #[.val (.long p0), .second, .val (.long p1), .second, .val (.int p2), .val (.ref b1), .val (.int v5), .unset, .unset, .unset, .unset, .unset, .unset] [(.long ((((p2.toUInt32 >>> ((2 : Int32) &&& 31).toUInt32).toInt32) &&& (7 : Int32)).toInt64 - (3 : Int64)))])) (fun t k => XS.lsub X3.here hx rfl (hb hby at_91) rfl k) ?_
      obtain ⟨v24, qv24⟩ : ∃ z : Int64, z = ((((p2.toUInt32 >>> ((2 : Int32) &&& 31).toUInt32).toInt32) &&& (7 : Int32)).toInt64 - (3 : Int64)) := ⟨_, rfl⟩
      show own_Go p.tables e below _ (T3.setTop (mkF m 92 #[.val (.long p0), .second, .val (.long p1), .second, .val (.int p2), .val (.ref b1), .val (.int v5), .unset, .unset, .unset, .unset, .unset, .unset] [(.long ((((p2.toUInt32 >>> ((2 : Int32) &&& 31).toUInt32).toInt32) &&& (7 : Int32)).toInt64 - (3 : Int64)))]))
      rw [← qv24]
      refine own_st (S' := T3.setTop (mkF m 94 #[.val (.long p0), .second, .val (.long p1), .second, .val (.int p2), .val (.ref b1), .val (.int v5), .val (.long v24), .second, .unset, .unset, .unset, .unset] [])) (fun t k => XS.lstore X3.here hx rfl (hb hby at_92) rfl (l' := #[.val (.long p0), .second, .val (.long p1), .second, .val (.int p2), .val (.ref b1), .val (.int v5), .val (.long v24), .second, .unset, .unset, .unset, .unset]) rfl k) ?_
      refine own_st (S' := T3.setTop (mkF m 95 #[.val (.long p0), .second, .val (.long p1), .second, .val (.int p2), .val (.ref b1), .val (.int v5), .val (.long v24), .second, .unset, .unset, .unset, .unset] [(.long p0)])) (fun t k => XS.lloadN X3.here hx rfl (hb hby at_94) rfl k) ?_
      refine own_st (S' := T3.setTop (mkF m 97 #[.val (.long p0), .second, .val (.long p1), .second, .val (.int p2), .val (.ref b1), .val (.int v5), .val (.long v24), .second, .unset, .unset, .unset, .unset] [(.long v24), (.long p0)])) (fun t k => XS.lload X3.here hx rfl (hb hby at_95) rfl k) ?_
      refine own_st (S' := T3.setTop (mkF m 98 #[.val (.long p0), .second, .val (.long p1), .second, .val (.int p2), .val (.ref b1), .val (.int v5), .val (.long v24), .second, .unset, .unset, .unset, .unset] [(.long (p0 + v24))])) (fun t k => XS.ladd X3.here hx rfl (hb hby at_97) rfl k) ?_
      obtain ⟨v25, qv25⟩ : ∃ z : Int64, z = (p0 + v24) := ⟨_, rfl⟩
      show own_Go p.tables e below _ (T3.setTop (mkF m 98 #[.val (.long p0), .second, .val (.long p1), .second, .val (.int p2), .val (.ref b1), .val (.int v5), .val (.long v24), .second, .unset, .unset, .unset, .unset] [(.long (p0 + v24))]))
      rw [← qv25]
      refine own_st (S' := T3.setTop (mkF m 100 #[.val (.long p0), .second, .val (.long p1), .second, .val (.int p2), .val (.ref b1), .val (.int v5), .val (.long v24), .second, .val (.long v25), .second, .unset, .unset] [])) (fun t k => XS.lstore X3.here hx rfl (hb hby at_98) rfl (l' := #[.val (.long p0), .second, .val (.long p1), .second, .val (.int p2), .val (.ref b1), .val (.int v5), .val (.long v24), .second, .val (.long v25), .second, .unset, .unset]) rfl k) ?_
      obtain ⟨T26, h26, X26, e26, E26, A26, D26, -, st26⟩ := newO X3 hx hZ hown (hw _ (List.mem_of_getElem? (i := 0) rfl)) (hw _ (List.mem_of_getElem? (i := 1) rfl)) (hw _ (List.mem_of_getElem? (i := 2) rfl)) rfl (g := (mkF m 100 #[.val (.long p0), .second, .val (.long p1), .second, .val (.int p2), .val (.ref b1), .val (.int v5), .val (.long v24), .second, .val (.long v25), .second, .unset, .unset] [])) rfl (hb hby at_100) (by decide) (by decide)
      obtain ⟨b26, g26⟩ : ∃ z, z = T3.heap.size := ⟨_, rfl⟩
      rw [← g26] at A26 D26 st26
      have G_b26 : n0 ≤ b26 := Nat.le_trans Z3 (Nat.le_of_eq g26.symm)
      have ne_b1_b26 : b1 ≠ b26 := Nat.ne_of_lt (Nat.lt_of_lt_of_le g0_3.lt (Nat.le_of_eq g26.symm))
      have f27 : Exa Z h26 b1 "com/example/deliberation/deliberation/term/IntegerTerm" := g0_3.ext E26
      have f28 : Fld Z h26 b1 "com/example/deliberation/deliberation/term/IntegerTerm" "value" "J" (.long p0) := g1_3.ext E26
      have Z26 : n0 ≤ h26.size := Nat.le_trans Z3 E26.1
      have f29 : Fld Z h26 b26 "com/example/deliberation/deliberation/term/IntegerTerm" "value" "J" (.long (0 : Int64)) := D26 (Or.inr (hw _ (List.mem_of_getElem? (i := 15) rfl))) (ty := .long) (by decide)
      refine own_st st26 ?_
      show own_Go p.tables e below _ (T26.setTop (mkF m 103 #[.val (.long p0), .second, .val (.long p1), .second, .val (.int p2), .val (.ref b1), .val (.int v5), .val (.long v24), .second, .val (.long v25), .second, .unset, .unset] [(.ref b26)]))
      refine own_st (S' := T26.setTop (mkF m 104 #[.val (.long p0), .second, .val (.long p1), .second, .val (.int p2), .val (.ref b1), .val (.int v5), .val (.long v24), .second, .val (.long v25), .second, .unset, .unset] [(.ref b26), (.ref b26)])) (fun t k => XS.dup X26.here hx rfl (hb hby at_103) rfl rfl k) ?_
      refine own_st (S' := T26.setTop (mkF m 106 #[.val (.long p0), .second, .val (.long p1), .second, .val (.int p2), .val (.ref b1), .val (.int v5), .val (.long v24), .second, .val (.long v25), .second, .unset, .unset] [(.long v25), (.ref b26), (.ref b26)])) (fun t k => XS.lload X26.here hx rfl (hb hby at_104) rfl k) ?_
      obtain ⟨_, _, ⟨T30, L30, k30, n30⟩, -, X30, ⟨Lc30, hQ30, l30, y30, z30⟩, st30⟩ := X26.specialBack hx (y := (⟨"com/example/deliberation/deliberation/term/IntegerTerm", "<init>", "(J)V"⟩ : MethodName)) rfl hown (mvT hZ (hw _ (List.mem_of_getElem? (i := 3) rfl))) (mvT hZ (hw _ (List.mem_of_getElem? (i := 4) rfl))) (mvT hZ (hw _ (List.mem_of_getElem? (i := 5) rfl))) (by decide) (backOf (W := 1) (rm1 l Z a0 hw [] b26 v25 (0 : Int64) h26 n0 Z26 A26 f29 G_b26) hZ (hw _ (List.mem_of_getElem? (i := 5) rfl)) (hw _ (List.mem_of_getElem? (i := 2) rfl)) (by decide) (by decide)) (g := (mkF m 106 #[.val (.long p0), .second, .val (.long p1), .second, .val (.int p2), .val (.ref b1), .val (.int v5), .val (.long v24), .second, .val (.long v25), .second, .unset, .unset] [(.long v25), (.ref b26), (.ref b26)])) rfl (by rw [hml]; rfl) (Steps.refl _) (a := b26) (argsL := [(.long v25)]) (rest := [(.ref b26)]) (lenOf pd0_0 rfl) rfl (by show 2 * 0 + _ ≤ _; exact Nat.le_of_eq rfl) (hb hby at_106) (fun _ _ => ⟨rfl, e26, (by decide : 2 + 0 ≤ _), (by decide : 2 + 0 ≤ _)⟩)
      dsimp only [Pt.U, Pt.locs, Pt.cells, Pt.slots] at X30 l30 y30 z30 st30 hQ30
      rw [l30, y30, z30] at X30
      obtain ⟨rfl, N30q, Kq30, g0_30, g1_30⟩ := hQ30
      have f31 : Exa Z T30.heap b1 "com/example/deliberation/deliberation/term/IntegerTerm" := f27.keep Kq30
      have f32 : Fld Z T30.heap b1 "com/example/deliberation/deliberation/term/IntegerTerm" "value" "J" (.long p0) := f28.keep Kq30 (ninS ne_b1_b26 nin0)
      have f33 : Exa Z T30.heap b26 "com/example/deliberation/deliberation/term/IntegerTerm" := A26.keep Kq30
      have Z30 : n0 ≤ T30.heap.size := Nat.le_trans Z26 Kq30.1
      have N30 := Fr.app N3 N30q
      refine own_tr st30 ?_
      show own_Go p.tables e below _ (T30.setTop (mkF m 109 #[.val (.long p0), .second, .val (.long p1), .second, .val (.int p2), .val (.ref b1), .val (.int v5), .val (.long v24), .second, .val (.long v25), .second, .unset, .unset] [(.ref b26)]))
      refine own_st (S' := T30.setTop (mkF m 111 #[.val (.long p0), .second, .val (.long p1), .second, .val (.int p2), .val (.ref b1), .val (.int v5), .val (.long v24), .second, .val (.long v25), .second, .val (.ref b26), .unset] [])) (fun t k => XS.astore X30.here hx rfl (hb hby at_109) rfl rfl (l' := #[.val (.long p0), .second, .val (.long p1), .second, .val (.int p2), .val (.ref b1), .val (.int v5), .val (.long v24), .second, .val (.long v25), .second, .val (.ref b26), .unset]) rfl k) ?_
      refine own_st (S' := T30.setTop (mkF m 113 #[.val (.long p0), .second, .val (.long p1), .second, .val (.int p2), .val (.ref b1), .val (.int v5), .val (.long v24), .second, .val (.long v25), .second, .val (.ref b26), .unset] [(.ref b1)])) (fun t k => XS.aload X30.here hx rfl (hb hby at_111) rfl rfl k) ?_
      refine own_st (S' := T30.setTop (mkF m 115 #[.val (.long p0), .second, .val (.long p1), .second, .val (.int p2), .val (.ref b1), .val (.int v5), .val (.long v24), .second, .val (.long v25), .second, .val (.ref b26), .unset] [(.ref b26), (.ref b1)])) (fun t k => XS.aload X30.here hx rfl (hb hby at_113) rfl rfl k) ?_
      obtain ⟨cq34, kq34, q34a, q34b, q34c⟩ := isOf hZ rfl f31
      obtain ⟨_, _, ⟨T34, L34, k34, n34⟩, -, X34, ⟨Lc34, hQ34, l34, y34, z34⟩, st34⟩ := X30.virtualBack hx (y := (⟨"com/example/deliberation/deliberation/term/IntegerTerm", "equals", "(Ljava/lang/Object;)Z"⟩ : MethodName)) (z := (⟨"com/example/deliberation/deliberation/term/IntegerTerm", "equals", "(Ljava/lang/Object;)Z"⟩ : MethodName)) hown (mvT hZ (hw _ (List.mem_of_getElem? (i := 16) rfl))) (mvT hZ (hw _ (List.mem_of_getElem? (i := 17) rfl))) (notFace_of_selects (args := #[]) (mvT hZ (hw _ (List.mem_of_getElem? (i := 19) rfl)))) (mvT hZ (hw _ (List.mem_of_getElem? (i := 19) rfl))) (mvT hZ (hw _ (List.mem_of_getElem? (i := 18) rfl))) (by decide) (backOf (W := 0) (rm3 l Z a0 hw [] b1 b26 p0 v25 T30.heap n0 Z30 g0_30 f32 g1_30) hZ (hw _ (List.mem_of_getElem? (i := 20) rfl)) (hw _ (List.mem_of_getElem? (i := 2) rfl)) (by decide) (by decide)) q34a q34c (g := (mkF m 115 #[.val (.long p0), .second, .val (.long p1), .second, .val (.int p2), .val (.ref b1), .val (.int v5), .val (.long v24), .second, .val (.long v25), .second, .val (.ref b26), .unset] [(.ref b26), (.ref b1)])) rfl (by rw [hml]; rfl) (Steps.refl _) (argsL := [(.ref b26)]) (rest := []) (lenOf pd0_1 rfl) rfl (by show 2 * 0 + _ ≤ _; exact Nat.le_of_eq rfl) (hb hby at_115) (fun _ _ => ⟨rfl, rfl, (by decide : 2 + 0 ≤ _), (by decide : 2 + 0 ≤ _)⟩)
      dsimp only [Pt.U, Pt.locs, Pt.cells, Pt.slots] at X34 l34 y34 z34 st34 hQ34
      rw [l34, y34, z34] at X34
      obtain ⟨rfl, N34q, hh34⟩ := hQ34
      have N34 := Fr.app N30 N34q
      refine own_tr st34 ?_
      show own_Go p.tables e below _ (T34.setTop (mkF m 118 #[.val (.long p0), .second, .val (.long p1), .second, .val (.int p2), .val (.ref b1), .val (.int v5), .val (.long v24), .second, .val (.long v25), .second, .val (.ref b26), .unset] [(.int (if p0 = v25 then (1 : Int32) else (0 : Int32)))]))
      obtain ⟨v35, qv35⟩ : ∃ z : Int32, z = (if p0 = v25 then (1 : Int32) else (0 : Int32)) := ⟨_, rfl⟩
      rw [← qv35]
      refine own_st (S' := T34.setTop (mkF m 120 #[.val (.long p0), .second, .val (.long p1), .second, .val (.int p2), .val (.ref b1), .val (.int v5), .val (.long v24), .second, .val (.long v25), .second, .val (.ref b26), .val (.int v35)] [])) (fun t k => XS.istore X34.here hx rfl (hb hby at_118) rfl (l' := #[.val (.long p0), .second, .val (.long p1), .second, .val (.int p2), .val (.ref b1), .val (.int v5), .val (.long v24), .second, .val (.long v25), .second, .val (.ref b26), .val (.int v35)]) rfl k) ?_
      refine own_st (S' := T34.setTop (mkF m 122 #[.val (.long p0), .second, .val (.long p1), .second, .val (.int p2), .val (.ref b1), .val (.int v5), .val (.long v24), .second, .val (.long v25), .second, .val (.ref b26), .val (.int v35)] [(.int v35)])) (fun t k => XS.iload X34.here hx rfl (hb hby at_120) rfl k) ?_
      refine own_st (S' := T34.setTop (mkF m 124 #[.val (.long p0), .second, .val (.long p1), .second, .val (.int p2), .val (.ref b1), .val (.int v5), .val (.long v24), .second, .val (.long v25), .second, .val (.ref b26), .val (.int v35)] [(.long v24), (.int v35)])) (fun t k => XS.lload X34.here hx rfl (hb hby at_122) rfl k) ?_
      refine own_st (S' := T34.setTop (mkF m 125 #[.val (.long p0), .second, .val (.long p1), .second, .val (.int p2), .val (.ref b1), .val (.int v5), .val (.long v24), .second, .val (.long v25), .second, .val (.ref b26), .val (.int v35)] [(.long (0 : Int64)), (.long v24), (.int v35)])) (fun t k => XS.lconst X34.here hx rfl (hb hby at_124) k) ?_
      refine own_st (S' := T34.setTop (mkF m 126 #[.val (.long p0), .second, .val (.long p1), .second, .val (.int p2), .val (.ref b1), .val (.int v5), .val (.long v24), .second, .val (.long v25), .second, .val (.ref b26), .val (.int v35)] [(.int (lcmpW v24 (0 : Int64))), (.int v35)])) (fun t k => XS.lcmp X34.here hx rfl (hb hby at_125) rfl k) ?_
      obtain ⟨v36, qv36⟩ : ∃ z : Int32, z = (if v24 = (0 : Int64) then (1 : Int32) else (0 : Int32)) := ⟨_, rfl⟩
      refine own_st (S' := T34.setTop (mkF m 134 #[.val (.long p0), .second, .val (.long p1), .second, .val (.int p2), .val (.ref b1), .val (.int v5), .val (.long v24), .second, .val (.long v25), .second, .val (.ref b26), .val (.int v35)] [(.int v36), (.int v35)])) (fun t k => ?_) ?_
      · show Steps p.tables e below (T34.setTop (mkF m 126 #[.val (.long p0), .second, .val (.long p1), .second, .val (.int p2), .val (.ref b1), .val (.int v5), .val (.long v24), .second, .val (.long v25), .second, .val (.ref b26), .val (.int v35)] [(.int (lcmpW v24 (0 : Int64))), (.int v35)])) _
        by_cases hc37 : v24 = (0 : Int64)
        · rw [if_pos hc37] at qv36
          replace qv36 := Eq.symm qv36
          subst qv36
          refine XS.ifNo X34.here hx rfl (hb hby at_126) rfl ((if0 _ _).trans (teq ((lw_eq _ _).mpr hc37)).2) ?_
          show Steps p.tables e below (T34.setTop (mkF m 129 #[.val (.long p0), .second, .val (.long p1), .second, .val (.int p2), .val (.ref b1), .val (.int v5), .val (.long v24), .second, .val (.long v25), .second, .val (.ref b26), .val (.int v35)] [(.int v35)])) _
          refine XS.iconst X34.here hx rfl (hb hby at_129) ?_
          show Steps p.tables e below (T34.setTop (mkF m 130 #[.val (.long p0), .second, .val (.long p1), .second, .val (.int p2), .val (.ref b1), .val (.int v5), .val (.long v24), .second, .val (.long v25), .second, .val (.ref b26), .val (.int v35)] [(.int (1 : Int32)), (.int v35)])) _
          refine XS.goto X34.here hx rfl (pc0 := 130) (pc' := 134) rfl (hb hby at_130) (by decide) (by decide) ?_
          show Steps p.tables e below (T34.setTop (mkF m 134 #[.val (.long p0), .second, .val (.long p1), .second, .val (.int p2), .val (.ref b1), .val (.int v5), .val (.long v24), .second, .val (.long v25), .second, .val (.ref b26), .val (.int v35)] [(.int (1 : Int32)), (.int v35)])) _
          exact k
        · rw [if_neg hc37] at qv36
          replace qv36 := Eq.symm qv36
          subst qv36
          refine XS.ifYes X34.here hx rfl (pc0 := 126) (pc' := 133) rfl (hb hby at_126) rfl ((if0 _ _).trans (feq (mt (lw_eq _ _).mp hc37)).2) (by decide) (by decide) ?_
          show Steps p.tables e below (T34.setTop (mkF m 133 #[.val (.long p0), .second, .val (.long p1), .second, .val (.int p2), .val (.ref b1), .val (.int v5), .val (.long v24), .second, .val (.long v25), .second, .val (.ref b26), .val (.int v35)] [(.int v35)])) _
          refine XS.iconst X34.here hx rfl (hb hby at_133) ?_
          show Steps p.tables e below (T34.setTop (mkF m 134 #[.val (.long p0), .second, .val (.long p1), .second, .val (.int p2), .val (.ref b1), .val (.int v5), .val (.long v24), .second, .val (.long v25), .second, .val (.ref b26), .val (.int v35)] [(.int (0 : Int32)), (.int v35)])) _
          exact k
      show own_Go p.tables e below _ (T34.setTop (mkF m 134 #[.val (.long p0), .second, .val (.long p1), .second, .val (.int p2), .val (.ref b1), .val (.int v5), .val (.long v24), .second, .val (.long v25), .second, .val (.ref b26), .val (.int v35)] [(.int v36), (.int v35)]))
      have hc38 : v35 = v36 := by rw [qv35, qv36, qv25]; exact own_if (own_addz _ _)
      refine own_st (S' := T34.setTop (mkF m 137 #[.val (.long p0), .second, .val (.long p1), .second, .val (.int p2), .val (.ref b1), .val (.int v5), .val (.long v24), .second, .val (.long v25), .second, .val (.ref b26), .val (.int v35)] [])) (fun t k => XS.icmpNo X34.here hx rfl (hb hby at_134) rfl (teq hc38).2 k) ?_
      show own_Go p.tables e below _ (T34.setTop (mkF m 137 #[.val (.long p0), .second, .val (.long p1), .second, .val (.int p2), .val (.ref b1), .val (.int v5), .val (.long v24), .second, .val (.long v25), .second, .val (.ref b26), .val (.int v35)] []))
      refine own_st (S' := T34.setTop (mkF m 139 #[.val (.long p0), .second, .val (.long p1), .second, .val (.int p2), .val (.ref b1), .val (.int v5), .val (.long v24), .second, .val (.long v25), .second, .val (.ref b26), .val (.int v35)] [(.ref b26)])) (fun t k => XS.aload X34.here hx rfl (hb hby at_137) rfl rfl k) ?_
      refine own_st (S' := T34.setTop (mkF m 141 #[.val (.long p0), .second, .val (.long p1), .second, .val (.int p2), .val (.ref b1), .val (.int v5), .val (.long v24), .second, .val (.long v25), .second, .val (.ref b26), .val (.int v35)] [(.ref b1), (.ref b26)])) (fun t k => XS.aload X34.here hx rfl (hb hby at_139) rfl rfl k) ?_
      obtain ⟨cq39, kq39, q39a, q39b, q39c⟩ := isOf hZ hh34 g0_30
      obtain ⟨_, _, ⟨T39, L39, k39, n39⟩, -, X39, ⟨Lc39, hQ39, l39, y39, z39⟩, st39⟩ := X34.virtualBack hx (y := (⟨"com/example/deliberation/deliberation/term/IntegerTerm", "equals", "(Ljava/lang/Object;)Z"⟩ : MethodName)) (z := (⟨"com/example/deliberation/deliberation/term/IntegerTerm", "equals", "(Ljava/lang/Object;)Z"⟩ : MethodName)) hown (mvT hZ (hw _ (List.mem_of_getElem? (i := 16) rfl))) (mvT hZ (hw _ (List.mem_of_getElem? (i := 17) rfl))) (notFace_of_selects (args := #[]) (mvT hZ (hw _ (List.mem_of_getElem? (i := 19) rfl)))) (mvT hZ (hw _ (List.mem_of_getElem? (i := 19) rfl))) (mvT hZ (hw _ (List.mem_of_getElem? (i := 18) rfl))) (by decide) (backOf (W := 0) (rm3 l Z a0 hw [] b26 b1 v25 p0 T30.heap n0 Z30 f31 g1_30 f32) hZ (hw _ (List.mem_of_getElem? (i := 20) rfl)) (hw _ (List.mem_of_getElem? (i := 2) rfl)) (by decide) (by decide)) q39a q39c (g := (mkF m 141 #[.val (.long p0), .second, .val (.long p1), .second, .val (.int p2), .val (.ref b1), .val (.int v5), .val (.long v24), .second, .val (.long v25), .second, .val (.ref b26), .val (.int v35)] [(.ref b1), (.ref b26)])) rfl (by rw [hml]; rfl) (Steps.refl _) (argsL := [(.ref b1)]) (rest := []) (lenOf pd0_1 rfl) rfl (by show 2 * 0 + _ ≤ _; exact Nat.le_of_eq rfl) (hb hby at_141) (fun _ _ => ⟨rfl, hh34, (by decide : 2 + 0 ≤ _), (by decide : 2 + 0 ≤ _)⟩)
      dsimp only [Pt.U, Pt.locs, Pt.cells, Pt.slots] at X39 l39 y39 z39 st39 hQ39
      rw [l39, y39, z39] at X39
      obtain ⟨rfl, N39q, hh39⟩ := hQ39
      have N39 := Fr.app N34 N39q
      refine own_tr st39 ?_
      show own_Go p.tables e below _ (T39.setTop (mkF m 144 #[.val (.long p0), .second, .val (.long p1), .second, .val (.int p2), .val (.ref b1), .val (.int v5), .val (.long v24), .second, .val (.long v25), .second, .val (.ref b26), .val (.int v35)] [(.int (if v25 = p0 then (1 : Int32) else (0 : Int32)))]))
      obtain ⟨v40, qv40⟩ : ∃ z : Int32, z = (if v25 = p0 then (1 : Int32) else (0 : Int32)) := ⟨_, rfl⟩
      rw [← qv40]
      refine own_st (S' := T39.setTop (mkF m 146 #[.val (.long p0), .second, .val (.long p1), .second, .val (.int p2), .val (.ref b1), .val (.int v5), .val (.long v24), .second, .val (.long v25), .second, .val (.ref b26), .val (.int v35)] [(.int v35), (.int v40)])) (fun t k => XS.iload X39.here hx rfl (hb hby at_144) rfl k) ?_
      have hc41 : v40 = v35 := by rw [qv40, qv35]; exact own_if ⟨Eq.symm, Eq.symm⟩
      refine own_st (S' := T39.setTop (mkF m 149 #[.val (.long p0), .second, .val (.long p1), .second, .val (.int p2), .val (.ref b1), .val (.int v5), .val (.long v24), .second, .val (.long v25), .second, .val (.ref b26), .val (.int v35)] [])) (fun t k => XS.icmpNo X39.here hx rfl (hb hby at_146) rfl (teq hc41).2 k) ?_
      show own_Go p.tables e below _ (T39.setTop (mkF m 149 #[.val (.long p0), .second, .val (.long p1), .second, .val (.int p2), .val (.ref b1), .val (.int v5), .val (.long v24), .second, .val (.long v25), .second, .val (.ref b26), .val (.int v35)] []))
      refine own_st (S' := T39.setTop (mkF m 150 #[.val (.long p0), .second, .val (.long p1), .second, .val (.int p2), .val (.ref b1), .val (.int v5), .val (.long v24), .second, .val (.long v25), .second, .val (.ref b26), .val (.int v35)] [(.int (1 : Int32))])) (fun t k => XS.iconst X39.here hx rfl (hb hby at_149) k) ?_
      refine own_st (S' := T39.setTop (mkF m 154 #[.val (.long p0), .second, .val (.long p1), .second, .val (.int p2), .val (.ref b1), .val (.int v5), .val (.long v24), .second, .val (.long v25), .second, .val (.ref b26), .val (.int v35)] [(.int (1 : Int32))])) (fun t k => XS.goto X39.here hx rfl (pc0 := 150) (pc' := 154) rfl (hb hby at_150) (by decide) (by decide) k) ?_
      refine own_retN X39 hx (t := .boolean) hret (by simp) hlk (hb hby at_154) ?_ (by decide) (by decide)
      rw [hh39]
      exact ⟨rfl, N39⟩
    · refine own_st (S' := T3.setTop (mkF m 155 #[.val (.long p0), .second, .val (.long p1), .second, .val (.int p2), .val (.ref b1), .val (.int v5), .unset, .unset, .unset, .unset, .unset, .unset] [])) (fun t k => XS.icmpYes X3.here hx rfl (pc0 := 77) (pc' := 155) rfl (hb hby at_77) rfl (feq hc23).2 (by decide) (by decide) k) ?_
      show own_Go p.tables e below _ (T3.setTop (mkF m 155 #[.val (.long p0), .second, .val (.long p1), .second, .val (.int p2), .val (.ref b1), .val (.int v5), .unset, .unset, .unset, .unset, .unset, .unset] []))
      refine own_st (S' := T3.setTop (mkF m 157 #[.val (.long p0), .second, .val (.long p1), .second, .val (.int p2), .val (.ref b1), .val (.int v5), .unset, .unset, .unset, .unset, .unset, .unset] [(.int v5)])) (fun t k => XS.iload X3.here hx rfl (hb hby at_155) rfl k) ?_
      refine own_st (S' := T3.setTop (mkF m 158 #[.val (.long p0), .second, .val (.long p1), .second, .val (.int p2), .val (.ref b1), .val (.int v5), .unset, .unset, .unset, .unset, .unset, .unset] [(.int (2 : Int32)), (.int v5)])) (fun t k => XS.iconst X3.here hx rfl (hb hby at_157) k) ?_
      by_cases hc42 : v5 = (2 : Int32)
      · refine own_st (S' := T3.setTop (mkF m 161 #[.val (.long p0), .second, .val (.long p1), .second, .val (.int p2), .val (.ref b1), .val (.int v5), .unset, .unset, .unset, .unset, .unset, .unset] [])) (fun t k => XS.icmpNo X3.here hx rfl (hb hby at_158) rfl (teq hc42).2 k) ?_
        show own_Go p.tables e below _ (T3.setTop (mkF m 161 #[.val (.long p0), .second, .val (.long p1), .second, .val (.int p2), .val (.ref b1), .val (.int v5), .unset, .unset, .unset, .unset, .unset, .unset] []))
        refine own_st (S' := T3.setTop (mkF m 162 #[.val (.long p0), .second, .val (.long p1), .second, .val (.int p2), .val (.ref b1), .val (.int v5), .unset, .unset, .unset, .unset, .unset, .unset] [.null])) (fun t k => XS.aconstNull X3.here hx rfl (hb hby at_161) k) ?_
        refine own_st (S' := T3.setTop (mkF m 164 #[.val (.long p0), .second, .val (.long p1), .second, .val (.int p2), .val (.ref b1), .val (.int v5), .val .null, .unset, .unset, .unset, .unset, .unset] [])) (fun t k => XS.astore X3.here hx rfl (hb hby at_162) rfl rfl (l' := #[.val (.long p0), .second, .val (.long p1), .second, .val (.int p2), .val (.ref b1), .val (.int v5), .val .null, .unset, .unset, .unset, .unset, .unset]) rfl k) ?_
        refine own_st (S' := T3.setTop (mkF m 166 #[.val (.long p0), .second, .val (.long p1), .second, .val (.int p2), .val (.ref b1), .val (.int v5), .val .null, .unset, .unset, .unset, .unset, .unset] [(.ref b1)])) (fun t k => XS.aload X3.here hx rfl (hb hby at_164) rfl rfl k) ?_
        refine own_st (S' := T3.setTop (mkF m 168 #[.val (.long p0), .second, .val (.long p1), .second, .val (.int p2), .val (.ref b1), .val (.int v5), .val .null, .unset, .unset, .unset, .unset, .unset] [.null, (.ref b1)])) (fun t k => XS.aload X3.here hx rfl (hb hby at_166) rfl rfl k) ?_
        obtain ⟨cq43, kq43, q43a, q43b, q43c⟩ := isOf hZ rfl g0_3
        obtain ⟨_, _, ⟨T43, L43, k43, n43⟩, -, X43, ⟨Lc43, hQ43, l43, y43, z43⟩, st43⟩ := X3.virtualBack hx (y := (⟨"com/example/deliberation/deliberation/term/IntegerTerm", "equals", "(Ljava/lang/Object;)Z"⟩ : MethodName)) (z := (⟨"com/example/deliberation/deliberation/term/IntegerTerm", "equals", "(Ljava/lang/Object;)Z"⟩ : MethodName)) hown (mvT hZ (hw _ (List.mem_of_getElem? (i := 16) rfl))) (mvT hZ (hw _ (List.mem_of_getElem? (i := 17) rfl))) (notFace_of_selects (args := #[]) (mvT hZ (hw _ (List.mem_of_getElem? (i := 19) rfl)))) (mvT hZ (hw _ (List.mem_of_getElem? (i := 19) rfl))) (mvT hZ (hw _ (List.mem_of_getElem? (i := 18) rfl))) (by decide) (backOf (W := 0) (rm5 l Z a0 hw [] b1 T3.heap n0 Z3 ) hZ (hw _ (List.mem_of_getElem? (i := 20) rfl)) (hw _ (List.mem_of_getElem? (i := 2) rfl)) (by decide) (by decide)) q43a q43c (g := (mkF m 168 #[.val (.long p0), .second, .val (.long p1), .second, .val (.int p2), .val (.ref b1), .val (.int v5), .val .null, .unset, .unset, .unset, .unset, .unset] [.null, (.ref b1)])) rfl (by rw [hml]; rfl) (Steps.refl _) (argsL := [.null]) (rest := []) (lenOf pd0_1 rfl) rfl (by show 2 * 0 + _ ≤ _; exact Nat.le_of_eq rfl) (hb hby at_168) (fun _ _ => ⟨rfl, rfl, (by decide : 1 + 0 ≤ _), (by decide : 1 + 0 ≤ _)⟩)
        dsimp only [Pt.U, Pt.locs, Pt.cells, Pt.slots] at X43 l43 y43 z43 st43 hQ43
        rw [l43, y43, z43] at X43
        obtain ⟨rfl, N43q, hh43⟩ := hQ43
        have N43 := Fr.app N3 N43q
        refine own_tr st43 ?_
        show own_Go p.tables e below _ (T43.setTop (mkF m 171 #[.val (.long p0), .second, .val (.long p1), .second, .val (.int p2), .val (.ref b1), .val (.int v5), .val .null, .unset, .unset, .unset, .unset, .unset] [(.int (0 : Int32))]))
        refine own_st (S' := T43.setTop (mkF m 174 #[.val (.long p0), .second, .val (.long p1), .second, .val (.int p2), .val (.ref b1), .val (.int v5), .val .null, .unset, .unset, .unset, .unset, .unset] [])) (fun t k => XS.ifNo X43.here hx rfl (hb hby at_171) rfl ((if0 _ _).trans (teq (by decide)).2) k) ?_
        show own_Go p.tables e below _ (T43.setTop (mkF m 174 #[.val (.long p0), .second, .val (.long p1), .second, .val (.int p2), .val (.ref b1), .val (.int v5), .val .null, .unset, .unset, .unset, .unset, .unset] []))
        refine own_st (S' := T43.setTop (mkF m 176 #[.val (.long p0), .second, .val (.long p1), .second, .val (.int p2), .val (.ref b1), .val (.int v5), .val .null, .unset, .unset, .unset, .unset, .unset] [(.ref b1)])) (fun t k => XS.aload X43.here hx rfl (hb hby at_174) rfl rfl k) ?_
        refine own_st (S' := T43.setTop (mkF m 178 #[.val (.long p0), .second, .val (.long p1), .second, .val (.int p2), .val (.ref b1), .val (.int v5), .val .null, .unset, .unset, .unset, .unset, .unset] [(.ref b1), (.ref b1)])) (fun t k => XS.aload X43.here hx rfl (hb hby at_176) rfl rfl k) ?_
        obtain ⟨cq44, kq44, q44a, q44b, q44c⟩ := isOf hZ hh43 g0_3
        obtain ⟨_, _, ⟨T44, L44, k44, n44⟩, -, X44, ⟨Lc44, hQ44, l44, y44, z44⟩, st44⟩ := X43.virtualBack hx (y := (⟨"com/example/deliberation/deliberation/term/IntegerTerm", "equals", "(Ljava/lang/Object;)Z"⟩ : MethodName)) (z := (⟨"com/example/deliberation/deliberation/term/IntegerTerm", "equals", "(Ljava/lang/Object;)Z"⟩ : MethodName)) hown (mvT hZ (hw _ (List.mem_of_getElem? (i := 16) rfl))) (mvT hZ (hw _ (List.mem_of_getElem? (i := 17) rfl))) (notFace_of_selects (args := #[]) (mvT hZ (hw _ (List.mem_of_getElem? (i := 19) rfl)))) (mvT hZ (hw _ (List.mem_of_getElem? (i := 19) rfl))) (mvT hZ (hw _ (List.mem_of_getElem? (i := 18) rfl))) (by decide) (backOf (W := 0) (rm3 l Z a0 hw [] b1 b1 p0 p0 T3.heap n0 Z3 g0_3 g1_3 g1_3) hZ (hw _ (List.mem_of_getElem? (i := 20) rfl)) (hw _ (List.mem_of_getElem? (i := 2) rfl)) (by decide) (by decide)) q44a q44c (g := (mkF m 178 #[.val (.long p0), .second, .val (.long p1), .second, .val (.int p2), .val (.ref b1), .val (.int v5), .val .null, .unset, .unset, .unset, .unset, .unset] [(.ref b1), (.ref b1)])) rfl (by rw [hml]; rfl) (Steps.refl _) (argsL := [(.ref b1)]) (rest := []) (lenOf pd0_1 rfl) rfl (by show 2 * 0 + _ ≤ _; exact Nat.le_of_eq rfl) (hb hby at_178) (fun _ _ => ⟨rfl, hh43, (by decide : 1 + 0 ≤ _), (by decide : 1 + 0 ≤ _)⟩)
        dsimp only [Pt.U, Pt.locs, Pt.cells, Pt.slots] at X44 l44 y44 z44 st44 hQ44
        rw [l44, y44, z44] at X44
        obtain ⟨rfl, N44q, hh44⟩ := hQ44
        have N44 := Fr.app N43 N44q
        refine own_tr st44 ?_
        show own_Go p.tables e below _ (T44.setTop (mkF m 181 #[.val (.long p0), .second, .val (.long p1), .second, .val (.int p2), .val (.ref b1), .val (.int v5), .val .null, .unset, .unset, .unset, .unset, .unset] [(.int (if p0 = p0 then (1 : Int32) else (0 : Int32)))]))
        obtain ⟨v45, qv45⟩ : ∃ z : Int32, z = (if p0 = p0 then (1 : Int32) else (0 : Int32)) := ⟨_, rfl⟩
        rw [← qv45]
        have hc46 : p0 = p0 := rfl
        refine own_st (S' := T44.setTop (mkF m 184 #[.val (.long p0), .second, .val (.long p1), .second, .val (.int p2), .val (.ref b1), .val (.int v5), .val .null, .unset, .unset, .unset, .unset, .unset] [])) (fun t k => XS.ifNo X44.here hx rfl (hb hby at_181) rfl ((if0 _ _).trans (feq ((by rw [qv45, if_pos hc46] <;> decide) : ¬ (v45 = (0 : Int32)))).1) k) ?_
        show own_Go p.tables e below _ (T44.setTop (mkF m 184 #[.val (.long p0), .second, .val (.long p1), .second, .val (.int p2), .val (.ref b1), .val (.int v5), .val .null, .unset, .unset, .unset, .unset, .unset] []))
        refine own_st (S' := T44.setTop (mkF m 185 #[.val (.long p0), .second, .val (.long p1), .second, .val (.int p2), .val (.ref b1), .val (.int v5), .val .null, .unset, .unset, .unset, .unset, .unset] [(.int (1 : Int32))])) (fun t k => XS.iconst X44.here hx rfl (hb hby at_184) k) ?_
        refine own_st (S' := T44.setTop (mkF m 189 #[.val (.long p0), .second, .val (.long p1), .second, .val (.int p2), .val (.ref b1), .val (.int v5), .val .null, .unset, .unset, .unset, .unset, .unset] [(.int (1 : Int32))])) (fun t k => XS.goto X44.here hx rfl (pc0 := 185) (pc' := 189) rfl (hb hby at_185) (by decide) (by decide) k) ?_
        refine own_retN X44 hx (t := .boolean) hret (by simp) hlk (hb hby at_189) ?_ (by decide) (by decide)
        rw [hh44]
        exact ⟨rfl, N44⟩
      · refine own_st (S' := T3.setTop (mkF m 190 #[.val (.long p0), .second, .val (.long p1), .second, .val (.int p2), .val (.ref b1), .val (.int v5), .unset, .unset, .unset, .unset, .unset, .unset] [])) (fun t k => XS.icmpYes X3.here hx rfl (pc0 := 158) (pc' := 190) rfl (hb hby at_158) rfl (feq hc42).2 (by decide) (by decide) k) ?_
        show own_Go p.tables e below _ (T3.setTop (mkF m 190 #[.val (.long p0), .second, .val (.long p1), .second, .val (.int p2), .val (.ref b1), .val (.int v5), .unset, .unset, .unset, .unset, .unset, .unset] []))
        refine own_st (S' := T3.setTop (mkF m 192 #[.val (.long p0), .second, .val (.long p1), .second, .val (.int p2), .val (.ref b1), .val (.int v5), .unset, .unset, .unset, .unset, .unset, .unset] [(.int p2)])) (fun t k => XS.iload X3.here hx rfl (hb hby at_190) rfl k) ?_
        refine own_st (S' := T3.setTop (mkF m 193 #[.val (.long p0), .second, .val (.long p1), .second, .val (.int p2), .val (.ref b1), .val (.int v5), .unset, .unset, .unset, .unset, .unset, .unset] [(.int (2 : Int32)), (.int p2)])) (fun t k => XS.iconst X3.here hx rfl (hb hby at_192) k) ?_
        refine own_st (S' := T3.setTop (mkF m 194 #[.val (.long p0), .second, .val (.long p1), .second, .val (.int p2), .val (.ref b1), .val (.int v5), .unset, .unset, .unset, .unset, .unset, .unset] [(.int ((p2.toUInt32 >>> ((2 : Int32) &&& 31).toUInt32).toInt32))])) (fun t k => XS.iushr X3.here hx rfl (hb hby at_193) rfl k) ?_
        refine own_st (S' := T3.setTop (mkF m 197 #[.val (.long p0), .second, .val (.long p1), .second, .val (.int p2), .val (.ref b1), .val (.int v5), .unset, .unset, .unset, .unset, .unset, .unset] [(.int (255 : Int32)), (.int ((p2.toUInt32 >>> ((2 : Int32) &&& 31).toUInt32).toInt32))])) (fun t k => XS.sipush X3.here hx rfl (hb hby at_194) k) ?_
        refine own_st (S' := T3.setTop (mkF m 198 #[.val (.long p0), .second, .val (.long p1), .second, .val (.int p2), .val (.ref b1), .val (.int v5), .unset, .unset, .unset, .unset, .unset, .unset] [(.int (((p2.toUInt32 >>> ((2 : Int32) &&& 31).toUInt32).toInt32) &&& (255 : Int32)))])) (fun t k => XS.iand X3.here hx rfl (hb hby at_197) rfl k) ?_
        refine own_st (S' := T3.setTop (mkF m 201 #[.val (.long p0), .second, .val (.long p1), .second, .val (.int p2), .val (.ref b1), .val (.int v5), .unset, .unset, .unset, .unset, .unset, .unset] [(.int (128 : Int32)), (.int (((p2.toUInt32 >>> ((2 : Int32) &&& 31).toUInt32).toInt32) &&& (255 : Int32)))])) (fun t k => XS.sipush X3.here hx rfl (hb hby at_198) k) ?_
        refine own_st (S' := T3.setTop (mkF m 202 #[.val (.long p0), .second, .val (.long p1), .second, .val (.int p2), .val (.ref b1), .val (.int v5), .unset, .unset, .unset, .unset, .unset, .unset] [(.int ((((p2.toUInt32 >>> ((2 : Int32) &&& 31).toUInt32).toInt32) &&& (255 : Int32)) - (128 : Int32)))])) (fun t k => XS.isub X3.here hx rfl (hb hby at_201) rfl k) ?_
        refine own_st (S' := T3.setTop (mkF m 203 #[.val (.long p0), .second, .val (.long p1), .second, .val (.int p2), .val (.ref b1), .val (.int v5), .unset, .unset, .unset, .unset, .unset, .unset] [(.double (FP.i2d ((((p2.toUInt32 >>> ((2 : Int32) &&& 31).toUInt32).toInt32) &&& (255 : Int32)) - (128 : Int32))))])) (fun t k => XS.i2dS X3.here hx rfl (hb hby at_202) rfl rfl k) ?_
        refine own_st (S' := T3.setTop (mkF m 206 #[.val (.long p0), .second, .val (.long p1), .second, .val (.int p2), .val (.ref b1), .val (.int v5), .unset, .unset, .unset, .unset, .unset, .unset] [(.double (4602678819172646912 : UInt64)), (.double (FP.i2d ((((p2.toUInt32 >>> ((2 : Int32) &&& 31).toUInt32).toInt32) &&& (255 : Int32)) - (128 : Int32))))])) (fun t k => X3.ldc2DoubleC hx hown (mvT hZ (hw _ (List.mem_of_getElem? (i := 23) rfl))) (g := (mkF m 203 #[.val (.long p0), .second, .val (.long p1), .second, .val (.int p2), .val (.ref b1), .val (.int v5), .unset, .unset, .unset, .unset, .unset, .unset] [(.double (FP.i2d ((((p2.toUInt32 >>> ((2 : Int32) &&& 31).toUInt32).toInt32) &&& (255 : Int32)) - (128 : Int32))))])) rfl (hb hby at_203) _ k) ?_
        have hok := own_okE (own_dok (x := p2) rfl)
        refine own_st (S' := T3.setTop (mkF m 207 #[.val (.long p0), .second, .val (.long p1), .second, .val (.int p2), .val (.ref b1), .val (.int v5), .unset, .unset, .unset, .unset, .unset, .unset] [(.double (FP.dadd (FP.i2d ((((p2.toUInt32 >>> ((2 : Int32) &&& 31).toUInt32).toInt32) &&& (255 : Int32)) - (128 : Int32))) (4602678819172646912 : UInt64)))])) (fun t k => XS.daddS X3.here hx rfl (hb hby at_206) rfl hok.1 rfl k) ?_
        refine own_st (S' := T3.setTop (mkF m 209 #[.val (.long p0), .second, .val (.long p1), .second, .val (.int p2), .val (.ref b1), .val (.int v5), .val (.double (FP.dadd (FP.i2d ((((p2.toUInt32 >>> ((2 : Int32) &&& 31).toUInt32).toInt32) &&& (255 : Int32)) - (128 : Int32))) (4602678819172646912 : UInt64))), .second, .unset, .unset, .unset, .unset] [])) (fun t k => XS.dstore X3.here hx rfl (hb hby at_207) rfl (l' := #[.val (.long p0), .second, .val (.long p1), .second, .val (.int p2), .val (.ref b1), .val (.int v5), .val (.double (FP.dadd (FP.i2d ((((p2.toUInt32 >>> ((2 : Int32) &&& 31).toUInt32).toInt32) &&& (255 : Int32)) - (128 : Int32))) (4602678819172646912 : UInt64))), .second, .unset, .unset, .unset, .unset]) rfl k) ?_
        obtain ⟨T47, h47, X47, e47, E47, A47, D47, -, st47⟩ := newO X3 hx hZ hown (hw _ (List.mem_of_getElem? (i := 24) rfl)) (hw _ (List.mem_of_getElem? (i := 25) rfl)) (hw _ (List.mem_of_getElem? (i := 26) rfl)) rfl (g := (mkF m 209 #[.val (.long p0), .second, .val (.long p1), .second, .val (.int p2), .val (.ref b1), .val (.int v5), .val (.double (FP.dadd (FP.i2d ((((p2.toUInt32 >>> ((2 : Int32) &&& 31).toUInt32).toInt32) &&& (255 : Int32)) - (128 : Int32))) (4602678819172646912 : UInt64))), .second, .unset, .unset, .unset, .unset] [])) rfl (hb hby at_209) (by decide) (by decide)
        obtain ⟨b47, g47⟩ : ∃ z, z = T3.heap.size := ⟨_, rfl⟩
        rw [← g47] at A47 D47 st47
        have G_b47 : n0 ≤ b47 := Nat.le_trans Z3 (Nat.le_of_eq g47.symm)
        have ne_b1_b47 : b1 ≠ b47 := Nat.ne_of_lt (Nat.lt_of_lt_of_le g0_3.lt (Nat.le_of_eq g47.symm))
        have f48 : Exa Z h47 b1 "com/example/deliberation/deliberation/term/IntegerTerm" := g0_3.ext E47
        have f49 : Fld Z h47 b1 "com/example/deliberation/deliberation/term/IntegerTerm" "value" "J" (.long p0) := g1_3.ext E47
        have Z47 : n0 ≤ h47.size := Nat.le_trans Z3 E47.1
        have f50 : Fld Z h47 b47 "com/example/deliberation/deliberation/term/DecimalTerm" "value" "D" (.double (0 : UInt64)) := D47 (Or.inr (hw _ (List.mem_of_getElem? (i := 53) rfl))) (ty := .double) (by decide)
        refine own_st st47 ?_
        show own_Go p.tables e below _ (T47.setTop (mkF m 212 #[.val (.long p0), .second, .val (.long p1), .second, .val (.int p2), .val (.ref b1), .val (.int v5), .val (.double (FP.dadd (FP.i2d ((((p2.toUInt32 >>> ((2 : Int32) &&& 31).toUInt32).toInt32) &&& (255 : Int32)) - (128 : Int32))) (4602678819172646912 : UInt64))), .second, .unset, .unset, .unset, .unset] [(.ref b47)]))
        refine own_st (S' := T47.setTop (mkF m 213 #[.val (.long p0), .second, .val (.long p1), .second, .val (.int p2), .val (.ref b1), .val (.int v5), .val (.double (FP.dadd (FP.i2d ((((p2.toUInt32 >>> ((2 : Int32) &&& 31).toUInt32).toInt32) &&& (255 : Int32)) - (128 : Int32))) (4602678819172646912 : UInt64))), .second, .unset, .unset, .unset, .unset] [(.ref b47), (.ref b47)])) (fun t k => XS.dup X47.here hx rfl (hb hby at_212) rfl rfl k) ?_
        refine own_st (S' := T47.setTop (mkF m 215 #[.val (.long p0), .second, .val (.long p1), .second, .val (.int p2), .val (.ref b1), .val (.int v5), .val (.double (FP.dadd (FP.i2d ((((p2.toUInt32 >>> ((2 : Int32) &&& 31).toUInt32).toInt32) &&& (255 : Int32)) - (128 : Int32))) (4602678819172646912 : UInt64))), .second, .unset, .unset, .unset, .unset] [(.double (FP.dadd (FP.i2d ((((p2.toUInt32 >>> ((2 : Int32) &&& 31).toUInt32).toInt32) &&& (255 : Int32)) - (128 : Int32))) (4602678819172646912 : UInt64))), (.ref b47), (.ref b47)])) (fun t k => XS.dload X47.here hx rfl (hb hby at_213) rfl k) ?_
        obtain ⟨_, _, ⟨T51, L51, k51, n51⟩, -, X51, ⟨Lc51, hQ51, l51, y51, z51⟩, st51⟩ := X47.specialBack hx (y := (⟨"com/example/deliberation/deliberation/term/DecimalTerm", "<init>", "(D)V"⟩ : MethodName)) rfl hown (mvT hZ (hw _ (List.mem_of_getElem? (i := 27) rfl))) (mvT hZ (hw _ (List.mem_of_getElem? (i := 28) rfl))) (mvT hZ (hw _ (List.mem_of_getElem? (i := 29) rfl))) (by decide) (backOf (W := 1) (rm10 l Z a0 hw [] b47 (FP.dadd (FP.i2d ((((p2.toUInt32 >>> ((2 : Int32) &&& 31).toUInt32).toInt32) &&& (255 : Int32)) - (128 : Int32))) (4602678819172646912 : UInt64)) (0 : UInt64) h47 n0 Z47 A47 f50 G_b47 (own_dok (x := p2) rfl)) hZ (hw _ (List.mem_of_getElem? (i := 29) rfl)) (hw _ (List.mem_of_getElem? (i := 26) rfl)) (by decide) (by decide)) (g := (mkF m 215 #[.val (.long p0), .second, .val (.long p1), .second, .val (.int p2), .val (.ref b1), .val (.int v5), .val (.double (FP.dadd (FP.i2d ((((p2.toUInt32 >>> ((2 : Int32) &&& 31).toUInt32).toInt32) &&& (255 : Int32)) - (128 : Int32))) (4602678819172646912 : UInt64))), .second, .unset, .unset, .unset, .unset] [(.double (FP.dadd (FP.i2d ((((p2.toUInt32 >>> ((2 : Int32) &&& 31).toUInt32).toInt32) &&& (255 : Int32)) - (128 : Int32))) (4602678819172646912 : UInt64))), (.ref b47), (.ref b47)])) rfl (by rw [hml]; rfl) (Steps.refl _) (a := b47) (argsL := [(.double (FP.dadd (FP.i2d ((((p2.toUInt32 >>> ((2 : Int32) &&& 31).toUInt32).toInt32) &&& (255 : Int32)) - (128 : Int32))) (4602678819172646912 : UInt64)))]) (rest := [(.ref b47)]) (lenOf pd0_2 rfl) rfl (by show 2 * 0 + _ ≤ _; exact Nat.le_of_eq rfl) (hb hby at_215) (fun _ _ => ⟨rfl, e47, (by decide : 2 + 0 ≤ _), (by decide : 2 + 0 ≤ _)⟩)
        dsimp only [Pt.U, Pt.locs, Pt.cells, Pt.slots] at X51 l51 y51 z51 st51 hQ51
        rw [l51, y51, z51] at X51
        obtain ⟨rfl, N51q, Kq51, g0_51⟩ := hQ51
        have f52 : Exa Z T51.heap b1 "com/example/deliberation/deliberation/term/IntegerTerm" := f48.keep Kq51
        have f53 : Fld Z T51.heap b1 "com/example/deliberation/deliberation/term/IntegerTerm" "value" "J" (.long p0) := f49.keep Kq51 (ninS ne_b1_b47 nin0)
        have f54 : Exa Z T51.heap b47 "com/example/deliberation/deliberation/term/DecimalTerm" := A47.keep Kq51
        have Z51 : n0 ≤ T51.heap.size := Nat.le_trans Z47 Kq51.1
        have N51 := Fr.app N3 N51q
        refine own_tr st51 ?_
        show own_Go p.tables e below _ (T51.setTop (mkF m 218 #[.val (.long p0), .second, .val (.long p1), .second, .val (.int p2), .val (.ref b1), .val (.int v5), .val (.double (FP.dadd (FP.i2d ((((p2.toUInt32 >>> ((2 : Int32) &&& 31).toUInt32).toInt32) &&& (255 : Int32)) - (128 : Int32))) (4602678819172646912 : UInt64))), .second, .unset, .unset, .unset, .unset] [(.ref b47)]))
        refine own_st (S' := T51.setTop (mkF m 220 #[.val (.long p0), .second, .val (.long p1), .second, .val (.int p2), .val (.ref b1), .val (.int v5), .val (.double (FP.dadd (FP.i2d ((((p2.toUInt32 >>> ((2 : Int32) &&& 31).toUInt32).toInt32) &&& (255 : Int32)) - (128 : Int32))) (4602678819172646912 : UInt64))), .second, .val (.ref b47), .unset, .unset, .unset] [])) (fun t k => XS.astore X51.here hx rfl (hb hby at_218) rfl rfl (l' := #[.val (.long p0), .second, .val (.long p1), .second, .val (.int p2), .val (.ref b1), .val (.int v5), .val (.double (FP.dadd (FP.i2d ((((p2.toUInt32 >>> ((2 : Int32) &&& 31).toUInt32).toInt32) &&& (255 : Int32)) - (128 : Int32))) (4602678819172646912 : UInt64))), .second, .val (.ref b47), .unset, .unset, .unset]) rfl k) ?_
        refine own_st (S' := T51.setTop (mkF m 222 #[.val (.long p0), .second, .val (.long p1), .second, .val (.int p2), .val (.ref b1), .val (.int v5), .val (.double (FP.dadd (FP.i2d ((((p2.toUInt32 >>> ((2 : Int32) &&& 31).toUInt32).toInt32) &&& (255 : Int32)) - (128 : Int32))) (4602678819172646912 : UInt64))), .second, .val (.ref b47), .unset, .unset, .unset] [(.ref b1)])) (fun t k => XS.aload X51.here hx rfl (hb hby at_220) rfl rfl k) ?_
        refine own_st (S' := T51.setTop (mkF m 224 #[.val (.long p0), .second, .val (.long p1), .second, .val (.int p2), .val (.ref b1), .val (.int v5), .val (.double (FP.dadd (FP.i2d ((((p2.toUInt32 >>> ((2 : Int32) &&& 31).toUInt32).toInt32) &&& (255 : Int32)) - (128 : Int32))) (4602678819172646912 : UInt64))), .second, .val (.ref b47), .unset, .unset, .unset] [(.ref b47), (.ref b1)])) (fun t k => XS.aload X51.here hx rfl (hb hby at_222) rfl rfl k) ?_
        obtain ⟨cq55, kq55, q55a, q55b, q55c⟩ := isOf hZ rfl f52
        obtain ⟨_, _, ⟨T55, L55, k55, n55⟩, -, X55, ⟨Lc55, hQ55, l55, y55, z55⟩, st55⟩ := X51.virtualBack hx (y := (⟨"com/example/deliberation/deliberation/term/IntegerTerm", "equals", "(Ljava/lang/Object;)Z"⟩ : MethodName)) (z := (⟨"com/example/deliberation/deliberation/term/IntegerTerm", "equals", "(Ljava/lang/Object;)Z"⟩ : MethodName)) hown (mvT hZ (hw _ (List.mem_of_getElem? (i := 16) rfl))) (mvT hZ (hw _ (List.mem_of_getElem? (i := 17) rfl))) (notFace_of_selects (args := #[]) (mvT hZ (hw _ (List.mem_of_getElem? (i := 19) rfl)))) (mvT hZ (hw _ (List.mem_of_getElem? (i := 19) rfl))) (mvT hZ (hw _ (List.mem_of_getElem? (i := 18) rfl))) (by decide) (backOf (W := 0) (rm6 l Z a0 hw [] b1 b47 T51.heap n0 Z51 g0_51) hZ (hw _ (List.mem_of_getElem? (i := 20) rfl)) (hw _ (List.mem_of_getElem? (i := 2) rfl)) (by decide) (by decide)) q55a q55c (g := (mkF m 224 #[.val (.long p0), .second, .val (.long p1), .second, .val (.int p2), .val (.ref b1), .val (.int v5), .val (.double (FP.dadd (FP.i2d ((((p2.toUInt32 >>> ((2 : Int32) &&& 31).toUInt32).toInt32) &&& (255 : Int32)) - (128 : Int32))) (4602678819172646912 : UInt64))), .second, .val (.ref b47), .unset, .unset, .unset] [(.ref b47), (.ref b1)])) rfl (by rw [hml]; rfl) (Steps.refl _) (argsL := [(.ref b47)]) (rest := []) (lenOf pd0_1 rfl) rfl (by show 2 * 0 + _ ≤ _; exact Nat.le_of_eq rfl) (hb hby at_224) (fun _ _ => ⟨rfl, rfl, (by decide : 2 + 0 ≤ _), (by decide : 2 + 0 ≤ _)⟩)
        dsimp only [Pt.U, Pt.locs, Pt.cells, Pt.slots] at X55 l55 y55 z55 st55 hQ55
        rw [l55, y55, z55] at X55
        obtain ⟨rfl, N55q, hh55⟩ := hQ55
        have N55 := Fr.app N51 N55q
        refine own_tr st55 ?_
        show own_Go p.tables e below _ (T55.setTop (mkF m 227 #[.val (.long p0), .second, .val (.long p1), .second, .val (.int p2), .val (.ref b1), .val (.int v5), .val (.double (FP.dadd (FP.i2d ((((p2.toUInt32 >>> ((2 : Int32) &&& 31).toUInt32).toInt32) &&& (255 : Int32)) - (128 : Int32))) (4602678819172646912 : UInt64))), .second, .val (.ref b47), .unset, .unset, .unset] [(.int (0 : Int32))]))
        refine own_st (S' := T55.setTop (mkF m 230 #[.val (.long p0), .second, .val (.long p1), .second, .val (.int p2), .val (.ref b1), .val (.int v5), .val (.double (FP.dadd (FP.i2d ((((p2.toUInt32 >>> ((2 : Int32) &&& 31).toUInt32).toInt32) &&& (255 : Int32)) - (128 : Int32))) (4602678819172646912 : UInt64))), .second, .val (.ref b47), .unset, .unset, .unset] [])) (fun t k => XS.ifNo X55.here hx rfl (hb hby at_227) rfl ((if0 _ _).trans (teq (by decide)).2) k) ?_
        show own_Go p.tables e below _ (T55.setTop (mkF m 230 #[.val (.long p0), .second, .val (.long p1), .second, .val (.int p2), .val (.ref b1), .val (.int v5), .val (.double (FP.dadd (FP.i2d ((((p2.toUInt32 >>> ((2 : Int32) &&& 31).toUInt32).toInt32) &&& (255 : Int32)) - (128 : Int32))) (4602678819172646912 : UInt64))), .second, .val (.ref b47), .unset, .unset, .unset] []))
        refine own_st (S' := T55.setTop (mkF m 231 #[.val (.long p0), .second, .val (.long p1), .second, .val (.int p2), .val (.ref b1), .val (.int v5), .val (.double (FP.dadd (FP.i2d ((((p2.toUInt32 >>> ((2 : Int32) &&& 31).toUInt32).toInt32) &&& (255 : Int32)) - (128 : Int32))) (4602678819172646912 : UInt64))), .second, .val (.ref b47), .unset, .unset, .unset] [(.int (1 : Int32))])) (fun t k => XS.iconst X55.here hx rfl (hb hby at_230) k) ?_
        refine own_st (S' := T55.setTop (mkF m 235 #[.val (.long p0), .second, .val (.long p1), .second, .val (.int p2), .val (.ref b1), .val (.int v5), .val (.double (FP.dadd (FP.i2d ((((p2.toUInt32 >>> ((2 : Int32) &&& 31).toUInt32).toInt32) &&& (255 : Int32)) - (128 : Int32))) (4602678819172646912 : UInt64))), .second, .val (.ref b47), .unset, .unset, .unset] [(.int (1 : Int32))])) (fun t k => XS.goto X55.here hx rfl (pc0 := 231) (pc' := 235) rfl (hb hby at_231) (by decide) (by decide) k) ?_
        refine own_retN X55 hx (t := .boolean) hret (by simp) hlk (hb hby at_235) ?_ (by decide) (by decide)
        rw [hh55]
        exact ⟨rfl, N55⟩
set_option maxRecDepth 65536 in
set_option maxHeartbeats 40000000 in
theorem comes_1 {Post : Tables → Env → Array Value → State → Outcome → State → Prop} (hpost : ∀ tb e args s v u, (limb_1_1.after args s (.returned v) u = true ∧ limb_1_2.after args s (.returned v) u = true ∧ True) → FrameEnd s (.returned v) u (Jvm.fieldLocs frame_1_writes args s ++ Jvm.arrayLocs frame_1_arrays args s ++ Jvm.staticLocs frame_1_statics s) 16 128 → Post tb e args s (.returned v) u) :
    ArmFor flags0 classFile x code maxLocals ret World_1 tables_1 room_1 Calls_1 rest_1 Pre_1 Post := by
  intro l hfl _ _ p e ha hc hk s m args below hf hA hF happ hP
  obtain ⟨hcalls, hrest, hpre⟩ := hP
  obtain ⟨-, -, -, hnamed, -, -, -, hat⟩ := (Spec.applies_iff hf).mp happ
  obtain ⟨hg, hn⟩ := and_e (Cond.before_iff.mp (show (Jvm.Cond.and given_1 narrow_1).before args s = true from hpre))
  obtain ⟨c0, d0⟩ := and_e hg
  obtain ⟨c1, d1⟩ := and_e d0
  obtain ⟨c2, d2⟩ := and_e d1
  obtain ⟨w0, w1, w2, rfl⟩ : ∃ w0 w1 w2 : Value, args = #[w0, w1, w2] := by
    have hs : args.size = 3 := by simpa [Cond.value, given_1] using c0
    obtain ⟨L⟩ := args
    match L, hs with
    | [w0, w1, w2], _ => exact ⟨w0, w1, w2, rfl⟩
  have hw := fun d (hd : d ∈ tables_1) => atoms_spec (ws := Jvm.Cond.code x code maxLocals ret :: tables_1) hat d (List.mem_cons_of_mem _ hd)
  have hfit : Fit s := fun {y c} hc i hi => by
    obtain ⟨ha, rfl⟩ := Array.getElem?_eq_some_iff.mp hc
    have q := List.all_eq_true.mp ((Array.all_eq_true_iff_forall_mem.mp hF) _ (Array.getElem_mem ha)) i (List.mem_range.mpr hi)
    simpa [Array.getElem?_eq_getElem hi] using q
  obtain ⟨i0, ei0⟩ := isL_v c1
  obtain rfl : w0 = (.long i0) := Option.some.inj ei0
  obtain ⟨i1, ei1⟩ := isL_v c2
  obtain rfl : w1 = (.long i1) := Option.some.inj ei1
  obtain ⟨i2, ei2⟩ := is_v d2
  obtain rfl : w2 = (.int i2) := Option.some.inj ei2
  obtain ⟨n, o, h1, h2, h3, _, L, rfl, ⟨rfl, N⟩, hq⟩ := rm0 l s _ hw tables_1 i0 i1 i2  s.heap s.heap.size (Nat.le_refl _)  p e ha hc hk s m _ below hf ((Spec.applies_iff_loose hf).mp happ).1 ⟨rfl, State.Warmed39.refl s, rfl⟩ trivial
  refine ⟨n, _, h1, h2, h3, hpost _ _ _ _ _ _ ⟨Cond.after_iff.mpr rfl, Cond.after_iff.mpr (eq_i res_at (Term.int_eval (1)) rfl), trivial⟩ ⟨hq.1, hq.2.1, (hq.2.2.sift fun y hy => Or.inr (N y hy)).mono (by decide) (by decide)⟩⟩
theorem main_1_1 : Claimed_1_1 := comes_1 fun _ _ _ _ _ _ h hF => ⟨h.1, hF⟩
theorem main_1_2 : Claimed_1_2 := comes_1 fun _ _ _ _ _ _ h hF => ⟨h.2.1, hF⟩
end Jvm.Pilot.@@N@@
namespace Jvm.Pilot.@@N@@
open Jvm Jvm.ClassFile Sem Op Lib Jvm.Free Jvm.Stand Jvm.Pilot.@@N@@.Jvm.D
/-! MADE BY PROGRAM (witnessworld.py) out of the Statement's table words and the real class files: 20 classes; the members and pool entries that the words name. The judged class is class 1, her method 1. -/
namespace start1
open Jvm.ClassFile
def u (s : String) : CpInfo := .utf8 (stringToUtf16 s)
/-- a pool by its gaps: so many unusable entries, then the entry; so many at the end -/
def gap : Nat → List CpInfo → List CpInfo
  | 0, r => r
  | n + 1, r => .unusable :: gap n r
def poolList (es : List (Nat × CpInfo)) (last : Nat) : List CpInfo := es.foldr (fun e r => gap e.1 (e.2 :: r)) (gap last [])
def pool (es : List (Nat × CpInfo)) (last : Nat) : Array CpInfo := ⟨poolList es last⟩
def fileOf (pool : Array CpInfo) (this : Nat) (attrs : Array Attribute := #[]) (ms : Array MethodInfo := #[]) (fl : Nat := 33) (sup : Nat := 0) (ifs : Array Nat := #[]) (fds : Array FieldInfo := #[]) : ClassFile where
  minorVersion := 0
  majorVersion := 65
  constantPool := pool
  accessFlags := fl
  thisClass := this
  superClass := sup
  interfaces := ifs
  fields := fds
  methods := ms
  attributes := attrs
def plain (name : String) (sup : Option ClassId) : Class where
  name := name
  kind := .ordinary
  loader := none
  accessFlags := 33
  super := sup
  interfaces := #[]
  cf := none
  fields := #[]
  methods := #[]
  instanceTypes := #[]
  staticTypes := #[]
  resolved := #[]
  callSites := []
  init := .initialized
  statics := none
  mirror := none

def pool0 : Array CpInfo := pool [(5, u "<init>"), (0, u "()V"), (1, .class_ 10), (1, u "java/lang/Object")] 113

def k0c0 : Code := { maxStack := 0, maxLocals := 1, code := object_method_1_code, exceptionTable := #[], attributes := #[] }
def k0m0 : Method := { name := "<init>", desc := "()V", sig := { parameters := [], returnType := none }, accessFlags := 1, code := some k0c0 }
/-- java/lang/Object -/
def k0 : Class := { plain "java/lang/Object" none with
  accessFlags := 33
  interfaces := #[]
  cf := some (fileOf pool0 8 #[] #[{ accessFlags := 1, nameIndex := 5, descriptorIndex := 6, attributes := #[] }] 33 0 #[] #[])
  fields := #[]
  methods := #[k0m0]
  instanceTypes := #[]
  staticTypes := #[]
  resolved := Array.replicate 124 none
  statics := none }

def pool1 : Array CpInfo := pool [(2, .class_ 4), (1, u "java/lang/Object"), (0, u "<init>"), (0, u "()V"), (0, .class_ 8), (0, u "com/example/deliberation/deliberation/term/IntegerTerm"), (0, .methodref 7 10), (0, .nameAndType 5 11), (0, u "(J)V"), (0, .methodref 7 13), (0, .nameAndType 14 15), (0, u "equals"), (0, u "(Ljava/lang/Object;)Z"), (0, .long 3), (1, .double 4602678819172646912), (1, .class_ 21), (0, u "com/example/deliberation/deliberation/term/DecimalTerm"), (0, .methodref 20 23), (0, .nameAndType 5 24), (0, u "(D)V"), (0, .class_ 26), (0, u "com/example/deliberation/deliberation/term/IntegerTermEqualsPinLaw"), (2, u "law"), (0, u "(JJI)Z")] 3

def k1m0 : Method := { name := "<init>", desc := "()V", sig := { parameters := [], returnType := none }, accessFlags := 1, code := none }
def k1c1 : Code := { maxStack := 5, maxLocals := 13, code := code, exceptionTable := #[], attributes := #[] }
def k1m1 : Method := { name := "law", desc := "(JJI)Z", sig := { parameters := [.long, .long, .int], returnType := some .boolean }, accessFlags := 9, code := some k1c1 }
/-- com/example/deliberation/deliberation/term/IntegerTermEqualsPinLaw -/
def k1 : Class := { plain "com/example/deliberation/deliberation/term/IntegerTermEqualsPinLaw" (some 0) with
  accessFlags := 49
  interfaces := #[]
  cf := some (fileOf pool1 25 #[] #[{ accessFlags := 1, nameIndex := 5, descriptorIndex := 6, attributes := #[] }, { accessFlags := 9, nameIndex := 29, descriptorIndex := 30, attributes := #[] }] 49 2 #[] #[])
  fields := #[]
  methods := #[k1m0, k1m1]
  instanceTypes := #[]
  staticTypes := #[]
  resolved := Array.replicate 34 none
  statics := none }

def pool2 : Array CpInfo := pool [(1, .methodref 2 3), (0, .class_ 4), (0, .nameAndType 5 6), (0, u "java/lang/Object"), (0, u "<init>"), (0, u "()V"), (0, .class_ 8), (0, u "java/lang/Record")] 13

def k2c0 : Code := { maxStack := 1, maxLocals := 1, code := jdk_30_method_1_code, exceptionTable := #[], attributes := #[] }
def k2m0 : Method := { name := "<init>", desc := "()V", sig := { parameters := [], returnType := none }, accessFlags := 4, code := some k2c0 }
/-- java/lang/Record -/
def k2 : Class := { plain "java/lang/Record" (some 0) with
  accessFlags := 1057
  interfaces := #[]
  cf := some (fileOf pool2 7 #[] #[{ accessFlags := 4, nameIndex := 5, descriptorIndex := 6, attributes := #[] }] 1057 2 #[] #[])
  fields := #[]
  methods := #[k2m0]
  instanceTypes := #[]
  staticTypes := #[]
  resolved := Array.replicate 22 none
  statics := none }

def pool3 : Array CpInfo := pool [(8, .class_ 10), (1, u "com/example/deliberation/deliberation/term/Term"), (72, .class_ 84), (0, u "java/lang/Object")] 26

/-- com/example/deliberation/deliberation/term/Term -/
def k3 : Class := { plain "com/example/deliberation/deliberation/term/Term" (some 0) with
  accessFlags := 1537
  interfaces := #[]
  cf := some (fileOf pool3 8 #[] #[] 1537 83 #[] #[])
  fields := #[]
  methods := #[]
  instanceTypes := #[]
  staticTypes := #[]
  resolved := Array.replicate 111 none
  statics := none }

def pool4 : Array CpInfo := pool [(7, .class_ 8), (0, u "com/example/deliberation/deliberation/term/NumberTerm"), (27, .class_ 37), (0, u "java/lang/Object"), (0, .class_ 39), (0, u "com/example/deliberation/deliberation/term/Term"), (0, u "LONG_LIMIT"), (0, u "D")] 16

/-- com/example/deliberation/deliberation/term/NumberTerm -/
def k4 : Class := { plain "com/example/deliberation/deliberation/term/NumberTerm" (some 0) with
  accessFlags := 1537
  interfaces := #[3]
  cf := some (fileOf pool4 7 #[] #[] 1537 36 #[38] #[{ accessFlags := 25, nameIndex := 40, descriptorIndex := 41, attributes := #[] }])
  fields := #[{ name := "LONG_LIMIT", type := .double, accessFlags := 25, slot := 0, constantValue := 0 }]
  methods := #[]
  instanceTypes := #[]
  staticTypes := #[.double]
  resolved := Array.replicate 58 none
  statics := none }

def pool5 : Array CpInfo := pool [(1, .methodref 2 3), (0, .class_ 4), (0, .nameAndType 5 6), (0, u "java/lang/Record"), (0, u "<init>"), (0, u "()V"), (0, .fieldref 8 9), (0, .class_ 10), (0, .nameAndType 11 12), (0, u "com/example/deliberation/deliberation/term/IntegerTerm"), (0, u "value"), (0, u "J"), (16, .class_ 30), (0, u "com/example/deliberation/deliberation/term/NumberTerm"), (0, u "(J)V"), (7, u "equals"), (0, u "(Ljava/lang/Object;)Z")] 7

def k5c0 : Code := { maxStack := 3, maxLocals := 3, code := prog_138_method_1_code, exceptionTable := #[], attributes := #[] }
def k5m0 : Method := { name := "<init>", desc := "(J)V", sig := { parameters := [.long], returnType := none }, accessFlags := 1, code := some k5c0 }
def k5c1 : Code := { maxStack := 4, maxLocals := 3, code := prog_138_method_4_code, exceptionTable := #[], attributes := #[] }
def k5m1 : Method := { name := "equals", desc := "(Ljava/lang/Object;)Z", sig := { parameters := [(.object "java/lang/Object")], returnType := some .boolean }, accessFlags := 1, code := some k5c1 }
/-- com/example/deliberation/deliberation/term/IntegerTerm -/
def k5 : Class := { plain "com/example/deliberation/deliberation/term/IntegerTerm" (some 2) with
  accessFlags := 49
  interfaces := #[4]
  cf := some (fileOf pool5 8 #[] #[{ accessFlags := 1, nameIndex := 5, descriptorIndex := 31, attributes := #[] }, { accessFlags := 1, nameIndex := 39, descriptorIndex := 40, attributes := #[] }] 49 2 #[29] #[{ accessFlags := 18, nameIndex := 11, descriptorIndex := 12, attributes := #[] }])
  fields := #[{ name := "value", type := .long, accessFlags := 18, slot := 0, constantValue := 0 }]
  methods := #[k5m0, k5m1]
  instanceTypes := #[.long]
  staticTypes := #[]
  resolved := Array.replicate 48 none
  statics := none }

def pool6 : Array CpInfo := pool [(1, .methodref 2 3), (0, .class_ 4), (0, .nameAndType 5 6), (0, u "java/lang/Record"), (0, u "<init>"), (0, u "()V"), (0, .methodref 8 9), (0, .class_ 10), (0, .nameAndType 11 12), (0, u "java/lang/Double"), (0, u "isFinite"), (0, u "(D)Z"), (0, .methodref 14 15), (0, .class_ 16), (0, .nameAndType 17 18), (0, u "java/lang/Math"), (0, u "rint"), (0, u "(D)D"), (9, .fieldref 29 30), (0, .class_ 31), (0, .nameAndType 32 33), (0, u "com/example/deliberation/deliberation/term/DecimalTerm"), (0, u "value"), (0, u "D"), (18, u "(D)V"), (63, .class_ 117), (0, u "com/example/deliberation/deliberation/term/NumberTerm"), (0, u "MAX_DIGITS"), (0, u "I")] 39

def k6c0 : Code := { maxStack := 4, maxLocals := 3, code := prog_134_method_1_code, exceptionTable := #[], attributes := #[] }
def k6m0 : Method := { name := "<init>", desc := "(D)V", sig := { parameters := [.double], returnType := none }, accessFlags := 1, code := some k6c0 }
/-- com/example/deliberation/deliberation/term/DecimalTerm -/
def k6 : Class := { plain "com/example/deliberation/deliberation/term/DecimalTerm" (some 2) with
  accessFlags := 49
  interfaces := #[4]
  cf := some (fileOf pool6 29 #[] #[{ accessFlags := 1, nameIndex := 5, descriptorIndex := 52, attributes := #[] }] 49 2 #[116] #[{ accessFlags := 18, nameIndex := 32, descriptorIndex := 33, attributes := #[] }, { accessFlags := 26, nameIndex := 118, descriptorIndex := 119, attributes := #[] }])
  fields := #[{ name := "value", type := .double, accessFlags := 18, slot := 0, constantValue := 0 }, { name := "MAX_DIGITS", type := .int, accessFlags := 26, slot := 0, constantValue := 0 }]
  methods := #[k6m0]
  instanceTypes := #[.double]
  staticTypes := #[.int]
  resolved := Array.replicate 159 none
  statics := none }

def pool7 : Array CpInfo := pool [(1, .class_ 2), (0, u "java/io/Serializable"), (0, .class_ 4), (0, u "java/lang/Object")] 2

/-- java/io/Serializable -/
def k7 : Class := { plain "java/io/Serializable" (some 0) with
  accessFlags := 1537
  interfaces := #[]
  cf := some (fileOf pool7 1 #[] #[] 1537 3 #[] #[])
  fields := #[]
  methods := #[]
  instanceTypes := #[]
  staticTypes := #[]
  resolved := Array.replicate 7 none
  statics := none }

def pool8 : Array CpInfo := pool [(2, .class_ 4), (1, u "java/lang/Object"), (0, u "<init>"), (0, u "()V"), (1, .class_ 10), (1, u "java/lang/Number"), (2, .class_ 14), (0, u "java/io/Serializable"), (0, u "serialVersionUID"), (0, u "J")] 20

def k8m0 : Method := { name := "<init>", desc := "()V", sig := { parameters := [], returnType := none }, accessFlags := 1, code := none }
/-- java/lang/Number -/
def k8 : Class := { plain "java/lang/Number" (some 0) with
  accessFlags := 1057
  interfaces := #[7]
  cf := some (fileOf pool8 8 #[] #[{ accessFlags := 1, nameIndex := 5, descriptorIndex := 6, attributes := #[] }] 1057 2 #[13] #[{ accessFlags := 26, nameIndex := 15, descriptorIndex := 16, attributes := #[] }])
  fields := #[{ name := "serialVersionUID", type := .long, accessFlags := 26, slot := 0, constantValue := 0 }]
  methods := #[k8m0]
  instanceTypes := #[]
  staticTypes := #[.long]
  resolved := Array.replicate 37 none
  statics := none }

def pool9 : Array CpInfo := pool [(1, .class_ 2), (0, u "java/lang/Comparable"), (0, .class_ 4), (0, u "java/lang/Object")] 7

/-- java/lang/Comparable -/
def k9 : Class := { plain "java/lang/Comparable" (some 0) with
  accessFlags := 1537
  interfaces := #[]
  cf := some (fileOf pool9 1 #[] #[] 1537 3 #[] #[])
  fields := #[]
  methods := #[]
  instanceTypes := #[]
  staticTypes := #[]
  resolved := Array.replicate 12 none
  statics := none }

def pool10 : Array CpInfo := pool [(1, .class_ 2), (0, u "java/lang/constant/Constable"), (0, .class_ 4), (0, u "java/lang/Object")] 6

/-- java/lang/constant/Constable -/
def k10 : Class := { plain "java/lang/constant/Constable" (some 0) with
  accessFlags := 1537
  interfaces := #[]
  cf := some (fileOf pool10 1 #[] #[] 1537 3 #[] #[])
  fields := #[]
  methods := #[]
  instanceTypes := #[]
  staticTypes := #[]
  resolved := Array.replicate 11 none
  statics := none }

def pool11 : Array CpInfo := pool [(1, .class_ 2), (0, u "java/lang/constant/ConstantDesc"), (0, .class_ 4), (0, u "java/lang/Object")] 32

/-- java/lang/constant/ConstantDesc -/
def k11 : Class := { plain "java/lang/constant/ConstantDesc" (some 0) with
  accessFlags := 1537
  interfaces := #[]
  cf := some (fileOf pool11 1 #[] #[] 1537 3 #[] #[])
  fields := #[]
  methods := #[]
  instanceTypes := #[]
  staticTypes := #[]
  resolved := Array.replicate 37 none
  statics := none }

def pool12 : Array CpInfo := pool [(1, .class_ 2), (0, u "java/lang/Double"), (10, u "isFinite"), (0, u "(D)Z"), (8, .class_ 25), (1, u "java/lang/Math"), (12, .methodref 23 39), (0, .nameAndType 40 41), (0, u "abs"), (0, u "(D)D"), (69, .double 9218868437227405311), (2, .class_ 116), (1, u "java/lang/Number"), (3, u "value"), (0, u "D"), (51, u "TYPE"), (0, u "Ljava/lang/Class;"), (0, .class_ 176), (0, u "java/lang/Comparable"), (0, .class_ 178), (0, u "java/lang/constant/Constable"), (0, .class_ 180), (0, u "java/lang/constant/ConstantDesc"), (0, u "POSITIVE_INFINITY"), (3, u "NEGATIVE_INFINITY"), (2, u "NaN"), (2, u "MAX_VALUE"), (0, u "MIN_NORMAL"), (0, u "MIN_VALUE"), (2, u "SIZE"), (0, u "I"), (1, u "PRECISION"), (1, u "MAX_EXPONENT"), (1, u "MIN_EXPONENT"), (1, u "BYTES"), (3, u "serialVersionUID"), (0, u "J")] 79

def k12c0 : Code := { maxStack := 4, maxLocals := 2, code := jdk_117_method_8_code, exceptionTable := #[], attributes := #[] }
def k12m0 : Method := { name := "isFinite", desc := "(D)Z", sig := { parameters := [.double], returnType := some .boolean }, accessFlags := 9, code := some k12c0 }
/-- java/lang/Double -/
def k12 : Class := { plain "java/lang/Double" (some 8) with
  accessFlags := 49
  interfaces := #[9, 10, 11]
  cf := some (fileOf pool12 1 #[] #[{ accessFlags := 9, nameIndex := 13, descriptorIndex := 14, attributes := #[] }] 49 114 #[175, 177, 179] #[{ accessFlags := 25, nameIndex := 181, descriptorIndex := 121, attributes := #[] }, { accessFlags := 25, nameIndex := 185, descriptorIndex := 121, attributes := #[] }, { accessFlags := 25, nameIndex := 188, descriptorIndex := 121, attributes := #[] }, { accessFlags := 25, nameIndex := 191, descriptorIndex := 121, attributes := #[] }, { accessFlags := 25, nameIndex := 192, descriptorIndex := 121, attributes := #[] }, { accessFlags := 25, nameIndex := 193, descriptorIndex := 121, attributes := #[] }, { accessFlags := 25, nameIndex := 196, descriptorIndex := 197, attributes := #[] }, { accessFlags := 25, nameIndex := 199, descriptorIndex := 197, attributes := #[] }, { accessFlags := 25, nameIndex := 201, descriptorIndex := 197, attributes := #[] }, { accessFlags := 25, nameIndex := 203, descriptorIndex := 197, attributes := #[] }, { accessFlags := 25, nameIndex := 205, descriptorIndex := 197, attributes := #[] }, { accessFlags := 25, nameIndex := 173, descriptorIndex := 174, attributes := #[] }, { accessFlags := 18, nameIndex := 120, descriptorIndex := 121, attributes := #[] }, { accessFlags := 26, nameIndex := 209, descriptorIndex := 210, attributes := #[] }])
  fields := #[{ name := "POSITIVE_INFINITY", type := .double, accessFlags := 25, slot := 0, constantValue := 0 }, { name := "NEGATIVE_INFINITY", type := .double, accessFlags := 25, slot := 1, constantValue := 0 }, { name := "NaN", type := .double, accessFlags := 25, slot := 2, constantValue := 0 }, { name := "MAX_VALUE", type := .double, accessFlags := 25, slot := 3, constantValue := 0 }, { name := "MIN_NORMAL", type := .double, accessFlags := 25, slot := 4, constantValue := 0 }, { name := "MIN_VALUE", type := .double, accessFlags := 25, slot := 5, constantValue := 0 }, { name := "SIZE", type := .int, accessFlags := 25, slot := 6, constantValue := 0 }, { name := "PRECISION", type := .int, accessFlags := 25, slot := 7, constantValue := 0 }, { name := "MAX_EXPONENT", type := .int, accessFlags := 25, slot := 8, constantValue := 0 }, { name := "MIN_EXPONENT", type := .int, accessFlags := 25, slot := 9, constantValue := 0 }, { name := "BYTES", type := .int, accessFlags := 25, slot := 10, constantValue := 0 }, { name := "TYPE", type := (.object "java/lang/Class"), accessFlags := 25, slot := 11, constantValue := 0 }, { name := "value", type := .double, accessFlags := 18, slot := 0, constantValue := 0 }, { name := "serialVersionUID", type := .long, accessFlags := 26, slot := 12, constantValue := 0 }]
  methods := #[k12m0]
  instanceTypes := #[.double]
  staticTypes := #[.double, .double, .double, .double, .double, .double, .int, .int, .int, .int, .int, (.object "java/lang/Class"), .long]
  resolved := Array.replicate 290 none
  statics := none }

def pool13 : Array CpInfo := pool [(1, .class_ 2), (0, u "java/lang/Math"), (1, .class_ 6), (1, u "java/lang/Object"), (0, u "<init>"), (0, u "()V"), (1, .class_ 12), (1, u "java/lang/StrictMath"), (1, u "(D)D"), (37, u "(DD)D"), (6, .methodref 10 60), (0, .nameAndType 61 14), (0, u "rint"), (36, .class_ 100), (1, u "java/lang/Math$RandomNumberGeneratorHolder"), (23, u "abs"), (47, u "negativeZeroFloatBits"), (0, u "J"), (2, u "negativeZeroDoubleBits"), (68, u "$assertionsDisabled"), (0, u "Z"), (54, u "copySign"), (36, u "twoToTheDoubleScaleDown"), (0, u "D"), (4, u "twoToTheDoubleScaleUp"), (9, u "E"), (3, u "PI"), (2, u "TAU"), (2, u "DEGREES_TO_RADIANS"), (0, u "RADIANS_TO_DEGREES")] 94

def k13m0 : Method := { name := "<init>", desc := "()V", sig := { parameters := [], returnType := none }, accessFlags := 2, code := none }
def k13c1 : Code := { maxStack := 2, maxLocals := 2, code := jdk_29_method_18_code, exceptionTable := #[], attributes := #[] }
def k13m1 : Method := { name := "rint", desc := "(D)D", sig := { parameters := [.double], returnType := some .double }, accessFlags := 9, code := some k13c1 }
def k13c2 : Code := { maxStack := 4, maxLocals := 2, code := jdk_29_method_64_code, exceptionTable := #[], attributes := #[] }
def k13m2 : Method := { name := "abs", desc := "(D)D", sig := { parameters := [.double], returnType := some .double }, accessFlags := 9, code := some k13c2 }
def k13c3 : Code := { maxStack := 6, maxLocals := 4, code := jdk_29_method_89_code, exceptionTable := #[], attributes := #[] }
def k13m3 : Method := { name := "copySign", desc := "(DD)D", sig := { parameters := [.double, .double], returnType := some .double }, accessFlags := 9, code := some k13c3 }
/-- java/lang/Math -/
def k13 : Class := { plain "java/lang/Math" (some 0) with
  accessFlags := 49
  interfaces := #[]
  cf := some (fileOf pool13 1 #[.nestMembers #[98]] #[{ accessFlags := 2, nameIndex := 7, descriptorIndex := 8, attributes := #[] }, { accessFlags := 9, nameIndex := 61, descriptorIndex := 14, attributes := #[] }, { accessFlags := 9, nameIndex := 124, descriptorIndex := 14, attributes := #[] }, { accessFlags := 9, nameIndex := 301, descriptorIndex := 52, attributes := #[] }] 49 4 #[] #[{ accessFlags := 25, nameIndex := 354, descriptorIndex := 339, attributes := #[] }, { accessFlags := 25, nameIndex := 358, descriptorIndex := 339, attributes := #[] }, { accessFlags := 25, nameIndex := 361, descriptorIndex := 339, attributes := #[] }, { accessFlags := 26, nameIndex := 364, descriptorIndex := 339, attributes := #[] }, { accessFlags := 26, nameIndex := 365, descriptorIndex := 339, attributes := #[] }, { accessFlags := 26, nameIndex := 172, descriptorIndex := 173, attributes := #[] }, { accessFlags := 26, nameIndex := 176, descriptorIndex := 173, attributes := #[] }, { accessFlags := 8, nameIndex := 344, descriptorIndex := 339, attributes := #[] }, { accessFlags := 8, nameIndex := 338, descriptorIndex := 339, attributes := #[] }, { accessFlags := 4120, nameIndex := 245, descriptorIndex := 246, attributes := #[] }])
  fields := #[{ name := "E", type := .double, accessFlags := 25, slot := 0, constantValue := 0 }, { name := "PI", type := .double, accessFlags := 25, slot := 1, constantValue := 0 }, { name := "TAU", type := .double, accessFlags := 25, slot := 2, constantValue := 0 }, { name := "DEGREES_TO_RADIANS", type := .double, accessFlags := 26, slot := 3, constantValue := 0 }, { name := "RADIANS_TO_DEGREES", type := .double, accessFlags := 26, slot := 4, constantValue := 0 }, { name := "negativeZeroFloatBits", type := .long, accessFlags := 26, slot := 5, constantValue := 0 }, { name := "negativeZeroDoubleBits", type := .long, accessFlags := 26, slot := 6, constantValue := 0 }, { name := "twoToTheDoubleScaleUp", type := .double, accessFlags := 8, slot := 7, constantValue := 0 }, { name := "twoToTheDoubleScaleDown", type := .double, accessFlags := 8, slot := 8, constantValue := 0 }, { name := "$assertionsDisabled", type := .boolean, accessFlags := 4120, slot := 9, constantValue := 0 }]
  methods := #[k13m0, k13m1, k13m2, k13m3]
  instanceTypes := #[]
  staticTypes := #[.double, .double, .double, .double, .double, .long, .long, .double, .double, .boolean]
  resolved := Array.replicate 460 none
  statics := none }

def pool14 : Array CpInfo := pool [(1, .class_ 2), (0, u "java/lang/StrictMath"), (1, .class_ 6), (1, u "java/lang/Object"), (0, u "<init>"), (0, u "()V"), (5, u "(D)D"), (16, .class_ 33), (1, u "java/lang/Math"), (23, u "(DD)D"), (14, u "$assertionsDisabled"), (0, u "Z"), (19, .double 4841369599423283200), (1, .methodref 31 96), (0, .nameAndType 97 57), (0, u "copySign"), (0, .methodref 31 99), (0, .nameAndType 100 14), (0, u "abs"), (13, .class_ 116), (1, u "java/lang/StrictMath$RandomNumberGeneratorHolder"), (222, u "E"), (0, u "D"), (3, u "PI"), (2, u "TAU"), (38, u "rint")] 49

def k14m0 : Method := { name := "<init>", desc := "()V", sig := { parameters := [], returnType := none }, accessFlags := 2, code := none }
def k14c1 : Code := { maxStack := 4, maxLocals := 6, code := jdk_128_method_19_code, exceptionTable := #[], attributes := #[] }
def k14m1 : Method := { name := "rint", desc := "(D)D", sig := { parameters := [.double], returnType := some .double }, accessFlags := 9, code := some k14c1 }
/-- java/lang/StrictMath -/
def k14 : Class := { plain "java/lang/StrictMath" (some 0) with
  accessFlags := 49
  interfaces := #[]
  cf := some (fileOf pool14 1 #[.nestMembers #[114]] #[{ accessFlags := 2, nameIndex := 7, descriptorIndex := 8, attributes := #[] }, { accessFlags := 9, nameIndex := 386, descriptorIndex := 14, attributes := #[] }] 49 4 #[] #[{ accessFlags := 25, nameIndex := 339, descriptorIndex := 340, attributes := #[] }, { accessFlags := 25, nameIndex := 344, descriptorIndex := 340, attributes := #[] }, { accessFlags := 25, nameIndex := 347, descriptorIndex := 340, attributes := #[] }, { accessFlags := 4120, nameIndex := 72, descriptorIndex := 73, attributes := #[] }])
  fields := #[{ name := "E", type := .double, accessFlags := 25, slot := 0, constantValue := 0 }, { name := "PI", type := .double, accessFlags := 25, slot := 1, constantValue := 0 }, { name := "TAU", type := .double, accessFlags := 25, slot := 2, constantValue := 0 }, { name := "$assertionsDisabled", type := .boolean, accessFlags := 4120, slot := 3, constantValue := 0 }]
  methods := #[k14m0, k14m1]
  instanceTypes := #[]
  staticTypes := #[.double, .double, .double, .boolean]
  resolved := Array.replicate 436 none
  statics := none }

def pool15 : Array CpInfo := pool [(1, u "java/lang/Cloneable"), (0, .class_ 1), (0, u "java/lang/Object"), (0, .class_ 3)] 3

/-- java/lang/Cloneable -/
def k15 : Class := { plain "java/lang/Cloneable" (some 0) with
  accessFlags := 1537
  interfaces := #[]
  cf := some (fileOf pool15 2 #[] #[] 1537 4 #[] #[])
  fields := #[]
  methods := #[]
  instanceTypes := #[]
  staticTypes := #[]
  resolved := Array.replicate 8 none
  statics := none }

/-- the primitive byte -/
def k16 : Class := { plain "byte" none with kind := .primitive 'B', accessFlags := 0x411 }
/-- [B -/
def k17 : Class := { plain "[B" (some 0) with kind := .array 16 .byte, interfaces := #[15, 7], accessFlags := 1041 }

/-- the primitive int -/
def k18 : Class := { plain "int" none with kind := .primitive 'I', accessFlags := 0x411 }
/-- [I -/
def k19 : Class := { plain "[I" (some 0) with kind := .array 18 .int, interfaces := #[15, 7], accessFlags := 1041 }

def heap : Heap := #[]
def classes : Array Class := #[k0, k1, k2, k3, k4, k5, k6, k7, k8, k9, k10, k11, k12, k13, k14, k15, k16, k17, k18, k19]
def interned : List (Array UInt16 × Addr) := []
def slotsUsed : Nat := 0
def theMethod : MethodId := ⟨1, 1⟩
def args0 : Array Value := #[.long 5, .long 7, .int 3]
def aboutOver (below : List Frame) : State where
  vm := { classes := classes, interned := interned.toArray }
  heap := heap
  slotsUsed := slotsUsed
  threads := #[{ frames := .invoking theMethod args0 :: below }]
def below0 : List Frame := [.native { method := ⟨0, 0⟩, args := #[] }]
def about1 : State := aboutOver below0
def p0 : Program := .bare "" "" ""
def e0 : Env := launch0.env 0 0 0
theorem w_frames : about1.frames = Frame.invoking theMethod args0 :: below0 := rfl
set_option maxRecDepth 65536 in
theorem w_args : argsFit about1.vm theMethod args0 = true := by decide +kernel
set_option maxRecDepth 65536 in
theorem w_heap : heapFits about1 = true := by decide +kernel
set_option maxRecDepth 65536 in
theorem w_runnable : about1.curStatus? = some .runnable := by decide +kernel
set_option maxRecDepth 65536 in
theorem w_alone : about1.alone = true := by decide +kernel
set_option maxRecDepth 65536 in
theorem w_named : about1.methodNamed? x = some theMethod := by decide +kernel
set_option maxRecDepth 65536 in
theorem w_hears : about1.hears theMethod below0 = true := by decide +kernel
set_option maxRecDepth 65536 in
theorem w_ripe : about1.ripe theMethod args0 below0 = true := by decide +kernel
theorem w_running : about1.status = .running := rfl
set_option maxRecDepth 65536 in
theorem w_room : about1.hasRoom e0.platform room_1 = true :=
  launch0.hasRoom_least _ room_1 (by decide +kernel) (by decide +kernel) (by decide +kernel) (by decide +kernel) (by decide +kernel) (by decide +kernel)
theorem allAtoms_all (ts : List Jvm.Cond) (a : Array Jvm.Value) (st : Jvm.State) : (allAtoms ts).before a st = ts.all (fun c => c.before a st) := by
  induction ts with
  | nil => rfl
  | cons c t ih =>
    show (Jvm.Cond.and c (allAtoms t)).before a st = _
    rw [Jvm.Cond.before_and, ih, List.all_cons]
def words1 : List Jvm.Cond := Jvm.Cond.code x code maxLocals ret :: tables_1
/-- a 'code' word, met by the world's own term for the bytes: nothing is compared byte by byte -/
theorem code_word {y : MethodName} {bytes : ByteArray} {mx : Nat} {rt : Option FieldType} {a : Array Value} {s : State} {m : MethodId} {meth : Method} {c : Code} (h1 : s.methodNamed? y = some m) (h2 : s.vm.method? m = some meth) (h3 : meth.code = some c) (h4 : c.code = bytes)
    (h5 : (c.maxLocals == mx && c.exceptionTable.isEmpty && decide (c.maxStack ≤ mostOperands) && decide (meth.sig.returnType = rt) && !meth.locks && decide (parseMethodDescriptor y.desc = some meth.sig)) = true) : (Jvm.Cond.code y bytes mx rt).before a s = true := by
  simp only [Bool.and_eq_true, beq_iff_eq, Bool.not_eq_true', decide_eq_true_eq] at h5
  obtain ⟨⟨⟨⟨⟨g1, g2⟩, g3⟩, g4⟩, g5⟩, g6⟩ := h5
  simp [Cond.before, Cond.holds, Cond.value, h1, h2, h3, h4, g1, g2, g3, g4, g5, g6]
def isCode : Jvm.Cond → Bool
  | .code _ _ _ _ => true
  | _ => false
theorem all_split {L : List Jvm.Cond} {P : Jvm.Cond → Bool} (h1 : L.all (fun c => isCode c || P c) = true) (h2 : ∀ c ∈ L.filter isCode, P c = true) : L.all P = true := by
  refine List.all_eq_true.mpr fun c hc => ?_
  have h := List.all_eq_true.mp h1 c hc
  rcases Bool.eq_false_or_eq_true (isCode c) with hi | hi
  · exact h2 c (List.mem_filter.mpr ⟨hc, hi⟩)
  · simpa [hi] using h
set_option maxRecDepth 65536 in
theorem w_c0 : (Jvm.Cond.code x code maxLocals ret).before args0 about1 = true := code_word (m := ⟨1, 1⟩) (meth := k1m1) (c := k1c1) (by decide +kernel) rfl rfl rfl (by decide +kernel)
set_option maxRecDepth 65536 in
theorem w_c1 : (Jvm.Cond.code ({ cls := "com/example/deliberation/deliberation/term/IntegerTerm", name := "<init>", desc := "(J)V" } : Jvm.MethodName) prog_138_method_1_code (3 : Nat) (Option.none : Option Jvm.ClassFile.FieldType)).before args0 about1 = true := code_word (m := ⟨5, 0⟩) (meth := k5m0) (c := k5c0) (by decide +kernel) rfl rfl rfl (by decide +kernel)
set_option maxRecDepth 65536 in
theorem w_c2 : (Jvm.Cond.code ({ cls := "java/lang/Record", name := "<init>", desc := "()V" } : Jvm.MethodName) jdk_30_method_1_code (1 : Nat) (Option.none : Option Jvm.ClassFile.FieldType)).before args0 about1 = true := code_word (m := ⟨2, 0⟩) (meth := k2m0) (c := k2c0) (by decide +kernel) rfl rfl rfl (by decide +kernel)
set_option maxRecDepth 65536 in
theorem w_c3 : (Jvm.Cond.code ({ cls := "java/lang/Object", name := "<init>", desc := "()V" } : Jvm.MethodName) object_method_1_code (1 : Nat) (Option.none : Option Jvm.ClassFile.FieldType)).before args0 about1 = true := code_word (m := ⟨0, 0⟩) (meth := k0m0) (c := k0c0) (by decide +kernel) rfl rfl rfl (by decide +kernel)
set_option maxRecDepth 65536 in
theorem w_c4 : (Jvm.Cond.code ({ cls := "com/example/deliberation/deliberation/term/IntegerTerm", name := "equals", desc := "(Ljava/lang/Object;)Z" } : Jvm.MethodName) prog_138_method_4_code (3 : Nat) (Option.some Jvm.ClassFile.FieldType.boolean)).before args0 about1 = true := code_word (m := ⟨5, 1⟩) (meth := k5m1) (c := k5c1) (by decide +kernel) rfl rfl rfl (by decide +kernel)
set_option maxRecDepth 65536 in
theorem w_c5 : (Jvm.Cond.code ({ cls := "com/example/deliberation/deliberation/term/DecimalTerm", name := "<init>", desc := "(D)V" } : Jvm.MethodName) prog_134_method_1_code (3 : Nat) (Option.none : Option Jvm.ClassFile.FieldType)).before args0 about1 = true := code_word (m := ⟨6, 0⟩) (meth := k6m0) (c := k6c0) (by decide +kernel) rfl rfl rfl (by decide +kernel)
set_option maxRecDepth 65536 in
theorem w_c6 : (Jvm.Cond.code ({ cls := "java/lang/Double", name := "isFinite", desc := "(D)Z" } : Jvm.MethodName) jdk_117_method_8_code (2 : Nat) (Option.some Jvm.ClassFile.FieldType.boolean)).before args0 about1 = true := code_word (m := ⟨12, 0⟩) (meth := k12m0) (c := k12c0) (by decide +kernel) rfl rfl rfl (by decide +kernel)
set_option maxRecDepth 65536 in
theorem w_c7 : (Jvm.Cond.code ({ cls := "java/lang/Math", name := "abs", desc := "(D)D" } : Jvm.MethodName) jdk_29_method_64_code (2 : Nat) (Option.some Jvm.ClassFile.FieldType.double)).before args0 about1 = true := code_word (m := ⟨13, 2⟩) (meth := k13m2) (c := k13c2) (by decide +kernel) rfl rfl rfl (by decide +kernel)
set_option maxRecDepth 65536 in
theorem w_c8 : (Jvm.Cond.code ({ cls := "java/lang/Math", name := "rint", desc := "(D)D" } : Jvm.MethodName) jdk_29_method_18_code (2 : Nat) (Option.some Jvm.ClassFile.FieldType.double)).before args0 about1 = true := code_word (m := ⟨13, 1⟩) (meth := k13m1) (c := k13c1) (by decide +kernel) rfl rfl rfl (by decide +kernel)
set_option maxRecDepth 65536 in
theorem w_c9 : (Jvm.Cond.code ({ cls := "java/lang/StrictMath", name := "rint", desc := "(D)D" } : Jvm.MethodName) jdk_128_method_19_code (6 : Nat) (Option.some Jvm.ClassFile.FieldType.double)).before args0 about1 = true := code_word (m := ⟨14, 1⟩) (meth := k14m1) (c := k14c1) (by decide +kernel) rfl rfl rfl (by decide +kernel)
set_option maxRecDepth 65536 in
theorem w_c10 : (Jvm.Cond.code ({ cls := "java/lang/Math", name := "copySign", desc := "(DD)D" } : Jvm.MethodName) jdk_29_method_89_code (4 : Nat) (Option.some Jvm.ClassFile.FieldType.double)).before args0 about1 = true := code_word (m := ⟨13, 3⟩) (meth := k13m3) (c := k13c3) (by decide +kernel) rfl rfl rfl (by decide +kernel)
def codes1 : List Jvm.Cond := [Jvm.Cond.code x code maxLocals ret, Jvm.Cond.code ({ cls := "com/example/deliberation/deliberation/term/IntegerTerm", name := "<init>", desc := "(J)V" } : Jvm.MethodName) prog_138_method_1_code (3 : Nat) (Option.none : Option Jvm.ClassFile.FieldType), Jvm.Cond.code ({ cls := "java/lang/Record", name := "<init>", desc := "()V" } : Jvm.MethodName) jdk_30_method_1_code (1 : Nat) (Option.none : Option Jvm.ClassFile.FieldType), Jvm.Cond.code ({ cls := "java/lang/Object", name := "<init>", desc := "()V" } : Jvm.MethodName) object_method_1_code (1 : Nat) (Option.none : Option Jvm.ClassFile.FieldType), Jvm.Cond.code ({ cls := "com/example/deliberation/deliberation/term/IntegerTerm", name := "equals", desc := "(Ljava/lang/Object;)Z" } : Jvm.MethodName) prog_138_method_4_code (3 : Nat) (Option.some Jvm.ClassFile.FieldType.boolean), Jvm.Cond.code ({ cls := "com/example/deliberation/deliberation/term/DecimalTerm", name := "<init>", desc := "(D)V" } : Jvm.MethodName) prog_134_method_1_code (3 : Nat) (Option.none : Option Jvm.ClassFile.FieldType), Jvm.Cond.code ({ cls := "java/lang/Double", name := "isFinite", desc := "(D)Z" } : Jvm.MethodName) jdk_117_method_8_code (2 : Nat) (Option.some Jvm.ClassFile.FieldType.boolean), Jvm.Cond.code ({ cls := "java/lang/Math", name := "abs", desc := "(D)D" } : Jvm.MethodName) jdk_29_method_64_code (2 : Nat) (Option.some Jvm.ClassFile.FieldType.double), Jvm.Cond.code ({ cls := "java/lang/Math", name := "rint", desc := "(D)D" } : Jvm.MethodName) jdk_29_method_18_code (2 : Nat) (Option.some Jvm.ClassFile.FieldType.double), Jvm.Cond.code ({ cls := "java/lang/StrictMath", name := "rint", desc := "(D)D" } : Jvm.MethodName) jdk_128_method_19_code (6 : Nat) (Option.some Jvm.ClassFile.FieldType.double), Jvm.Cond.code ({ cls := "java/lang/Math", name := "copySign", desc := "(DD)D" } : Jvm.MethodName) jdk_29_method_89_code (4 : Nat) (Option.some Jvm.ClassFile.FieldType.double)]
set_option maxRecDepth 65536 in
theorem codes_eq : words1.filter isCode = codes1 := rfl
theorem w_codes : ∀ c ∈ words1.filter isCode, c.before args0 about1 = true := by
  rw [codes_eq]
  intro c hc
  simp only [codes1, List.mem_cons, List.not_mem_nil, or_false] at hc
  rcases hc with rfl | rfl | rfl | rfl | rfl | rfl | rfl | rfl | rfl | rfl | rfl
  · exact w_c0
  · exact w_c1
  · exact w_c2
  · exact w_c3
  · exact w_c4
  · exact w_c5
  · exact w_c6
  · exact w_c7
  · exact w_c8
  · exact w_c9
  · exact w_c10
set_option maxRecDepth 65536 in
theorem w_t1 : (words1.take 24).all (fun c => isCode c || c.before args0 about1) = true := by decide +kernel
set_option maxRecDepth 65536 in
theorem w_t2 : ((words1.drop 24).take 24).all (fun c => isCode c || c.before args0 about1) = true := by decide +kernel
set_option maxRecDepth 65536 in
theorem w_t3 : ((words1.drop 24).drop 24).all (fun c => isCode c || c.before args0 about1) = true := by decide +kernel
theorem w_tables : (allAtoms (Jvm.Cond.code x code maxLocals ret :: tables_1)).before args0 about1 = true := by
  rw [allAtoms_all]
  show words1.all (fun c => c.before args0 about1) = true
  refine all_split ?_ w_codes
  rw [← List.take_append_drop 24 words1, List.all_append, w_t1, ← List.take_append_drop 24 (words1.drop 24), List.all_append, w_t2, w_t3]
  rfl
set_option maxRecDepth 65536 in
theorem w_case : (Jvm.Cond.and given_1 narrow_1).before args0 about1 = true := by decide +kernel
theorem w_applies : (headSpec (Jvm.Cond.code x code maxLocals ret :: tables_1) room_1).applies x e0.platform about1 = true :=
  (Spec.applies_iff w_frames).mpr ⟨w_running, w_runnable, w_alone, w_named, w_hears, w_ripe, w_room, w_tables⟩
theorem atStart : AtStart classFile x code maxLocals ret World_1 tables_1 room_1 Calls_1 rest_1 Pre_1 launch0 p0 e0 about1 theMethod args0 below0 :=
  ⟨lists_1, trivial, launch0.admits_env _ _ _, launch0.least_env, fairChoices_fair.cas, fairChoices_fair.clock, w_frames, w_args, w_heap, w_applies, trivial, trivial, w_case⟩
end start1
theorem witness_1 : WitnessClaimed_1 := ⟨start1.p0, start1.e0, start1.about1, start1.theMethod, start1.args0, start1.below0, start1.atStart⟩
end Jvm.Pilot.@@N@@
