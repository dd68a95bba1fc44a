import JvmDerived
import JvmDerived.Pilot.@@N@@Statement
import JvmDerived.Pilot.@@N@@Code
set_option linter.unusedVariables false
set_option linter.unusedSimpArgs false
namespace Jvm.Pilot.@@N@@
open Jvm Jvm.ClassFile Sem Op Lib Jvm.Free Jvm.Stand Jvm.LawKit Jvm.RoadKit Bundle Jvm.Pilot.@@N@@.Jvm.D
section Own
variable {p : Program} {l : Launch} {e : Env} {R : Room} {s : State} {m : MethodId} {args : Array Value} {below : List Frame} {meth : Method} {c : Code} {T : State} {locs : List Loc} {cells slots : Nat} {Q : Option Value → Heap → List Loc → Prop} {k n : Nat}
/-- from this state the body comes to an end that meets Φ -/
def own_Go (tb : Tables) (e : Env) (below : List Frame) (Φ : Outcome → State → Prop) (S : State) : Prop :=
  ∃ U o, Steps tb e below S U ∧ U.status = .running ∧ Ended U below o ∧ Φ o U
/-- it returned; what it leaves meets Q; nothing else moved -/
def own_F (s : State) (Q : Option Value → Heap → List Loc → Prop) (k n : Nat) (o : Outcome) (U : State) : Prop := ∃ v L, o = .returned v ∧ Q v U.heap L ∧ FrameEnd s o U L k n
theorem own_st {tb : Tables} {Φ : Outcome → State → Prop} {S S' : State} (h : ∀ t, Steps tb e below S' t → Steps tb e below S t) (g : own_Go tb e below Φ S') : own_Go tb e below Φ S := by
  obtain ⟨U, o, h1, r⟩ := g
  exact ⟨U, o, h _ h1, r⟩
theorem own_tr {tb : Tables} {Φ : Outcome → State → Prop} {S S' : State} (h : Steps tb e below S S') (g : own_Go tb e below Φ S') : own_Go tb e below Φ S := by
  obtain ⟨U, o, h1, r⟩ := g
  exact ⟨U, o, h.trans h1, r⟩
theorem own_end (X : Stand p l e R s m args below meth c T locs cells slots) (v : Option Value) (hv : meth.sig.returnType = none → v = none) (hlk : meth.locks = false) (hq : Q v T.heap locs) (hk : cells ≤ k) (hn : slots ≤ n) {S : State}
    (hs : ∀ fs, (∀ (f : JFrame) (acts : List Action), f.method = m → f.locked = none → f.entered = [] → (doReturn e (T.setTop f) acts v).1 = T.setFrames fs) → Steps p.tables e below S (T.setFrames fs)) : own_Go p.tables e below (own_F s Q k n) S := by
  obtain ⟨fs, hr, hrun, hended, hW, hsame⟩ := X.leave (v := v) hv hlk
  exact ⟨_, _, hs fs hr, hrun, hended, v, locs, rfl, hq, ⟨_, rfl⟩, hW, hsame.mono hk hn⟩
theorem own_retN (X : Stand p l e R s m args below meth c T locs cells slots) (hx : p.tables.exec = Jvm.exec) {pc : Nat} {Ls : Array Slot} {z : Int32} {t : FieldType} {rest : List Value} (hret : meth.sig.returnType = some t) (ht : t = .boolean ∨ t = .byte ∨ t = .char ∨ t = .short) (hlk : meth.locks = false)
    (hd : decode c.code pc = .ok (.ireturn, 1)) (hq : Q (some (.int (nar t z))) T.heap locs) (hk : cells ≤ k) (hn : slots ≤ n) : own_Go p.tables e below (own_F s Q k n) (T.setTop (mkF m pc Ls (.int z :: rest))) :=
  own_end X _ (fun h => by rw [hret] at h; cases h) hlk hq hk hn fun fs hr => retN X hx hret ht hd hr
theorem own_retI (X : Stand p l e R s m args below meth c T locs cells slots) (hx : p.tables.exec = Jvm.exec) {pc : Nat} {Ls : Array Slot} {z : Int32} {rest : List Value} (hret : meth.sig.returnType = some .int) (hlk : meth.locks = false)
    (hd : decode c.code pc = .ok (.ireturn, 1)) (hq : Q (some (.int z)) T.heap locs) (hk : cells ≤ k) (hn : slots ≤ n) : own_Go p.tables e below (own_F s Q k n) (T.setTop (mkF m pc Ls (.int z :: rest))) :=
  own_end X _ (fun h => by rw [hret] at h; cases h) hlk hq hk hn fun fs hr => retOut X hx hret rfl (Or.inl ⟨rfl, Or.inl rfl, z, rfl⟩) hd hr
theorem own_retL (X : Stand p l e R s m args below meth c T locs cells slots) (hx : p.tables.exec = Jvm.exec) {pc : Nat} {Ls : Array Slot} {z : Int64} {rest : List Value} (hret : meth.sig.returnType = some .long) (hlk : meth.locks = false)
    (hd : decode c.code pc = .ok (.lreturn, 1)) (hq : Q (some (.long z)) T.heap locs) (hk : cells ≤ k) (hn : slots ≤ n) : own_Go p.tables e below (own_F s Q k n) (T.setTop (mkF m pc Ls (.long z :: rest))) :=
  own_end X _ (fun h => by rw [hret] at h; cases h) hlk hq hk hn fun fs hr => retOut X hx hret rfl (Or.inr (Or.inl ⟨rfl, rfl, z, rfl⟩)) hd hr
theorem own_retA (X : Stand p l e R s m args below meth c T locs cells slots) (hx : p.tables.exec = Jvm.exec) {pc : Nat} {Ls : Array Slot} {w : Value} {t : FieldType} {rest : List Value} (hret : meth.sig.returnType = some t) (ht : t.isReference = true) (hw : w.isRef = true) (hnw : narrow t w = w) (hlk : meth.locks = false)
    (hd : decode c.code pc = .ok (.areturn, 1)) (hq : Q (some w) T.heap locs) (hk : cells ≤ k) (hn : slots ≤ n) : own_Go p.tables e below (own_F s Q k n) (T.setTop (mkF m pc Ls (w :: rest))) :=
  own_end X _ (fun h => by rw [hret] at h; cases h) hlk hq hk hn fun fs hr => retOut X hx hret hnw (Or.inr (Or.inr (Or.inr (Or.inr ⟨rfl, ht, hw⟩)))) hd hr
theorem own_retD (X : Stand p l e R s m args below meth c T locs cells slots) (hx : p.tables.exec = Jvm.exec) {pc : Nat} {Ls : Array Slot} {z : UInt64} {rest : List Value} (hret : meth.sig.returnType = some .double) (hlk : meth.locks = false)
    (hd : decode c.code pc = .ok (.dreturn, 1)) (hq : Q (some (.double z)) T.heap locs) (hk : cells ≤ k) (hn : slots ≤ n) : own_Go p.tables e below (own_F s Q k n) (T.setTop (mkF m pc Ls (.double z :: rest))) :=
  own_end X _ (fun h => by rw [hret] at h; cases h) hlk hq hk hn fun fs hr => retOut X hx hret rfl (Or.inr (Or.inr (Or.inl ⟨rfl, rfl, z, rfl⟩))) hd hr
theorem own_retV (X : Stand p l e R s m args below meth c T locs cells slots) (hx : p.tables.exec = Jvm.exec) {pc : Nat} {Ls : Array Slot} (hret : meth.sig.returnType = none) (hlk : meth.locks = false)
    (hd : decode c.code pc = .ok (.return_, 1)) (hq : Q none T.heap locs) (hk : cells ≤ k) (hn : slots ≤ n) : own_Go p.tables e below (own_F s Q k n) (T.setTop (mkF m pc Ls [])) :=
  own_end X _ (fun _ => rfl) hlk hq hk hn fun fs hr => X.returnOut hx hret hd hr
theorem own_body {y : MethodName} {cd : ByteArray} {mx : Nat} {rt : Option FieldType} {ws : List Jvm.Cond} {rm : Room} {Z : State} {h0 : Heap} {as : Array Value} (hp : plainFor y = true)
    (go : ∀ (p : Program) (e : Env) (s : State) (m : MethodId) (below : List Frame) (meth : Method) (c : Code) (s₁ : State), p.tables.exec = Jvm.exec → c.code = cd → c.maxLocals = mx → s.vm.findClass y.cls = some m.cls → meth.name = y.name → meth.sig.returnType = rt → meth.locks = false → Z.Warmed39 s.vm →
      Stand p l e rm s m as below meth c s₁ [] 0 0 → s₁.heap = h0 → own_Go p.tables e below (own_F s Q rm.cells rm.slots) (s₁.setTop (entryFrame m as mx))) :
    MetFree l y (head1 (Jvm.Cond.code y cd mx rt :: ws) rm) (fun a U => a = as ∧ Z.Warmed39 U.vm ∧ U.heap = h0) (fun _ _ _ _ _ => True) (fun _ U o U' => ∃ v L, o = .returned v ∧ Q v U'.heap L ∧ FrameEnd U o U' L rm.cells rm.slots) := by
  refine MetFree.of_bodySF hp hisR ?_
  intro p e s m args below meth c s₁ Bd hml0 hP hK
  obtain ⟨rfl, hZ, hh⟩ := hP
  exact go p e s m below meth c s₁ Bd.exec Bd.bytes hml0 (findClass_of_methodNamed Bd.named) (name_of_methodNamed Bd.named Bd.method).1 Bd.returns Bd.notSynchronized hZ (Stand.of_body Bd) (by rw [← hh, Bd.state]; rfl)
end Own
theorem own_narb {P : Prop} [Decidable P] : nar .boolean (if P then (1 : Int32) else (0 : Int32)) = if P then (1 : Int32) else (0 : Int32) := by split <;> rfl
/-- an array by its length and what each place holds -/
def own_A (Z : State) (h : Heap) (a : Addr) (ty : FieldType) (n : Nat) (f : Nat → Value) : Prop := ∃ c : Cell, Arr Z h a c ty ∧ c.slots.size = n ∧ n < 2 ^ 31 ∧ ∀ j, j < n → c.slots[j]? = some (f j)
def own_up (f : Nat → Value) (i : Nat) (v : Value) : Nat → Value := fun j => if j = i then v else f j
def own_Ix (j : Int32) (i n : Nat) : Prop := ¬ j < 0 ∧ j.toNatClampNeg = i ∧ i < n
section Arrs
variable {Z : State} {h h' : Heap} {a b : Addr} {ty : FieldType} {n i : Nat} {f : Nat → Value} {v : Value} {sl : Nat} {ws : List Addr} {c : Cell} {j z : Int32}
theorem own_A.lt (F : own_A Z h a ty n f) : a < h.size := by obtain ⟨c, A, -⟩ := F; exact A.lt
theorem own_A.ext (F : own_A Z h a ty n f) (E : Ext h h') : own_A Z h' a ty n f := by obtain ⟨c, A, r⟩ := F; exact ⟨c, A.ext E, r⟩
theorem own_A.other (F : own_A Z h b ty n f) (W : Wr h h' a sl v) (q : b ≠ a) : own_A Z h' b ty n f := by obtain ⟨c, A, r⟩ := F; exact ⟨c, A.other W q, r⟩
theorem own_A.keep (F : own_A Z h a ty n f) (K : Keep h h' ws) (q : a ∉ ws) : own_A Z h' a ty n f := by obtain ⟨c, A, r⟩ := F; exact ⟨c, ⟨K.2.1 a c A.1 q, A.2⟩, r⟩
theorem own_clamp (z : Int32) : z.toNatClampNeg < 2 ^ 31 := by
  have := Int32.toInt_lt z
  simp only [Int32.toNatClampNeg]; omega
theorem own_A.new {k : ClassId} (A : Arr Z h a (newA k ty z) ty) (hz : z.toNatClampNeg = n) : own_A Z h a ty n (fun _ => defaultValue ty) := by
  refine ⟨_, A, by rw [sz_new, hz], by rw [← hz]; exact own_clamp z, fun j hj => ?_⟩
  simp [newA, hz, hj]
theorem own_ix (h1 : ¬ j < 0) (h2 : j.toNatClampNeg = i) (h3 : i < n) : own_Ix j i n := ⟨h1, h2, h3⟩
theorem own_in (S : c.slots.size = n) (h : own_Ix j i n) : ¬ (j < 0 ∨ c.slots.size ≤ j.toNatClampNeg) := by
  obtain ⟨h1, h2, h3⟩ := h
  rw [S, h2]
  exact fun q => q.elim h1 (fun r => absurd h3 (Nat.not_lt.mpr r))
theorem own_at (S : c.slots.size = n) (V : ∀ j, j < n → c.slots[j]? = some (f j)) (h : own_Ix j i n) (hv : f i = v) : c.slots[j.toNatClampNeg]? = some v := by
  obtain ⟨h1, h2, h3⟩ := h
  rw [h2, V i h3, hv]
theorem own_A.set (F : own_A Z h a ty n f) (hj : own_Ix j i n) (W : Wr h h' a j.toNatClampNeg v) : own_A Z h' a ty n (own_up f i v) := by
  obtain ⟨c, A, S, M, V⟩ := F
  obtain ⟨h1, h2, h3⟩ := hj
  rw [h2] at W
  refine ⟨c.setSlot i v, A.same W, by rw [sz_set]; exact S, M, fun j' hj' => ?_⟩
  show (c.slots.setIfInBounds i v)[j']? = _
  unfold own_up
  by_cases e : j' = i
  · subst e; rw [if_pos rfl]; simp [S, hj']
  · rw [if_neg e, Array.getElem?_setIfInBounds_ne (Ne.symm e)]; exact V j' hj'
theorem own_A.cong {g : Nat → Value} (F : own_A Z h a ty n f) (q : ∀ j, j < n → f j = g j) : own_A Z h a ty n g := by
  obtain ⟨c, A, S, M, V⟩ := F
  exact ⟨c, A, S, M, fun j hj => by rw [V j hj, q j hj]⟩
end Arrs
/-- a short array's values by a list -/
def own_V (vs : List Value) : Nat → Value := fun j => vs.getD j .null
theorem own_selP {Z s : State} {a0 args : Array Value} {y : MethodName} {n : Nat} (hZ : Z.Warmed39 s.vm) (wi : (Jvm.Cond.instantiable y.cls n).before a0 Z = true) (wp : (Jvm.Cond.privateMethod y).before a0 Z = true) (wm : (Jvm.Cond.instanceMethod y).before a0 Z = true)
    (hy : y.cls ≠ "java/lang/invoke/MethodHandle" ∧ y.cls ≠ "java/lang/invoke/VarHandle") : (Jvm.Cond.selects y.cls y y).before args s = true := by
  have w : (Jvm.Cond.instantiable y.cls n).before args s = true := mvT hZ wi
  obtain ⟨c, k, h1, h2, -, h4, -⟩ := Cond.instantiable_spec w
  exact selects_self_of_private h1 h2 (Bool.or_eq_false_iff.mp h4).1 (Cond.privateMethod_at (mvP hZ wp (args := #[]))) (mvT hZ wm) hy
section OwnW
variable {p : Program} {l : Launch} {e : Env} {R : Room} {s : State} {vm0 : Vm} {k0 : Nat} {m : MethodId} {args : Array Value} {below : List Frame} {meth : Method} {c : Code} {T : State} {locs : List Loc} {cells slots : Nat} {Q : Option Value → Heap → List Loc → Prop} {k n : Nat}
/-- as own_F, of a body that may load String constants -/
def own_FW (s : State) (Q : Option Value → Heap → List Loc → Prop) (k n : Nat) (o : Outcome) (U : State) : Prop := ∃ v L, o = .returned v ∧ Q v U.heap L ∧ ReturnedEndW s o U L k n
theorem own_endW (X : Stand p l e R (s.setVm vm0) m args below meth c T locs cells slots) (hS : s.Since vm0 k0) (hk0 : k0 ≤ T.heap.size) (v : Option Value) (hv : meth.sig.returnType = none → v = none) (hlk : meth.locks = false) (hq : Q v T.heap locs) (hk : cells ≤ k) (hn : slots ≤ n) {S : State}
    (hs : ∀ fs, (∀ (f : JFrame) (acts : List Action), f.method = m → f.locked = none → f.entered = [] → (doReturn e (T.setTop f) acts v).1 = T.setFrames fs) → Steps p.tables e below S (T.setFrames fs)) : own_Go p.tables e below (own_FW s Q k n) S := by
  obtain ⟨fs, hr, hrun, hended, hW, hsame⟩ := X.leave (v := v) hv hlk
  obtain ⟨h1, h2, h3⟩ := hS.ended (U := T.setFrames fs) hW hk0 hsame
  exact ⟨_, _, hs fs hr, hrun, hended, v, locs, rfl, hq, ⟨_, rfl⟩, h1, h2, h3.mono hk hn⟩
theorem own_retNW (X : Stand p l e R (s.setVm vm0) m args below meth c T locs cells slots) (hS : s.Since vm0 k0) (hk0 : k0 ≤ T.heap.size) (hx : p.tables.exec = Jvm.exec) {pc : Nat} {Ls : Array Slot} {z : Int32} {t : FieldType} {rest : List Value} (hret : meth.sig.returnType = some t) (ht : t = .boolean ∨ t = .byte ∨ t = .char ∨ t = .short) (hlk : meth.locks = false)
    (hd : decode c.code pc = .ok (.ireturn, 1)) (hq : Q (some (.int (nar t z))) T.heap locs) (hk : cells ≤ k) (hn : slots ≤ n) : own_Go p.tables e below (own_FW s Q k n) (T.setTop (mkF m pc Ls (.int z :: rest))) :=
  own_endW X hS hk0 _ (fun h => by rw [hret] at h; cases h) hlk hq hk hn fun fs hr => retN X hx hret ht hd hr
theorem own_retVW (X : Stand p l e R (s.setVm vm0) m args below meth c T locs cells slots) (hS : s.Since vm0 k0) (hk0 : k0 ≤ T.heap.size) (hx : p.tables.exec = Jvm.exec) {pc : Nat} {Ls : Array Slot} (hret : meth.sig.returnType = none) (hlk : meth.locks = false)
    (hd : decode c.code pc = .ok (.return_, 1)) (hq : Q none T.heap locs) (hk : cells ≤ k) (hn : slots ≤ n) : own_Go p.tables e below (own_FW s Q k n) (T.setTop (mkF m pc Ls [])) :=
  own_endW X hS hk0 _ (fun _ => rfl) hlk hq hk hn fun fs hr => X.returnOut hx hret hd hr
theorem own_bodyW {y : MethodName} {cd : ByteArray} {mx : Nat} {rt : Option FieldType} {ws : List Jvm.Cond} {rm : Room} {Z : State} {h0 : Heap} {as : Array Value} (hp : plainFor y = true)
    (go : ∀ (p : Program) (e : Env) (s : State) (m : MethodId) (below : List Frame) (meth : Method) (c : Code) (s₁ : State), p.tables.exec = Jvm.exec → c.code = cd → c.maxLocals = mx → s.vm.findClass y.cls = some m.cls → meth.name = y.name → meth.sig.returnType = rt → meth.locks = false → Z.Warmed39 s.vm →
      Stand p l e rm s m as below meth c s₁ [] 0 0 → s₁.heap = h0 → own_Go p.tables e below (own_FW s Q rm.cells rm.slots) (s₁.setTop (entryFrame m as mx))) :
    MetFree l y (head1 (Jvm.Cond.code y cd mx rt :: ws) rm) (fun a U => a = as ∧ Z.Warmed39 U.vm ∧ U.heap = h0) (fun _ _ _ _ _ => True) (fun _ U o U' => ∃ v L, o = .returned v ∧ Q v U'.heap L ∧ ReturnedEndW U o U' L rm.cells rm.slots) := by
  refine MetFree.of_bodySF hp hisR ?_
  intro p e s m args below meth c s₁ Bd hml0 hP hK
  obtain ⟨rfl, hZ, hh⟩ := hP
  exact go p e s m below meth c s₁ Bd.exec Bd.bytes hml0 (findClass_of_methodNamed Bd.named) (name_of_methodNamed Bd.named Bd.method).1 Bd.returns Bd.notSynchronized hZ (Stand.of_body Bd) (by rw [← hh, Bd.state]; rfl)
/-- as own_bodyW, from the case's own start -/
theorem own_bodyZ {y : MethodName} {cd : ByteArray} {mx : Nat} {rt : Option FieldType} {ws : List Jvm.Cond} {rm : Room} {Z : State} {as : Array Value} (hp : plainFor y = true)
    (go : ∀ (p : Program) (e : Env) (m : MethodId) (below : List Frame) (meth : Method) (c : Code) (s₁ : State), p.tables.exec = Jvm.exec → c.code = cd → c.maxLocals = mx → Z.vm.findClass y.cls = some m.cls → meth.name = y.name → meth.sig.returnType = rt → meth.locks = false →
      Stand p l e rm Z m as below meth c s₁ [] 0 0 → s₁.heap = Z.heap → own_Go p.tables e below (own_FW Z Q rm.cells rm.slots) (s₁.setTop (entryFrame m as mx))) :
    MetFree l y (head1 (Jvm.Cond.code y cd mx rt :: ws) rm) (fun a U => a = as ∧ U = Z) (fun _ _ _ _ _ => True) (fun _ U o U' => ∃ v L, o = .returned v ∧ Q v U'.heap L ∧ ReturnedEndW U o U' L rm.cells rm.slots) := by
  refine MetFree.of_bodySF hp hisR ?_
  intro p e s m args below meth c s₁ Bd hml0 hP hK
  obtain ⟨rfl, rfl⟩ := hP
  exact go p e m below meth c s₁ Bd.exec Bd.bytes hml0 (findClass_of_methodNamed Bd.named) (name_of_methodNamed Bd.named Bd.method).1 Bd.returns Bd.notSynchronized (Stand.of_body Bd) (by rw [Bd.state]; rfl)
end OwnW

theorem own_wS {Z : State} {a0 : Array Value} (hw : ∀ d ∈ tables_1, d.before a0 Z = true) : ∀ a ∈ Bundle.stringAtoms, a.before a0 Z = true := by
  intro d hd
  simp only [Bundle.stringAtoms, List.mem_cons, List.not_mem_nil, or_false] at hd
  rcases hd with rfl | rfl | rfl | rfl | rfl | rfl | rfl
  · exact (hw _ (List.mem_of_getElem? (i := 6) rfl))
  · exact (hw _ (List.mem_of_getElem? (i := 7) rfl))
  · exact (hw _ (List.mem_of_getElem? (i := 8) rfl))
  · exact (hw _ (List.mem_of_getElem? (i := 9) rfl))
  · exact (hw _ (List.mem_of_getElem? (i := 10) rfl))
  · exact (hw _ (List.mem_of_getElem? (i := 11) rfl))
  · exact (hw _ (List.mem_of_getElem? (i := 12) rfl))
section OwnQuot
open Jvm.FP.Core
theorem own_cross {a s c d : Nat} {q r : Int} (h1 : c * 2 ^ q.toNat = a * 2 ^ (-q).toNat) (h2 : d * 2 ^ r.toNat = s * 2 ^ (-r).toNat) :
    c * s * 2 ^ (q - r - 0).toNat = a * d * 2 ^ (0 - (q - r)).toNat := by
  have e : (-q).toNat + r.toNat + (q - r - 0).toNat = (0 - (q - r)).toNat + q.toNat + (-r).toNat := by omega
  apply Nat.eq_of_mul_eq_mul_right (Nat.mul_pos (Nat.two_pow_pos q.toNat) (Nat.two_pow_pos (-r).toNat))
  calc c * s * 2 ^ (q - r - 0).toNat * (2 ^ q.toNat * 2 ^ (-r).toNat)
      = (c * 2 ^ q.toNat) * (s * 2 ^ (-r).toNat) * 2 ^ (q - r - 0).toNat := by ac_rfl
    _ = (a * 2 ^ (-q).toNat) * (d * 2 ^ r.toNat) * 2 ^ (q - r - 0).toNat := by rw [h1, ← h2]
    _ = a * d * 2 ^ ((-q).toNat + r.toNat + (q - r - 0).toNat) := by rw [Nat.pow_add, Nat.pow_add]; ac_rfl
    _ = a * d * 2 ^ ((0 - (q - r)).toNat + q.toNat + (-r).toNat) := by rw [e]
    _ = a * d * 2 ^ (0 - (q - r)).toNat * (2 ^ q.toNat * 2 ^ (-r).toNat) := by rw [Nat.pow_add, Nat.pow_add]; ac_rfl
theorem own_l2d {a : Int64} (h0 : 0 ≤ a.toInt) (h1 : a.toInt ≤ 2 ^ 53) : ∃ c q, val64 (FP.l2d a) = .fin false c q ∧ c * 2 ^ q.toNat = a.toInt.toNat * 2 ^ (-q).toNat := by
  obtain ⟨c, q, e⟩ := l2d_shape a
  have w : Whole a.toInt (val64 (l2d a)) := l2d_int (by omega)
  rw [e, show decide (a.toInt < 0) = false from by simp; omega] at w
  refine ⟨c, q, ?_, ?_⟩
  · show val64 (l2d a) = _
    rw [e, show decide (a.toInt < 0) = false from by simp; omega]
  · have w' : ((c * 2 ^ q.toNat : Nat) : Int) = a.toInt * ((2 ^ (-q).toNat : Nat) : Int) := w
    have z : a.toInt = ((a.toInt.toNat : Nat) : Int) := by omega
    rw [z] at w'
    exact_mod_cast w'
/-- a quotient of two whole numbers, rounded once -/
theorem own_quot {a s : Int64} (a0 : 0 ≤ a.toInt) (a1 : a.toInt ≤ 2 ^ 53) (s0 : 0 < s.toInt) (s1 : s.toInt ≤ 2 ^ 53) : val64 (FP.ddiv (FP.l2d a) (FP.l2d s)) = roundRatio b64 false a.toInt.toNat s.toInt.toNat 0 := by
  obtain ⟨c, q, e1, w1⟩ := own_l2d a0 a1
  obtain ⟨d, r, e2, w2⟩ := own_l2d (by omega) s1
  have hs : 0 < s.toInt.toNat := by omega
  have hd : 0 < d := by
    rcases Nat.eq_zero_or_pos d with h | h
    · rw [h, Nat.zero_mul] at w2
      have := Nat.mul_pos hs (Nat.two_pow_pos (-r).toNat)
      omega
    · exact h
  show val64 (ddiv (l2d a) (l2d s)) = _
  rw [val64_ddiv]
  rw [show val64 (l2d a) = _ from e1, show val64 (l2d s) = _ from e2]
  show (if d = 0 then _ else roundRatio b64 (false != false) c d (q - r)) = _
  rw [if_neg (by omega)]
  exact roundRatio_congr hd hs (own_cross w1 w2)
theorem own_le {A S : Nat} {v : UInt64} (hS : 0 < S) (hv : val64 v ≠ .nan) (h : A * 2 ^ 1074 ≤ zmag b64 (val64 v) * S) : zmag b64 (roundRatio b64 false A S 0) ≤ zmag b64 (val64 v) :=
  zmag_roundRatio_le good_b64 hS (val64_fits v) hv (e0 := b64.qmin) (Int.le_refl _) (by decide) (by
    rw [show (b64.qmin - b64.qmin).toNat = 0 from by omega, Nat.pow_zero, Nat.mul_one]
    exact h)
theorem own_ge {A S : Nat} {v : UInt64} (hS : 0 < S) (h : zmag b64 (val64 v) * S ≤ A * 2 ^ 1074) : zmag b64 (val64 v) ≤ zmag b64 (roundRatio b64 false A S 0) :=
  zmag_roundRatio_ge good_b64 hS (val64_fits v) (e0 := b64.qmin) (Int.le_refl _) (by decide) (by
    rw [show (b64.qmin - b64.qmin).toNat = 0 from by omega, Nat.pow_zero, Nat.mul_one]
    exact h)
def own_ref (c : Nat) : UInt64 := FP.ddiv (FP.i2d (Int32.ofNat c)) (4620693217682128896 : UInt64)
theorem own_refs : ∀ c : Fin 9, val64 (own_ref c.1) ≠ .nan ∧ sgn (val64 (own_ref c.1)) = false ∧ zmag b64 (val64 (own_ref c.1)) = c.1 * 2 ^ 1071 ∧
    (c.1 = 0 ∨ (val64 (own_ref c.1 - 1) ≠ .nan ∧ zmag b64 (val64 (own_ref c.1 - 1)) < c.1 * 2 ^ 1071 ∧ c.1 * 2 ^ 1071 ≤ zmag b64 (val64 (own_ref c.1 - 1)) + 2 ^ 1021)) ∧
    c.1 * 2 ^ 1071 < zmag b64 (val64 (own_ref c.1 + 1)) ∧ zmag b64 (val64 (own_ref c.1 + 1)) ≤ c.1 * 2 ^ 1071 + 2 ^ 1022 := by decide +kernel
theorem own_cmpQ {A S c : Nat} (hc : c < 9) (hS : 0 < S) (hS1 : S ≤ 2 ^ 40) :
    (8 * A < c * S → zmag b64 (roundRatio b64 false A S 0) < c * 2 ^ 1071) ∧ (8 * A = c * S → zmag b64 (roundRatio b64 false A S 0) = c * 2 ^ 1071) ∧ (c * S < 8 * A → c * 2 ^ 1071 < zmag b64 (roundRatio b64 false A S 0)) := by
  obtain ⟨n1, -, z1, lo, h1, h2⟩ := own_refs ⟨c, hc⟩
  dsimp only at n1 z1 lo h1 h2
  have e8 : A * 2 ^ 1074 = 8 * A * 2 ^ 1071 := by rw [show (2 : Nat) ^ 1074 = 8 * 2 ^ 1071 from by decide +kernel]; exact (fun M => by ac_rfl : ∀ M : Nat, A * (8 * M) = 8 * A * M) _
  have b1 : 2 ^ 1021 * S ≤ 2 ^ 1071 := Nat.le_trans (Nat.mul_le_mul_left _ hS1) (by decide +kernel)
  have b2 : 2 ^ 1022 * S ≤ 2 ^ 1071 := Nat.le_trans (Nat.mul_le_mul_left _ hS1) (by decide +kernel)
  generalize (2 : Nat) ^ 1071 = M at *
  generalize (2 : Nat) ^ 1021 = m1 at *
  generalize (2 : Nat) ^ 1022 = m2 at *
  refine ⟨fun h => ?_, fun h => ?_, fun h => ?_⟩
  · rcases lo with rfl | ⟨l1, l2, l3⟩
    · omega
    · refine Nat.lt_of_le_of_lt (own_le hS l1 ?_) l2
      rw [e8]
      generalize zmag b64 (val64 (own_ref c - 1)) = y at *
      have k1 : (8 * A + 1) * M ≤ c * S * M := Nat.mul_le_mul_right _ h
      have k2 : c * M * S ≤ (y + m1) * S := Nat.mul_le_mul_right _ l3
      have k3 : c * S * M = c * M * S := by ac_rfl
      rw [Nat.add_mul] at k1 k2
      omega
  · refine Nat.le_antisymm ?_ ?_
    · rw [← z1]; refine own_le hS n1 ?_
      rw [e8, z1, h]
      exact Nat.le_of_eq (by ac_rfl)
    · rw [← z1]; refine own_ge hS ?_
      rw [e8, z1, h]
      exact Nat.le_of_eq (by ac_rfl)
  · refine Nat.lt_of_lt_of_le h1 (own_ge hS ?_)
    rw [e8]
    generalize zmag b64 (val64 (own_ref c + 1)) = y at *
    have k1 : (c * S + 1) * M ≤ 8 * A * M := Nat.mul_le_mul_right _ h
    have k2 : y * S ≤ (c * M + m2) * S := Nat.mul_le_mul_right _ h2
    have k3 : c * S * M = c * M * S := by ac_rfl
    rw [Nat.add_mul] at k1 k2
    omega
theorem own_nn {x : UInt64} (h : val64 x ≠ .nan) : x &&& 0x7fffffffffffffff ≤ 0x7ff0000000000000 := by
  refine Jvm.Free.Fl.noNaN64_no.mpr ?_
  cases q : FP.dIsNaN x with
  | false => exact q
  | true => exact absurd ((dIsNaN_iff x).mp q) h
theorem own_q_nn {a s : Int64} (a0 : 0 ≤ a.toInt) (a1 : a.toInt ≤ 2 ^ 53) (s0 : 0 < s.toInt) (s1 : s.toInt ≤ 2 ^ 53) : val64 (FP.ddiv (FP.l2d a) (FP.l2d s)) ≠ .nan := by
  rw [own_quot a0 a1 s0 s1]; exact roundRatio_ne_nan _ _ _ _ _
theorem own_zv {d : Datum} (h : sgn d = false) : zval b64 d = (zmag b64 d : Int) := by unfold zval; rw [h]; rfl
/-- the quotient against c eighths, as the model compares -/
theorem own_cmpD {a s : Int64} {c : Nat} (hc : c < 9) (a0 : 0 ≤ a.toInt) (a1 : a.toInt ≤ 2 ^ 40) (s0 : 0 < s.toInt) (s1 : s.toInt ≤ 2 ^ 40) :
    FP.dcmp (FP.ddiv (FP.l2d a) (FP.l2d s)) (own_ref c) = some (if 8 * a.toInt < c * s.toInt then .lt else if c * s.toInt < 8 * a.toInt then .gt else .eq) := by
  have hq := own_quot a0 (by omega) s0 (show s.toInt ≤ 2 ^ 53 by omega)
  have nn := own_q_nn a0 (by omega) s0 (show s.toInt ≤ 2 ^ 53 by omega)
  obtain ⟨n1, g1, z1, -⟩ := own_refs ⟨c, hc⟩
  dsimp only at n1 g1 z1
  show dcmp _ _ = _
  rw [dcmp_zval nn n1]
  have gq : sgn (val64 (FP.ddiv (FP.l2d a) (FP.l2d s))) = false := by rw [hq]; exact sgn_roundRatio _ _ _ _ _
  rw [own_zv gq, own_zv g1, z1, hq]
  obtain ⟨k1, k2, k3⟩ := own_cmpQ (A := a.toInt.toNat) (S := s.toInt.toNat) hc (by omega) (by omega)
  generalize zmag b64 (roundRatio b64 false a.toInt.toNat s.toInt.toNat 0) = y at *
  generalize c * 2 ^ 1071 = w at *
  have ea : a.toInt = (a.toInt.toNat : Int) := by omega
  have es : s.toInt = (s.toInt.toNat : Int) := by omega
  rw [ea, es]
  generalize a.toInt.toNat = A at *
  generalize s.toInt.toNat = S at *
  have cast : ∀ x y : Nat, ((x : Int) < (y : Int)) ↔ x < y := fun x y => by omega
  have e1 : (8 * (A : Int) < (c : Int) * (S : Int)) ↔ 8 * A < c * S := by rw [← cast]; push_cast; rfl
  have e2 : ((c : Int) * (S : Int) < 8 * (A : Int)) ↔ c * S < 8 * A := by rw [← cast]; push_cast; rfl
  congr 1
  rcases Nat.lt_trichotomy (8 * A) (c * S) with h | h | h
  · rw [if_pos (e1.mpr h)]
    have := k1 h
    simp only [compare, compareOfLessAndEq]
    rw [if_pos (by omega)]
  · rw [if_neg (fun q => by have := e1.mp q; omega), if_neg (fun q => by have := e2.mp q; omega)]
    have := k2 h
    simp only [compare, compareOfLessAndEq]
    rw [if_neg (by omega), if_pos (by omega)]
  · rw [if_neg (fun q => by have := e1.mp q; omega), if_pos (e2.mpr h)]
    have := k3 h
    simp only [compare, compareOfLessAndEq]
    rw [if_neg (by omega), if_neg (by omega)]
/-- the same quotient, both sides k times -/
theorem own_scale {a s a' s' : Int64} (k : Nat) (hk : 0 < k) (a0 : 0 ≤ a.toInt) (a1 : a.toInt ≤ 2 ^ 53) (s0 : 0 < s.toInt) (s1 : s.toInt ≤ 2 ^ 53) (ea : a'.toInt = k * a.toInt) (es : s'.toInt = k * s.toInt) (a1' : a'.toInt ≤ 2 ^ 53) (s1' : s'.toInt ≤ 2 ^ 53) :
    FP.ddiv (FP.l2d a') (FP.l2d s') = FP.ddiv (FP.l2d a) (FP.l2d s) := by
  have p1 : 0 ≤ a'.toInt := by rw [ea]; exact Int.mul_nonneg (by omega) a0
  have p2 : 0 < s'.toInt := by rw [es]; exact Int.mul_pos (by omega) s0
  refine val64_inj (own_q_nn p1 a1' p2 s1') ?_
  rw [own_quot p1 a1' p2 s1', own_quot a0 a1 s0 s1]
  refine roundRatio_congr (by omega) (by omega) ?_
  have h1 : a'.toInt.toNat = k * a.toInt.toNat := by rw [ea]; have : a.toInt = (a.toInt.toNat : Int) := by omega
                                                     rw [this]; exact_mod_cast rfl
  have h2 : s'.toInt.toNat = k * s.toInt.toNat := by rw [es]; have : s.toInt = (s.toInt.toNat : Int) := by omega
                                                     rw [this]; exact_mod_cast rfl
  rw [h1, h2]
  show k * a.toInt.toNat * s.toInt.toNat * 2 ^ 0 = a.toInt.toNat * (k * s.toInt.toNat) * 2 ^ 0
  ac_rfl
end OwnQuot
def own_pr (w1 w2 : Int64) : UInt64 := if w1 = (0 : Int64) then FP.dconst0 else FP.ddiv (FP.l2d w2) (FP.l2d w1)
def own_Ok (B : Int) (s a r : Int64) : Prop := 0 ≤ a.toInt ∧ a.toInt ≤ s.toInt ∧ a.toInt ≤ r.toInt ∧ s.toInt ≤ B ∧ r.toInt ≤ 2 * B
theorem own_lt64 (x y : Int64) : x < y ↔ x.toInt < y.toInt := Int64.lt_iff_toInt_lt
theorem own_ne0 {x : Int64} (h : ¬ x = 0) : x.toInt ≠ 0 := fun q => h (Int64.toInt_inj.mp q)
theorem own_Ok.i1 {B : Int} {s a r : Int64} (h : own_Ok B s a r) : ¬ a < (0 : Int64) := by rw [own_lt64]; have := h.1; show ¬ a.toInt < 0; omega
theorem own_Ok.i2 {B : Int} {s a r : Int64} (h : own_Ok B s a r) : ¬ s < a := by rw [own_lt64]; have := h.2.1; omega
theorem own_Ok.i3 {B : Int} {s a r : Int64} (h : own_Ok B s a r) : ¬ r < a := by rw [own_lt64]; have := h.2.2.1; omega
theorem own_Ok.nv {B : Int} {s a r : Int64} (h : own_Ok B s a r) (hB : B ≤ 2 ^ 53) (h0 : ¬ s = 0) : FP.Core.val64 (FP.ddiv (FP.l2d a) (FP.l2d s)) ≠ .nan := by
  obtain ⟨h1, h2, h3, h4, h5⟩ := h
  have := own_ne0 h0
  exact own_q_nn h1 (by omega) (by omega) (by omega)
theorem own_Ok.nn {B : Int} {s a r : Int64} (h : own_Ok B s a r) (hB : B ≤ 2 ^ 53) : ¬ s = (0 : Int64) → FP.ddiv (FP.l2d a) (FP.l2d s) &&& 0x7fffffffffffffff ≤ 0x7ff0000000000000 := fun h0 => own_nn (h.nv hB h0)
theorem own_mask (x : Int64) : 0 ≤ (x &&& (1099511627775 : Int64)).toInt ∧ (x &&& (1099511627775 : Int64)).toInt < 2 ^ 40 := by
  rw [c_maskL x _ 40 (by decide) (by decide)]; omega
theorem own_s1 {s p0 : Int64} (hs : s = p0 &&& (1099511627775 : Int64)) : (s + (1 : Int64)).toInt = s.toInt + 1 ∧ 0 ≤ s.toInt ∧ s.toInt < 2 ^ 40 := by
  have b := own_mask p0
  rw [← hs] at b
  have e := c_ladd s 1
  have r := rng64 (s + 1)
  have z : (1 : Int64).toInt = 1 := rfl
  omega
theorem own_s1n {s p0 : Int64} (hs : s = p0 &&& (1099511627775 : Int64)) : s + (1 : Int64) ≠ 0 := fun q => by
  have := own_s1 hs
  rw [q] at this
  have z : (0 : Int64).toInt = 0 := rfl
  omega
theorem own_ok0 {s r y : Int64} (hs : s = 0) (hr : r = (0 : Int64) + (y &&& (1099511627775 : Int64))) : own_Ok (2 ^ 40) s (0 : Int64) r := by
  have b := own_mask y
  rw [Int64.zero_add] at hr
  rw [← hr] at b
  subst hs
  have z : (0 : Int64).toInt = 0 := rfl
  refine ⟨?_, ?_, ?_, ?_, ?_⟩ <;> omega
theorem own_ok1 {s a r p0 x y : Int64} (hs : s = p0 &&& (1099511627775 : Int64)) (ha : a = (x &&& (1099511627775 : Int64)) - ((x &&& (1099511627775 : Int64)) / (s + (1 : Int64))) * (s + (1 : Int64))) (hr : r = a + (y &&& (1099511627775 : Int64))) : own_Ok (2 ^ 40) s a r := by
  obtain ⟨e1, b1, b2⟩ := own_s1 hs
  have bx := own_mask x
  have by_ := own_mask y
  have e2 := (c_lrem (x &&& (1099511627775 : Int64)) (s + 1) _ e1).1 bx.1
  rw [← ha] at e2
  have m1 : 0 ≤ a.toInt := by rw [e2]; exact Int.emod_nonneg _ (by omega)
  have m2 : a.toInt < s.toInt + 1 := by rw [e2]; exact Int.emod_lt_of_pos _ (by omega)
  have e3 := c_ladd a (y &&& (1099511627775 : Int64))
  rw [← hr] at e3
  have rr := rng64 r
  refine ⟨?_, ?_, ?_, ?_, ?_⟩ <;> omega
theorem own_k {k : Int64} {p : Int32} (hk : k = ((p &&& (7 : Int32)) + (1 : Int32)).toInt64) : 1 ≤ k.toInt ∧ k.toInt ≤ 8 := by
  have b := c_mask p (7 : Int32) 3 (by decide) (by decide)
  have e := c_iadd (p &&& (7 : Int32)) 1
  have r := rng32 ((p &&& (7 : Int32)) + 1)
  have z : (1 : Int32).toInt = 1 := rfl
  rw [hk, Int32.toInt_toInt64]
  omega
theorem own_mulI {k x : Int64} (hk : 1 ≤ k.toInt ∧ k.toInt ≤ 8) (h0 : 0 ≤ x.toInt) (h1 : x.toInt ≤ 2 ^ 41) : (k * x).toInt = k.toInt * x.toInt ∧ 0 ≤ k.toInt * x.toInt ∧ x.toInt ≤ k.toInt * x.toInt ∧ k.toInt * x.toInt ≤ 8 * x.toInt := by
  have e := c_lmul k x
  have r := rng64 (k * x)
  have p1 : 1 * x.toInt ≤ k.toInt * x.toInt := Int.mul_le_mul_of_nonneg_right hk.1 h0
  have p2 : k.toInt * x.toInt ≤ 8 * x.toInt := Int.mul_le_mul_of_nonneg_right hk.2 h0
  refine ⟨?_, ?_, ?_, p2⟩ <;> omega
theorem own_Ok.mul {s a r k : Int64} (h : own_Ok (2 ^ 40) s a r) (hk : 1 ≤ k.toInt ∧ k.toInt ≤ 8) : own_Ok (2 ^ 43) (k * s) (k * a) (k * r) := by
  obtain ⟨h1, h2, h3, h4, h5⟩ := h
  obtain ⟨a1, a2, a3, a4⟩ := own_mulI hk h1 (by omega)
  obtain ⟨s1, s2, s3, s4⟩ := own_mulI hk (show 0 ≤ s.toInt by omega) (by omega)
  obtain ⟨r1, r2, r3, r4⟩ := own_mulI hk (show 0 ≤ r.toInt by omega) (by omega)
  have m1 : k.toInt * a.toInt ≤ k.toInt * s.toInt := Int.mul_le_mul_of_nonneg_left h2 (by omega)
  have m2 : k.toInt * a.toInt ≤ k.toInt * r.toInt := Int.mul_le_mul_of_nonneg_left h3 (by omega)
  unfold own_Ok
  rw [a1, s1, r1]
  refine ⟨?_, ?_, ?_, ?_, ?_⟩ <;> omega
theorem own_prK {s a r k : Int64} (h : own_Ok (2 ^ 40) s a r) (hk : 1 ≤ k.toInt ∧ k.toInt ≤ 8) : own_pr (k * s) (k * a) = own_pr s a := by
  have hm := h.mul hk
  obtain ⟨h1, h2, h3, h4, h5⟩ := h
  obtain ⟨a1, a2, a3, a4⟩ := own_mulI hk h1 (by omega)
  obtain ⟨s1, s2, s3, s4⟩ := own_mulI hk (show 0 ≤ s.toInt by omega) (by omega)
  unfold own_pr
  by_cases q : s = 0
  · rw [if_pos q, if_pos (by rw [q, Int64.mul_zero])]
  · have s0 := own_ne0 q
    rw [if_neg q, if_neg (fun z => by rw [z] at s1; have z0 : (0 : Int64).toInt = 0 := rfl; omega)]
    have ek : k.toInt = ((k.toInt.toNat : Nat) : Int) := by omega
    exact own_scale k.toInt.toNat (by omega) h1 (by omega) (by omega) (by omega) (by rw [a1, ← ek]) (by rw [s1, ← ek]) (by omega) (by omega)
theorem own_prC {s a r : Int64} {c : Nat} (h : own_Ok (2 ^ 40) s a r) (h0 : ¬ s = 0) (hc : c < 9) : FP.dcmp (own_pr s a) (own_ref c) = some (if 8 * a.toInt < c * s.toInt then .lt else if c * s.toInt < 8 * a.toInt then .gt else .eq) := by
  obtain ⟨h1, h2, h3, h4, h5⟩ := h
  have := own_ne0 h0
  unfold own_pr
  rw [if_neg h0]
  exact own_cmpD hc h1 (by omega) (by omega) h4
theorem own_c0 {s a r : Int64} (h : own_Ok (2 ^ 40) s a r) : ¬ cmpValue (FP.dcmp (own_pr s a) FP.dconst0) .l < (0 : Int32) := by
  by_cases q : s = 0
  · unfold own_pr; rw [if_pos q]; decide +kernel
  · rw [show FP.dconst0 = own_ref 0 from by decide +kernel, own_prC h q (by decide)]
    have := h.1
    rw [if_neg (by simp; omega)]
    split <;> decide
theorem own_c1 {s a r : Int64} (h : own_Ok (2 ^ 40) s a r) : ¬ (0 : Int32) < cmpValue (FP.dcmp (own_pr s a) FP.dconst1) .g := by
  by_cases q : s = 0
  · unfold own_pr; rw [if_pos q]; decide +kernel
  · rw [show FP.dconst1 = own_ref 8 from by decide +kernel, own_prC h q (by decide)]
    have := h.2.1
    rw [if_neg (c := ((8 : Nat) : Int) * s.toInt < 8 * a.toInt) (by simp; omega)]
    split <;> decide
theorem own_prN {s a r : Int64} (h : own_Ok (2 ^ 40) s a r) : FP.Core.val64 (own_pr s a) ≠ .nan := by
  unfold own_pr
  split
  · decide +kernel
  · rename_i q; exact h.nv (by decide) q
theorem own_c2 {s a r k : Int64} (h : own_Ok (2 ^ 40) s a r) (hk : 1 ≤ k.toInt ∧ k.toInt ≤ 8) : cmpValue (FP.dcmp (own_pr s a) (own_pr (k * s) (k * a))) .l = (0 : Int32) := by
  rw [own_prK h hk, show FP.dcmp (own_pr s a) (own_pr s a) = some .eq from FP.Core.dcmp_self (own_prN h)]
  decide
theorem own_c3 {s a : Int64} (h : s = 0) : cmpValue (FP.dcmp (own_pr s a) FP.dconst0) .l = (0 : Int32) := by
  unfold own_pr; rw [if_pos h]; decide +kernel
theorem own_cn {v p : Int32} (h : v = (p &&& (2147483647 : Int32)) % (9 : Int32)) : ∃ n : Nat, n < 9 ∧ v = Int32.ofNat n := by
  have a := c_mask p (2147483647 : Int32) 31 (by decide) (by decide)
  have b := (c_irem (p &&& (2147483647 : Int32)) (9 : Int32) 9 rfl).1 (by omega)
  rw [← h] at b
  refine ⟨v.toInt.toNat, by omega, ?_⟩
  apply Int32.toInt_inj.mp
  rw [Int32.toInt_ofNat_of_lt (by omega)]
  omega
theorem own_rn {v : Int32} {n : Nat} (hn : n < 9) (h : v = Int32.ofNat n) : FP.ddiv (FP.i2d v) (4620693217682128896 : UInt64) &&& 0x7fffffffffffffff ≤ 0x7ff0000000000000 := by
  rw [h]; exact own_nn (own_refs ⟨n, hn⟩).1
theorem own_fin {s a r : Int64} {v : Int32} {n : Nat} (h : own_Ok (2 ^ 40) s a r) (h0 : ¬ s = 0) (hn : n < 9) (hv : v = Int32.ofNat n) {l1 l2 : Int64} (e1 : l1 = (8 : Int64) * a) (e2 : l2 = v.toInt64 * s) :
    (if l1 < l2 then (-1 : Int32) else if l2 < l1 then (1 : Int32) else (0 : Int32)) = (if cmpValue (FP.dcmp (own_pr s a) (FP.ddiv (FP.i2d v) (4620693217682128896 : UInt64))) .g < (0 : Int32) then (-1 : Int32) else if (0 : Int32) < cmpValue (FP.dcmp (own_pr s a) (FP.ddiv (FP.i2d v) (4620693217682128896 : UInt64))) .l then (1 : Int32) else (0 : Int32)) := by
  have hr : FP.ddiv (FP.i2d v) (4620693217682128896 : UInt64) = own_ref n := by rw [hv]; rfl
  rw [hr, own_prC h h0 hn]
  obtain ⟨h1, h2, h3, h4, h5⟩ := h
  have i1 : l1.toInt = 8 * a.toInt := by
    rw [e1]
    have e := c_lmul (8 : Int64) a
    have r := rng64 ((8 : Int64) * a)
    have z : (8 : Int64).toInt = 8 := rfl
    rw [z] at e
    omega
  have vn : v.toInt64.toInt = n := by rw [Int32.toInt_toInt64, hv, Int32.toInt_ofNat_of_lt (by omega)]
  have i2 : l2.toInt = n * s.toInt := by
    rw [e2]
    have e := c_lmul v.toInt64 s
    have r := rng64 (v.toInt64 * s)
    rw [vn] at e
    have p1 : 0 ≤ (n : Int) * s.toInt := Int.mul_nonneg (by omega) (by omega)
    have p2 : (n : Int) * s.toInt ≤ 8 * s.toInt := Int.mul_le_mul_of_nonneg_right (by omega) (by omega)
    omega
  have j1 : l1 < l2 ↔ 8 * a.toInt < (n : Int) * s.toInt := by rw [own_lt64, i1, i2]
  have j2 : l2 < l1 ↔ (n : Int) * s.toInt < 8 * a.toInt := by rw [own_lt64, i1, i2]
  by_cases c1 : 8 * a.toInt < (n : Int) * s.toInt
  · rw [if_pos (j1.mpr c1), if_pos c1, if_pos (by decide)]
  · rw [if_neg (fun q => c1 (j1.mp q)), if_neg c1]
    by_cases c2 : (n : Int) * s.toInt < 8 * a.toInt
    · rw [if_pos (j2.mpr c2), if_pos c2, if_neg (by decide), if_pos (by decide)]
    · rw [if_neg (fun q => c2 (j2.mp q)), if_neg c2, if_neg (by decide), if_neg (by decide)]

theorem d2_0 : decode jdk_30_method_1_code 0 = .ok (.aload_n 0, 1) := by decide +kernel
theorem d2_1 : decode jdk_30_method_1_code 1 = .ok (.invokespecial 1, 3) := by decide +kernel
theorem d2_4 : decode jdk_30_method_1_code 4 = .ok (.return_, 1) := by decide +kernel
theorem pn2 : plainName "java/lang/Record" = true := by first | (simp [plainName, overriddenIn]; done) | decide +kernel
theorem ef2 (m : MethodId) (a : Addr) : entryFrame m #[(.ref a)] 1 = mkF m 0 #[.val (.ref a)] [] := by first | (simp [entryFrame, mkF, argsToLocals, Value.category]; done) | rfl
def Q2 (Z : State) (a : Addr) (h0 : Heap) (n0 : Nat) (v : Option Value) (h : Heap) (L : List Loc) : Prop := v = none ∧ Fr n0 L ∧ h = h0
set_option maxRecDepth 65536 in
set_option maxHeartbeats 40000000 in
theorem rm2 (l : Launch) (Z : State) (a0 : Array Value) (hw : ∀ d ∈ tables_1, d.before a0 Z = true) (ws : List Jvm.Cond) (a : Addr) (h0 : Heap) (n0 : Nat) (Z0 : n0 ≤ h0.size)  :
    MetFree l (⟨"java/lang/Record", "<init>", "()V"⟩ : MethodName) (head1 (Jvm.Cond.code (⟨"java/lang/Record", "<init>", "()V"⟩ : MethodName) jdk_30_method_1_code 1 none :: ws) ({ frames := 1, cells := 0, slots := 0, locals := 12 } : Room)) (fun as' U => as' = #[(.ref a)] ∧ Z.Warmed39 U.vm ∧ U.heap = h0) (fun _ _ _ _ _ => True) (fun _ U o U' => ∃ v L, o = .returned v ∧ Q2 Z a h0 n0 v U'.heap L ∧ FrameEnd U o U' L ({ frames := 1, cells := 0, slots := 0, locals := 12 } : Room).cells ({ frames := 1, cells := 0, slots := 0, locals := 12 } : Room).slots) := by
  refine own_body (plainFor_of_name pn2) ?_
  intro p e s m below meth c s₁ hx hby hml hown0 hnm hret hlk hZ X0 e0
  have hown : s.vm.findClass "java/lang/Record" = some m.cls := hown0
  have N0 := Fr.nil n0
  rw [ef2]
  show own_Go p.tables e below _ (s₁.setTop (mkF m 0 #[.val (.ref a)] []))
  refine own_st (S' := s₁.setTop (mkF m 1 #[.val (.ref a)] [(.ref a)])) (fun t k => XS.aloadN X0.here hx rfl (hb hby d2_0) rfl rfl k) ?_
  obtain ⟨T1, X1, e1, st1⟩ := initO X0 hx hZ hown (hw _ (List.mem_of_getElem? (i := 21) rfl)) (hw _ (List.mem_of_getElem? (i := 22) rfl)) (hw _ (List.mem_of_getElem? (i := 23) rfl)) e0 (g := (mkF m 1 #[.val (.ref a)] [(.ref a)])) rfl (by rw [hml]; rfl) rfl (hb hby d2_1) (by decide) (W := 0) (by show 2 * 0 + _ ≤ _; exact Nat.le_of_eq rfl) (by decide)
  refine own_st st1 ?_
  show own_Go p.tables e below _ (T1.setTop (mkF m 4 #[.val (.ref a)] []))
  refine own_retV X1 hx hret hlk (hb hby d2_4) ?_ (by decide) (by decide)
  rw [e1]
  exact ⟨rfl, N0, rfl⟩
theorem d3_0 : decode jdk_31_method_11_code 0 = .ok (.aload_n 0, 1) := by decide +kernel
theorem d3_1 : decode jdk_31_method_11_code 1 = .ok (.ifnonnull 12, 3) := by decide +kernel
theorem d3_13 : decode jdk_31_method_11_code 13 = .ok (.aload_n 0, 1) := by decide +kernel
theorem d3_14 : decode jdk_31_method_11_code 14 = .ok (.areturn, 1) := by decide +kernel
theorem pn3 : plainName "java/util/Objects" = true := by first | (simp [plainName, overriddenIn]; done) | decide +kernel
theorem ef3 (m : MethodId) (r1 : Addr) (r2 : Addr) : entryFrame m #[(.ref r1), (.ref r2)] 2 = mkF m 0 #[.val (.ref r1), .val (.ref r2)] [] := by first | (simp [entryFrame, mkF, argsToLocals, Value.category]; done) | rfl
def Q3 (Z : State) (r1 : Addr) (r2 : Addr) (h0 : Heap) (n0 : Nat) (v : Option Value) (h : Heap) (L : List Loc) : Prop := v = some (.ref r1) ∧ Fr n0 L ∧ h = h0
set_option maxRecDepth 65536 in
set_option maxHeartbeats 40000000 in
theorem rm3 (l : Launch) (Z : State) (a0 : Array Value) (hw : ∀ d ∈ tables_1, d.before a0 Z = true) (ws : List Jvm.Cond) (r1 : Addr) (r2 : Addr) (h0 : Heap) (n0 : Nat) (Z0 : n0 ≤ h0.size)  :
    MetFree l (⟨"java/util/Objects", "requireNonNull", "(Ljava/lang/Object;Ljava/lang/String;)Ljava/lang/Object;"⟩ : MethodName) (head1 (Jvm.Cond.code (⟨"java/util/Objects", "requireNonNull", "(Ljava/lang/Object;Ljava/lang/String;)Ljava/lang/Object;"⟩ : MethodName) jdk_31_method_11_code 2 (some (.object "java/lang/Object")) :: ws) ({ frames := 0, cells := 0, slots := 0, locals := 0 } : Room)) (fun as' U => as' = #[(.ref r1), (.ref r2)] ∧ Z.Warmed39 U.vm ∧ U.heap = h0) (fun _ _ _ _ _ => True) (fun _ U o U' => ∃ v L, o = .returned v ∧ Q3 Z r1 r2 h0 n0 v U'.heap L ∧ FrameEnd U o U' L ({ frames := 0, cells := 0, slots := 0, locals := 0 } : Room).cells ({ frames := 0, cells := 0, slots := 0, locals := 0 } : Room).slots) := by
  refine own_body (plainFor_of_name pn3) ?_
  intro p e s m below meth c s₁ hx hby hml hown0 hnm hret hlk hZ X0 e0
  have hown : s.vm.findClass "java/util/Objects" = some m.cls := hown0
  have N0 := Fr.nil n0
  rw [ef3]
  show own_Go p.tables e below _ (s₁.setTop (mkF m 0 #[.val (.ref r1), .val (.ref r2)] []))
  refine own_st (S' := s₁.setTop (mkF m 1 #[.val (.ref r1), .val (.ref r2)] [(.ref r1)])) (fun t k => XS.aloadN X0.here hx rfl (hb hby d3_0) rfl rfl k) ?_
  refine own_st (S' := s₁.setTop (mkF m 13 #[.val (.ref r1), .val (.ref r2)] [])) (fun t k => XS.ifnonnullYes X0.here hx rfl (pc0 := 1) (pc' := 13) rfl (hb hby d3_1) rfl (by decide) (by decide) k) ?_
  show own_Go p.tables e below _ (s₁.setTop (mkF m 13 #[.val (.ref r1), .val (.ref r2)] []))
  refine own_st (S' := s₁.setTop (mkF m 14 #[.val (.ref r1), .val (.ref r2)] [(.ref r1)])) (fun t k => XS.aloadN X0.here hx rfl (hb hby d3_13) rfl rfl k) ?_
  refine own_retA X0 hx hret rfl rfl rfl hlk (hb hby d3_14) ?_ (by decide) (by decide)
  rw [e0]
  exact ⟨rfl, N0, rfl⟩
theorem d4_0 : decode prog_50_method_1_code 0 = .ok (.aload_n 0, 1) := by decide +kernel
theorem d4_1 : decode prog_50_method_1_code 1 = .ok (.invokespecial 1, 3) := by decide +kernel
theorem d4_4 : decode prog_50_method_1_code 4 = .ok (.aload_n 1, 1) := by decide +kernel
theorem d4_5 : decode prog_50_method_1_code 5 = .ok (.ldc 7, 2) := by decide +kernel
theorem d4_7 : decode prog_50_method_1_code 7 = .ok (.invokestatic 9, 3) := by decide +kernel
theorem d4_10 : decode prog_50_method_1_code 10 = .ok (.pop, 1) := by decide +kernel
theorem d4_11 : decode prog_50_method_1_code 11 = .ok (.lload 4, 2) := by decide +kernel
theorem d4_13 : decode prog_50_method_1_code 13 = .ok (.lconst 0, 1) := by decide +kernel
theorem d4_14 : decode prog_50_method_1_code 14 = .ok (.lcmp, 1) := by decide +kernel
theorem d4_15 : decode prog_50_method_1_code 15 = .ok (.ifCond .lt 18, 3) := by decide +kernel
theorem d4_18 : decode prog_50_method_1_code 18 = .ok (.lload 4, 2) := by decide +kernel
theorem d4_20 : decode prog_50_method_1_code 20 = .ok (.lload_n 2, 1) := by decide +kernel
theorem d4_21 : decode prog_50_method_1_code 21 = .ok (.lcmp, 1) := by decide +kernel
theorem d4_22 : decode prog_50_method_1_code 22 = .ok (.ifCond .gt 11, 3) := by decide +kernel
theorem d4_25 : decode prog_50_method_1_code 25 = .ok (.lload 4, 2) := by decide +kernel
theorem d4_27 : decode prog_50_method_1_code 27 = .ok (.lload 6, 2) := by decide +kernel
theorem d4_29 : decode prog_50_method_1_code 29 = .ok (.lcmp, 1) := by decide +kernel
theorem d4_30 : decode prog_50_method_1_code 30 = .ok (.ifCond .le 21, 3) := by decide +kernel
theorem d4_51 : decode prog_50_method_1_code 51 = .ok (.aload_n 0, 1) := by decide +kernel
theorem d4_52 : decode prog_50_method_1_code 52 = .ok (.aload_n 1, 1) := by decide +kernel
theorem d4_53 : decode prog_50_method_1_code 53 = .ok (.putfield 24, 3) := by decide +kernel
theorem d4_56 : decode prog_50_method_1_code 56 = .ok (.aload_n 0, 1) := by decide +kernel
theorem d4_57 : decode prog_50_method_1_code 57 = .ok (.lload_n 2, 1) := by decide +kernel
theorem d4_58 : decode prog_50_method_1_code 58 = .ok (.putfield 29, 3) := by decide +kernel
theorem d4_61 : decode prog_50_method_1_code 61 = .ok (.aload_n 0, 1) := by decide +kernel
theorem d4_62 : decode prog_50_method_1_code 62 = .ok (.lload 4, 2) := by decide +kernel
theorem d4_64 : decode prog_50_method_1_code 64 = .ok (.putfield 33, 3) := by decide +kernel
theorem d4_67 : decode prog_50_method_1_code 67 = .ok (.aload_n 0, 1) := by decide +kernel
theorem d4_68 : decode prog_50_method_1_code 68 = .ok (.lload 6, 2) := by decide +kernel
theorem d4_70 : decode prog_50_method_1_code 70 = .ok (.putfield 36, 3) := by decide +kernel
theorem d4_73 : decode prog_50_method_1_code 73 = .ok (.return_, 1) := by decide +kernel
theorem pd4_0 : parseMethodDescriptor "()V" = some ⟨[], none⟩ := by decide +kernel
theorem pd4_1 : parseMethodDescriptor "(Ljava/lang/Object;Ljava/lang/String;)Ljava/lang/Object;" = some ⟨[(.object "java/lang/Object"), (.object "java/lang/String")], some (.object "java/lang/Object")⟩ := by decide +kernel
theorem pn4 : plainName "com/example/gaithersburg/gaithersburg/TopicScore" = true := by first | (simp [plainName, overriddenIn]; done) | decide +kernel
theorem ef4 (m : MethodId) (a : Addr) (r1 : Addr) (q1 : Int64) (q2 : Int64) (q3 : Int64) : entryFrame m #[(.ref a), (.ref r1), (.long q1), (.long q2), (.long q3)] 8 = mkF m 0 #[.val (.ref a), .val (.ref r1), .val (.long q1), .second, .val (.long q2), .second, .val (.long q3), .second] [] := by first | (simp [entryFrame, mkF, argsToLocals, Value.category]; done) | rfl
def Q4 (Z : State) (a : Addr) (r1 : Addr) (q1 : Int64) (q2 : Int64) (q3 : Int64) (u1 : Int64) (u2 : Int64) (u3 : Int64) (h0 : Heap) (n0 : Nat) (v : Option Value) (h : Heap) (L : List Loc) : Prop := v = none ∧ Fr n0 L ∧ Keep h0 h [a] ∧ Exa Z h a "com/example/gaithersburg/gaithersburg/TopicScore" ∧ Fld Z h a "com/example/gaithersburg/gaithersburg/TopicScore" "shown" "J" (.long q1) ∧ Fld Z h a "com/example/gaithersburg/gaithersburg/TopicScore" "relevantShown" "J" (.long q2)
set_option maxRecDepth 65536 in
set_option maxHeartbeats 40000000 in
theorem rm4 (l : Launch) (Z : State) (a0 : Array Value) (hw : ∀ d ∈ tables_1, d.before a0 Z = true) (ws : List Jvm.Cond) (a : Addr) (r1 : Addr) (q1 : Int64) (q2 : Int64) (q3 : Int64) (u1 : Int64) (u2 : Int64) (u3 : Int64) (h0 : Heap) (n0 : Nat) (Z0 : n0 ≤ h0.size) (E_a : Exa Z h0 a "com/example/gaithersburg/gaithersburg/TopicScore") (F_a_topicId : Fld Z h0 a "com/example/gaithersburg/gaithersburg/TopicScore" "topicId" "Ljava/lang/String;" .null) (F_a_shown : Fld Z h0 a "com/example/gaithersburg/gaithersburg/TopicScore" "shown" "J" (.long u1)) (F_a_relevantShown : Fld Z h0 a "com/example/gaithersburg/gaithersburg/TopicScore" "relevantShown" "J" (.long u2)) (F_a_relevant : Fld Z h0 a "com/example/gaithersburg/gaithersburg/TopicScore" "relevant" "J" (.long u3)) (G_a : n0 ≤ a) (hA : ¬ q2 < (0 : Int64)) (hB : ¬ q1 < q2) (hC : ¬ q3 < q2) :
    MetFree l (⟨"com/example/gaithersburg/gaithersburg/TopicScore", "<init>", "(Ljava/lang/String;JJJ)V"⟩ : MethodName) (head1 (Jvm.Cond.code (⟨"com/example/gaithersburg/gaithersburg/TopicScore", "<init>", "(Ljava/lang/String;JJJ)V"⟩ : MethodName) prog_50_method_1_code 8 none :: ws) ({ frames := 2, cells := 2, slots := 32, locals := 24 } : Room)) (fun as' U => as' = #[(.ref a), (.ref r1), (.long q1), (.long q2), (.long q3)] ∧ Z.Warmed39 U.vm ∧ U.heap = h0) (fun _ _ _ _ _ => True) (fun _ U o U' => ∃ v L, o = .returned v ∧ Q4 Z a r1 q1 q2 q3 u1 u2 u3 h0 n0 v U'.heap L ∧ ReturnedEndW U o U' L ({ frames := 2, cells := 2, slots := 32, locals := 24 } : Room).cells ({ frames := 2, cells := 2, slots := 32, locals := 24 } : Room).slots) := by
  refine own_bodyW (plainFor_of_name pn4) ?_
  intro p e s m below meth c s₁ hx hby hml hown0 hnm hret hlk hZ X0 e0
  have hown : s.vm.findClass "com/example/gaithersburg/gaithersburg/TopicScore" = some m.cls := hown0
  have N0 := Fr.nil n0
  rw [ef4]
  have hS : s.Since s.vm 0 := (State.WarmedH.refl s).since 0
  have hk : 0 ≤ h0.size := Nat.zero_le _
  have X0 : Stand p l e ({ frames := 2, cells := 2, slots := 32, locals := 24 } : Room) (s.setVm s.vm) m #[(.ref a), (.ref r1), (.long q1), (.long q2), (.long q3)] below meth c s₁ [] 0 0 := X0
  have hZ : Z.Warmed39 (s.setVm s.vm).vm := hZ
  have hown : (s.setVm s.vm).vm.findClass "com/example/gaithersburg/gaithersburg/TopicScore" = some m.cls := hown
  have K0 : Keep h0 h0 [a] := Keep.refl h0 [a]
  show own_Go p.tables e below _ (s₁.setTop (mkF m 0 #[.val (.ref a), .val (.ref r1), .val (.long q1), .second, .val (.long q2), .second, .val (.long q3), .second] []))
  refine own_st (S' := s₁.setTop (mkF m 1 #[.val (.ref a), .val (.ref r1), .val (.long q1), .second, .val (.long q2), .second, .val (.long q3), .second] [(.ref a)])) (fun t k => XS.aloadN X0.here hx rfl (hb hby d4_0) rfl rfl k) ?_
  obtain ⟨_, _, ⟨T1, L1, k1, n1⟩, -, X1, ⟨Lc1, hQ1, l1, y1, z1⟩, st1⟩ := X0.specialBack hx (y := (⟨"java/lang/Record", "<init>", "()V"⟩ : MethodName)) rfl hown (mvT hZ (hw _ (List.mem_of_getElem? (i := 16) rfl))) (mvT hZ (hw _ (List.mem_of_getElem? (i := 17) rfl))) (mvT hZ (hw _ (List.mem_of_getElem? (i := 20) rfl))) (by decide) (backOf (W := 0) (rm2 l Z a0 hw [] a h0 n0 Z0 ) hZ (hw _ (List.mem_of_getElem? (i := 20) rfl)) (hw _ (List.mem_of_getElem? (i := 19) rfl)) (by decide) (by decide)) (g := (mkF m 1 #[.val (.ref a), .val (.ref r1), .val (.long q1), .second, .val (.long q2), .second, .val (.long q3), .second] [(.ref a)])) rfl (by rw [hml]; rfl) (Steps.refl _) (a := a) (argsL := []) (rest := []) (lenOf pd4_0 rfl) rfl (by show 2 * 0 + _ ≤ _; exact Nat.le_of_eq rfl) (hb hby d4_1) (fun _ _ => ⟨rfl, e0, (by decide : 0 + 0 ≤ _), (by decide : 0 + 0 ≤ _)⟩)
  dsimp only [Pt.U, Pt.locs, Pt.cells, Pt.slots] at X1 l1 y1 z1 st1 hQ1
  rw [l1, y1, z1] at X1
  obtain ⟨rfl, N1q, hh1⟩ := hQ1
  have N1 := Fr.app N0 N1q
  refine own_tr st1 ?_
  show own_Go p.tables e below _ (T1.setTop (mkF m 4 #[.val (.ref a), .val (.ref r1), .val (.long q1), .second, .val (.long q2), .second, .val (.long q3), .second] []))
  refine own_st (S' := T1.setTop (mkF m 5 #[.val (.ref a), .val (.ref r1), .val (.long q1), .second, .val (.long q2), .second, .val (.long q3), .second] [(.ref r1)])) (fun t k => XS.aloadN X1.here hx rfl (hb hby d4_4) rfl rfl k) ?_
  obtain ⟨b2, T2, h2, k2, X2, e2, E2, hS, hk, hZ, hown, st2⟩ := ldcS X1 hx hZ hown (hw _ (List.mem_of_getElem? (i := 24) rfl)) (own_wS hw) hh1 hS hk (g := (mkF m 5 #[.val (.ref a), .val (.ref r1), .val (.long q1), .second, .val (.long q2), .second, .val (.long q3), .second] [(.ref r1)])) rfl (hb hby d4_5) (n := 28) (by decide) (by decide) (by decide) (by decide)
  have f3 : Exa Z h2 a "com/example/gaithersburg/gaithersburg/TopicScore" := E_a.ext E2
  have f4 : Fld Z h2 a "com/example/gaithersburg/gaithersburg/TopicScore" "topicId" "Ljava/lang/String;" .null := F_a_topicId.ext E2
  have f5 : Fld Z h2 a "com/example/gaithersburg/gaithersburg/TopicScore" "shown" "J" (.long u1) := F_a_shown.ext E2
  have f6 : Fld Z h2 a "com/example/gaithersburg/gaithersburg/TopicScore" "relevantShown" "J" (.long u2) := F_a_relevantShown.ext E2
  have f7 : Fld Z h2 a "com/example/gaithersburg/gaithersburg/TopicScore" "relevant" "J" (.long u3) := F_a_relevant.ext E2
  have Z2 : n0 ≤ h2.size := Nat.le_trans Z0 E2.1
  have K2 : Keep h0 h2 [a] := K0.ext E2
  refine own_st st2 ?_
  show own_Go p.tables e below _ (T2.setTop (mkF m 7 #[.val (.ref a), .val (.ref r1), .val (.long q1), .second, .val (.long q2), .second, .val (.long q3), .second] [(.ref b2), (.ref r1)]))
  obtain ⟨_, _, ⟨T8, L8, k8, n8⟩, -, X8, ⟨Lc8, hQ8, l8, y8, z8⟩, st8⟩ := Jvm.LawKit.callS X2 hx (y := (⟨"java/util/Objects", "requireNonNull", "(Ljava/lang/Object;Ljava/lang/String;)Ljava/lang/Object;"⟩ : MethodName)) hown (mvT hZ (hw _ (List.mem_of_getElem? (i := 25) rfl))) (mvT hZ (hw _ (List.mem_of_getElem? (i := 26) rfl))) (mvT hZ (hw _ (List.mem_of_getElem? (i := 27) rfl))) (mvT hZ (hw _ (List.mem_of_getElem? (i := 28) rfl))) (by decide) (backOf (W := 0) (rm3 l Z a0 hw [] r1 b2 h2 n0 Z2 ) hZ (hw _ (List.mem_of_getElem? (i := 28) rfl)) (hw _ (List.mem_of_getElem? (i := 27) rfl)) (by decide) (by decide)) (g := (mkF m 7 #[.val (.ref a), .val (.ref r1), .val (.long q1), .second, .val (.long q2), .second, .val (.long q3), .second] [(.ref b2), (.ref r1)])) rfl (by rw [hml]; rfl) (argsL := [(.ref r1), (.ref b2)]) (rest := []) (lenOf pd4_1 rfl) rfl (by show 2 * 0 + _ ≤ _; exact Nat.le_of_eq rfl) (hb hby d4_7) (fun _ _ => ⟨rfl, e2, (by decide : 2 + 0 ≤ _), (by decide : 32 + 0 ≤ _)⟩)
  dsimp only [Pt.U, Pt.locs, Pt.cells, Pt.slots] at X8 l8 y8 z8 st8 hQ8
  rw [l8, y8, z8] at X8
  obtain ⟨rfl, N8q, hh8⟩ := hQ8
  have N8 := Fr.app N1 N8q
  refine own_st st8 ?_
  show own_Go p.tables e below _ (T8.setTop (mkF m 10 #[.val (.ref a), .val (.ref r1), .val (.long q1), .second, .val (.long q2), .second, .val (.long q3), .second] [(.ref r1)]))
  refine own_st (S' := T8.setTop (mkF m 11 #[.val (.ref a), .val (.ref r1), .val (.long q1), .second, .val (.long q2), .second, .val (.long q3), .second] [])) (fun t k => XS.pop X8.here hx rfl (hb hby d4_10) rfl rfl k) ?_
  refine own_st (S' := T8.setTop (mkF m 13 #[.val (.ref a), .val (.ref r1), .val (.long q1), .second, .val (.long q2), .second, .val (.long q3), .second] [(.long q2)])) (fun t k => XS.lload X8.here hx rfl (hb hby d4_11) rfl k) ?_
  refine own_st (S' := T8.setTop (mkF m 14 #[.val (.ref a), .val (.ref r1), .val (.long q1), .second, .val (.long q2), .second, .val (.long q3), .second] [(.long (0 : Int64)), (.long q2)])) (fun t k => XS.lconst X8.here hx rfl (hb hby d4_13) k) ?_
  refine own_st (S' := T8.setTop (mkF m 15 #[.val (.ref a), .val (.ref r1), .val (.long q1), .second, .val (.long q2), .second, .val (.long q3), .second] [(.int (lcmpW q2 (0 : Int64)))])) (fun t k => XS.lcmp X8.here hx rfl (hb hby d4_14) rfl k) ?_
  have hc9 : ¬ (q2 < (0 : Int64)) := hA
  refine own_st (S' := T8.setTop (mkF m 18 #[.val (.ref a), .val (.ref r1), .val (.long q1), .second, .val (.long q2), .second, .val (.long q3), .second] [])) (fun t k => XS.ifNo X8.here hx rfl (hb hby d4_15) rfl ((if0 _ _).trans (flt (mt (lw_lt _ _).mp hc9)).1) k) ?_
  show own_Go p.tables e below _ (T8.setTop (mkF m 18 #[.val (.ref a), .val (.ref r1), .val (.long q1), .second, .val (.long q2), .second, .val (.long q3), .second] []))
  refine own_st (S' := T8.setTop (mkF m 20 #[.val (.ref a), .val (.ref r1), .val (.long q1), .second, .val (.long q2), .second, .val (.long q3), .second] [(.long q2)])) (fun t k => XS.lload X8.here hx rfl (hb hby d4_18) rfl k) ?_
  refine own_st (S' := T8.setTop (mkF m 21 #[.val (.ref a), .val (.ref r1), .val (.long q1), .second, .val (.long q2), .second, .val (.long q3), .second] [(.long q1), (.long q2)])) (fun t k => XS.lloadN X8.here hx rfl (hb hby d4_20) rfl k) ?_
  refine own_st (S' := T8.setTop (mkF m 22 #[.val (.ref a), .val (.ref r1), .val (.long q1), .second, .val (.long q2), .second, .val (.long q3), .second] [(.int (lcmpW q2 q1))])) (fun t k => XS.lcmp X8.here hx rfl (hb hby d4_21) rfl k) ?_
  have hc10 : ¬ (q1 < q2) := hB
  refine own_st (S' := T8.setTop (mkF m 25 #[.val (.ref a), .val (.ref r1), .val (.long q1), .second, .val (.long q2), .second, .val (.long q3), .second] [])) (fun t k => XS.ifNo X8.here hx rfl (hb hby d4_22) rfl ((if0 _ _).trans (flt (mt (lw_gt _ _).mp hc10)).2.2.1) k) ?_
  show own_Go p.tables e below _ (T8.setTop (mkF m 25 #[.val (.ref a), .val (.ref r1), .val (.long q1), .second, .val (.long q2), .second, .val (.long q3), .second] []))
  refine own_st (S' := T8.setTop (mkF m 27 #[.val (.ref a), .val (.ref r1), .val (.long q1), .second, .val (.long q2), .second, .val (.long q3), .second] [(.long q2)])) (fun t k => XS.lload X8.here hx rfl (hb hby d4_25) rfl k) ?_
  refine own_st (S' := T8.setTop (mkF m 29 #[.val (.ref a), .val (.ref r1), .val (.long q1), .second, .val (.long q2), .second, .val (.long q3), .second] [(.long q3), (.long q2)])) (fun t k => XS.lload X8.here hx rfl (hb hby d4_27) rfl k) ?_
  refine own_st (S' := T8.setTop (mkF m 30 #[.val (.ref a), .val (.ref r1), .val (.long q1), .second, .val (.long q2), .second, .val (.long q3), .second] [(.int (lcmpW q2 q3))])) (fun t k => XS.lcmp X8.here hx rfl (hb hby d4_29) rfl k) ?_
  have hc11 : ¬ (q3 < q2) := hC
  refine own_st (S' := T8.setTop (mkF m 51 #[.val (.ref a), .val (.ref r1), .val (.long q1), .second, .val (.long q2), .second, .val (.long q3), .second] [])) (fun t k => XS.ifYes X8.here hx rfl (pc0 := 30) (pc' := 51) rfl (hb hby d4_30) rfl ((if0 _ _).trans (flt (mt (lw_gt _ _).mp hc11)).2.2.2) (by decide) (by decide) k) ?_
  show own_Go p.tables e below _ (T8.setTop (mkF m 51 #[.val (.ref a), .val (.ref r1), .val (.long q1), .second, .val (.long q2), .second, .val (.long q3), .second] []))
  refine own_st (S' := T8.setTop (mkF m 52 #[.val (.ref a), .val (.ref r1), .val (.long q1), .second, .val (.long q2), .second, .val (.long q3), .second] [(.ref a)])) (fun t k => XS.aloadN X8.here hx rfl (hb hby d4_51) rfl rfl k) ?_
  refine own_st (S' := T8.setTop (mkF m 53 #[.val (.ref a), .val (.ref r1), .val (.long q1), .second, .val (.long q2), .second, .val (.long q3), .second] [(.ref r1), (.ref a)])) (fun t k => XS.aloadN X8.here hx rfl (hb hby d4_52) rfl rfl k) ?_
  obtain ⟨T12, h12, X12, e12, W12, st12⟩ := putF X8 hx hZ hown (host := "") (Or.inl (hw _ (List.mem_of_getElem? (i := 29) rfl))) Via.refl hh8 f4 f3 (Or.inr ⟨(hw _ (List.mem_of_getElem? (i := 30) rfl)), rfl, hnm⟩) (hw _ (List.mem_of_getElem? (i := 3) rfl)) (ty := (.object "java/lang/String")) (by decide) rfl rfl (g := (mkF m 53 #[.val (.ref a), .val (.ref r1), .val (.long q1), .second, .val (.long q2), .second, .val (.long q3), .second] [(.ref r1), (.ref a)])) rfl rfl (hb hby d4_53)
  refine own_st st12 ?_
  have f13 : Exa Z h12 a "com/example/gaithersburg/gaithersburg/TopicScore" := f3.wr W12
  have f14 : Fld Z h12 a "com/example/gaithersburg/gaithersburg/TopicScore" "shown" "J" (.long u1) := f5.other W12 (Or.inr (slot_ne (Or.inr (hw _ (List.mem_of_getElem? (i := 32) rfl))) (Or.inr (hw _ (List.mem_of_getElem? (i := 30) rfl))) (by decide) (t := .long) (t' := (.object "java/lang/String")) (by decide) (by decide)))
  have f15 : Fld Z h12 a "com/example/gaithersburg/gaithersburg/TopicScore" "relevantShown" "J" (.long u2) := f6.other W12 (Or.inr (slot_ne (Or.inr (hw _ (List.mem_of_getElem? (i := 34) rfl))) (Or.inr (hw _ (List.mem_of_getElem? (i := 30) rfl))) (by decide) (t := .long) (t' := (.object "java/lang/String")) (by decide) (by decide)))
  have f16 : Fld Z h12 a "com/example/gaithersburg/gaithersburg/TopicScore" "relevant" "J" (.long u3) := f7.other W12 (Or.inr (slot_ne (Or.inr (hw _ (List.mem_of_getElem? (i := 36) rfl))) (Or.inr (hw _ (List.mem_of_getElem? (i := 30) rfl))) (by decide) (t := .long) (t' := (.object "java/lang/String")) (by decide) (by decide)))
  have Z12 : n0 ≤ h12.size := Nat.le_trans Z2 (Keep.of_wr W12).1
  have hk := Nat.le_trans hk (Keep.of_wr W12).1
  have N12 := Fr.snoc X12 N8 G_a
  have K12 : Keep h0 h12 [a] := K2.wr W12 (Or.inl (List.mem_of_getElem? (i := 0) rfl))
  have f17 : Fld Z h12 a "com/example/gaithersburg/gaithersburg/TopicScore" "topicId" "Ljava/lang/String;" (.ref r1) := f4.same W12
  show own_Go p.tables e below _ (T12.setTop (mkF m 56 #[.val (.ref a), .val (.ref r1), .val (.long q1), .second, .val (.long q2), .second, .val (.long q3), .second] []))
  refine own_st (S' := T12.setTop (mkF m 57 #[.val (.ref a), .val (.ref r1), .val (.long q1), .second, .val (.long q2), .second, .val (.long q3), .second] [(.ref a)])) (fun t k => XS.aloadN X12.here hx rfl (hb hby d4_56) rfl rfl k) ?_
  refine own_st (S' := T12.setTop (mkF m 58 #[.val (.ref a), .val (.ref r1), .val (.long q1), .second, .val (.long q2), .second, .val (.long q3), .second] [(.long q1), (.ref a)])) (fun t k => XS.lloadN X12.here hx rfl (hb hby d4_57) rfl k) ?_
  obtain ⟨T18, h18, X18, e18, W18, st18⟩ := putF X12 hx hZ hown (host := "") (Or.inl (hw _ (List.mem_of_getElem? (i := 31) rfl))) Via.refl e12 f14 f13 (Or.inr ⟨(hw _ (List.mem_of_getElem? (i := 32) rfl)), rfl, hnm⟩) (hw _ (List.mem_of_getElem? (i := 3) rfl)) (ty := .long) (by decide) rfl rfl (g := (mkF m 58 #[.val (.ref a), .val (.ref r1), .val (.long q1), .second, .val (.long q2), .second, .val (.long q3), .second] [(.long q1), (.ref a)])) rfl rfl (hb hby d4_58)
  refine own_st st18 ?_
  have f19 : Exa Z h18 a "com/example/gaithersburg/gaithersburg/TopicScore" := f13.wr W18
  have f20 : Fld Z h18 a "com/example/gaithersburg/gaithersburg/TopicScore" "topicId" "Ljava/lang/String;" (.ref r1) := f17.other W18 (Or.inr (slot_ne (Or.inr (hw _ (List.mem_of_getElem? (i := 30) rfl))) (Or.inr (hw _ (List.mem_of_getElem? (i := 32) rfl))) (by decide) (t := (.object "java/lang/String")) (t' := .long) (by decide) (by decide)))
  have f21 : Fld Z h18 a "com/example/gaithersburg/gaithersburg/TopicScore" "relevantShown" "J" (.long u2) := f15.other W18 (Or.inr (slot_ne (Or.inr (hw _ (List.mem_of_getElem? (i := 34) rfl))) (Or.inr (hw _ (List.mem_of_getElem? (i := 32) rfl))) (by decide) (t := .long) (t' := .long) (by decide) (by decide)))
  have f22 : Fld Z h18 a "com/example/gaithersburg/gaithersburg/TopicScore" "relevant" "J" (.long u3) := f16.other W18 (Or.inr (slot_ne (Or.inr (hw _ (List.mem_of_getElem? (i := 36) rfl))) (Or.inr (hw _ (List.mem_of_getElem? (i := 32) rfl))) (by decide) (t := .long) (t' := .long) (by decide) (by decide)))
  have Z18 : n0 ≤ h18.size := Nat.le_trans Z12 (Keep.of_wr W18).1
  have hk := Nat.le_trans hk (Keep.of_wr W18).1
  have N18 := Fr.snoc X18 N12 G_a
  have K18 : Keep h0 h18 [a] := K12.wr W18 (Or.inl (List.mem_of_getElem? (i := 0) rfl))
  have f23 : Fld Z h18 a "com/example/gaithersburg/gaithersburg/TopicScore" "shown" "J" (.long q1) := f14.same W18
  show own_Go p.tables e below _ (T18.setTop (mkF m 61 #[.val (.ref a), .val (.ref r1), .val (.long q1), .second, .val (.long q2), .second, .val (.long q3), .second] []))
  refine own_st (S' := T18.setTop (mkF m 62 #[.val (.ref a), .val (.ref r1), .val (.long q1), .second, .val (.long q2), .second, .val (.long q3), .second] [(.ref a)])) (fun t k => XS.aloadN X18.here hx rfl (hb hby d4_61) rfl rfl k) ?_
  refine own_st (S' := T18.setTop (mkF m 64 #[.val (.ref a), .val (.ref r1), .val (.long q1), .second, .val (.long q2), .second, .val (.long q3), .second] [(.long q2), (.ref a)])) (fun t k => XS.lload X18.here hx rfl (hb hby d4_62) rfl k) ?_
  obtain ⟨T24, h24, X24, e24, W24, st24⟩ := putF X18 hx hZ hown (host := "") (Or.inl (hw _ (List.mem_of_getElem? (i := 33) rfl))) Via.refl e18 f21 f19 (Or.inr ⟨(hw _ (List.mem_of_getElem? (i := 34) rfl)), rfl, hnm⟩) (hw _ (List.mem_of_getElem? (i := 3) rfl)) (ty := .long) (by decide) rfl rfl (g := (mkF m 64 #[.val (.ref a), .val (.ref r1), .val (.long q1), .second, .val (.long q2), .second, .val (.long q3), .second] [(.long q2), (.ref a)])) rfl rfl (hb hby d4_64)
  refine own_st st24 ?_
  have f25 : Exa Z h24 a "com/example/gaithersburg/gaithersburg/TopicScore" := f19.wr W24
  have f26 : Fld Z h24 a "com/example/gaithersburg/gaithersburg/TopicScore" "topicId" "Ljava/lang/String;" (.ref r1) := f20.other W24 (Or.inr (slot_ne (Or.inr (hw _ (List.mem_of_getElem? (i := 30) rfl))) (Or.inr (hw _ (List.mem_of_getElem? (i := 34) rfl))) (by decide) (t := (.object "java/lang/String")) (t' := .long) (by decide) (by decide)))
  have f27 : Fld Z h24 a "com/example/gaithersburg/gaithersburg/TopicScore" "shown" "J" (.long q1) := f23.other W24 (Or.inr (slot_ne (Or.inr (hw _ (List.mem_of_getElem? (i := 32) rfl))) (Or.inr (hw _ (List.mem_of_getElem? (i := 34) rfl))) (by decide) (t := .long) (t' := .long) (by decide) (by decide)))
  have f28 : Fld Z h24 a "com/example/gaithersburg/gaithersburg/TopicScore" "relevant" "J" (.long u3) := f22.other W24 (Or.inr (slot_ne (Or.inr (hw _ (List.mem_of_getElem? (i := 36) rfl))) (Or.inr (hw _ (List.mem_of_getElem? (i := 34) rfl))) (by decide) (t := .long) (t' := .long) (by decide) (by decide)))
  have Z24 : n0 ≤ h24.size := Nat.le_trans Z18 (Keep.of_wr W24).1
  have hk := Nat.le_trans hk (Keep.of_wr W24).1
  have N24 := Fr.snoc X24 N18 G_a
  have K24 : Keep h0 h24 [a] := K18.wr W24 (Or.inl (List.mem_of_getElem? (i := 0) rfl))
  have f29 : Fld Z h24 a "com/example/gaithersburg/gaithersburg/TopicScore" "relevantShown" "J" (.long q2) := f21.same W24
  show own_Go p.tables e below _ (T24.setTop (mkF m 67 #[.val (.ref a), .val (.ref r1), .val (.long q1), .second, .val (.long q2), .second, .val (.long q3), .second] []))
  refine own_st (S' := T24.setTop (mkF m 68 #[.val (.ref a), .val (.ref r1), .val (.long q1), .second, .val (.long q2), .second, .val (.long q3), .second] [(.ref a)])) (fun t k => XS.aloadN X24.here hx rfl (hb hby d4_67) rfl rfl k) ?_
  refine own_st (S' := T24.setTop (mkF m 70 #[.val (.ref a), .val (.ref r1), .val (.long q1), .second, .val (.long q2), .second, .val (.long q3), .second] [(.long q3), (.ref a)])) (fun t k => XS.lload X24.here hx rfl (hb hby d4_68) rfl k) ?_
  obtain ⟨T30, h30, X30, e30, W30, st30⟩ := putF X24 hx hZ hown (host := "") (Or.inl (hw _ (List.mem_of_getElem? (i := 35) rfl))) Via.refl e24 f28 f25 (Or.inr ⟨(hw _ (List.mem_of_getElem? (i := 36) rfl)), rfl, hnm⟩) (hw _ (List.mem_of_getElem? (i := 3) rfl)) (ty := .long) (by decide) rfl rfl (g := (mkF m 70 #[.val (.ref a), .val (.ref r1), .val (.long q1), .second, .val (.long q2), .second, .val (.long q3), .second] [(.long q3), (.ref a)])) rfl rfl (hb hby d4_70)
  refine own_st st30 ?_
  have f31 : Exa Z h30 a "com/example/gaithersburg/gaithersburg/TopicScore" := f25.wr W30
  have f32 : Fld Z h30 a "com/example/gaithersburg/gaithersburg/TopicScore" "topicId" "Ljava/lang/String;" (.ref r1) := f26.other W30 (Or.inr (slot_ne (Or.inr (hw _ (List.mem_of_getElem? (i := 30) rfl))) (Or.inr (hw _ (List.mem_of_getElem? (i := 36) rfl))) (by decide) (t := (.object "java/lang/String")) (t' := .long) (by decide) (by decide)))
  have f33 : Fld Z h30 a "com/example/gaithersburg/gaithersburg/TopicScore" "shown" "J" (.long q1) := f27.other W30 (Or.inr (slot_ne (Or.inr (hw _ (List.mem_of_getElem? (i := 32) rfl))) (Or.inr (hw _ (List.mem_of_getElem? (i := 36) rfl))) (by decide) (t := .long) (t' := .long) (by decide) (by decide)))
  have f34 : Fld Z h30 a "com/example/gaithersburg/gaithersburg/TopicScore" "relevantShown" "J" (.long q2) := f29.other W30 (Or.inr (slot_ne (Or.inr (hw _ (List.mem_of_getElem? (i := 34) rfl))) (Or.inr (hw _ (List.mem_of_getElem? (i := 36) rfl))) (by decide) (t := .long) (t' := .long) (by decide) (by decide)))
  have Z30 : n0 ≤ h30.size := Nat.le_trans Z24 (Keep.of_wr W30).1
  have hk := Nat.le_trans hk (Keep.of_wr W30).1
  have N30 := Fr.snoc X30 N24 G_a
  have K30 : Keep h0 h30 [a] := K24.wr W30 (Or.inl (List.mem_of_getElem? (i := 0) rfl))
  have f35 : Fld Z h30 a "com/example/gaithersburg/gaithersburg/TopicScore" "relevant" "J" (.long q3) := f28.same W30
  show own_Go p.tables e below _ (T30.setTop (mkF m 73 #[.val (.ref a), .val (.ref r1), .val (.long q1), .second, .val (.long q2), .second, .val (.long q3), .second] []))
  refine own_retVW X30 hS (by rw [e30]; exact hk) hx hret hlk (hb hby d4_73) ?_ (by decide) (by decide)
  rw [e30]
  exact ⟨rfl, N30, K30, f31, f33, f34⟩
theorem d5_0 : decode prog_50_method_3_code 0 = .ok (.aload_n 0, 1) := by decide +kernel
theorem d5_1 : decode prog_50_method_3_code 1 = .ok (.getfield 29, 3) := by decide +kernel
theorem d5_4 : decode prog_50_method_3_code 4 = .ok (.lconst 0, 1) := by decide +kernel
theorem d5_5 : decode prog_50_method_3_code 5 = .ok (.lcmp, 1) := by decide +kernel
theorem d5_6 : decode prog_50_method_3_code 6 = .ok (.ifCond .ne 7, 3) := by decide +kernel
theorem d5_9 : decode prog_50_method_3_code 9 = .ok (.dconst 0, 1) := by decide +kernel
theorem d5_10 : decode prog_50_method_3_code 10 = .ok (.goto 14, 3) := by decide +kernel
theorem d5_13 : decode prog_50_method_3_code 13 = .ok (.aload_n 0, 1) := by decide +kernel
theorem d5_14 : decode prog_50_method_3_code 14 = .ok (.getfield 33, 3) := by decide +kernel
theorem d5_17 : decode prog_50_method_3_code 17 = .ok (.l2d, 1) := by decide +kernel
theorem d5_18 : decode prog_50_method_3_code 18 = .ok (.aload_n 0, 1) := by decide +kernel
theorem d5_19 : decode prog_50_method_3_code 19 = .ok (.getfield 29, 3) := by decide +kernel
theorem d5_22 : decode prog_50_method_3_code 22 = .ok (.l2d, 1) := by decide +kernel
theorem d5_23 : decode prog_50_method_3_code 23 = .ok (.ddiv, 1) := by decide +kernel
theorem d5_24 : decode prog_50_method_3_code 24 = .ok (.dreturn, 1) := by decide +kernel
theorem pn5 : plainName "com/example/gaithersburg/gaithersburg/TopicScore" = true := by first | (simp [plainName, overriddenIn]; done) | decide +kernel
theorem ef5 (m : MethodId) (a : Addr) : entryFrame m #[(.ref a)] 1 = mkF m 0 #[.val (.ref a)] [] := by first | (simp [entryFrame, mkF, argsToLocals, Value.category]; done) | rfl
def Q5 (Z : State) (a : Addr) (w1 : Int64) (w2 : Int64) (h0 : Heap) (n0 : Nat) (v : Option Value) (h : Heap) (L : List Loc) : Prop := v = some (.double (own_pr w1 w2)) ∧ Fr n0 L ∧ h = h0
set_option maxRecDepth 65536 in
set_option maxHeartbeats 40000000 in
theorem rm5 (l : Launch) (Z : State) (a0 : Array Value) (hw : ∀ d ∈ tables_1, d.before a0 Z = true) (ws : List Jvm.Cond) (a : Addr) (w1 : Int64) (w2 : Int64) (h0 : Heap) (n0 : Nat) (Z0 : n0 ≤ h0.size) (F_a_shown : Fld Z h0 a "com/example/gaithersburg/gaithersburg/TopicScore" "shown" "J" (.long w1)) (F_a_relevantShown : Fld Z h0 a "com/example/gaithersburg/gaithersburg/TopicScore" "relevantShown" "J" (.long w2)) (hN : ¬ w1 = (0 : Int64) → FP.ddiv (FP.l2d w2) (FP.l2d w1) &&& 0x7fffffffffffffff ≤ 0x7ff0000000000000) :
    MetFree l (⟨"com/example/gaithersburg/gaithersburg/TopicScore", "precision", "()D"⟩ : MethodName) (head1 (Jvm.Cond.code (⟨"com/example/gaithersburg/gaithersburg/TopicScore", "precision", "()D"⟩ : MethodName) prog_50_method_3_code 1 (some .double) :: ws) ({ frames := 0, cells := 0, slots := 0, locals := 0 } : Room)) (fun as' U => as' = #[(.ref a)] ∧ Z.Warmed39 U.vm ∧ U.heap = h0) (fun _ _ _ _ _ => True) (fun _ U o U' => ∃ v L, o = .returned v ∧ Q5 Z a w1 w2 h0 n0 v U'.heap L ∧ FrameEnd U o U' L ({ frames := 0, cells := 0, slots := 0, locals := 0 } : Room).cells ({ frames := 0, cells := 0, slots := 0, locals := 0 } : Room).slots) := by
  refine own_body (plainFor_of_name pn5) ?_
  intro p e s m below meth c s₁ hx hby hml hown0 hnm hret hlk hZ X0 e0
  have hown : s.vm.findClass "com/example/gaithersburg/gaithersburg/TopicScore" = some m.cls := hown0
  have N0 := Fr.nil n0
  rw [ef5]
  show own_Go p.tables e below _ (s₁.setTop (mkF m 0 #[.val (.ref a)] []))
  refine own_st (S' := s₁.setTop (mkF m 1 #[.val (.ref a)] [(.ref a)])) (fun t k => XS.aloadN X0.here hx rfl (hb hby d5_0) rfl rfl k) ?_
  obtain ⟨T1, X1, e1, st1⟩ := getF X0 hx hZ hown (host := "") (Or.inl (hw _ (List.mem_of_getElem? (i := 31) rfl))) Via.refl e0 F_a_shown (g := (mkF m 1 #[.val (.ref a)] [(.ref a)])) rfl rfl (hb hby d5_1)
  refine own_st st1 ?_
  show own_Go p.tables e below _ (T1.setTop (mkF m 4 #[.val (.ref a)] [(.long w1)]))
  refine own_st (S' := T1.setTop (mkF m 5 #[.val (.ref a)] [(.long (0 : Int64)), (.long w1)])) (fun t k => XS.lconst X1.here hx rfl (hb hby d5_4) k) ?_
  refine own_st (S' := T1.setTop (mkF m 6 #[.val (.ref a)] [(.int (lcmpW w1 (0 : Int64)))])) (fun t k => XS.lcmp X1.here hx rfl (hb hby d5_5) rfl k) ?_
  by_cases hc2 : w1 = (0 : Int64)
  · refine own_st (S' := T1.setTop (mkF m 9 #[.val (.ref a)] [])) (fun t k => XS.ifNo X1.here hx rfl (hb hby d5_6) rfl ((if0 _ _).trans (teq ((lw_eq _ _).mpr hc2)).2) k) ?_
    show own_Go p.tables e below _ (T1.setTop (mkF m 9 #[.val (.ref a)] []))
    refine own_st (S' := T1.setTop (mkF m 10 #[.val (.ref a)] [(.double FP.dconst0)])) (fun t k => XS.dconst0 X1.here hx rfl (hb hby d5_9) rfl k) ?_
    refine own_st (S' := T1.setTop (mkF m 24 #[.val (.ref a)] [(.double FP.dconst0)])) (fun t k => XS.goto X1.here hx rfl (pc0 := 10) (pc' := 24) rfl (hb hby d5_10) (by decide) (by decide) k) ?_
    refine own_retD X1 hx hret hlk (hb hby d5_24) ?_ (by decide) (by decide)
    rw [e1]
    exact ⟨by unfold own_pr; rw [if_pos hc2], N0, rfl⟩
  · refine own_st (S' := T1.setTop (mkF m 13 #[.val (.ref a)] [])) (fun t k => XS.ifYes X1.here hx rfl (pc0 := 6) (pc' := 13) rfl (hb hby d5_6) rfl ((if0 _ _).trans (feq (mt (lw_eq _ _).mp hc2)).2) (by decide) (by decide) k) ?_
    show own_Go p.tables e below _ (T1.setTop (mkF m 13 #[.val (.ref a)] []))
    refine own_st (S' := T1.setTop (mkF m 14 #[.val (.ref a)] [(.ref a)])) (fun t k => XS.aloadN X1.here hx rfl (hb hby d5_13) rfl rfl k) ?_
    obtain ⟨T3, X3, e3, st3⟩ := getF X1 hx hZ hown (host := "") (Or.inl (hw _ (List.mem_of_getElem? (i := 33) rfl))) Via.refl e1 F_a_relevantShown (g := (mkF m 14 #[.val (.ref a)] [(.ref a)])) rfl rfl (hb hby d5_14)
    refine own_st st3 ?_
    show own_Go p.tables e below _ (T3.setTop (mkF m 17 #[.val (.ref a)] [(.long w2)]))
    refine own_st (S' := T3.setTop (mkF m 18 #[.val (.ref a)] [(.double (FP.l2d w2))])) (fun t k => XS.l2dS X3.here hx rfl (hb hby d5_17) rfl rfl k) ?_
    refine own_st (S' := T3.setTop (mkF m 19 #[.val (.ref a)] [(.ref a), (.double (FP.l2d w2))])) (fun t k => XS.aloadN X3.here hx rfl (hb hby d5_18) rfl rfl k) ?_
    obtain ⟨T4, X4, e4, st4⟩ := getF X3 hx hZ hown (host := "") (Or.inl (hw _ (List.mem_of_getElem? (i := 31) rfl))) Via.refl e3 F_a_shown (g := (mkF m 19 #[.val (.ref a)] [(.ref a), (.double (FP.l2d w2))])) rfl rfl (hb hby d5_19)
    refine own_st st4 ?_
    show own_Go p.tables e below _ (T4.setTop (mkF m 22 #[.val (.ref a)] [(.long w1), (.double (FP.l2d w2))]))
    refine own_st (S' := T4.setTop (mkF m 23 #[.val (.ref a)] [(.double (FP.l2d w1)), (.double (FP.l2d w2))])) (fun t k => XS.l2dS X4.here hx rfl (hb hby d5_22) rfl rfl k) ?_
    refine own_st (S' := T4.setTop (mkF m 24 #[.val (.ref a)] [(.double (FP.ddiv (FP.l2d w2) (FP.l2d w1)))])) (fun t k => XS.ddivS X4.here hx rfl (hb hby d5_23) rfl (hN hc2) rfl k) ?_
    refine own_retD X4 hx hret hlk (hb hby d5_24) ?_ (by decide) (by decide)
    rw [e4]
    exact ⟨by unfold own_pr; rw [if_neg hc2], N0, rfl⟩
theorem pd0_0 : parseMethodDescriptor "(Ljava/lang/String;JJJ)V" = some ⟨[(.object "java/lang/String"), .long, .long, .long], none⟩ := by decide +kernel
theorem pd0_1 : parseMethodDescriptor "()D" = some ⟨[], some .double⟩ := by decide +kernel
theorem pn0 : plainName "com/example/gaithersburg/gaithersburg/TopicScorePrecisionPinLaw" = true := by first | (simp [plainName, overriddenIn]; done) | decide +kernel
theorem ef0 (m : MethodId) (p0 : Int64) (p1 : Int64) (p2 : Int64) (p3 : Int32) (p4 : Int32) : entryFrame m #[(.long p0), (.long p1), (.long p2), (.int p3), (.int p4)] maxLocals = mkF m 0 #[.val (.long p0), .second, .val (.long p1), .second, .val (.long p2), .second, .val (.int p3), .val (.int p4), .unset, .unset, .unset, .unset, .unset, .unset, .unset, .unset, .unset, .unset, .unset, .unset, .unset, .unset, .unset, .unset, .unset, .unset, .unset, .unset, .unset, .unset, .unset] [] := by first | (simp [entryFrame, mkF, argsToLocals, Value.category, maxLocals]; done) | rfl
def Q0 (n0 : Nat) (v : Option Value) (h : Heap) (L : List Loc) : Prop := v = some (.int 1) ∧ Fr n0 L
set_option maxRecDepth 65536 in
set_option maxHeartbeats 40000000 in
theorem rm0 (l : Launch) (Z : State) (a0 : Array Value) (hw : ∀ d ∈ tables_1, d.before a0 Z = true) (ws : List Jvm.Cond) (p0 : Int64) (p1 : Int64) (p2 : Int64) (p3 : Int32) (p4 : Int32) (h0 : Heap) (n0 : Nat) (Z0 : n0 ≤ h0.size)  :
    MetFree l x (head1 (Jvm.Cond.code x code maxLocals ret :: ws) room_1) (fun as' U => as' = #[(.long p0), (.long p1), (.long p2), (.int p3), (.int p4)] ∧ Z.Warmed39 U.vm ∧ U.heap = h0) (fun _ _ _ _ _ => True) (fun _ U o U' => ∃ v L, o = .returned v ∧ Q0 n0 v U'.heap L ∧ ReturnedEndW U o U' L room_1.cells room_1.slots) := by
  refine own_bodyW (plainFor_of_name pn0) ?_
  intro p e s m below meth c s₁ hx hby hml hown0 hnm hret hlk hZ X0 e0
  have hown : s.vm.findClass "com/example/gaithersburg/gaithersburg/TopicScorePrecisionPinLaw" = some m.cls := hown0
  have N0 := Fr.nil n0
  rw [ef0]
  have hS : s.Since s.vm 0 := (State.WarmedH.refl s).since 0
  have hk : 0 ≤ h0.size := Nat.zero_le _
  have X0 : Stand p l e room_1 (s.setVm s.vm) m #[(.long p0), (.long p1), (.long p2), (.int p3), (.int p4)] below meth c s₁ [] 0 0 := X0
  have hZ : Z.Warmed39 (s.setVm s.vm).vm := hZ
  have hown : (s.setVm s.vm).vm.findClass "com/example/gaithersburg/gaithersburg/TopicScorePrecisionPinLaw" = some m.cls := hown
  show own_Go p.tables e below _ (s₁.setTop (mkF m 0 #[.val (.long p0), .second, .val (.long p1), .second, .val (.long p2), .second, .val (.int p3), .val (.int p4), .unset, .unset, .unset, .unset, .unset, .unset, .unset, .unset, .unset, .unset, .unset, .unset, .unset, .unset, .unset, .unset, .unset, .unset, .unset, .unset, .unset, .unset, .unset] []))
  refine own_st (S' := s₁.setTop (mkF m 3 #[.val (.long p0), .second, .val (.long p1), .second, .val (.long p2), .second, .val (.int p3), .val (.int p4), .unset, .unset, .unset, .unset, .unset, .unset, .unset, .unset, .unset, .unset, .unset, .unset, .unset, .unset, .unset, .unset, .unset, .unset, .unset, .unset, .unset, .unset, .unset] [(.long (1099511627775 : Int64))])) (fun t k => X0.ldc2Long hx hown (mvT hZ (hw _ (List.mem_of_getElem? (i := 0) rfl))) (g := (mkF m 0 #[.val (.long p0), .second, .val (.long p1), .second, .val (.long p2), .second, .val (.int p3), .val (.int p4), .unset, .unset, .unset, .unset, .unset, .unset, .unset, .unset, .unset, .unset, .unset, .unset, .unset, .unset, .unset, .unset, .unset, .unset, .unset, .unset, .unset, .unset, .unset] [])) rfl (hb hby at_0) _ k) ?_
  refine own_st (S' := s₁.setTop (mkF m 5 #[.val (.long p0), .second, .val (.long p1), .second, .val (.long p2), .second, .val (.int p3), .val (.int p4), .val (.long (1099511627775 : Int64)), .second, .unset, .unset, .unset, .unset, .unset, .unset, .unset, .unset, .unset, .unset, .unset, .unset, .unset, .unset, .unset, .unset, .unset, .unset, .unset, .unset, .unset] [])) (fun t k => XS.lstore X0.here hx rfl (hb hby at_3) rfl (l' := #[.val (.long p0), .second, .val (.long p1), .second, .val (.long p2), .second, .val (.int p3), .val (.int p4), .val (.long (1099511627775 : Int64)), .second, .unset, .unset, .unset, .unset, .unset, .unset, .unset, .unset, .unset, .unset, .unset, .unset, .unset, .unset, .unset, .unset, .unset, .unset, .unset, .unset, .unset]) rfl k) ?_
  refine own_st (S' := s₁.setTop (mkF m 6 #[.val (.long p0), .second, .val (.long p1), .second, .val (.long p2), .second, .val (.int p3), .val (.int p4), .val (.long (1099511627775 : Int64)), .second, .unset, .unset, .unset, .unset, .unset, .unset, .unset, .unset, .unset, .unset, .unset, .unset, .unset, .unset, .unset, .unset, .unset, .unset, .unset, .unset, .unset] [(.long p0)])) (fun t k => XS.lloadN X0.here hx rfl (hb hby at_5) rfl k) ?_
  refine own_st (S' := s₁.setTop (mkF m 8 #[.val (.long p0), .second, .val (.long p1), .second, .val (.long p2), .second, .val (.int p3), .val (.int p4), .val (.long (1099511627775 : Int64)), .second, .unset, .unset, .unset, .unset, .unset, .unset, .unset, .unset, .unset, .unset, .unset, .unset, .unset, .unset, .unset, .unset, .unset, .unset, .unset, .unset, .unset] [(.long (1099511627775 : Int64)), (.long p0)])) (fun t k => XS.lload X0.here hx rfl (hb hby at_6) rfl k) ?_
  refine own_st (S' := s₁.setTop (mkF m 9 #[.val (.long p0), .second, .val (.long p1), .second, .val (.long p2), .second, .val (.int p3), .val (.int p4), .val (.long (1099511627775 : Int64)), .second, .unset, .unset, .unset, .unset, .unset, .unset, .unset, .unset, .unset, .unset, .unset, .unset, .unset, .unset, .unset, .unset, .unset, .unset, .unset, .unset, .unset] [(.long (p0 &&& (1099511627775 : Int64)))])) (fun t k => XS.land X0.here hx rfl (hb hby at_8) rfl k) ?_
  obtain ⟨v1, qv1⟩ : ∃ z : Int64, z = (p0 &&& (1099511627775 : Int64)) := ⟨_, rfl⟩
  show own_Go p.tables e below _ (s₁.setTop (mkF m 9 #[.val (.long p0), .second, .val (.long p1), .second, .val (.long p2), .second, .val (.int p3), .val (.int p4), .val (.long (1099511627775 : Int64)), .second, .unset, .unset, .unset, .unset, .unset, .unset, .unset, .unset, .unset, .unset, .unset, .unset, .unset, .unset, .unset, .unset, .unset, .unset, .unset, .unset, .unset] [(.long (p0 &&& (1099511627775 : Int64)))]))
  rw [← qv1]
  refine own_st (S' := s₁.setTop (mkF m 11 #[.val (.long p0), .second, .val (.long p1), .second, .val (.long p2), .second, .val (.int p3), .val (.int p4), .val (.long (1099511627775 : Int64)), .second, .val (.long v1), .second, .unset, .unset, .unset, .unset, .unset, .unset, .unset, .unset, .unset, .unset, .unset, .unset, .unset, .unset, .unset, .unset, .unset, .unset, .unset] [])) (fun t k => XS.lstore X0.here hx rfl (hb hby at_9) rfl (l' := #[.val (.long p0), .second, .val (.long p1), .second, .val (.long p2), .second, .val (.int p3), .val (.int p4), .val (.long (1099511627775 : Int64)), .second, .val (.long v1), .second, .unset, .unset, .unset, .unset, .unset, .unset, .unset, .unset, .unset, .unset, .unset, .unset, .unset, .unset, .unset, .unset, .unset, .unset, .unset]) rfl k) ?_
  refine own_st (S' := s₁.setTop (mkF m 13 #[.val (.long p0), .second, .val (.long p1), .second, .val (.long p2), .second, .val (.int p3), .val (.int p4), .val (.long (1099511627775 : Int64)), .second, .val (.long v1), .second, .unset, .unset, .unset, .unset, .unset, .unset, .unset, .unset, .unset, .unset, .unset, .unset, .unset, .unset, .unset, .unset, .unset, .unset, .unset] [(.long v1)])) (fun t k => XS.lload X0.here hx rfl (hb hby at_11) rfl k) ?_
  refine own_st (S' := s₁.setTop (mkF m 14 #[.val (.long p0), .second, .val (.long p1), .second, .val (.long p2), .second, .val (.int p3), .val (.int p4), .val (.long (1099511627775 : Int64)), .second, .val (.long v1), .second, .unset, .unset, .unset, .unset, .unset, .unset, .unset, .unset, .unset, .unset, .unset, .unset, .unset, .unset, .unset, .unset, .unset, .unset, .unset] [(.long (0 : Int64)), (.long v1)])) (fun t k => XS.lconst X0.here hx rfl (hb hby at_13) k) ?_
  refine own_st (S' := s₁.setTop (mkF m 15 #[.val (.long p0), .second, .val (.long p1), .second, .val (.long p2), .second, .val (.int p3), .val (.int p4), .val (.long (1099511627775 : Int64)), .second, .val (.long v1), .second, .unset, .unset, .unset, .unset, .unset, .unset, .unset, .unset, .unset, .unset, .unset, .unset, .unset, .unset, .unset, .unset, .unset, .unset, .unset] [(.int (lcmpW v1 (0 : Int64)))])) (fun t k => XS.lcmp X0.here hx rfl (hb hby at_14) rfl k) ?_
  by_cases hc2 : v1 = (0 : Int64)
  · refine own_st (S' := s₁.setTop (mkF m 18 #[.val (.long p0), .second, .val (.long p1), .second, .val (.long p2), .second, .val (.int p3), .val (.int p4), .val (.long (1099511627775 : Int64)), .second, .val (.long v1), .second, .unset, .unset, .unset, .unset, .unset, .unset, .unset, .unset, .unset, .unset, .unset, .unset, .unset, .unset, .unset, .unset, .unset, .unset, .unset] [])) (fun t k => XS.ifNo X0.here hx rfl (hb hby at_15) rfl ((if0 _ _).trans (teq ((lw_eq _ _).mpr hc2)).2) k) ?_
    show own_Go p.tables e below _ (s₁.setTop (mkF m 18 #[.val (.long p0), .second, .val (.long p1), .second, .val (.long p2), .second, .val (.int p3), .val (.int p4), .val (.long (1099511627775 : Int64)), .second, .val (.long v1), .second, .unset, .unset, .unset, .unset, .unset, .unset, .unset, .unset, .unset, .unset, .unset, .unset, .unset, .unset, .unset, .unset, .unset, .unset, .unset] []))
    refine own_st (S' := s₁.setTop (mkF m 19 #[.val (.long p0), .second, .val (.long p1), .second, .val (.long p2), .second, .val (.int p3), .val (.int p4), .val (.long (1099511627775 : Int64)), .second, .val (.long v1), .second, .unset, .unset, .unset, .unset, .unset, .unset, .unset, .unset, .unset, .unset, .unset, .unset, .unset, .unset, .unset, .unset, .unset, .unset, .unset] [(.long (0 : Int64))])) (fun t k => XS.lconst X0.here hx rfl (hb hby at_18) k) ?_
    refine own_st (S' := s₁.setTop (mkF m 31 #[.val (.long p0), .second, .val (.long p1), .second, .val (.long p2), .second, .val (.int p3), .val (.int p4), .val (.long (1099511627775 : Int64)), .second, .val (.long v1), .second, .unset, .unset, .unset, .unset, .unset, .unset, .unset, .unset, .unset, .unset, .unset, .unset, .unset, .unset, .unset, .unset, .unset, .unset, .unset] [(.long (0 : Int64))])) (fun t k => XS.goto X0.here hx rfl (pc0 := 19) (pc' := 31) rfl (hb hby at_19) (by decide) (by decide) k) ?_
    refine own_st (S' := s₁.setTop (mkF m 33 #[.val (.long p0), .second, .val (.long p1), .second, .val (.long p2), .second, .val (.int p3), .val (.int p4), .val (.long (1099511627775 : Int64)), .second, .val (.long v1), .second, .val (.long (0 : Int64)), .second, .unset, .unset, .unset, .unset, .unset, .unset, .unset, .unset, .unset, .unset, .unset, .unset, .unset, .unset, .unset, .unset, .unset] [])) (fun t k => XS.lstore X0.here hx rfl (hb hby at_31) rfl (l' := #[.val (.long p0), .second, .val (.long p1), .second, .val (.long p2), .second, .val (.int p3), .val (.int p4), .val (.long (1099511627775 : Int64)), .second, .val (.long v1), .second, .val (.long (0 : Int64)), .second, .unset, .unset, .unset, .unset, .unset, .unset, .unset, .unset, .unset, .unset, .unset, .unset, .unset, .unset, .unset, .unset, .unset]) rfl k) ?_
    refine own_st (S' := s₁.setTop (mkF m 35 #[.val (.long p0), .second, .val (.long p1), .second, .val (.long p2), .second, .val (.int p3), .val (.int p4), .val (.long (1099511627775 : Int64)), .second, .val (.long v1), .second, .val (.long (0 : Int64)), .second, .unset, .unset, .unset, .unset, .unset, .unset, .unset, .unset, .unset, .unset, .unset, .unset, .unset, .unset, .unset, .unset, .unset] [(.long (0 : Int64))])) (fun t k => XS.lload X0.here hx rfl (hb hby at_33) rfl k) ?_
    refine own_st (S' := s₁.setTop (mkF m 37 #[.val (.long p0), .second, .val (.long p1), .second, .val (.long p2), .second, .val (.int p3), .val (.int p4), .val (.long (1099511627775 : Int64)), .second, .val (.long v1), .second, .val (.long (0 : Int64)), .second, .unset, .unset, .unset, .unset, .unset, .unset, .unset, .unset, .unset, .unset, .unset, .unset, .unset, .unset, .unset, .unset, .unset] [(.long p2), (.long (0 : Int64))])) (fun t k => XS.lload X0.here hx rfl (hb hby at_35) rfl k) ?_
    refine own_st (S' := s₁.setTop (mkF m 39 #[.val (.long p0), .second, .val (.long p1), .second, .val (.long p2), .second, .val (.int p3), .val (.int p4), .val (.long (1099511627775 : Int64)), .second, .val (.long v1), .second, .val (.long (0 : Int64)), .second, .unset, .unset, .unset, .unset, .unset, .unset, .unset, .unset, .unset, .unset, .unset, .unset, .unset, .unset, .unset, .unset, .unset] [(.long (1099511627775 : Int64)), (.long p2), (.long (0 : Int64))])) (fun t k => XS.lload X0.here hx rfl (hb hby at_37) rfl k) ?_
    refine own_st (S' := s₁.setTop (mkF m 40 #[.val (.long p0), .second, .val (.long p1), .second, .val (.long p2), .second, .val (.int p3), .val (.int p4), .val (.long (1099511627775 : Int64)), .second, .val (.long v1), .second, .val (.long (0 : Int64)), .second, .unset, .unset, .unset, .unset, .unset, .unset, .unset, .unset, .unset, .unset, .unset, .unset, .unset, .unset, .unset, .unset, .unset] [(.long (p2 &&& (1099511627775 : Int64))), (.long (0 : Int64))])) (fun t k => XS.land X0.here hx rfl (hb hby at_39) rfl k) ?_
    refine own_st (S' := s₁.setTop (mkF m 41 #[.val (.long p0), .second, .val (.long p1), .second, .val (.long p2), .second, .val (.int p3), .val (.int p4), .val (.long (1099511627775 : Int64)), .second, .val (.long v1), .second, .val (.long (0 : Int64)), .second, .unset, .unset, .unset, .unset, .unset, .unset, .unset, .unset, .unset, .unset, .unset, .unset, .unset, .unset, .unset, .unset, .unset] [(.long ((0 : Int64) + (p2 &&& (1099511627775 : Int64))))])) (fun t k => XS.ladd X0.here hx rfl (hb hby at_40) rfl k) ?_
    obtain ⟨v3, qv3⟩ : ∃ z : Int64, z = ((0 : Int64) + (p2 &&& (1099511627775 : Int64))) := ⟨_, rfl⟩
    show own_Go p.tables e below _ (s₁.setTop (mkF m 41 #[.val (.long p0), .second, .val (.long p1), .second, .val (.long p2), .second, .val (.int p3), .val (.int p4), .val (.long (1099511627775 : Int64)), .second, .val (.long v1), .second, .val (.long (0 : Int64)), .second, .unset, .unset, .unset, .unset, .unset, .unset, .unset, .unset, .unset, .unset, .unset, .unset, .unset, .unset, .unset, .unset, .unset] [(.long ((0 : Int64) + (p2 &&& (1099511627775 : Int64))))]))
    rw [← qv3]
    refine own_st (S' := s₁.setTop (mkF m 43 #[.val (.long p0), .second, .val (.long p1), .second, .val (.long p2), .second, .val (.int p3), .val (.int p4), .val (.long (1099511627775 : Int64)), .second, .val (.long v1), .second, .val (.long (0 : Int64)), .second, .val (.long v3), .second, .unset, .unset, .unset, .unset, .unset, .unset, .unset, .unset, .unset, .unset, .unset, .unset, .unset, .unset, .unset] [])) (fun t k => XS.lstore X0.here hx rfl (hb hby at_41) rfl (l' := #[.val (.long p0), .second, .val (.long p1), .second, .val (.long p2), .second, .val (.int p3), .val (.int p4), .val (.long (1099511627775 : Int64)), .second, .val (.long v1), .second, .val (.long (0 : Int64)), .second, .val (.long v3), .second, .unset, .unset, .unset, .unset, .unset, .unset, .unset, .unset, .unset, .unset, .unset, .unset, .unset, .unset, .unset]) rfl k) ?_
    refine own_st (S' := s₁.setTop (mkF m 45 #[.val (.long p0), .second, .val (.long p1), .second, .val (.long p2), .second, .val (.int p3), .val (.int p4), .val (.long (1099511627775 : Int64)), .second, .val (.long v1), .second, .val (.long (0 : Int64)), .second, .val (.long v3), .second, .unset, .unset, .unset, .unset, .unset, .unset, .unset, .unset, .unset, .unset, .unset, .unset, .unset, .unset, .unset] [(.int p3)])) (fun t k => XS.iload X0.here hx rfl (hb hby at_43) rfl k) ?_
    refine own_st (S' := s₁.setTop (mkF m 47 #[.val (.long p0), .second, .val (.long p1), .second, .val (.long p2), .second, .val (.int p3), .val (.int p4), .val (.long (1099511627775 : Int64)), .second, .val (.long v1), .second, .val (.long (0 : Int64)), .second, .val (.long v3), .second, .unset, .unset, .unset, .unset, .unset, .unset, .unset, .unset, .unset, .unset, .unset, .unset, .unset, .unset, .unset] [(.int (2147483647 : Int32)), (.int p3)])) (fun t k => X0.ldcInt hx hown (mvT hZ (hw _ (List.mem_of_getElem? (i := 1) rfl))) (g := (mkF m 45 #[.val (.long p0), .second, .val (.long p1), .second, .val (.long p2), .second, .val (.int p3), .val (.int p4), .val (.long (1099511627775 : Int64)), .second, .val (.long v1), .second, .val (.long (0 : Int64)), .second, .val (.long v3), .second, .unset, .unset, .unset, .unset, .unset, .unset, .unset, .unset, .unset, .unset, .unset, .unset, .unset, .unset, .unset] [(.int p3)])) rfl (hb hby at_45) _ k) ?_
    refine own_st (S' := s₁.setTop (mkF m 48 #[.val (.long p0), .second, .val (.long p1), .second, .val (.long p2), .second, .val (.int p3), .val (.int p4), .val (.long (1099511627775 : Int64)), .second, .val (.long v1), .second, .val (.long (0 : Int64)), .second, .val (.long v3), .second, .unset, .unset, .unset, .unset, .unset, .unset, .unset, .unset, .unset, .unset, .unset, .unset, .unset, .unset, .unset] [(.int (p3 &&& (2147483647 : Int32)))])) (fun t k => XS.iand X0.here hx rfl (hb hby at_47) rfl k) ?_
    refine own_st (S' := s₁.setTop (mkF m 50 #[.val (.long p0), .second, .val (.long p1), .second, .val (.long p2), .second, .val (.int p3), .val (.int p4), .val (.long (1099511627775 : Int64)), .second, .val (.long v1), .second, .val (.long (0 : Int64)), .second, .val (.long v3), .second, .unset, .unset, .unset, .unset, .unset, .unset, .unset, .unset, .unset, .unset, .unset, .unset, .unset, .unset, .unset] [(.int (9 : Int32)), (.int (p3 &&& (2147483647 : Int32)))])) (fun t k => XS.bipush X0.here hx rfl (hb hby at_48) k) ?_
    refine own_st (S' := s₁.setTop (mkF m 51 #[.val (.long p0), .second, .val (.long p1), .second, .val (.long p2), .second, .val (.int p3), .val (.int p4), .val (.long (1099511627775 : Int64)), .second, .val (.long v1), .second, .val (.long (0 : Int64)), .second, .val (.long v3), .second, .unset, .unset, .unset, .unset, .unset, .unset, .unset, .unset, .unset, .unset, .unset, .unset, .unset, .unset, .unset] [(.int ((p3 &&& (2147483647 : Int32)) % (9 : Int32)))])) (fun t k => Jvm.RoadKit.iremM X0 hx rfl (hb hby at_50) rfl (by decide) k) ?_
    obtain ⟨v4, qv4⟩ : ∃ z : Int32, z = ((p3 &&& (2147483647 : Int32)) % (9 : Int32)) := ⟨_, rfl⟩
    show own_Go p.tables e below _ (s₁.setTop (mkF m 51 #[.val (.long p0), .second, .val (.long p1), .second, .val (.long p2), .second, .val (.int p3), .val (.int p4), .val (.long (1099511627775 : Int64)), .second, .val (.long v1), .second, .val (.long (0 : Int64)), .second, .val (.long v3), .second, .unset, .unset, .unset, .unset, .unset, .unset, .unset, .unset, .unset, .unset, .unset, .unset, .unset, .unset, .unset] [(.int ((p3 &&& (2147483647 : Int32)) % (9 : Int32)))]))
    rw [← qv4]
    refine own_st (S' := s₁.setTop (mkF m 53 #[.val (.long p0), .second, .val (.long p1), .second, .val (.long p2), .second, .val (.int p3), .val (.int p4), .val (.long (1099511627775 : Int64)), .second, .val (.long v1), .second, .val (.long (0 : Int64)), .second, .val (.long v3), .second, .val (.int v4), .unset, .unset, .unset, .unset, .unset, .unset, .unset, .unset, .unset, .unset, .unset, .unset, .unset, .unset] [])) (fun t k => XS.istore X0.here hx rfl (hb hby at_51) rfl (l' := #[.val (.long p0), .second, .val (.long p1), .second, .val (.long p2), .second, .val (.int p3), .val (.int p4), .val (.long (1099511627775 : Int64)), .second, .val (.long v1), .second, .val (.long (0 : Int64)), .second, .val (.long v3), .second, .val (.int v4), .unset, .unset, .unset, .unset, .unset, .unset, .unset, .unset, .unset, .unset, .unset, .unset, .unset, .unset]) rfl k) ?_
    refine own_st (S' := s₁.setTop (mkF m 55 #[.val (.long p0), .second, .val (.long p1), .second, .val (.long p2), .second, .val (.int p3), .val (.int p4), .val (.long (1099511627775 : Int64)), .second, .val (.long v1), .second, .val (.long (0 : Int64)), .second, .val (.long v3), .second, .val (.int v4), .unset, .unset, .unset, .unset, .unset, .unset, .unset, .unset, .unset, .unset, .unset, .unset, .unset, .unset] [(.int p4)])) (fun t k => XS.iload X0.here hx rfl (hb hby at_53) rfl k) ?_
    refine own_st (S' := s₁.setTop (mkF m 57 #[.val (.long p0), .second, .val (.long p1), .second, .val (.long p2), .second, .val (.int p3), .val (.int p4), .val (.long (1099511627775 : Int64)), .second, .val (.long v1), .second, .val (.long (0 : Int64)), .second, .val (.long v3), .second, .val (.int v4), .unset, .unset, .unset, .unset, .unset, .unset, .unset, .unset, .unset, .unset, .unset, .unset, .unset, .unset] [(.int (7 : Int32)), (.int p4)])) (fun t k => XS.bipush X0.here hx rfl (hb hby at_55) k) ?_
    refine own_st (S' := s₁.setTop (mkF m 58 #[.val (.long p0), .second, .val (.long p1), .second, .val (.long p2), .second, .val (.int p3), .val (.int p4), .val (.long (1099511627775 : Int64)), .second, .val (.long v1), .second, .val (.long (0 : Int64)), .second, .val (.long v3), .second, .val (.int v4), .unset, .unset, .unset, .unset, .unset, .unset, .unset, .unset, .unset, .unset, .unset, .unset, .unset, .unset] [(.int (p4 &&& (7 : Int32)))])) (fun t k => XS.iand X0.here hx rfl (hb hby at_57) rfl k) ?_
    refine own_st (S' := s₁.setTop (mkF m 59 #[.val (.long p0), .second, .val (.long p1), .second, .val (.long p2), .second, .val (.int p3), .val (.int p4), .val (.long (1099511627775 : Int64)), .second, .val (.long v1), .second, .val (.long (0 : Int64)), .second, .val (.long v3), .second, .val (.int v4), .unset, .unset, .unset, .unset, .unset, .unset, .unset, .unset, .unset, .unset, .unset, .unset, .unset, .unset] [(.int (1 : Int32)), (.int (p4 &&& (7 : Int32)))])) (fun t k => XS.iconst X0.here hx rfl (hb hby at_58) k) ?_
    refine own_st (S' := s₁.setTop (mkF m 60 #[.val (.long p0), .second, .val (.long p1), .second, .val (.long p2), .second, .val (.int p3), .val (.int p4), .val (.long (1099511627775 : Int64)), .second, .val (.long v1), .second, .val (.long (0 : Int64)), .second, .val (.long v3), .second, .val (.int v4), .unset, .unset, .unset, .unset, .unset, .unset, .unset, .unset, .unset, .unset, .unset, .unset, .unset, .unset] [(.int ((p4 &&& (7 : Int32)) + (1 : Int32)))])) (fun t k => XS.iadd X0.here hx rfl (hb hby at_59) rfl k) ?_
    refine own_st (S' := s₁.setTop (mkF m 61 #[.val (.long p0), .second, .val (.long p1), .second, .val (.long p2), .second, .val (.int p3), .val (.int p4), .val (.long (1099511627775 : Int64)), .second, .val (.long v1), .second, .val (.long (0 : Int64)), .second, .val (.long v3), .second, .val (.int v4), .unset, .unset, .unset, .unset, .unset, .unset, .unset, .unset, .unset, .unset, .unset, .unset, .unset, .unset] [(.long ((p4 &&& (7 : Int32)) + (1 : Int32)).toInt64)])) (fun t k => XS.i2l X0.here hx rfl (hb hby at_60) rfl k) ?_
    obtain ⟨v5, qv5⟩ : ∃ z : Int64, z = ((p4 &&& (7 : Int32)) + (1 : Int32)).toInt64 := ⟨_, rfl⟩
    show own_Go p.tables e below _ (s₁.setTop (mkF m 61 #[.val (.long p0), .second, .val (.long p1), .second, .val (.long p2), .second, .val (.int p3), .val (.int p4), .val (.long (1099511627775 : Int64)), .second, .val (.long v1), .second, .val (.long (0 : Int64)), .second, .val (.long v3), .second, .val (.int v4), .unset, .unset, .unset, .unset, .unset, .unset, .unset, .unset, .unset, .unset, .unset, .unset, .unset, .unset] [(.long ((p4 &&& (7 : Int32)) + (1 : Int32)).toInt64)]))
    rw [← qv5]
    refine own_st (S' := s₁.setTop (mkF m 63 #[.val (.long p0), .second, .val (.long p1), .second, .val (.long p2), .second, .val (.int p3), .val (.int p4), .val (.long (1099511627775 : Int64)), .second, .val (.long v1), .second, .val (.long (0 : Int64)), .second, .val (.long v3), .second, .val (.int v4), .val (.long v5), .second, .unset, .unset, .unset, .unset, .unset, .unset, .unset, .unset, .unset, .unset, .unset, .unset] [])) (fun t k => XS.lstore X0.here hx rfl (hb hby at_61) rfl (l' := #[.val (.long p0), .second, .val (.long p1), .second, .val (.long p2), .second, .val (.int p3), .val (.int p4), .val (.long (1099511627775 : Int64)), .second, .val (.long v1), .second, .val (.long (0 : Int64)), .second, .val (.long v3), .second, .val (.int v4), .val (.long v5), .second, .unset, .unset, .unset, .unset, .unset, .unset, .unset, .unset, .unset, .unset, .unset, .unset]) rfl k) ?_
    have hO : own_Ok (2 ^ 40) v1 (0 : Int64) v3 := own_ok0 hc2 qv3
    have hK := own_k qv5
    have hM := hO.mul hK
    obtain ⟨T6, h6, X6, e6, E6, A6, D6, -, st6⟩ := newO X0 hx hZ hown (hw _ (List.mem_of_getElem? (i := 2) rfl)) (hw _ (List.mem_of_getElem? (i := 3) rfl)) (hw _ (List.mem_of_getElem? (i := 4) rfl)) e0 (g := (mkF m 63 #[.val (.long p0), .second, .val (.long p1), .second, .val (.long p2), .second, .val (.int p3), .val (.int p4), .val (.long (1099511627775 : Int64)), .second, .val (.long v1), .second, .val (.long (0 : Int64)), .second, .val (.long v3), .second, .val (.int v4), .val (.long v5), .second, .unset, .unset, .unset, .unset, .unset, .unset, .unset, .unset, .unset, .unset, .unset, .unset] [])) rfl (hb hby at_63) (by decide) (by decide)
    obtain ⟨b6, g6⟩ : ∃ z, z = h0.size := ⟨_, rfl⟩
    rw [← g6] at A6 D6 st6
    have G_b6 : n0 ≤ b6 := Nat.le_trans Z0 (Nat.le_of_eq g6.symm)
    have Z6 : n0 ≤ h6.size := Nat.le_trans Z0 E6.1
    have hk := Nat.le_trans hk E6.1
    have f7 : Fld Z h6 b6 "com/example/gaithersburg/gaithersburg/TopicScore" "topicId" "Ljava/lang/String;" .null := D6 (Or.inr (hw _ (List.mem_of_getElem? (i := 30) rfl))) (ty := (.object "java/lang/String")) (by decide)
    have f8 : Fld Z h6 b6 "com/example/gaithersburg/gaithersburg/TopicScore" "shown" "J" (.long (0 : Int64)) := D6 (Or.inr (hw _ (List.mem_of_getElem? (i := 32) rfl))) (ty := .long) (by decide)
    have f9 : Fld Z h6 b6 "com/example/gaithersburg/gaithersburg/TopicScore" "relevantShown" "J" (.long (0 : Int64)) := D6 (Or.inr (hw _ (List.mem_of_getElem? (i := 34) rfl))) (ty := .long) (by decide)
    have f10 : Fld Z h6 b6 "com/example/gaithersburg/gaithersburg/TopicScore" "relevant" "J" (.long (0 : Int64)) := D6 (Or.inr (hw _ (List.mem_of_getElem? (i := 36) rfl))) (ty := .long) (by decide)
    refine own_st st6 ?_
    show own_Go p.tables e below _ (T6.setTop (mkF m 66 #[.val (.long p0), .second, .val (.long p1), .second, .val (.long p2), .second, .val (.int p3), .val (.int p4), .val (.long (1099511627775 : Int64)), .second, .val (.long v1), .second, .val (.long (0 : Int64)), .second, .val (.long v3), .second, .val (.int v4), .val (.long v5), .second, .unset, .unset, .unset, .unset, .unset, .unset, .unset, .unset, .unset, .unset, .unset, .unset] [(.ref b6)]))
    refine own_st (S' := T6.setTop (mkF m 67 #[.val (.long p0), .second, .val (.long p1), .second, .val (.long p2), .second, .val (.int p3), .val (.int p4), .val (.long (1099511627775 : Int64)), .second, .val (.long v1), .second, .val (.long (0 : Int64)), .second, .val (.long v3), .second, .val (.int v4), .val (.long v5), .second, .unset, .unset, .unset, .unset, .unset, .unset, .unset, .unset, .unset, .unset, .unset, .unset] [(.ref b6), (.ref b6)])) (fun t k => XS.dup X6.here hx rfl (hb hby at_66) rfl rfl k) ?_
    obtain ⟨b11, T11, h11, k11, X11, e11, E11, hS, hk, hZ, hown, st11⟩ := ldcS X6 hx hZ hown (hw _ (List.mem_of_getElem? (i := 5) rfl)) (own_wS hw) e6 hS hk (g := (mkF m 67 #[.val (.long p0), .second, .val (.long p1), .second, .val (.long p2), .second, .val (.int p3), .val (.int p4), .val (.long (1099511627775 : Int64)), .second, .val (.long v1), .second, .val (.long (0 : Int64)), .second, .val (.long v3), .second, .val (.int v4), .val (.long v5), .second, .unset, .unset, .unset, .unset, .unset, .unset, .unset, .unset, .unset, .unset, .unset, .unset] [(.ref b6), (.ref b6)])) rfl (hb hby at_67) (n := 4) (by decide) (by decide) (by decide) (by decide)
    have f12 : Exa Z h11 b6 "com/example/gaithersburg/gaithersburg/TopicScore" := A6.ext E11
    have f13 : Fld Z h11 b6 "com/example/gaithersburg/gaithersburg/TopicScore" "topicId" "Ljava/lang/String;" .null := f7.ext E11
    have f14 : Fld Z h11 b6 "com/example/gaithersburg/gaithersburg/TopicScore" "shown" "J" (.long (0 : Int64)) := f8.ext E11
    have f15 : Fld Z h11 b6 "com/example/gaithersburg/gaithersburg/TopicScore" "relevantShown" "J" (.long (0 : Int64)) := f9.ext E11
    have f16 : Fld Z h11 b6 "com/example/gaithersburg/gaithersburg/TopicScore" "relevant" "J" (.long (0 : Int64)) := f10.ext E11
    have Z11 : n0 ≤ h11.size := Nat.le_trans Z6 E11.1
    refine own_st st11 ?_
    show own_Go p.tables e below _ (T11.setTop (mkF m 69 #[.val (.long p0), .second, .val (.long p1), .second, .val (.long p2), .second, .val (.int p3), .val (.int p4), .val (.long (1099511627775 : Int64)), .second, .val (.long v1), .second, .val (.long (0 : Int64)), .second, .val (.long v3), .second, .val (.int v4), .val (.long v5), .second, .unset, .unset, .unset, .unset, .unset, .unset, .unset, .unset, .unset, .unset, .unset, .unset] [(.ref b11), (.ref b6), (.ref b6)]))
    refine own_st (S' := T11.setTop (mkF m 71 #[.val (.long p0), .second, .val (.long p1), .second, .val (.long p2), .second, .val (.int p3), .val (.int p4), .val (.long (1099511627775 : Int64)), .second, .val (.long v1), .second, .val (.long (0 : Int64)), .second, .val (.long v3), .second, .val (.int v4), .val (.long v5), .second, .unset, .unset, .unset, .unset, .unset, .unset, .unset, .unset, .unset, .unset, .unset, .unset] [(.long v1), (.ref b11), (.ref b6), (.ref b6)])) (fun t k => XS.lload X11.here hx rfl (hb hby at_69) rfl k) ?_
    refine own_st (S' := T11.setTop (mkF m 73 #[.val (.long p0), .second, .val (.long p1), .second, .val (.long p2), .second, .val (.int p3), .val (.int p4), .val (.long (1099511627775 : Int64)), .second, .val (.long v1), .second, .val (.long (0 : Int64)), .second, .val (.long v3), .second, .val (.int v4), .val (.long v5), .second, .unset, .unset, .unset, .unset, .unset, .unset, .unset, .unset, .unset, .unset, .unset, .unset] [(.long (0 : Int64)), (.long v1), (.ref b11), (.ref b6), (.ref b6)])) (fun t k => XS.lload X11.here hx rfl (hb hby at_71) rfl k) ?_
    refine own_st (S' := T11.setTop (mkF m 75 #[.val (.long p0), .second, .val (.long p1), .second, .val (.long p2), .second, .val (.int p3), .val (.int p4), .val (.long (1099511627775 : Int64)), .second, .val (.long v1), .second, .val (.long (0 : Int64)), .second, .val (.long v3), .second, .val (.int v4), .val (.long v5), .second, .unset, .unset, .unset, .unset, .unset, .unset, .unset, .unset, .unset, .unset, .unset, .unset] [(.long v3), (.long (0 : Int64)), (.long v1), (.ref b11), (.ref b6), (.ref b6)])) (fun t k => XS.lload X11.here hx rfl (hb hby at_73) rfl k) ?_
    obtain ⟨_, _, ⟨T17, L17, k17, n17⟩, -, X17, h217, gr17, ⟨Lc17, hQ17, l17, y17, z17⟩, st17⟩ := X11.specialBackS hx (y := (⟨"com/example/gaithersburg/gaithersburg/TopicScore", "<init>", "(Ljava/lang/String;JJJ)V"⟩ : MethodName)) rfl hown (mvT hZ (hw _ (List.mem_of_getElem? (i := 13) rfl))) (mvT hZ (hw _ (List.mem_of_getElem? (i := 14) rfl))) (mvT hZ (hw _ (List.mem_of_getElem? (i := 15) rfl))) (by decide) (backOfS (W := 1) (rm4 l Z a0 hw [] b6 b11 v1 (0 : Int64) v3 (0 : Int64) (0 : Int64) (0 : Int64) h11 n0 Z11 f12 f13 f14 f15 f16 G_b6 hO.i1 hO.i2 hO.i3) hZ (hw _ (List.mem_of_getElem? (i := 15) rfl)) (hw _ (List.mem_of_getElem? (i := 4) rfl)) (by decide) (by decide)) (g := (mkF m 75 #[.val (.long p0), .second, .val (.long p1), .second, .val (.long p2), .second, .val (.int p3), .val (.int p4), .val (.long (1099511627775 : Int64)), .second, .val (.long v1), .second, .val (.long (0 : Int64)), .second, .val (.long v3), .second, .val (.int v4), .val (.long v5), .second, .unset, .unset, .unset, .unset, .unset, .unset, .unset, .unset, .unset, .unset, .unset, .unset] [(.long v3), (.long (0 : Int64)), (.long v1), (.ref b11), (.ref b6), (.ref b6)])) rfl (by rw [hml]; rfl) (Steps.refl _) (a := b6) (argsL := [(.ref b11), (.long v1), (.long (0 : Int64)), (.long v3)]) (rest := [(.ref b6)]) (lenOf pd0_0 rfl) rfl (by show 2 * 0 + _ ≤ _; exact Nat.le_of_eq rfl) (hb hby at_75) (fun _ _ => ⟨rfl, e11, (by decide : 3 + 2 ≤ _), (by decide : 12 + 32 ≤ _)⟩)
    dsimp only [Pt.U, Pt.locs, Pt.cells, Pt.slots] at X17 l17 y17 z17 st17 hQ17 h217 gr17
    obtain ⟨X17, hS, hZ, hown⟩ := rebS hS (show _ ≤ T11.heap.size by rw [e11]; exact hk) X17 h217 gr17 hZ hown
    have hk := Nat.le_refl T17.heap.size
    rw [l17, y17, z17] at X17
    obtain ⟨rfl, N17q, Kq17, g0_17, g1_17, g2_17⟩ := hQ17
    have f18 : Exa Z T17.heap b6 "com/example/gaithersburg/gaithersburg/TopicScore" := f12.keep Kq17
    have Z17 : n0 ≤ T17.heap.size := Nat.le_trans Z11 Kq17.1
    have N17 := Fr.app N0 N17q
    refine own_tr st17 ?_
    show own_Go p.tables e below _ (T17.setTop (mkF m 78 #[.val (.long p0), .second, .val (.long p1), .second, .val (.long p2), .second, .val (.int p3), .val (.int p4), .val (.long (1099511627775 : Int64)), .second, .val (.long v1), .second, .val (.long (0 : Int64)), .second, .val (.long v3), .second, .val (.int v4), .val (.long v5), .second, .unset, .unset, .unset, .unset, .unset, .unset, .unset, .unset, .unset, .unset, .unset, .unset] [(.ref b6)]))
    obtain ⟨cq19, kq19, q19a, q19b, q19c⟩ := isOf hZ rfl g0_17
    obtain ⟨_, _, ⟨T19, L19, k19, n19⟩, -, X19, ⟨Lc19, hQ19, l19, y19, z19⟩, st19⟩ := X17.virtualBack hx (y := (⟨"com/example/gaithersburg/gaithersburg/TopicScore", "precision", "()D"⟩ : MethodName)) (z := (⟨"com/example/gaithersburg/gaithersburg/TopicScore", "precision", "()D"⟩ : MethodName)) hown (mvT hZ (hw _ (List.mem_of_getElem? (i := 37) rfl))) (mvT hZ (hw _ (List.mem_of_getElem? (i := 38) rfl))) (notFace_of_selects (args := #[]) (mvT hZ (hw _ (List.mem_of_getElem? (i := 40) rfl)))) (mvT hZ (hw _ (List.mem_of_getElem? (i := 40) rfl))) (mvT hZ (hw _ (List.mem_of_getElem? (i := 39) rfl))) (by decide) (backOf (W := 0) (rm5 l Z a0 hw [] b6 v1 (0 : Int64) T17.heap n0 Z17 g1_17 g2_17 (hO.nn (by decide))) hZ (hw _ (List.mem_of_getElem? (i := 41) rfl)) (hw _ (List.mem_of_getElem? (i := 4) rfl)) (by decide) (by decide)) q19a q19c (g := (mkF m 78 #[.val (.long p0), .second, .val (.long p1), .second, .val (.long p2), .second, .val (.int p3), .val (.int p4), .val (.long (1099511627775 : Int64)), .second, .val (.long v1), .second, .val (.long (0 : Int64)), .second, .val (.long v3), .second, .val (.int v4), .val (.long v5), .second, .unset, .unset, .unset, .unset, .unset, .unset, .unset, .unset, .unset, .unset, .unset, .unset] [(.ref b6)])) rfl (by rw [hml]; rfl) (Steps.refl _) (argsL := []) (rest := []) (lenOf pd0_1 rfl) rfl (by show 2 * 0 + _ ≤ _; exact Nat.le_of_eq rfl) (hb hby at_78) (fun _ _ => ⟨rfl, rfl, (by decide : 5 + 0 ≤ _), (by decide : 44 + 0 ≤ _)⟩)
    dsimp only [Pt.U, Pt.locs, Pt.cells, Pt.slots] at X19 l19 y19 z19 st19 hQ19
    rw [l19, y19, z19] at X19
    obtain ⟨rfl, N19q, hh19⟩ := hQ19
    have N19 := Fr.app N17 N19q
    refine own_tr st19 ?_
    show own_Go p.tables e below _ (T19.setTop (mkF m 81 #[.val (.long p0), .second, .val (.long p1), .second, .val (.long p2), .second, .val (.int p3), .val (.int p4), .val (.long (1099511627775 : Int64)), .second, .val (.long v1), .second, .val (.long (0 : Int64)), .second, .val (.long v3), .second, .val (.int v4), .val (.long v5), .second, .unset, .unset, .unset, .unset, .unset, .unset, .unset, .unset, .unset, .unset, .unset, .unset] [(.double (own_pr v1 (0 : Int64)))]))
    refine own_st (S' := T19.setTop (mkF m 83 #[.val (.long p0), .second, .val (.long p1), .second, .val (.long p2), .second, .val (.int p3), .val (.int p4), .val (.long (1099511627775 : Int64)), .second, .val (.long v1), .second, .val (.long (0 : Int64)), .second, .val (.long v3), .second, .val (.int v4), .val (.long v5), .second, .val (.double (own_pr v1 (0 : Int64))), .second, .unset, .unset, .unset, .unset, .unset, .unset, .unset, .unset, .unset, .unset] [])) (fun t k => XS.dstore X19.here hx rfl (hb hby at_81) rfl (l' := #[.val (.long p0), .second, .val (.long p1), .second, .val (.long p2), .second, .val (.int p3), .val (.int p4), .val (.long (1099511627775 : Int64)), .second, .val (.long v1), .second, .val (.long (0 : Int64)), .second, .val (.long v3), .second, .val (.int v4), .val (.long v5), .second, .val (.double (own_pr v1 (0 : Int64))), .second, .unset, .unset, .unset, .unset, .unset, .unset, .unset, .unset, .unset, .unset]) rfl k) ?_
    obtain ⟨T20, h20, X20, e20, E20, A20, D20, -, st20⟩ := newO X19 hx hZ hown (hw _ (List.mem_of_getElem? (i := 2) rfl)) (hw _ (List.mem_of_getElem? (i := 3) rfl)) (hw _ (List.mem_of_getElem? (i := 4) rfl)) hh19 (g := (mkF m 83 #[.val (.long p0), .second, .val (.long p1), .second, .val (.long p2), .second, .val (.int p3), .val (.int p4), .val (.long (1099511627775 : Int64)), .second, .val (.long v1), .second, .val (.long (0 : Int64)), .second, .val (.long v3), .second, .val (.int v4), .val (.long v5), .second, .val (.double (own_pr v1 (0 : Int64))), .second, .unset, .unset, .unset, .unset, .unset, .unset, .unset, .unset, .unset, .unset] [])) rfl (hb hby at_83) (by decide) (by decide)
    obtain ⟨b20, g20⟩ : ∃ z, z = T17.heap.size := ⟨_, rfl⟩
    rw [← g20] at A20 D20 st20
    have G_b20 : n0 ≤ b20 := Nat.le_trans Z17 (Nat.le_of_eq g20.symm)
    have ne_b6_b20 : b6 ≠ b20 := Nat.ne_of_lt (Nat.lt_of_lt_of_le g0_17.lt (Nat.le_of_eq g20.symm))
    have f21 : Exa Z h20 b6 "com/example/gaithersburg/gaithersburg/TopicScore" := g0_17.ext E20
    have f22 : Fld Z h20 b6 "com/example/gaithersburg/gaithersburg/TopicScore" "shown" "J" (.long v1) := g1_17.ext E20
    have f23 : Fld Z h20 b6 "com/example/gaithersburg/gaithersburg/TopicScore" "relevantShown" "J" (.long (0 : Int64)) := g2_17.ext E20
    have Z20 : n0 ≤ h20.size := Nat.le_trans Z17 E20.1
    have hk := Nat.le_trans hk E20.1
    have f24 : Fld Z h20 b20 "com/example/gaithersburg/gaithersburg/TopicScore" "topicId" "Ljava/lang/String;" .null := D20 (Or.inr (hw _ (List.mem_of_getElem? (i := 30) rfl))) (ty := (.object "java/lang/String")) (by decide)
    have f25 : Fld Z h20 b20 "com/example/gaithersburg/gaithersburg/TopicScore" "shown" "J" (.long (0 : Int64)) := D20 (Or.inr (hw _ (List.mem_of_getElem? (i := 32) rfl))) (ty := .long) (by decide)
    have f26 : Fld Z h20 b20 "com/example/gaithersburg/gaithersburg/TopicScore" "relevantShown" "J" (.long (0 : Int64)) := D20 (Or.inr (hw _ (List.mem_of_getElem? (i := 34) rfl))) (ty := .long) (by decide)
    have f27 : Fld Z h20 b20 "com/example/gaithersburg/gaithersburg/TopicScore" "relevant" "J" (.long (0 : Int64)) := D20 (Or.inr (hw _ (List.mem_of_getElem? (i := 36) rfl))) (ty := .long) (by decide)
    refine own_st st20 ?_
    show own_Go p.tables e below _ (T20.setTop (mkF m 86 #[.val (.long p0), .second, .val (.long p1), .second, .val (.long p2), .second, .val (.int p3), .val (.int p4), .val (.long (1099511627775 : Int64)), .second, .val (.long v1), .second, .val (.long (0 : Int64)), .second, .val (.long v3), .second, .val (.int v4), .val (.long v5), .second, .val (.double (own_pr v1 (0 : Int64))), .second, .unset, .unset, .unset, .unset, .unset, .unset, .unset, .unset, .unset, .unset] [(.ref b20)]))
    refine own_st (S' := T20.setTop (mkF m 87 #[.val (.long p0), .second, .val (.long p1), .second, .val (.long p2), .second, .val (.int p3), .val (.int p4), .val (.long (1099511627775 : Int64)), .second, .val (.long v1), .second, .val (.long (0 : Int64)), .second, .val (.long v3), .second, .val (.int v4), .val (.long v5), .second, .val (.double (own_pr v1 (0 : Int64))), .second, .unset, .unset, .unset, .unset, .unset, .unset, .unset, .unset, .unset, .unset] [(.ref b20), (.ref b20)])) (fun t k => XS.dup X20.here hx rfl (hb hby at_86) rfl rfl k) ?_
    obtain ⟨b28, T28, h28, k28, X28, e28, E28, hS, hk, hZ, hown, st28⟩ := ldcS X20 hx hZ hown (hw _ (List.mem_of_getElem? (i := 5) rfl)) (own_wS hw) e20 hS hk (g := (mkF m 87 #[.val (.long p0), .second, .val (.long p1), .second, .val (.long p2), .second, .val (.int p3), .val (.int p4), .val (.long (1099511627775 : Int64)), .second, .val (.long v1), .second, .val (.long (0 : Int64)), .second, .val (.long v3), .second, .val (.int v4), .val (.long v5), .second, .val (.double (own_pr v1 (0 : Int64))), .second, .unset, .unset, .unset, .unset, .unset, .unset, .unset, .unset, .unset, .unset] [(.ref b20), (.ref b20)])) rfl (hb hby at_87) (n := 4) (by decide) (by decide) (by decide) (by decide)
    have f29 : Exa Z h28 b6 "com/example/gaithersburg/gaithersburg/TopicScore" := f21.ext E28
    have f30 : Fld Z h28 b6 "com/example/gaithersburg/gaithersburg/TopicScore" "shown" "J" (.long v1) := f22.ext E28
    have f31 : Fld Z h28 b6 "com/example/gaithersburg/gaithersburg/TopicScore" "relevantShown" "J" (.long (0 : Int64)) := f23.ext E28
    have f32 : Exa Z h28 b20 "com/example/gaithersburg/gaithersburg/TopicScore" := A20.ext E28
    have f33 : Fld Z h28 b20 "com/example/gaithersburg/gaithersburg/TopicScore" "topicId" "Ljava/lang/String;" .null := f24.ext E28
    have f34 : Fld Z h28 b20 "com/example/gaithersburg/gaithersburg/TopicScore" "shown" "J" (.long (0 : Int64)) := f25.ext E28
    have f35 : Fld Z h28 b20 "com/example/gaithersburg/gaithersburg/TopicScore" "relevantShown" "J" (.long (0 : Int64)) := f26.ext E28
    have f36 : Fld Z h28 b20 "com/example/gaithersburg/gaithersburg/TopicScore" "relevant" "J" (.long (0 : Int64)) := f27.ext E28
    have Z28 : n0 ≤ h28.size := Nat.le_trans Z20 E28.1
    refine own_st st28 ?_
    show own_Go p.tables e below _ (T28.setTop (mkF m 89 #[.val (.long p0), .second, .val (.long p1), .second, .val (.long p2), .second, .val (.int p3), .val (.int p4), .val (.long (1099511627775 : Int64)), .second, .val (.long v1), .second, .val (.long (0 : Int64)), .second, .val (.long v3), .second, .val (.int v4), .val (.long v5), .second, .val (.double (own_pr v1 (0 : Int64))), .second, .unset, .unset, .unset, .unset, .unset, .unset, .unset, .unset, .unset, .unset] [(.ref b28), (.ref b20), (.ref b20)]))
    refine own_st (S' := T28.setTop (mkF m 91 #[.val (.long p0), .second, .val (.long p1), .second, .val (.long p2), .second, .val (.int p3), .val (.int p4), .val (.long (1099511627775 : Int64)), .second, .val (.long v1), .second, .val (.long (0 : Int64)), .second, .val (.long v3), .second, .val (.int v4), .val (.long v5), .second, .val (.double (own_pr v1 (0 : Int64))), .second, .unset, .unset, .unset, .unset, .unset, .unset, .unset, .unset, .unset, .unset] [(.long v5), (.ref b28), (.ref b20), (.ref b20)])) (fun t k => XS.lload X28.here hx rfl (hb hby at_89) rfl k) ?_
    refine own_st (S' := T28.setTop (mkF m 93 #[.val (.long p0), .second, .val (.long p1), .second, .val (.long p2), .second, .val (.int p3), .val (.int p4), .val (.long (1099511627775 : Int64)), .second, .val (.long v1), .second, .val (.long (0 : Int64)), .second, .val (.long v3), .second, .val (.int v4), .val (.long v5), .second, .val (.double (own_pr v1 (0 : Int64))), .second, .unset, .unset, .unset, .unset, .unset, .unset, .unset, .unset, .unset, .unset] [(.long v1), (.long v5), (.ref b28), (.ref b20), (.ref b20)])) (fun t k => XS.lload X28.here hx rfl (hb hby at_91) rfl k) ?_
    refine own_st (S' := T28.setTop (mkF m 94 #[.val (.long p0), .second, .val (.long p1), .second, .val (.long p2), .second, .val (.int p3), .val (.int p4), .val (.long (1099511627775 : Int64)), .second, .val (.long v1), .second, .val (.long (0 : Int64)), .second, .val (.long v3), .second, .val (.int v4), .val (.long v5), .second, .val (.double (own_pr v1 (0 : Int64))), .second, .unset, .unset, .unset, .unset, .unset, .unset, .unset, .unset, .unset, .unset] [(.long (v5 * v1)), (.ref b28), (.ref b20), (.ref b20)])) (fun t k => XS.lmul X28.here hx rfl (hb hby at_93) rfl k) ?_
    refine own_st (S' := T28.setTop (mkF m 96 #[.val (.long p0), .second, .val (.long p1), .second, .val (.long p2), .second, .val (.int p3), .val (.int p4), .val (.long (1099511627775 : Int64)), .second, .val (.long v1), .second, .val (.long (0 : Int64)), .second, .val (.long v3), .second, .val (.int v4), .val (.long v5), .second, .val (.double (own_pr v1 (0 : Int64))), .second, .unset, .unset, .unset, .unset, .unset, .unset, .unset, .unset, .unset, .unset] [(.long v5), (.long (v5 * v1)), (.ref b28), (.ref b20), (.ref b20)])) (fun t k => XS.lload X28.here hx rfl (hb hby at_94) rfl k) ?_
    refine own_st (S' := T28.setTop (mkF m 98 #[.val (.long p0), .second, .val (.long p1), .second, .val (.long p2), .second, .val (.int p3), .val (.int p4), .val (.long (1099511627775 : Int64)), .second, .val (.long v1), .second, .val (.long (0 : Int64)), .second, .val (.long v3), .second, .val (.int v4), .val (.long v5), .second, .val (.double (own_pr v1 (0 : Int64))), .second, .unset, .unset, .unset, .unset, .unset, .unset, .unset, .unset, .unset, .unset] [(.long (0 : Int64)), (.long v5), (.long (v5 * v1)), (.ref b28), (.ref b20), (.ref b20)])) (fun t k => XS.lload X28.here hx rfl (hb hby at_96) rfl k) ?_
    refine own_st (S' := T28.setTop (mkF m 99 #[.val (.long p0), .second, .val (.long p1), .second, .val (.long p2), .second, .val (.int p3), .val (.int p4), .val (.long (1099511627775 : Int64)), .second, .val (.long v1), .second, .val (.long (0 : Int64)), .second, .val (.long v3), .second, .val (.int v4), .val (.long v5), .second, .val (.double (own_pr v1 (0 : Int64))), .second, .unset, .unset, .unset, .unset, .unset, .unset, .unset, .unset, .unset, .unset] [(.long (v5 * (0 : Int64))), (.long (v5 * v1)), (.ref b28), (.ref b20), (.ref b20)])) (fun t k => XS.lmul X28.here hx rfl (hb hby at_98) rfl k) ?_
    refine own_st (S' := T28.setTop (mkF m 101 #[.val (.long p0), .second, .val (.long p1), .second, .val (.long p2), .second, .val (.int p3), .val (.int p4), .val (.long (1099511627775 : Int64)), .second, .val (.long v1), .second, .val (.long (0 : Int64)), .second, .val (.long v3), .second, .val (.int v4), .val (.long v5), .second, .val (.double (own_pr v1 (0 : Int64))), .second, .unset, .unset, .unset, .unset, .unset, .unset, .unset, .unset, .unset, .unset] [(.long v5), (.long (v5 * (0 : Int64))), (.long (v5 * v1)), (.ref b28), (.ref b20), (.ref b20)])) (fun t k => XS.lload X28.here hx rfl (hb hby at_99) rfl k) ?_
    refine own_st (S' := T28.setTop (mkF m 103 #[.val (.long p0), .second, .val (.long p1), .second, .val (.long p2), .second, .val (.int p3), .val (.int p4), .val (.long (1099511627775 : Int64)), .second, .val (.long v1), .second, .val (.long (0 : Int64)), .second, .val (.long v3), .second, .val (.int v4), .val (.long v5), .second, .val (.double (own_pr v1 (0 : Int64))), .second, .unset, .unset, .unset, .unset, .unset, .unset, .unset, .unset, .unset, .unset] [(.long v3), (.long v5), (.long (v5 * (0 : Int64))), (.long (v5 * v1)), (.ref b28), (.ref b20), (.ref b20)])) (fun t k => XS.lload X28.here hx rfl (hb hby at_101) rfl k) ?_
    refine own_st (S' := T28.setTop (mkF m 104 #[.val (.long p0), .second, .val (.long p1), .second, .val (.long p2), .second, .val (.int p3), .val (.int p4), .val (.long (1099511627775 : Int64)), .second, .val (.long v1), .second, .val (.long (0 : Int64)), .second, .val (.long v3), .second, .val (.int v4), .val (.long v5), .second, .val (.double (own_pr v1 (0 : Int64))), .second, .unset, .unset, .unset, .unset, .unset, .unset, .unset, .unset, .unset, .unset] [(.long (v5 * v3)), (.long (v5 * (0 : Int64))), (.long (v5 * v1)), (.ref b28), (.ref b20), (.ref b20)])) (fun t k => XS.lmul X28.here hx rfl (hb hby at_103) rfl k) ?_
    obtain ⟨_, _, ⟨T37, L37, k37, n37⟩, -, X37, h237, gr37, ⟨Lc37, hQ37, l37, y37, z37⟩, st37⟩ := X28.specialBackS hx (y := (⟨"com/example/gaithersburg/gaithersburg/TopicScore", "<init>", "(Ljava/lang/String;JJJ)V"⟩ : MethodName)) rfl hown (mvT hZ (hw _ (List.mem_of_getElem? (i := 13) rfl))) (mvT hZ (hw _ (List.mem_of_getElem? (i := 14) rfl))) (mvT hZ (hw _ (List.mem_of_getElem? (i := 15) rfl))) (by decide) (backOfS (W := 1) (rm4 l Z a0 hw [] b20 b28 (v5 * v1) (v5 * (0 : Int64)) (v5 * v3) (0 : Int64) (0 : Int64) (0 : Int64) h28 n0 Z28 f32 f33 f34 f35 f36 G_b20 hM.i1 hM.i2 hM.i3) hZ (hw _ (List.mem_of_getElem? (i := 15) rfl)) (hw _ (List.mem_of_getElem? (i := 4) rfl)) (by decide) (by decide)) (g := (mkF m 104 #[.val (.long p0), .second, .val (.long p1), .second, .val (.long p2), .second, .val (.int p3), .val (.int p4), .val (.long (1099511627775 : Int64)), .second, .val (.long v1), .second, .val (.long (0 : Int64)), .second, .val (.long v3), .second, .val (.int v4), .val (.long v5), .second, .val (.double (own_pr v1 (0 : Int64))), .second, .unset, .unset, .unset, .unset, .unset, .unset, .unset, .unset, .unset, .unset] [(.long (v5 * v3)), (.long (v5 * (0 : Int64))), (.long (v5 * v1)), (.ref b28), (.ref b20), (.ref b20)])) rfl (by rw [hml]; rfl) (Steps.refl _) (a := b20) (argsL := [(.ref b28), (.long (v5 * v1)), (.long (v5 * (0 : Int64))), (.long (v5 * v3))]) (rest := [(.ref b20)]) (lenOf pd0_0 rfl) rfl (by show 2 * 0 + _ ≤ _; exact Nat.le_of_eq rfl) (hb hby at_104) (fun _ _ => ⟨rfl, e28, (by decide : 8 + 2 ≤ _), (by decide : 56 + 32 ≤ _)⟩)
    dsimp only [Pt.U, Pt.locs, Pt.cells, Pt.slots] at X37 l37 y37 z37 st37 hQ37 h237 gr37
    obtain ⟨X37, hS, hZ, hown⟩ := rebS hS (show _ ≤ T28.heap.size by rw [e28]; exact hk) X37 h237 gr37 hZ hown
    have hk := Nat.le_refl T37.heap.size
    rw [l37, y37, z37] at X37
    obtain ⟨rfl, N37q, Kq37, g0_37, g1_37, g2_37⟩ := hQ37
    have f38 : Exa Z T37.heap b6 "com/example/gaithersburg/gaithersburg/TopicScore" := f29.keep Kq37
    have f39 : Fld Z T37.heap b6 "com/example/gaithersburg/gaithersburg/TopicScore" "shown" "J" (.long v1) := f30.keep Kq37 (ninS ne_b6_b20 nin0)
    have f40 : Fld Z T37.heap b6 "com/example/gaithersburg/gaithersburg/TopicScore" "relevantShown" "J" (.long (0 : Int64)) := f31.keep Kq37 (ninS ne_b6_b20 nin0)
    have f41 : Exa Z T37.heap b20 "com/example/gaithersburg/gaithersburg/TopicScore" := f32.keep Kq37
    have Z37 : n0 ≤ T37.heap.size := Nat.le_trans Z28 Kq37.1
    have N37 := Fr.app N19 N37q
    refine own_tr st37 ?_
    show own_Go p.tables e below _ (T37.setTop (mkF m 107 #[.val (.long p0), .second, .val (.long p1), .second, .val (.long p2), .second, .val (.int p3), .val (.int p4), .val (.long (1099511627775 : Int64)), .second, .val (.long v1), .second, .val (.long (0 : Int64)), .second, .val (.long v3), .second, .val (.int v4), .val (.long v5), .second, .val (.double (own_pr v1 (0 : Int64))), .second, .unset, .unset, .unset, .unset, .unset, .unset, .unset, .unset, .unset, .unset] [(.ref b20)]))
    obtain ⟨cq42, kq42, q42a, q42b, q42c⟩ := isOf hZ rfl g0_37
    obtain ⟨_, _, ⟨T42, L42, k42, n42⟩, -, X42, ⟨Lc42, hQ42, l42, y42, z42⟩, st42⟩ := X37.virtualBack hx (y := (⟨"com/example/gaithersburg/gaithersburg/TopicScore", "precision", "()D"⟩ : MethodName)) (z := (⟨"com/example/gaithersburg/gaithersburg/TopicScore", "precision", "()D"⟩ : MethodName)) hown (mvT hZ (hw _ (List.mem_of_getElem? (i := 37) rfl))) (mvT hZ (hw _ (List.mem_of_getElem? (i := 38) rfl))) (notFace_of_selects (args := #[]) (mvT hZ (hw _ (List.mem_of_getElem? (i := 40) rfl)))) (mvT hZ (hw _ (List.mem_of_getElem? (i := 40) rfl))) (mvT hZ (hw _ (List.mem_of_getElem? (i := 39) rfl))) (by decide) (backOf (W := 0) (rm5 l Z a0 hw [] b20 (v5 * v1) (v5 * (0 : Int64)) T37.heap n0 Z37 g1_37 g2_37 (hM.nn (by decide))) hZ (hw _ (List.mem_of_getElem? (i := 41) rfl)) (hw _ (List.mem_of_getElem? (i := 4) rfl)) (by decide) (by decide)) q42a q42c (g := (mkF m 107 #[.val (.long p0), .second, .val (.long p1), .second, .val (.long p2), .second, .val (.int p3), .val (.int p4), .val (.long (1099511627775 : Int64)), .second, .val (.long v1), .second, .val (.long (0 : Int64)), .second, .val (.long v3), .second, .val (.int v4), .val (.long v5), .second, .val (.double (own_pr v1 (0 : Int64))), .second, .unset, .unset, .unset, .unset, .unset, .unset, .unset, .unset, .unset, .unset] [(.ref b20)])) rfl (by rw [hml]; rfl) (Steps.refl _) (argsL := []) (rest := []) (lenOf pd0_1 rfl) rfl (by show 2 * 0 + _ ≤ _; exact Nat.le_of_eq rfl) (hb hby at_107) (fun _ _ => ⟨rfl, rfl, (by decide : 10 + 0 ≤ _), (by decide : 88 + 0 ≤ _)⟩)
    dsimp only [Pt.U, Pt.locs, Pt.cells, Pt.slots] at X42 l42 y42 z42 st42 hQ42
    rw [l42, y42, z42] at X42
    obtain ⟨rfl, N42q, hh42⟩ := hQ42
    have N42 := Fr.app N37 N42q
    refine own_tr st42 ?_
    show own_Go p.tables e below _ (T42.setTop (mkF m 110 #[.val (.long p0), .second, .val (.long p1), .second, .val (.long p2), .second, .val (.int p3), .val (.int p4), .val (.long (1099511627775 : Int64)), .second, .val (.long v1), .second, .val (.long (0 : Int64)), .second, .val (.long v3), .second, .val (.int v4), .val (.long v5), .second, .val (.double (own_pr v1 (0 : Int64))), .second, .unset, .unset, .unset, .unset, .unset, .unset, .unset, .unset, .unset, .unset] [(.double (own_pr (v5 * v1) (v5 * (0 : Int64))))]))
    refine own_st (S' := T42.setTop (mkF m 112 #[.val (.long p0), .second, .val (.long p1), .second, .val (.long p2), .second, .val (.int p3), .val (.int p4), .val (.long (1099511627775 : Int64)), .second, .val (.long v1), .second, .val (.long (0 : Int64)), .second, .val (.long v3), .second, .val (.int v4), .val (.long v5), .second, .val (.double (own_pr v1 (0 : Int64))), .second, .val (.double (own_pr (v5 * v1) (v5 * (0 : Int64)))), .second, .unset, .unset, .unset, .unset, .unset, .unset, .unset, .unset] [])) (fun t k => XS.dstore X42.here hx rfl (hb hby at_110) rfl (l' := #[.val (.long p0), .second, .val (.long p1), .second, .val (.long p2), .second, .val (.int p3), .val (.int p4), .val (.long (1099511627775 : Int64)), .second, .val (.long v1), .second, .val (.long (0 : Int64)), .second, .val (.long v3), .second, .val (.int v4), .val (.long v5), .second, .val (.double (own_pr v1 (0 : Int64))), .second, .val (.double (own_pr (v5 * v1) (v5 * (0 : Int64)))), .second, .unset, .unset, .unset, .unset, .unset, .unset, .unset, .unset]) rfl k) ?_
    refine own_st (S' := T42.setTop (mkF m 114 #[.val (.long p0), .second, .val (.long p1), .second, .val (.long p2), .second, .val (.int p3), .val (.int p4), .val (.long (1099511627775 : Int64)), .second, .val (.long v1), .second, .val (.long (0 : Int64)), .second, .val (.long v3), .second, .val (.int v4), .val (.long v5), .second, .val (.double (own_pr v1 (0 : Int64))), .second, .val (.double (own_pr (v5 * v1) (v5 * (0 : Int64)))), .second, .unset, .unset, .unset, .unset, .unset, .unset, .unset, .unset] [(.double (own_pr v1 (0 : Int64)))])) (fun t k => XS.dload X42.here hx rfl (hb hby at_112) rfl k) ?_
    refine own_st (S' := T42.setTop (mkF m 115 #[.val (.long p0), .second, .val (.long p1), .second, .val (.long p2), .second, .val (.int p3), .val (.int p4), .val (.long (1099511627775 : Int64)), .second, .val (.long v1), .second, .val (.long (0 : Int64)), .second, .val (.long v3), .second, .val (.int v4), .val (.long v5), .second, .val (.double (own_pr v1 (0 : Int64))), .second, .val (.double (own_pr (v5 * v1) (v5 * (0 : Int64)))), .second, .unset, .unset, .unset, .unset, .unset, .unset, .unset, .unset] [(.double FP.dconst0), (.double (own_pr v1 (0 : Int64)))])) (fun t k => XS.dconst0 X42.here hx rfl (hb hby at_114) rfl k) ?_
    refine own_st (S' := T42.setTop (mkF m 116 #[.val (.long p0), .second, .val (.long p1), .second, .val (.long p2), .second, .val (.int p3), .val (.int p4), .val (.long (1099511627775 : Int64)), .second, .val (.long v1), .second, .val (.long (0 : Int64)), .second, .val (.long v3), .second, .val (.int v4), .val (.long v5), .second, .val (.double (own_pr v1 (0 : Int64))), .second, .val (.double (own_pr (v5 * v1) (v5 * (0 : Int64)))), .second, .unset, .unset, .unset, .unset, .unset, .unset, .unset, .unset] [(.int (cmpValue (FP.dcmp (own_pr v1 (0 : Int64)) FP.dconst0) .l))])) (fun t k => XS.dcmpS X42.here hx rfl (hb hby at_115) rfl rfl k) ?_
    have hc43 : ¬ ((cmpValue (FP.dcmp (own_pr v1 (0 : Int64)) FP.dconst0) .l) < (0 : Int32)) := own_c0 hO
    refine own_st (S' := T42.setTop (mkF m 119 #[.val (.long p0), .second, .val (.long p1), .second, .val (.long p2), .second, .val (.int p3), .val (.int p4), .val (.long (1099511627775 : Int64)), .second, .val (.long v1), .second, .val (.long (0 : Int64)), .second, .val (.long v3), .second, .val (.int v4), .val (.long v5), .second, .val (.double (own_pr v1 (0 : Int64))), .second, .val (.double (own_pr (v5 * v1) (v5 * (0 : Int64)))), .second, .unset, .unset, .unset, .unset, .unset, .unset, .unset, .unset] [])) (fun t k => XS.ifNo X42.here hx rfl (hb hby at_116) rfl ((if0 _ _).trans (flt hc43).1) k) ?_
    show own_Go p.tables e below _ (T42.setTop (mkF m 119 #[.val (.long p0), .second, .val (.long p1), .second, .val (.long p2), .second, .val (.int p3), .val (.int p4), .val (.long (1099511627775 : Int64)), .second, .val (.long v1), .second, .val (.long (0 : Int64)), .second, .val (.long v3), .second, .val (.int v4), .val (.long v5), .second, .val (.double (own_pr v1 (0 : Int64))), .second, .val (.double (own_pr (v5 * v1) (v5 * (0 : Int64)))), .second, .unset, .unset, .unset, .unset, .unset, .unset, .unset, .unset] []))
    refine own_st (S' := T42.setTop (mkF m 121 #[.val (.long p0), .second, .val (.long p1), .second, .val (.long p2), .second, .val (.int p3), .val (.int p4), .val (.long (1099511627775 : Int64)), .second, .val (.long v1), .second, .val (.long (0 : Int64)), .second, .val (.long v3), .second, .val (.int v4), .val (.long v5), .second, .val (.double (own_pr v1 (0 : Int64))), .second, .val (.double (own_pr (v5 * v1) (v5 * (0 : Int64)))), .second, .unset, .unset, .unset, .unset, .unset, .unset, .unset, .unset] [(.double (own_pr v1 (0 : Int64)))])) (fun t k => XS.dload X42.here hx rfl (hb hby at_119) rfl k) ?_
    refine own_st (S' := T42.setTop (mkF m 122 #[.val (.long p0), .second, .val (.long p1), .second, .val (.long p2), .second, .val (.int p3), .val (.int p4), .val (.long (1099511627775 : Int64)), .second, .val (.long v1), .second, .val (.long (0 : Int64)), .second, .val (.long v3), .second, .val (.int v4), .val (.long v5), .second, .val (.double (own_pr v1 (0 : Int64))), .second, .val (.double (own_pr (v5 * v1) (v5 * (0 : Int64)))), .second, .unset, .unset, .unset, .unset, .unset, .unset, .unset, .unset] [(.double FP.dconst1), (.double (own_pr v1 (0 : Int64)))])) (fun t k => XS.dconst1 X42.here hx rfl (hb hby at_121) rfl k) ?_
    refine own_st (S' := T42.setTop (mkF m 123 #[.val (.long p0), .second, .val (.long p1), .second, .val (.long p2), .second, .val (.int p3), .val (.int p4), .val (.long (1099511627775 : Int64)), .second, .val (.long v1), .second, .val (.long (0 : Int64)), .second, .val (.long v3), .second, .val (.int v4), .val (.long v5), .second, .val (.double (own_pr v1 (0 : Int64))), .second, .val (.double (own_pr (v5 * v1) (v5 * (0 : Int64)))), .second, .unset, .unset, .unset, .unset, .unset, .unset, .unset, .unset] [(.int (cmpValue (FP.dcmp (own_pr v1 (0 : Int64)) FP.dconst1) .g))])) (fun t k => XS.dcmpS X42.here hx rfl (hb hby at_122) rfl rfl k) ?_
    have hc44 : ¬ ((0 : Int32) < (cmpValue (FP.dcmp (own_pr v1 (0 : Int64)) FP.dconst1) .g)) := own_c1 hO
    refine own_st (S' := T42.setTop (mkF m 128 #[.val (.long p0), .second, .val (.long p1), .second, .val (.long p2), .second, .val (.int p3), .val (.int p4), .val (.long (1099511627775 : Int64)), .second, .val (.long v1), .second, .val (.long (0 : Int64)), .second, .val (.long v3), .second, .val (.int v4), .val (.long v5), .second, .val (.double (own_pr v1 (0 : Int64))), .second, .val (.double (own_pr (v5 * v1) (v5 * (0 : Int64)))), .second, .unset, .unset, .unset, .unset, .unset, .unset, .unset, .unset] [])) (fun t k => XS.ifYes X42.here hx rfl (pc0 := 123) (pc' := 128) rfl (hb hby at_123) rfl ((if0 _ _).trans (flt hc44).2.2.2) (by decide) (by decide) k) ?_
    show own_Go p.tables e below _ (T42.setTop (mkF m 128 #[.val (.long p0), .second, .val (.long p1), .second, .val (.long p2), .second, .val (.int p3), .val (.int p4), .val (.long (1099511627775 : Int64)), .second, .val (.long v1), .second, .val (.long (0 : Int64)), .second, .val (.long v3), .second, .val (.int v4), .val (.long v5), .second, .val (.double (own_pr v1 (0 : Int64))), .second, .val (.double (own_pr (v5 * v1) (v5 * (0 : Int64)))), .second, .unset, .unset, .unset, .unset, .unset, .unset, .unset, .unset] []))
    refine own_st (S' := T42.setTop (mkF m 130 #[.val (.long p0), .second, .val (.long p1), .second, .val (.long p2), .second, .val (.int p3), .val (.int p4), .val (.long (1099511627775 : Int64)), .second, .val (.long v1), .second, .val (.long (0 : Int64)), .second, .val (.long v3), .second, .val (.int v4), .val (.long v5), .second, .val (.double (own_pr v1 (0 : Int64))), .second, .val (.double (own_pr (v5 * v1) (v5 * (0 : Int64)))), .second, .unset, .unset, .unset, .unset, .unset, .unset, .unset, .unset] [(.double (own_pr v1 (0 : Int64)))])) (fun t k => XS.dload X42.here hx rfl (hb hby at_128) rfl k) ?_
    refine own_st (S' := T42.setTop (mkF m 132 #[.val (.long p0), .second, .val (.long p1), .second, .val (.long p2), .second, .val (.int p3), .val (.int p4), .val (.long (1099511627775 : Int64)), .second, .val (.long v1), .second, .val (.long (0 : Int64)), .second, .val (.long v3), .second, .val (.int v4), .val (.long v5), .second, .val (.double (own_pr v1 (0 : Int64))), .second, .val (.double (own_pr (v5 * v1) (v5 * (0 : Int64)))), .second, .unset, .unset, .unset, .unset, .unset, .unset, .unset, .unset] [(.double (own_pr (v5 * v1) (v5 * (0 : Int64)))), (.double (own_pr v1 (0 : Int64)))])) (fun t k => XS.dload X42.here hx rfl (hb hby at_130) rfl k) ?_
    refine own_st (S' := T42.setTop (mkF m 133 #[.val (.long p0), .second, .val (.long p1), .second, .val (.long p2), .second, .val (.int p3), .val (.int p4), .val (.long (1099511627775 : Int64)), .second, .val (.long v1), .second, .val (.long (0 : Int64)), .second, .val (.long v3), .second, .val (.int v4), .val (.long v5), .second, .val (.double (own_pr v1 (0 : Int64))), .second, .val (.double (own_pr (v5 * v1) (v5 * (0 : Int64)))), .second, .unset, .unset, .unset, .unset, .unset, .unset, .unset, .unset] [(.int (cmpValue (FP.dcmp (own_pr v1 (0 : Int64)) (own_pr (v5 * v1) (v5 * (0 : Int64)))) .l))])) (fun t k => XS.dcmpS X42.here hx rfl (hb hby at_132) rfl rfl k) ?_
    have hc45 : (cmpValue (FP.dcmp (own_pr v1 (0 : Int64)) (own_pr (v5 * v1) (v5 * (0 : Int64)))) .l) = (0 : Int32) := own_c2 hO hK
    refine own_st (S' := T42.setTop (mkF m 138 #[.val (.long p0), .second, .val (.long p1), .second, .val (.long p2), .second, .val (.int p3), .val (.int p4), .val (.long (1099511627775 : Int64)), .second, .val (.long v1), .second, .val (.long (0 : Int64)), .second, .val (.long v3), .second, .val (.int v4), .val (.long v5), .second, .val (.double (own_pr v1 (0 : Int64))), .second, .val (.double (own_pr (v5 * v1) (v5 * (0 : Int64)))), .second, .unset, .unset, .unset, .unset, .unset, .unset, .unset, .unset] [])) (fun t k => XS.ifYes X42.here hx rfl (pc0 := 133) (pc' := 138) rfl (hb hby at_133) rfl ((if0 _ _).trans (teq hc45).1) (by decide) (by decide) k) ?_
    show own_Go p.tables e below _ (T42.setTop (mkF m 138 #[.val (.long p0), .second, .val (.long p1), .second, .val (.long p2), .second, .val (.int p3), .val (.int p4), .val (.long (1099511627775 : Int64)), .second, .val (.long v1), .second, .val (.long (0 : Int64)), .second, .val (.long v3), .second, .val (.int v4), .val (.long v5), .second, .val (.double (own_pr v1 (0 : Int64))), .second, .val (.double (own_pr (v5 * v1) (v5 * (0 : Int64)))), .second, .unset, .unset, .unset, .unset, .unset, .unset, .unset, .unset] []))
    refine own_st (S' := T42.setTop (mkF m 140 #[.val (.long p0), .second, .val (.long p1), .second, .val (.long p2), .second, .val (.int p3), .val (.int p4), .val (.long (1099511627775 : Int64)), .second, .val (.long v1), .second, .val (.long (0 : Int64)), .second, .val (.long v3), .second, .val (.int v4), .val (.long v5), .second, .val (.double (own_pr v1 (0 : Int64))), .second, .val (.double (own_pr (v5 * v1) (v5 * (0 : Int64)))), .second, .unset, .unset, .unset, .unset, .unset, .unset, .unset, .unset] [(.long v1)])) (fun t k => XS.lload X42.here hx rfl (hb hby at_138) rfl k) ?_
    refine own_st (S' := T42.setTop (mkF m 141 #[.val (.long p0), .second, .val (.long p1), .second, .val (.long p2), .second, .val (.int p3), .val (.int p4), .val (.long (1099511627775 : Int64)), .second, .val (.long v1), .second, .val (.long (0 : Int64)), .second, .val (.long v3), .second, .val (.int v4), .val (.long v5), .second, .val (.double (own_pr v1 (0 : Int64))), .second, .val (.double (own_pr (v5 * v1) (v5 * (0 : Int64)))), .second, .unset, .unset, .unset, .unset, .unset, .unset, .unset, .unset] [(.long (0 : Int64)), (.long v1)])) (fun t k => XS.lconst X42.here hx rfl (hb hby at_140) k) ?_
    refine own_st (S' := T42.setTop (mkF m 142 #[.val (.long p0), .second, .val (.long p1), .second, .val (.long p2), .second, .val (.int p3), .val (.int p4), .val (.long (1099511627775 : Int64)), .second, .val (.long v1), .second, .val (.long (0 : Int64)), .second, .val (.long v3), .second, .val (.int v4), .val (.long v5), .second, .val (.double (own_pr v1 (0 : Int64))), .second, .val (.double (own_pr (v5 * v1) (v5 * (0 : Int64)))), .second, .unset, .unset, .unset, .unset, .unset, .unset, .unset, .unset] [(.int (lcmpW v1 (0 : Int64)))])) (fun t k => XS.lcmp X42.here hx rfl (hb hby at_141) rfl k) ?_
    refine own_st (S' := T42.setTop (mkF m 145 #[.val (.long p0), .second, .val (.long p1), .second, .val (.long p2), .second, .val (.int p3), .val (.int p4), .val (.long (1099511627775 : Int64)), .second, .val (.long v1), .second, .val (.long (0 : Int64)), .second, .val (.long v3), .second, .val (.int v4), .val (.long v5), .second, .val (.double (own_pr v1 (0 : Int64))), .second, .val (.double (own_pr (v5 * v1) (v5 * (0 : Int64)))), .second, .unset, .unset, .unset, .unset, .unset, .unset, .unset, .unset] [])) (fun t k => XS.ifNo X42.here hx rfl (hb hby at_142) rfl ((if0 _ _).trans (teq ((lw_eq _ _).mpr hc2)).2) k) ?_
    show own_Go p.tables e below _ (T42.setTop (mkF m 145 #[.val (.long p0), .second, .val (.long p1), .second, .val (.long p2), .second, .val (.int p3), .val (.int p4), .val (.long (1099511627775 : Int64)), .second, .val (.long v1), .second, .val (.long (0 : Int64)), .second, .val (.long v3), .second, .val (.int v4), .val (.long v5), .second, .val (.double (own_pr v1 (0 : Int64))), .second, .val (.double (own_pr (v5 * v1) (v5 * (0 : Int64)))), .second, .unset, .unset, .unset, .unset, .unset, .unset, .unset, .unset] []))
    refine own_st (S' := T42.setTop (mkF m 147 #[.val (.long p0), .second, .val (.long p1), .second, .val (.long p2), .second, .val (.int p3), .val (.int p4), .val (.long (1099511627775 : Int64)), .second, .val (.long v1), .second, .val (.long (0 : Int64)), .second, .val (.long v3), .second, .val (.int v4), .val (.long v5), .second, .val (.double (own_pr v1 (0 : Int64))), .second, .val (.double (own_pr (v5 * v1) (v5 * (0 : Int64)))), .second, .unset, .unset, .unset, .unset, .unset, .unset, .unset, .unset] [(.double (own_pr v1 (0 : Int64)))])) (fun t k => XS.dload X42.here hx rfl (hb hby at_145) rfl k) ?_
    refine own_st (S' := T42.setTop (mkF m 148 #[.val (.long p0), .second, .val (.long p1), .second, .val (.long p2), .second, .val (.int p3), .val (.int p4), .val (.long (1099511627775 : Int64)), .second, .val (.long v1), .second, .val (.long (0 : Int64)), .second, .val (.long v3), .second, .val (.int v4), .val (.long v5), .second, .val (.double (own_pr v1 (0 : Int64))), .second, .val (.double (own_pr (v5 * v1) (v5 * (0 : Int64)))), .second, .unset, .unset, .unset, .unset, .unset, .unset, .unset, .unset] [(.double FP.dconst0), (.double (own_pr v1 (0 : Int64)))])) (fun t k => XS.dconst0 X42.here hx rfl (hb hby at_147) rfl k) ?_
    refine own_st (S' := T42.setTop (mkF m 149 #[.val (.long p0), .second, .val (.long p1), .second, .val (.long p2), .second, .val (.int p3), .val (.int p4), .val (.long (1099511627775 : Int64)), .second, .val (.long v1), .second, .val (.long (0 : Int64)), .second, .val (.long v3), .second, .val (.int v4), .val (.long v5), .second, .val (.double (own_pr v1 (0 : Int64))), .second, .val (.double (own_pr (v5 * v1) (v5 * (0 : Int64)))), .second, .unset, .unset, .unset, .unset, .unset, .unset, .unset, .unset] [(.int (cmpValue (FP.dcmp (own_pr v1 (0 : Int64)) FP.dconst0) .l))])) (fun t k => XS.dcmpS X42.here hx rfl (hb hby at_148) rfl rfl k) ?_
    have hc46 : (cmpValue (FP.dcmp (own_pr v1 (0 : Int64)) FP.dconst0) .l) = (0 : Int32) := own_c3 hc2
    refine own_st (S' := T42.setTop (mkF m 152 #[.val (.long p0), .second, .val (.long p1), .second, .val (.long p2), .second, .val (.int p3), .val (.int p4), .val (.long (1099511627775 : Int64)), .second, .val (.long v1), .second, .val (.long (0 : Int64)), .second, .val (.long v3), .second, .val (.int v4), .val (.long v5), .second, .val (.double (own_pr v1 (0 : Int64))), .second, .val (.double (own_pr (v5 * v1) (v5 * (0 : Int64)))), .second, .unset, .unset, .unset, .unset, .unset, .unset, .unset, .unset] [])) (fun t k => XS.ifNo X42.here hx rfl (hb hby at_149) rfl ((if0 _ _).trans (teq hc46).2) k) ?_
    show own_Go p.tables e below _ (T42.setTop (mkF m 152 #[.val (.long p0), .second, .val (.long p1), .second, .val (.long p2), .second, .val (.int p3), .val (.int p4), .val (.long (1099511627775 : Int64)), .second, .val (.long v1), .second, .val (.long (0 : Int64)), .second, .val (.long v3), .second, .val (.int v4), .val (.long v5), .second, .val (.double (own_pr v1 (0 : Int64))), .second, .val (.double (own_pr (v5 * v1) (v5 * (0 : Int64)))), .second, .unset, .unset, .unset, .unset, .unset, .unset, .unset, .unset] []))
    refine own_st (S' := T42.setTop (mkF m 153 #[.val (.long p0), .second, .val (.long p1), .second, .val (.long p2), .second, .val (.int p3), .val (.int p4), .val (.long (1099511627775 : Int64)), .second, .val (.long v1), .second, .val (.long (0 : Int64)), .second, .val (.long v3), .second, .val (.int v4), .val (.long v5), .second, .val (.double (own_pr v1 (0 : Int64))), .second, .val (.double (own_pr (v5 * v1) (v5 * (0 : Int64)))), .second, .unset, .unset, .unset, .unset, .unset, .unset, .unset, .unset] [(.int (1 : Int32))])) (fun t k => XS.iconst X42.here hx rfl (hb hby at_152) k) ?_
    refine own_st (S' := T42.setTop (mkF m 157 #[.val (.long p0), .second, .val (.long p1), .second, .val (.long p2), .second, .val (.int p3), .val (.int p4), .val (.long (1099511627775 : Int64)), .second, .val (.long v1), .second, .val (.long (0 : Int64)), .second, .val (.long v3), .second, .val (.int v4), .val (.long v5), .second, .val (.double (own_pr v1 (0 : Int64))), .second, .val (.double (own_pr (v5 * v1) (v5 * (0 : Int64)))), .second, .unset, .unset, .unset, .unset, .unset, .unset, .unset, .unset] [(.int (1 : Int32))])) (fun t k => XS.goto X42.here hx rfl (pc0 := 153) (pc' := 157) rfl (hb hby at_153) (by decide) (by decide) k) ?_
    refine own_retNW X42 hS (by rw [hh42]; exact hk) hx (t := .boolean) hret (by simp) hlk (hb hby at_157) ?_ (by decide) (by decide)
    rw [hh42]
    exact ⟨rfl, N42⟩
  · refine own_st (S' := s₁.setTop (mkF m 22 #[.val (.long p0), .second, .val (.long p1), .second, .val (.long p2), .second, .val (.int p3), .val (.int p4), .val (.long (1099511627775 : Int64)), .second, .val (.long v1), .second, .unset, .unset, .unset, .unset, .unset, .unset, .unset, .unset, .unset, .unset, .unset, .unset, .unset, .unset, .unset, .unset, .unset, .unset, .unset] [])) (fun t k => XS.ifYes X0.here hx rfl (pc0 := 15) (pc' := 22) rfl (hb hby at_15) rfl ((if0 _ _).trans (feq (mt (lw_eq _ _).mp hc2)).2) (by decide) (by decide) k) ?_
    show own_Go p.tables e below _ (s₁.setTop (mkF m 22 #[.val (.long p0), .second, .val (.long p1), .second, .val (.long p2), .second, .val (.int p3), .val (.int p4), .val (.long (1099511627775 : Int64)), .second, .val (.long v1), .second, .unset, .unset, .unset, .unset, .unset, .unset, .unset, .unset, .unset, .unset, .unset, .unset, .unset, .unset, .unset, .unset, .unset, .unset, .unset] []))
    have hs1 := own_s1n qv1
    refine own_st (S' := s₁.setTop (mkF m 23 #[.val (.long p0), .second, .val (.long p1), .second, .val (.long p2), .second, .val (.int p3), .val (.int p4), .val (.long (1099511627775 : Int64)), .second, .val (.long v1), .second, .unset, .unset, .unset, .unset, .unset, .unset, .unset, .unset, .unset, .unset, .unset, .unset, .unset, .unset, .unset, .unset, .unset, .unset, .unset] [(.long p1)])) (fun t k => XS.lloadN X0.here hx rfl (hb hby at_22) rfl k) ?_
    refine own_st (S' := s₁.setTop (mkF m 25 #[.val (.long p0), .second, .val (.long p1), .second, .val (.long p2), .second, .val (.int p3), .val (.int p4), .val (.long (1099511627775 : Int64)), .second, .val (.long v1), .second, .unset, .unset, .unset, .unset, .unset, .unset, .unset, .unset, .unset, .unset, .unset, .unset, .unset, .unset, .unset, .unset, .unset, .unset, .unset] [(.long (1099511627775 : Int64)), (.long p1)])) (fun t k => XS.lload X0.here hx rfl (hb hby at_23) rfl k) ?_
    refine own_st (S' := s₁.setTop (mkF m 26 #[.val (.long p0), .second, .val (.long p1), .second, .val (.long p2), .second, .val (.int p3), .val (.int p4), .val (.long (1099511627775 : Int64)), .second, .val (.long v1), .second, .unset, .unset, .unset, .unset, .unset, .unset, .unset, .unset, .unset, .unset, .unset, .unset, .unset, .unset, .unset, .unset, .unset, .unset, .unset] [(.long (p1 &&& (1099511627775 : Int64)))])) (fun t k => XS.land X0.here hx rfl (hb hby at_25) rfl k) ?_
    refine own_st (S' := s₁.setTop (mkF m 28 #[.val (.long p0), .second, .val (.long p1), .second, .val (.long p2), .second, .val (.int p3), .val (.int p4), .val (.long (1099511627775 : Int64)), .second, .val (.long v1), .second, .unset, .unset, .unset, .unset, .unset, .unset, .unset, .unset, .unset, .unset, .unset, .unset, .unset, .unset, .unset, .unset, .unset, .unset, .unset] [(.long v1), (.long (p1 &&& (1099511627775 : Int64)))])) (fun t k => XS.lload X0.here hx rfl (hb hby at_26) rfl k) ?_
    refine own_st (S' := s₁.setTop (mkF m 29 #[.val (.long p0), .second, .val (.long p1), .second, .val (.long p2), .second, .val (.int p3), .val (.int p4), .val (.long (1099511627775 : Int64)), .second, .val (.long v1), .second, .unset, .unset, .unset, .unset, .unset, .unset, .unset, .unset, .unset, .unset, .unset, .unset, .unset, .unset, .unset, .unset, .unset, .unset, .unset] [(.long (1 : Int64)), (.long v1), (.long (p1 &&& (1099511627775 : Int64)))])) (fun t k => XS.lconst X0.here hx rfl (hb hby at_28) k) ?_
    refine own_st (S' := s₁.setTop (mkF m 30 #[.val (.long p0), .second, .val (.long p1), .second, .val (.long p2), .second, .val (.int p3), .val (.int p4), .val (.long (1099511627775 : Int64)), .second, .val (.long v1), .second, .unset, .unset, .unset, .unset, .unset, .unset, .unset, .unset, .unset, .unset, .unset, .unset, .unset, .unset, .unset, .unset, .unset, .unset, .unset] [(.long (v1 + (1 : Int64))), (.long (p1 &&& (1099511627775 : Int64)))])) (fun t k => XS.ladd X0.here hx rfl (hb hby at_29) rfl k) ?_
    refine own_st (S' := s₁.setTop (mkF m 31 #[.val (.long p0), .second, .val (.long p1), .second, .val (.long p2), .second, .val (.int p3), .val (.int p4), .val (.long (1099511627775 : Int64)), .second, .val (.long v1), .second, .unset, .unset, .unset, .unset, .unset, .unset, .unset, .unset, .unset, .unset, .unset, .unset, .unset, .unset, .unset, .unset, .unset, .unset, .unset] [(.long ((p1 &&& (1099511627775 : Int64)) - ((p1 &&& (1099511627775 : Int64)) / (v1 + (1 : Int64))) * (v1 + (1 : Int64))))])) (fun t k => XS.lrem X0.here hx rfl (hb hby at_30) rfl hs1 k) ?_
    obtain ⟨v47, qv47⟩ : ∃ z : Int64, z = ((p1 &&& (1099511627775 : Int64)) - ((p1 &&& (1099511627775 : Int64)) / (v1 + (1 : Int64))) * (v1 + (1 : Int64))) := ⟨_, rfl⟩
    show own_Go p.tables e below _ (s₁.setTop (mkF m 31 #[.val (.long p0), .second, .val (.long p1), .second, .val (.long p2), .second, .val (.int p3), .val (.int p4), .val (.long (1099511627775 : Int64)), .second, .val (.long v1), .second, .unset, .unset, .unset, .unset, .unset, .unset, .unset, .unset, .unset, .unset, .unset, .unset, .unset, .unset, .unset, .unset, .unset, .unset, .unset] [(.long ((p1 &&& (1099511627775 : Int64)) - ((p1 &&& (1099511627775 : Int64)) / (v1 + (1 : Int64))) * (v1 + (1 : Int64))))]))
    rw [← qv47]
    refine own_st (S' := s₁.setTop (mkF m 33 #[.val (.long p0), .second, .val (.long p1), .second, .val (.long p2), .second, .val (.int p3), .val (.int p4), .val (.long (1099511627775 : Int64)), .second, .val (.long v1), .second, .val (.long v47), .second, .unset, .unset, .unset, .unset, .unset, .unset, .unset, .unset, .unset, .unset, .unset, .unset, .unset, .unset, .unset, .unset, .unset] [])) (fun t k => XS.lstore X0.here hx rfl (hb hby at_31) rfl (l' := #[.val (.long p0), .second, .val (.long p1), .second, .val (.long p2), .second, .val (.int p3), .val (.int p4), .val (.long (1099511627775 : Int64)), .second, .val (.long v1), .second, .val (.long v47), .second, .unset, .unset, .unset, .unset, .unset, .unset, .unset, .unset, .unset, .unset, .unset, .unset, .unset, .unset, .unset, .unset, .unset]) rfl k) ?_
    refine own_st (S' := s₁.setTop (mkF m 35 #[.val (.long p0), .second, .val (.long p1), .second, .val (.long p2), .second, .val (.int p3), .val (.int p4), .val (.long (1099511627775 : Int64)), .second, .val (.long v1), .second, .val (.long v47), .second, .unset, .unset, .unset, .unset, .unset, .unset, .unset, .unset, .unset, .unset, .unset, .unset, .unset, .unset, .unset, .unset, .unset] [(.long v47)])) (fun t k => XS.lload X0.here hx rfl (hb hby at_33) rfl k) ?_
    refine own_st (S' := s₁.setTop (mkF m 37 #[.val (.long p0), .second, .val (.long p1), .second, .val (.long p2), .second, .val (.int p3), .val (.int p4), .val (.long (1099511627775 : Int64)), .second, .val (.long v1), .second, .val (.long v47), .second, .unset, .unset, .unset, .unset, .unset, .unset, .unset, .unset, .unset, .unset, .unset, .unset, .unset, .unset, .unset, .unset, .unset] [(.long p2), (.long v47)])) (fun t k => XS.lload X0.here hx rfl (hb hby at_35) rfl k) ?_
    refine own_st (S' := s₁.setTop (mkF m 39 #[.val (.long p0), .second, .val (.long p1), .second, .val (.long p2), .second, .val (.int p3), .val (.int p4), .val (.long (1099511627775 : Int64)), .second, .val (.long v1), .second, .val (.long v47), .second, .unset, .unset, .unset, .unset, .unset, .unset, .unset, .unset, .unset, .unset, .unset, .unset, .unset, .unset, .unset, .unset, .unset] [(.long (1099511627775 : Int64)), (.long p2), (.long v47)])) (fun t k => XS.lload X0.here hx rfl (hb hby at_37) rfl k) ?_
    refine own_st (S' := s₁.setTop (mkF m 40 #[.val (.long p0), .second, .val (.long p1), .second, .val (.long p2), .second, .val (.int p3), .val (.int p4), .val (.long (1099511627775 : Int64)), .second, .val (.long v1), .second, .val (.long v47), .second, .unset, .unset, .unset, .unset, .unset, .unset, .unset, .unset, .unset, .unset, .unset, .unset, .unset, .unset, .unset, .unset, .unset] [(.long (p2 &&& (1099511627775 : Int64))), (.long v47)])) (fun t k => XS.land X0.here hx rfl (hb hby at_39) rfl k) ?_
    refine own_st (S' := s₁.setTop (mkF m 41 #[.val (.long p0), .second, .val (.long p1), .second, .val (.long p2), .second, .val (.int p3), .val (.int p4), .val (.long (1099511627775 : Int64)), .second, .val (.long v1), .second, .val (.long v47), .second, .unset, .unset, .unset, .unset, .unset, .unset, .unset, .unset, .unset, .unset, .unset, .unset, .unset, .unset, .unset, .unset, .unset] [(.long (v47 + (p2 &&& (1099511627775 : Int64))))])) (fun t k => XS.ladd X0.here hx rfl (hb hby at_40) rfl k) ?_
    obtain ⟨v48, qv48⟩ : ∃ z : Int64, z = (v47 + (p2 &&& (1099511627775 : Int64))) := ⟨_, rfl⟩
    show own_Go p.tables e below _ (s₁.setTop (mkF m 41 #[.val (.long p0), .second, .val (.long p1), .second, .val (.long p2), .second, .val (.int p3), .val (.int p4), .val (.long (1099511627775 : Int64)), .second, .val (.long v1), .second, .val (.long v47), .second, .unset, .unset, .unset, .unset, .unset, .unset, .unset, .unset, .unset, .unset, .unset, .unset, .unset, .unset, .unset, .unset, .unset] [(.long (v47 + (p2 &&& (1099511627775 : Int64))))]))
    rw [← qv48]
    refine own_st (S' := s₁.setTop (mkF m 43 #[.val (.long p0), .second, .val (.long p1), .second, .val (.long p2), .second, .val (.int p3), .val (.int p4), .val (.long (1099511627775 : Int64)), .second, .val (.long v1), .second, .val (.long v47), .second, .val (.long v48), .second, .unset, .unset, .unset, .unset, .unset, .unset, .unset, .unset, .unset, .unset, .unset, .unset, .unset, .unset, .unset] [])) (fun t k => XS.lstore X0.here hx rfl (hb hby at_41) rfl (l' := #[.val (.long p0), .second, .val (.long p1), .second, .val (.long p2), .second, .val (.int p3), .val (.int p4), .val (.long (1099511627775 : Int64)), .second, .val (.long v1), .second, .val (.long v47), .second, .val (.long v48), .second, .unset, .unset, .unset, .unset, .unset, .unset, .unset, .unset, .unset, .unset, .unset, .unset, .unset, .unset, .unset]) rfl k) ?_
    refine own_st (S' := s₁.setTop (mkF m 45 #[.val (.long p0), .second, .val (.long p1), .second, .val (.long p2), .second, .val (.int p3), .val (.int p4), .val (.long (1099511627775 : Int64)), .second, .val (.long v1), .second, .val (.long v47), .second, .val (.long v48), .second, .unset, .unset, .unset, .unset, .unset, .unset, .unset, .unset, .unset, .unset, .unset, .unset, .unset, .unset, .unset] [(.int p3)])) (fun t k => XS.iload X0.here hx rfl (hb hby at_43) rfl k) ?_
    refine own_st (S' := s₁.setTop (mkF m 47 #[.val (.long p0), .second, .val (.long p1), .second, .val (.long p2), .second, .val (.int p3), .val (.int p4), .val (.long (1099511627775 : Int64)), .second, .val (.long v1), .second, .val (.long v47), .second, .val (.long v48), .second, .unset, .unset, .unset, .unset, .unset, .unset, .unset, .unset, .unset, .unset, .unset, .unset, .unset, .unset, .unset] [(.int (2147483647 : Int32)), (.int p3)])) (fun t k => X0.ldcInt hx hown (mvT hZ (hw _ (List.mem_of_getElem? (i := 1) rfl))) (g := (mkF m 45 #[.val (.long p0), .second, .val (.long p1), .second, .val (.long p2), .second, .val (.int p3), .val (.int p4), .val (.long (1099511627775 : Int64)), .second, .val (.long v1), .second, .val (.long v47), .second, .val (.long v48), .second, .unset, .unset, .unset, .unset, .unset, .unset, .unset, .unset, .unset, .unset, .unset, .unset, .unset, .unset, .unset] [(.int p3)])) rfl (hb hby at_45) _ k) ?_
    refine own_st (S' := s₁.setTop (mkF m 48 #[.val (.long p0), .second, .val (.long p1), .second, .val (.long p2), .second, .val (.int p3), .val (.int p4), .val (.long (1099511627775 : Int64)), .second, .val (.long v1), .second, .val (.long v47), .second, .val (.long v48), .second, .unset, .unset, .unset, .unset, .unset, .unset, .unset, .unset, .unset, .unset, .unset, .unset, .unset, .unset, .unset] [(.int (p3 &&& (2147483647 : Int32)))])) (fun t k => XS.iand X0.here hx rfl (hb hby at_47) rfl k) ?_
    refine own_st (S' := s₁.setTop (mkF m 50 #[.val (.long p0), .second, .val (.long p1), .second, .val (.long p2), .second, .val (.int p3), .val (.int p4), .val (.long (1099511627775 : Int64)), .second, .val (.long v1), .second, .val (.long v47), .second, .val (.long v48), .second, .unset, .unset, .unset, .unset, .unset, .unset, .unset, .unset, .unset, .unset, .unset, .unset, .unset, .unset, .unset] [(.int (9 : Int32)), (.int (p3 &&& (2147483647 : Int32)))])) (fun t k => XS.bipush X0.here hx rfl (hb hby at_48) k) ?_
    refine own_st (S' := s₁.setTop (mkF m 51 #[.val (.long p0), .second, .val (.long p1), .second, .val (.long p2), .second, .val (.int p3), .val (.int p4), .val (.long (1099511627775 : Int64)), .second, .val (.long v1), .second, .val (.long v47), .second, .val (.long v48), .second, .unset, .unset, .unset, .unset, .unset, .unset, .unset, .unset, .unset, .unset, .unset, .unset, .unset, .unset, .unset] [(.int ((p3 &&& (2147483647 : Int32)) % (9 : Int32)))])) (fun t k => Jvm.RoadKit.iremM X0 hx rfl (hb hby at_50) rfl (by decide) k) ?_
    obtain ⟨v49, qv49⟩ : ∃ z : Int32, z = ((p3 &&& (2147483647 : Int32)) % (9 : Int32)) := ⟨_, rfl⟩
    show own_Go p.tables e below _ (s₁.setTop (mkF m 51 #[.val (.long p0), .second, .val (.long p1), .second, .val (.long p2), .second, .val (.int p3), .val (.int p4), .val (.long (1099511627775 : Int64)), .second, .val (.long v1), .second, .val (.long v47), .second, .val (.long v48), .second, .unset, .unset, .unset, .unset, .unset, .unset, .unset, .unset, .unset, .unset, .unset, .unset, .unset, .unset, .unset] [(.int ((p3 &&& (2147483647 : Int32)) % (9 : Int32)))]))
    rw [← qv49]
    refine own_st (S' := s₁.setTop (mkF m 53 #[.val (.long p0), .second, .val (.long p1), .second, .val (.long p2), .second, .val (.int p3), .val (.int p4), .val (.long (1099511627775 : Int64)), .second, .val (.long v1), .second, .val (.long v47), .second, .val (.long v48), .second, .val (.int v49), .unset, .unset, .unset, .unset, .unset, .unset, .unset, .unset, .unset, .unset, .unset, .unset, .unset, .unset] [])) (fun t k => XS.istore X0.here hx rfl (hb hby at_51) rfl (l' := #[.val (.long p0), .second, .val (.long p1), .second, .val (.long p2), .second, .val (.int p3), .val (.int p4), .val (.long (1099511627775 : Int64)), .second, .val (.long v1), .second, .val (.long v47), .second, .val (.long v48), .second, .val (.int v49), .unset, .unset, .unset, .unset, .unset, .unset, .unset, .unset, .unset, .unset, .unset, .unset, .unset, .unset]) rfl k) ?_
    refine own_st (S' := s₁.setTop (mkF m 55 #[.val (.long p0), .second, .val (.long p1), .second, .val (.long p2), .second, .val (.int p3), .val (.int p4), .val (.long (1099511627775 : Int64)), .second, .val (.long v1), .second, .val (.long v47), .second, .val (.long v48), .second, .val (.int v49), .unset, .unset, .unset, .unset, .unset, .unset, .unset, .unset, .unset, .unset, .unset, .unset, .unset, .unset] [(.int p4)])) (fun t k => XS.iload X0.here hx rfl (hb hby at_53) rfl k) ?_
    refine own_st (S' := s₁.setTop (mkF m 57 #[.val (.long p0), .second, .val (.long p1), .second, .val (.long p2), .second, .val (.int p3), .val (.int p4), .val (.long (1099511627775 : Int64)), .second, .val (.long v1), .second, .val (.long v47), .second, .val (.long v48), .second, .val (.int v49), .unset, .unset, .unset, .unset, .unset, .unset, .unset, .unset, .unset, .unset, .unset, .unset, .unset, .unset] [(.int (7 : Int32)), (.int p4)])) (fun t k => XS.bipush X0.here hx rfl (hb hby at_55) k) ?_
    refine own_st (S' := s₁.setTop (mkF m 58 #[.val (.long p0), .second, .val (.long p1), .second, .val (.long p2), .second, .val (.int p3), .val (.int p4), .val (.long (1099511627775 : Int64)), .second, .val (.long v1), .second, .val (.long v47), .second, .val (.long v48), .second, .val (.int v49), .unset, .unset, .unset, .unset, .unset, .unset, .unset, .unset, .unset, .unset, .unset, .unset, .unset, .unset] [(.int (p4 &&& (7 : Int32)))])) (fun t k => XS.iand X0.here hx rfl (hb hby at_57) rfl k) ?_
    refine own_st (S' := s₁.setTop (mkF m 59 #[.val (.long p0), .second, .val (.long p1), .second, .val (.long p2), .second, .val (.int p3), .val (.int p4), .val (.long (1099511627775 : Int64)), .second, .val (.long v1), .second, .val (.long v47), .second, .val (.long v48), .second, .val (.int v49), .unset, .unset, .unset, .unset, .unset, .unset, .unset, .unset, .unset, .unset, .unset, .unset, .unset, .unset] [(.int (1 : Int32)), (.int (p4 &&& (7 : Int32)))])) (fun t k => XS.iconst X0.here hx rfl (hb hby at_58) k) ?_
    refine own_st (S' := s₁.setTop (mkF m 60 #[.val (.long p0), .second, .val (.long p1), .second, .val (.long p2), .second, .val (.int p3), .val (.int p4), .val (.long (1099511627775 : Int64)), .second, .val (.long v1), .second, .val (.long v47), .second, .val (.long v48), .second, .val (.int v49), .unset, .unset, .unset, .unset, .unset, .unset, .unset, .unset, .unset, .unset, .unset, .unset, .unset, .unset] [(.int ((p4 &&& (7 : Int32)) + (1 : Int32)))])) (fun t k => XS.iadd X0.here hx rfl (hb hby at_59) rfl k) ?_
    refine own_st (S' := s₁.setTop (mkF m 61 #[.val (.long p0), .second, .val (.long p1), .second, .val (.long p2), .second, .val (.int p3), .val (.int p4), .val (.long (1099511627775 : Int64)), .second, .val (.long v1), .second, .val (.long v47), .second, .val (.long v48), .second, .val (.int v49), .unset, .unset, .unset, .unset, .unset, .unset, .unset, .unset, .unset, .unset, .unset, .unset, .unset, .unset] [(.long ((p4 &&& (7 : Int32)) + (1 : Int32)).toInt64)])) (fun t k => XS.i2l X0.here hx rfl (hb hby at_60) rfl k) ?_
    obtain ⟨v50, qv50⟩ : ∃ z : Int64, z = ((p4 &&& (7 : Int32)) + (1 : Int32)).toInt64 := ⟨_, rfl⟩
    show own_Go p.tables e below _ (s₁.setTop (mkF m 61 #[.val (.long p0), .second, .val (.long p1), .second, .val (.long p2), .second, .val (.int p3), .val (.int p4), .val (.long (1099511627775 : Int64)), .second, .val (.long v1), .second, .val (.long v47), .second, .val (.long v48), .second, .val (.int v49), .unset, .unset, .unset, .unset, .unset, .unset, .unset, .unset, .unset, .unset, .unset, .unset, .unset, .unset] [(.long ((p4 &&& (7 : Int32)) + (1 : Int32)).toInt64)]))
    rw [← qv50]
    refine own_st (S' := s₁.setTop (mkF m 63 #[.val (.long p0), .second, .val (.long p1), .second, .val (.long p2), .second, .val (.int p3), .val (.int p4), .val (.long (1099511627775 : Int64)), .second, .val (.long v1), .second, .val (.long v47), .second, .val (.long v48), .second, .val (.int v49), .val (.long v50), .second, .unset, .unset, .unset, .unset, .unset, .unset, .unset, .unset, .unset, .unset, .unset, .unset] [])) (fun t k => XS.lstore X0.here hx rfl (hb hby at_61) rfl (l' := #[.val (.long p0), .second, .val (.long p1), .second, .val (.long p2), .second, .val (.int p3), .val (.int p4), .val (.long (1099511627775 : Int64)), .second, .val (.long v1), .second, .val (.long v47), .second, .val (.long v48), .second, .val (.int v49), .val (.long v50), .second, .unset, .unset, .unset, .unset, .unset, .unset, .unset, .unset, .unset, .unset, .unset, .unset]) rfl k) ?_
    have hO : own_Ok (2 ^ 40) v1 v47 v48 := own_ok1 qv1 qv47 qv48
    have hK := own_k qv50
    have hM := hO.mul hK
    obtain ⟨T51, h51, X51, e51, E51, A51, D51, -, st51⟩ := newO X0 hx hZ hown (hw _ (List.mem_of_getElem? (i := 2) rfl)) (hw _ (List.mem_of_getElem? (i := 3) rfl)) (hw _ (List.mem_of_getElem? (i := 4) rfl)) e0 (g := (mkF m 63 #[.val (.long p0), .second, .val (.long p1), .second, .val (.long p2), .second, .val (.int p3), .val (.int p4), .val (.long (1099511627775 : Int64)), .second, .val (.long v1), .second, .val (.long v47), .second, .val (.long v48), .second, .val (.int v49), .val (.long v50), .second, .unset, .unset, .unset, .unset, .unset, .unset, .unset, .unset, .unset, .unset, .unset, .unset] [])) rfl (hb hby at_63) (by decide) (by decide)
    obtain ⟨b51, g51⟩ : ∃ z, z = h0.size := ⟨_, rfl⟩
    rw [← g51] at A51 D51 st51
    have G_b51 : n0 ≤ b51 := Nat.le_trans Z0 (Nat.le_of_eq g51.symm)
    have Z51 : n0 ≤ h51.size := Nat.le_trans Z0 E51.1
    have hk := Nat.le_trans hk E51.1
    have f52 : Fld Z h51 b51 "com/example/gaithersburg/gaithersburg/TopicScore" "topicId" "Ljava/lang/String;" .null := D51 (Or.inr (hw _ (List.mem_of_getElem? (i := 30) rfl))) (ty := (.object "java/lang/String")) (by decide)
    have f53 : Fld Z h51 b51 "com/example/gaithersburg/gaithersburg/TopicScore" "shown" "J" (.long (0 : Int64)) := D51 (Or.inr (hw _ (List.mem_of_getElem? (i := 32) rfl))) (ty := .long) (by decide)
    have f54 : Fld Z h51 b51 "com/example/gaithersburg/gaithersburg/TopicScore" "relevantShown" "J" (.long (0 : Int64)) := D51 (Or.inr (hw _ (List.mem_of_getElem? (i := 34) rfl))) (ty := .long) (by decide)
    have f55 : Fld Z h51 b51 "com/example/gaithersburg/gaithersburg/TopicScore" "relevant" "J" (.long (0 : Int64)) := D51 (Or.inr (hw _ (List.mem_of_getElem? (i := 36) rfl))) (ty := .long) (by decide)
    refine own_st st51 ?_
    show own_Go p.tables e below _ (T51.setTop (mkF m 66 #[.val (.long p0), .second, .val (.long p1), .second, .val (.long p2), .second, .val (.int p3), .val (.int p4), .val (.long (1099511627775 : Int64)), .second, .val (.long v1), .second, .val (.long v47), .second, .val (.long v48), .second, .val (.int v49), .val (.long v50), .second, .unset, .unset, .unset, .unset, .unset, .unset, .unset, .unset, .unset, .unset, .unset, .unset] [(.ref b51)]))
    refine own_st (S' := T51.setTop (mkF m 67 #[.val (.long p0), .second, .val (.long p1), .second, .val (.long p2), .second, .val (.int p3), .val (.int p4), .val (.long (1099511627775 : Int64)), .second, .val (.long v1), .second, .val (.long v47), .second, .val (.long v48), .second, .val (.int v49), .val (.long v50), .second, .unset, .unset, .unset, .unset, .unset, .unset, .unset, .unset, .unset, .unset, .unset, .unset] [(.ref b51), (.ref b51)])) (fun t k => XS.dup X51.here hx rfl (hb hby at_66) rfl rfl k) ?_
    obtain ⟨b56, T56, h56, k56, X56, e56, E56, hS, hk, hZ, hown, st56⟩ := ldcS X51 hx hZ hown (hw _ (List.mem_of_getElem? (i := 5) rfl)) (own_wS hw) e51 hS hk (g := (mkF m 67 #[.val (.long p0), .second, .val (.long p1), .second, .val (.long p2), .second, .val (.int p3), .val (.int p4), .val (.long (1099511627775 : Int64)), .second, .val (.long v1), .second, .val (.long v47), .second, .val (.long v48), .second, .val (.int v49), .val (.long v50), .second, .unset, .unset, .unset, .unset, .unset, .unset, .unset, .unset, .unset, .unset, .unset, .unset] [(.ref b51), (.ref b51)])) rfl (hb hby at_67) (n := 4) (by decide) (by decide) (by decide) (by decide)
    have f57 : Exa Z h56 b51 "com/example/gaithersburg/gaithersburg/TopicScore" := A51.ext E56
    have f58 : Fld Z h56 b51 "com/example/gaithersburg/gaithersburg/TopicScore" "topicId" "Ljava/lang/String;" .null := f52.ext E56
    have f59 : Fld Z h56 b51 "com/example/gaithersburg/gaithersburg/TopicScore" "shown" "J" (.long (0 : Int64)) := f53.ext E56
    have f60 : Fld Z h56 b51 "com/example/gaithersburg/gaithersburg/TopicScore" "relevantShown" "J" (.long (0 : Int64)) := f54.ext E56
    have f61 : Fld Z h56 b51 "com/example/gaithersburg/gaithersburg/TopicScore" "relevant" "J" (.long (0 : Int64)) := f55.ext E56
    have Z56 : n0 ≤ h56.size := Nat.le_trans Z51 E56.1
    refine own_st st56 ?_
    show own_Go p.tables e below _ (T56.setTop (mkF m 69 #[.val (.long p0), .second, .val (.long p1), .second, .val (.long p2), .second, .val (.int p3), .val (.int p4), .val (.long (1099511627775 : Int64)), .second, .val (.long v1), .second, .val (.long v47), .second, .val (.long v48), .second, .val (.int v49), .val (.long v50), .second, .unset, .unset, .unset, .unset, .unset, .unset, .unset, .unset, .unset, .unset, .unset, .unset] [(.ref b56), (.ref b51), (.ref b51)]))
    refine own_st (S' := T56.setTop (mkF m 71 #[.val (.long p0), .second, .val (.long p1), .second, .val (.long p2), .second, .val (.int p3), .val (.int p4), .val (.long (1099511627775 : Int64)), .second, .val (.long v1), .second, .val (.long v47), .second, .val (.long v48), .second, .val (.int v49), .val (.long v50), .second, .unset, .unset, .unset, .unset, .unset, .unset, .unset, .unset, .unset, .unset, .unset, .unset] [(.long v1), (.ref b56), (.ref b51), (.ref b51)])) (fun t k => XS.lload X56.here hx rfl (hb hby at_69) rfl k) ?_
    refine own_st (S' := T56.setTop (mkF m 73 #[.val (.long p0), .second, .val (.long p1), .second, .val (.long p2), .second, .val (.int p3), .val (.int p4), .val (.long (1099511627775 : Int64)), .second, .val (.long v1), .second, .val (.long v47), .second, .val (.long v48), .second, .val (.int v49), .val (.long v50), .second, .unset, .unset, .unset, .unset, .unset, .unset, .unset, .unset, .unset, .unset, .unset, .unset] [(.long v47), (.long v1), (.ref b56), (.ref b51), (.ref b51)])) (fun t k => XS.lload X56.here hx rfl (hb hby at_71) rfl k) ?_
    refine own_st (S' := T56.setTop (mkF m 75 #[.val (.long p0), .second, .val (.long p1), .second, .val (.long p2), .second, .val (.int p3), .val (.int p4), .val (.long (1099511627775 : Int64)), .second, .val (.long v1), .second, .val (.long v47), .second, .val (.long v48), .second, .val (.int v49), .val (.long v50), .second, .unset, .unset, .unset, .unset, .unset, .unset, .unset, .unset, .unset, .unset, .unset, .unset] [(.long v48), (.long v47), (.long v1), (.ref b56), (.ref b51), (.ref b51)])) (fun t k => XS.lload X56.here hx rfl (hb hby at_73) rfl k) ?_
    obtain ⟨_, _, ⟨T62, L62, k62, n62⟩, -, X62, h262, gr62, ⟨Lc62, hQ62, l62, y62, z62⟩, st62⟩ := X56.specialBackS hx (y := (⟨"com/example/gaithersburg/gaithersburg/TopicScore", "<init>", "(Ljava/lang/String;JJJ)V"⟩ : MethodName)) rfl hown (mvT hZ (hw _ (List.mem_of_getElem? (i := 13) rfl))) (mvT hZ (hw _ (List.mem_of_getElem? (i := 14) rfl))) (mvT hZ (hw _ (List.mem_of_getElem? (i := 15) rfl))) (by decide) (backOfS (W := 1) (rm4 l Z a0 hw [] b51 b56 v1 v47 v48 (0 : Int64) (0 : Int64) (0 : Int64) h56 n0 Z56 f57 f58 f59 f60 f61 G_b51 hO.i1 hO.i2 hO.i3) hZ (hw _ (List.mem_of_getElem? (i := 15) rfl)) (hw _ (List.mem_of_getElem? (i := 4) rfl)) (by decide) (by decide)) (g := (mkF m 75 #[.val (.long p0), .second, .val (.long p1), .second, .val (.long p2), .second, .val (.int p3), .val (.int p4), .val (.long (1099511627775 : Int64)), .second, .val (.long v1), .second, .val (.long v47), .second, .val (.long v48), .second, .val (.int v49), .val (.long v50), .second, .unset, .unset, .unset, .unset, .unset, .unset, .unset, .unset, .unset, .unset, .unset, .unset] [(.long v48), (.long v47), (.long v1), (.ref b56), (.ref b51), (.ref b51)])) rfl (by rw [hml]; rfl) (Steps.refl _) (a := b51) (argsL := [(.ref b56), (.long v1), (.long v47), (.long v48)]) (rest := [(.ref b51)]) (lenOf pd0_0 rfl) rfl (by show 2 * 0 + _ ≤ _; exact Nat.le_of_eq rfl) (hb hby at_75) (fun _ _ => ⟨rfl, e56, (by decide : 3 + 2 ≤ _), (by decide : 12 + 32 ≤ _)⟩)
    dsimp only [Pt.U, Pt.locs, Pt.cells, Pt.slots] at X62 l62 y62 z62 st62 hQ62 h262 gr62
    obtain ⟨X62, hS, hZ, hown⟩ := rebS hS (show _ ≤ T56.heap.size by rw [e56]; exact hk) X62 h262 gr62 hZ hown
    have hk := Nat.le_refl T62.heap.size
    rw [l62, y62, z62] at X62
    obtain ⟨rfl, N62q, Kq62, g0_62, g1_62, g2_62⟩ := hQ62
    have f63 : Exa Z T62.heap b51 "com/example/gaithersburg/gaithersburg/TopicScore" := f57.keep Kq62
    have Z62 : n0 ≤ T62.heap.size := Nat.le_trans Z56 Kq62.1
    have N62 := Fr.app N0 N62q
    refine own_tr st62 ?_
    show own_Go p.tables e below _ (T62.setTop (mkF m 78 #[.val (.long p0), .second, .val (.long p1), .second, .val (.long p2), .second, .val (.int p3), .val (.int p4), .val (.long (1099511627775 : Int64)), .second, .val (.long v1), .second, .val (.long v47), .second, .val (.long v48), .second, .val (.int v49), .val (.long v50), .second, .unset, .unset, .unset, .unset, .unset, .unset, .unset, .unset, .unset, .unset, .unset, .unset] [(.ref b51)]))
    obtain ⟨cq64, kq64, q64a, q64b, q64c⟩ := isOf hZ rfl g0_62
    obtain ⟨_, _, ⟨T64, L64, k64, n64⟩, -, X64, ⟨Lc64, hQ64, l64, y64, z64⟩, st64⟩ := X62.virtualBack hx (y := (⟨"com/example/gaithersburg/gaithersburg/TopicScore", "precision", "()D"⟩ : MethodName)) (z := (⟨"com/example/gaithersburg/gaithersburg/TopicScore", "precision", "()D"⟩ : MethodName)) hown (mvT hZ (hw _ (List.mem_of_getElem? (i := 37) rfl))) (mvT hZ (hw _ (List.mem_of_getElem? (i := 38) rfl))) (notFace_of_selects (args := #[]) (mvT hZ (hw _ (List.mem_of_getElem? (i := 40) rfl)))) (mvT hZ (hw _ (List.mem_of_getElem? (i := 40) rfl))) (mvT hZ (hw _ (List.mem_of_getElem? (i := 39) rfl))) (by decide) (backOf (W := 0) (rm5 l Z a0 hw [] b51 v1 v47 T62.heap n0 Z62 g1_62 g2_62 (hO.nn (by decide))) hZ (hw _ (List.mem_of_getElem? (i := 41) rfl)) (hw _ (List.mem_of_getElem? (i := 4) rfl)) (by decide) (by decide)) q64a q64c (g := (mkF m 78 #[.val (.long p0), .second, .val (.long p1), .second, .val (.long p2), .second, .val (.int p3), .val (.int p4), .val (.long (1099511627775 : Int64)), .second, .val (.long v1), .second, .val (.long v47), .second, .val (.long v48), .second, .val (.int v49), .val (.long v50), .second, .unset, .unset, .unset, .unset, .unset, .unset, .unset, .unset, .unset, .unset, .unset, .unset] [(.ref b51)])) rfl (by rw [hml]; rfl) (Steps.refl _) (argsL := []) (rest := []) (lenOf pd0_1 rfl) rfl (by show 2 * 0 + _ ≤ _; exact Nat.le_of_eq rfl) (hb hby at_78) (fun _ _ => ⟨rfl, rfl, (by decide : 5 + 0 ≤ _), (by decide : 44 + 0 ≤ _)⟩)
    dsimp only [Pt.U, Pt.locs, Pt.cells, Pt.slots] at X64 l64 y64 z64 st64 hQ64
    rw [l64, y64, z64] at X64
    obtain ⟨rfl, N64q, hh64⟩ := hQ64
    have N64 := Fr.app N62 N64q
    refine own_tr st64 ?_
    show own_Go p.tables e below _ (T64.setTop (mkF m 81 #[.val (.long p0), .second, .val (.long p1), .second, .val (.long p2), .second, .val (.int p3), .val (.int p4), .val (.long (1099511627775 : Int64)), .second, .val (.long v1), .second, .val (.long v47), .second, .val (.long v48), .second, .val (.int v49), .val (.long v50), .second, .unset, .unset, .unset, .unset, .unset, .unset, .unset, .unset, .unset, .unset, .unset, .unset] [(.double (own_pr v1 v47))]))
    refine own_st (S' := T64.setTop (mkF m 83 #[.val (.long p0), .second, .val (.long p1), .second, .val (.long p2), .second, .val (.int p3), .val (.int p4), .val (.long (1099511627775 : Int64)), .second, .val (.long v1), .second, .val (.long v47), .second, .val (.long v48), .second, .val (.int v49), .val (.long v50), .second, .val (.double (own_pr v1 v47)), .second, .unset, .unset, .unset, .unset, .unset, .unset, .unset, .unset, .unset, .unset] [])) (fun t k => XS.dstore X64.here hx rfl (hb hby at_81) rfl (l' := #[.val (.long p0), .second, .val (.long p1), .second, .val (.long p2), .second, .val (.int p3), .val (.int p4), .val (.long (1099511627775 : Int64)), .second, .val (.long v1), .second, .val (.long v47), .second, .val (.long v48), .second, .val (.int v49), .val (.long v50), .second, .val (.double (own_pr v1 v47)), .second, .unset, .unset, .unset, .unset, .unset, .unset, .unset, .unset, .unset, .unset]) rfl k) ?_
    obtain ⟨T65, h65, X65, e65, E65, A65, D65, -, st65⟩ := newO X64 hx hZ hown (hw _ (List.mem_of_getElem? (i := 2) rfl)) (hw _ (List.mem_of_getElem? (i := 3) rfl)) (hw _ (List.mem_of_getElem? (i := 4) rfl)) hh64 (g := (mkF m 83 #[.val (.long p0), .second, .val (.long p1), .second, .val (.long p2), .second, .val (.int p3), .val (.int p4), .val (.long (1099511627775 : Int64)), .second, .val (.long v1), .second, .val (.long v47), .second, .val (.long v48), .second, .val (.int v49), .val (.long v50), .second, .val (.double (own_pr v1 v47)), .second, .unset, .unset, .unset, .unset, .unset, .unset, .unset, .unset, .unset, .unset] [])) rfl (hb hby at_83) (by decide) (by decide)
    obtain ⟨b65, g65⟩ : ∃ z, z = T62.heap.size := ⟨_, rfl⟩
    rw [← g65] at A65 D65 st65
    have G_b65 : n0 ≤ b65 := Nat.le_trans Z62 (Nat.le_of_eq g65.symm)
    have ne_b51_b65 : b51 ≠ b65 := Nat.ne_of_lt (Nat.lt_of_lt_of_le g0_62.lt (Nat.le_of_eq g65.symm))
    have f66 : Exa Z h65 b51 "com/example/gaithersburg/gaithersburg/TopicScore" := g0_62.ext E65
    have f67 : Fld Z h65 b51 "com/example/gaithersburg/gaithersburg/TopicScore" "shown" "J" (.long v1) := g1_62.ext E65
    have f68 : Fld Z h65 b51 "com/example/gaithersburg/gaithersburg/TopicScore" "relevantShown" "J" (.long v47) := g2_62.ext E65
    have Z65 : n0 ≤ h65.size := Nat.le_trans Z62 E65.1
    have hk := Nat.le_trans hk E65.1
    have f69 : Fld Z h65 b65 "com/example/gaithersburg/gaithersburg/TopicScore" "topicId" "Ljava/lang/String;" .null := D65 (Or.inr (hw _ (List.mem_of_getElem? (i := 30) rfl))) (ty := (.object "java/lang/String")) (by decide)
    have f70 : Fld Z h65 b65 "com/example/gaithersburg/gaithersburg/TopicScore" "shown" "J" (.long (0 : Int64)) := D65 (Or.inr (hw _ (List.mem_of_getElem? (i := 32) rfl))) (ty := .long) (by decide)
    have f71 : Fld Z h65 b65 "com/example/gaithersburg/gaithersburg/TopicScore" "relevantShown" "J" (.long (0 : Int64)) := D65 (Or.inr (hw _ (List.mem_of_getElem? (i := 34) rfl))) (ty := .long) (by decide)
    have f72 : Fld Z h65 b65 "com/example/gaithersburg/gaithersburg/TopicScore" "relevant" "J" (.long (0 : Int64)) := D65 (Or.inr (hw _ (List.mem_of_getElem? (i := 36) rfl))) (ty := .long) (by decide)
    refine own_st st65 ?_
    show own_Go p.tables e below _ (T65.setTop (mkF m 86 #[.val (.long p0), .second, .val (.long p1), .second, .val (.long p2), .second, .val (.int p3), .val (.int p4), .val (.long (1099511627775 : Int64)), .second, .val (.long v1), .second, .val (.long v47), .second, .val (.long v48), .second, .val (.int v49), .val (.long v50), .second, .val (.double (own_pr v1 v47)), .second, .unset, .unset, .unset, .unset, .unset, .unset, .unset, .unset, .unset, .unset] [(.ref b65)]))
    refine own_st (S' := T65.setTop (mkF m 87 #[.val (.long p0), .second, .val (.long p1), .second, .val (.long p2), .second, .val (.int p3), .val (.int p4), .val (.long (1099511627775 : Int64)), .second, .val (.long v1), .second, .val (.long v47), .second, .val (.long v48), .second, .val (.int v49), .val (.long v50), .second, .val (.double (own_pr v1 v47)), .second, .unset, .unset, .unset, .unset, .unset, .unset, .unset, .unset, .unset, .unset] [(.ref b65), (.ref b65)])) (fun t k => XS.dup X65.here hx rfl (hb hby at_86) rfl rfl k) ?_
    obtain ⟨b73, T73, h73, k73, X73, e73, E73, hS, hk, hZ, hown, st73⟩ := ldcS X65 hx hZ hown (hw _ (List.mem_of_getElem? (i := 5) rfl)) (own_wS hw) e65 hS hk (g := (mkF m 87 #[.val (.long p0), .second, .val (.long p1), .second, .val (.long p2), .second, .val (.int p3), .val (.int p4), .val (.long (1099511627775 : Int64)), .second, .val (.long v1), .second, .val (.long v47), .second, .val (.long v48), .second, .val (.int v49), .val (.long v50), .second, .val (.double (own_pr v1 v47)), .second, .unset, .unset, .unset, .unset, .unset, .unset, .unset, .unset, .unset, .unset] [(.ref b65), (.ref b65)])) rfl (hb hby at_87) (n := 4) (by decide) (by decide) (by decide) (by decide)
    have f74 : Exa Z h73 b51 "com/example/gaithersburg/gaithersburg/TopicScore" := f66.ext E73
    have f75 : Fld Z h73 b51 "com/example/gaithersburg/gaithersburg/TopicScore" "shown" "J" (.long v1) := f67.ext E73
    have f76 : Fld Z h73 b51 "com/example/gaithersburg/gaithersburg/TopicScore" "relevantShown" "J" (.long v47) := f68.ext E73
    have f77 : Exa Z h73 b65 "com/example/gaithersburg/gaithersburg/TopicScore" := A65.ext E73
    have f78 : Fld Z h73 b65 "com/example/gaithersburg/gaithersburg/TopicScore" "topicId" "Ljava/lang/String;" .null := f69.ext E73
    have f79 : Fld Z h73 b65 "com/example/gaithersburg/gaithersburg/TopicScore" "shown" "J" (.long (0 : Int64)) := f70.ext E73
    have f80 : Fld Z h73 b65 "com/example/gaithersburg/gaithersburg/TopicScore" "relevantShown" "J" (.long (0 : Int64)) := f71.ext E73
    have f81 : Fld Z h73 b65 "com/example/gaithersburg/gaithersburg/TopicScore" "relevant" "J" (.long (0 : Int64)) := f72.ext E73
    have Z73 : n0 ≤ h73.size := Nat.le_trans Z65 E73.1
    refine own_st st73 ?_
    show own_Go p.tables e below _ (T73.setTop (mkF m 89 #[.val (.long p0), .second, .val (.long p1), .second, .val (.long p2), .second, .val (.int p3), .val (.int p4), .val (.long (1099511627775 : Int64)), .second, .val (.long v1), .second, .val (.long v47), .second, .val (.long v48), .second, .val (.int v49), .val (.long v50), .second, .val (.double (own_pr v1 v47)), .second, .unset, .unset, .unset, .unset, .unset, .unset, .unset, .unset, .unset, .unset] [(.ref b73), (.ref b65), (.ref b65)]))
    refine own_st (S' := T73.setTop (mkF m 91 #[.val (.long p0), .second, .val (.long p1), .second, .val (.long p2), .second, .val (.int p3), .val (.int p4), .val (.long (1099511627775 : Int64)), .second, .val (.long v1), .second, .val (.long v47), .second, .val (.long v48), .second, .val (.int v49), .val (.long v50), .second, .val (.double (own_pr v1 v47)), .second, .unset, .unset, .unset, .unset, .unset, .unset, .unset, .unset, .unset, .unset] [(.long v50), (.ref b73), (.ref b65), (.ref b65)])) (fun t k => XS.lload X73.here hx rfl (hb hby at_89) rfl k) ?_
    refine own_st (S' := T73.setTop (mkF m 93 #[.val (.long p0), .second, .val (.long p1), .second, .val (.long p2), .second, .val (.int p3), .val (.int p4), .val (.long (1099511627775 : Int64)), .second, .val (.long v1), .second, .val (.long v47), .second, .val (.long v48), .second, .val (.int v49), .val (.long v50), .second, .val (.double (own_pr v1 v47)), .second, .unset, .unset, .unset, .unset, .unset, .unset, .unset, .unset, .unset, .unset] [(.long v1), (.long v50), (.ref b73), (.ref b65), (.ref b65)])) (fun t k => XS.lload X73.here hx rfl (hb hby at_91) rfl k) ?_
    refine own_st (S' := T73.setTop (mkF m 94 #[.val (.long p0), .second, .val (.long p1), .second, .val (.long p2), .second, .val (.int p3), .val (.int p4), .val (.long (1099511627775 : Int64)), .second, .val (.long v1), .second, .val (.long v47), .second, .val (.long v48), .second, .val (.int v49), .val (.long v50), .second, .val (.double (own_pr v1 v47)), .second, .unset, .unset, .unset, .unset, .unset, .unset, .unset, .unset, .unset, .unset] [(.long (v50 * v1)), (.ref b73), (.ref b65), (.ref b65)])) (fun t k => XS.lmul X73.here hx rfl (hb hby at_93) rfl k) ?_
    refine own_st (S' := T73.setTop (mkF m 96 #[.val (.long p0), .second, .val (.long p1), .second, .val (.long p2), .second, .val (.int p3), .val (.int p4), .val (.long (1099511627775 : Int64)), .second, .val (.long v1), .second, .val (.long v47), .second, .val (.long v48), .second, .val (.int v49), .val (.long v50), .second, .val (.double (own_pr v1 v47)), .second, .unset, .unset, .unset, .unset, .unset, .unset, .unset, .unset, .unset, .unset] [(.long v50), (.long (v50 * v1)), (.ref b73), (.ref b65), (.ref b65)])) (fun t k => XS.lload X73.here hx rfl (hb hby at_94) rfl k) ?_
    refine own_st (S' := T73.setTop (mkF m 98 #[.val (.long p0), .second, .val (.long p1), .second, .val (.long p2), .second, .val (.int p3), .val (.int p4), .val (.long (1099511627775 : Int64)), .second, .val (.long v1), .second, .val (.long v47), .second, .val (.long v48), .second, .val (.int v49), .val (.long v50), .second, .val (.double (own_pr v1 v47)), .second, .unset, .unset, .unset, .unset, .unset, .unset, .unset, .unset, .unset, .unset] [(.long v47), (.long v50), (.long (v50 * v1)), (.ref b73), (.ref b65), (.ref b65)])) (fun t k => XS.lload X73.here hx rfl (hb hby at_96) rfl k) ?_
    refine own_st (S' := T73.setTop (mkF m 99 #[.val (.long p0), .second, .val (.long p1), .second, .val (.long p2), .second, .val (.int p3), .val (.int p4), .val (.long (1099511627775 : Int64)), .second, .val (.long v1), .second, .val (.long v47), .second, .val (.long v48), .second, .val (.int v49), .val (.long v50), .second, .val (.double (own_pr v1 v47)), .second, .unset, .unset, .unset, .unset, .unset, .unset, .unset, .unset, .unset, .unset] [(.long (v50 * v47)), (.long (v50 * v1)), (.ref b73), (.ref b65), (.ref b65)])) (fun t k => XS.lmul X73.here hx rfl (hb hby at_98) rfl k) ?_
    refine own_st (S' := T73.setTop (mkF m 101 #[.val (.long p0), .second, .val (.long p1), .second, .val (.long p2), .second, .val (.int p3), .val (.int p4), .val (.long (1099511627775 : Int64)), .second, .val (.long v1), .second, .val (.long v47), .second, .val (.long v48), .second, .val (.int v49), .val (.long v50), .second, .val (.double (own_pr v1 v47)), .second, .unset, .unset, .unset, .unset, .unset, .unset, .unset, .unset, .unset, .unset] [(.long v50), (.long (v50 * v47)), (.long (v50 * v1)), (.ref b73), (.ref b65), (.ref b65)])) (fun t k => XS.lload X73.here hx rfl (hb hby at_99) rfl k) ?_
    refine own_st (S' := T73.setTop (mkF m 103 #[.val (.long p0), .second, .val (.long p1), .second, .val (.long p2), .second, .val (.int p3), .val (.int p4), .val (.long (1099511627775 : Int64)), .second, .val (.long v1), .second, .val (.long v47), .second, .val (.long v48), .second, .val (.int v49), .val (.long v50), .second, .val (.double (own_pr v1 v47)), .second, .unset, .unset, .unset, .unset, .unset, .unset, .unset, .unset, .unset, .unset] [(.long v48), (.long v50), (.long (v50 * v47)), (.long (v50 * v1)), (.ref b73), (.ref b65), (.ref b65)])) (fun t k => XS.lload X73.here hx rfl (hb hby at_101) rfl k) ?_
    refine own_st (S' := T73.setTop (mkF m 104 #[.val (.long p0), .second, .val (.long p1), .second, .val (.long p2), .second, .val (.int p3), .val (.int p4), .val (.long (1099511627775 : Int64)), .second, .val (.long v1), .second, .val (.long v47), .second, .val (.long v48), .second, .val (.int v49), .val (.long v50), .second, .val (.double (own_pr v1 v47)), .second, .unset, .unset, .unset, .unset, .unset, .unset, .unset, .unset, .unset, .unset] [(.long (v50 * v48)), (.long (v50 * v47)), (.long (v50 * v1)), (.ref b73), (.ref b65), (.ref b65)])) (fun t k => XS.lmul X73.here hx rfl (hb hby at_103) rfl k) ?_
    obtain ⟨_, _, ⟨T82, L82, k82, n82⟩, -, X82, h282, gr82, ⟨Lc82, hQ82, l82, y82, z82⟩, st82⟩ := X73.specialBackS hx (y := (⟨"com/example/gaithersburg/gaithersburg/TopicScore", "<init>", "(Ljava/lang/String;JJJ)V"⟩ : MethodName)) rfl hown (mvT hZ (hw _ (List.mem_of_getElem? (i := 13) rfl))) (mvT hZ (hw _ (List.mem_of_getElem? (i := 14) rfl))) (mvT hZ (hw _ (List.mem_of_getElem? (i := 15) rfl))) (by decide) (backOfS (W := 1) (rm4 l Z a0 hw [] b65 b73 (v50 * v1) (v50 * v47) (v50 * v48) (0 : Int64) (0 : Int64) (0 : Int64) h73 n0 Z73 f77 f78 f79 f80 f81 G_b65 hM.i1 hM.i2 hM.i3) hZ (hw _ (List.mem_of_getElem? (i := 15) rfl)) (hw _ (List.mem_of_getElem? (i := 4) rfl)) (by decide) (by decide)) (g := (mkF m 104 #[.val (.long p0), .second, .val (.long p1), .second, .val (.long p2), .second, .val (.int p3), .val (.int p4), .val (.long (1099511627775 : Int64)), .second, .val (.long v1), .second, .val (.long v47), .second, .val (.long v48), .second, .val (.int v49), .val (.long v50), .second, .val (.double (own_pr v1 v47)), .second, .unset, .unset, .unset, .unset, .unset, .unset, .unset, .unset, .unset, .unset] [(.long (v50 * v48)), (.long (v50 * v47)), (.long (v50 * v1)), (.ref b73), (.ref b65), (.ref b65)])) rfl (by rw [hml]; rfl) (Steps.refl _) (a := b65) (argsL := [(.ref b73), (.long (v50 * v1)), (.long (v50 * v47)), (.long (v50 * v48))]) (rest := [(.ref b65)]) (lenOf pd0_0 rfl) rfl (by show 2 * 0 + _ ≤ _; exact Nat.le_of_eq rfl) (hb hby at_104) (fun _ _ => ⟨rfl, e73, (by decide : 8 + 2 ≤ _), (by decide : 56 + 32 ≤ _)⟩)
    dsimp only [Pt.U, Pt.locs, Pt.cells, Pt.slots] at X82 l82 y82 z82 st82 hQ82 h282 gr82
    obtain ⟨X82, hS, hZ, hown⟩ := rebS hS (show _ ≤ T73.heap.size by rw [e73]; exact hk) X82 h282 gr82 hZ hown
    have hk := Nat.le_refl T82.heap.size
    rw [l82, y82, z82] at X82
    obtain ⟨rfl, N82q, Kq82, g0_82, g1_82, g2_82⟩ := hQ82
    have f83 : Exa Z T82.heap b51 "com/example/gaithersburg/gaithersburg/TopicScore" := f74.keep Kq82
    have f84 : Fld Z T82.heap b51 "com/example/gaithersburg/gaithersburg/TopicScore" "shown" "J" (.long v1) := f75.keep Kq82 (ninS ne_b51_b65 nin0)
    have f85 : Fld Z T82.heap b51 "com/example/gaithersburg/gaithersburg/TopicScore" "relevantShown" "J" (.long v47) := f76.keep Kq82 (ninS ne_b51_b65 nin0)
    have f86 : Exa Z T82.heap b65 "com/example/gaithersburg/gaithersburg/TopicScore" := f77.keep Kq82
    have Z82 : n0 ≤ T82.heap.size := Nat.le_trans Z73 Kq82.1
    have N82 := Fr.app N64 N82q
    refine own_tr st82 ?_
    show own_Go p.tables e below _ (T82.setTop (mkF m 107 #[.val (.long p0), .second, .val (.long p1), .second, .val (.long p2), .second, .val (.int p3), .val (.int p4), .val (.long (1099511627775 : Int64)), .second, .val (.long v1), .second, .val (.long v47), .second, .val (.long v48), .second, .val (.int v49), .val (.long v50), .second, .val (.double (own_pr v1 v47)), .second, .unset, .unset, .unset, .unset, .unset, .unset, .unset, .unset, .unset, .unset] [(.ref b65)]))
    obtain ⟨cq87, kq87, q87a, q87b, q87c⟩ := isOf hZ rfl g0_82
    obtain ⟨_, _, ⟨T87, L87, k87, n87⟩, -, X87, ⟨Lc87, hQ87, l87, y87, z87⟩, st87⟩ := X82.virtualBack hx (y := (⟨"com/example/gaithersburg/gaithersburg/TopicScore", "precision", "()D"⟩ : MethodName)) (z := (⟨"com/example/gaithersburg/gaithersburg/TopicScore", "precision", "()D"⟩ : MethodName)) hown (mvT hZ (hw _ (List.mem_of_getElem? (i := 37) rfl))) (mvT hZ (hw _ (List.mem_of_getElem? (i := 38) rfl))) (notFace_of_selects (args := #[]) (mvT hZ (hw _ (List.mem_of_getElem? (i := 40) rfl)))) (mvT hZ (hw _ (List.mem_of_getElem? (i := 40) rfl))) (mvT hZ (hw _ (List.mem_of_getElem? (i := 39) rfl))) (by decide) (backOf (W := 0) (rm5 l Z a0 hw [] b65 (v50 * v1) (v50 * v47) T82.heap n0 Z82 g1_82 g2_82 (hM.nn (by decide))) hZ (hw _ (List.mem_of_getElem? (i := 41) rfl)) (hw _ (List.mem_of_getElem? (i := 4) rfl)) (by decide) (by decide)) q87a q87c (g := (mkF m 107 #[.val (.long p0), .second, .val (.long p1), .second, .val (.long p2), .second, .val (.int p3), .val (.int p4), .val (.long (1099511627775 : Int64)), .second, .val (.long v1), .second, .val (.long v47), .second, .val (.long v48), .second, .val (.int v49), .val (.long v50), .second, .val (.double (own_pr v1 v47)), .second, .unset, .unset, .unset, .unset, .unset, .unset, .unset, .unset, .unset, .unset] [(.ref b65)])) rfl (by rw [hml]; rfl) (Steps.refl _) (argsL := []) (rest := []) (lenOf pd0_1 rfl) rfl (by show 2 * 0 + _ ≤ _; exact Nat.le_of_eq rfl) (hb hby at_107) (fun _ _ => ⟨rfl, rfl, (by decide : 10 + 0 ≤ _), (by decide : 88 + 0 ≤ _)⟩)
    dsimp only [Pt.U, Pt.locs, Pt.cells, Pt.slots] at X87 l87 y87 z87 st87 hQ87
    rw [l87, y87, z87] at X87
    obtain ⟨rfl, N87q, hh87⟩ := hQ87
    have N87 := Fr.app N82 N87q
    refine own_tr st87 ?_
    show own_Go p.tables e below _ (T87.setTop (mkF m 110 #[.val (.long p0), .second, .val (.long p1), .second, .val (.long p2), .second, .val (.int p3), .val (.int p4), .val (.long (1099511627775 : Int64)), .second, .val (.long v1), .second, .val (.long v47), .second, .val (.long v48), .second, .val (.int v49), .val (.long v50), .second, .val (.double (own_pr v1 v47)), .second, .unset, .unset, .unset, .unset, .unset, .unset, .unset, .unset, .unset, .unset] [(.double (own_pr (v50 * v1) (v50 * v47)))]))
    refine own_st (S' := T87.setTop (mkF m 112 #[.val (.long p0), .second, .val (.long p1), .second, .val (.long p2), .second, .val (.int p3), .val (.int p4), .val (.long (1099511627775 : Int64)), .second, .val (.long v1), .second, .val (.long v47), .second, .val (.long v48), .second, .val (.int v49), .val (.long v50), .second, .val (.double (own_pr v1 v47)), .second, .val (.double (own_pr (v50 * v1) (v50 * v47))), .second, .unset, .unset, .unset, .unset, .unset, .unset, .unset, .unset] [])) (fun t k => XS.dstore X87.here hx rfl (hb hby at_110) rfl (l' := #[.val (.long p0), .second, .val (.long p1), .second, .val (.long p2), .second, .val (.int p3), .val (.int p4), .val (.long (1099511627775 : Int64)), .second, .val (.long v1), .second, .val (.long v47), .second, .val (.long v48), .second, .val (.int v49), .val (.long v50), .second, .val (.double (own_pr v1 v47)), .second, .val (.double (own_pr (v50 * v1) (v50 * v47))), .second, .unset, .unset, .unset, .unset, .unset, .unset, .unset, .unset]) rfl k) ?_
    refine own_st (S' := T87.setTop (mkF m 114 #[.val (.long p0), .second, .val (.long p1), .second, .val (.long p2), .second, .val (.int p3), .val (.int p4), .val (.long (1099511627775 : Int64)), .second, .val (.long v1), .second, .val (.long v47), .second, .val (.long v48), .second, .val (.int v49), .val (.long v50), .second, .val (.double (own_pr v1 v47)), .second, .val (.double (own_pr (v50 * v1) (v50 * v47))), .second, .unset, .unset, .unset, .unset, .unset, .unset, .unset, .unset] [(.double (own_pr v1 v47))])) (fun t k => XS.dload X87.here hx rfl (hb hby at_112) rfl k) ?_
    refine own_st (S' := T87.setTop (mkF m 115 #[.val (.long p0), .second, .val (.long p1), .second, .val (.long p2), .second, .val (.int p3), .val (.int p4), .val (.long (1099511627775 : Int64)), .second, .val (.long v1), .second, .val (.long v47), .second, .val (.long v48), .second, .val (.int v49), .val (.long v50), .second, .val (.double (own_pr v1 v47)), .second, .val (.double (own_pr (v50 * v1) (v50 * v47))), .second, .unset, .unset, .unset, .unset, .unset, .unset, .unset, .unset] [(.double FP.dconst0), (.double (own_pr v1 v47))])) (fun t k => XS.dconst0 X87.here hx rfl (hb hby at_114) rfl k) ?_
    refine own_st (S' := T87.setTop (mkF m 116 #[.val (.long p0), .second, .val (.long p1), .second, .val (.long p2), .second, .val (.int p3), .val (.int p4), .val (.long (1099511627775 : Int64)), .second, .val (.long v1), .second, .val (.long v47), .second, .val (.long v48), .second, .val (.int v49), .val (.long v50), .second, .val (.double (own_pr v1 v47)), .second, .val (.double (own_pr (v50 * v1) (v50 * v47))), .second, .unset, .unset, .unset, .unset, .unset, .unset, .unset, .unset] [(.int (cmpValue (FP.dcmp (own_pr v1 v47) FP.dconst0) .l))])) (fun t k => XS.dcmpS X87.here hx rfl (hb hby at_115) rfl rfl k) ?_
    have hc88 : ¬ ((cmpValue (FP.dcmp (own_pr v1 v47) FP.dconst0) .l) < (0 : Int32)) := own_c0 hO
    refine own_st (S' := T87.setTop (mkF m 119 #[.val (.long p0), .second, .val (.long p1), .second, .val (.long p2), .second, .val (.int p3), .val (.int p4), .val (.long (1099511627775 : Int64)), .second, .val (.long v1), .second, .val (.long v47), .second, .val (.long v48), .second, .val (.int v49), .val (.long v50), .second, .val (.double (own_pr v1 v47)), .second, .val (.double (own_pr (v50 * v1) (v50 * v47))), .second, .unset, .unset, .unset, .unset, .unset, .unset, .unset, .unset] [])) (fun t k => XS.ifNo X87.here hx rfl (hb hby at_116) rfl ((if0 _ _).trans (flt hc88).1) k) ?_
    show own_Go p.tables e below _ (T87.setTop (mkF m 119 #[.val (.long p0), .second, .val (.long p1), .second, .val (.long p2), .second, .val (.int p3), .val (.int p4), .val (.long (1099511627775 : Int64)), .second, .val (.long v1), .second, .val (.long v47), .second, .val (.long v48), .second, .val (.int v49), .val (.long v50), .second, .val (.double (own_pr v1 v47)), .second, .val (.double (own_pr (v50 * v1) (v50 * v47))), .second, .unset, .unset, .unset, .unset, .unset, .unset, .unset, .unset] []))
    refine own_st (S' := T87.setTop (mkF m 121 #[.val (.long p0), .second, .val (.long p1), .second, .val (.long p2), .second, .val (.int p3), .val (.int p4), .val (.long (1099511627775 : Int64)), .second, .val (.long v1), .second, .val (.long v47), .second, .val (.long v48), .second, .val (.int v49), .val (.long v50), .second, .val (.double (own_pr v1 v47)), .second, .val (.double (own_pr (v50 * v1) (v50 * v47))), .second, .unset, .unset, .unset, .unset, .unset, .unset, .unset, .unset] [(.double (own_pr v1 v47))])) (fun t k => XS.dload X87.here hx rfl (hb hby at_119) rfl k) ?_
    refine own_st (S' := T87.setTop (mkF m 122 #[.val (.long p0), .second, .val (.long p1), .second, .val (.long p2), .second, .val (.int p3), .val (.int p4), .val (.long (1099511627775 : Int64)), .second, .val (.long v1), .second, .val (.long v47), .second, .val (.long v48), .second, .val (.int v49), .val (.long v50), .second, .val (.double (own_pr v1 v47)), .second, .val (.double (own_pr (v50 * v1) (v50 * v47))), .second, .unset, .unset, .unset, .unset, .unset, .unset, .unset, .unset] [(.double FP.dconst1), (.double (own_pr v1 v47))])) (fun t k => XS.dconst1 X87.here hx rfl (hb hby at_121) rfl k) ?_
    refine own_st (S' := T87.setTop (mkF m 123 #[.val (.long p0), .second, .val (.long p1), .second, .val (.long p2), .second, .val (.int p3), .val (.int p4), .val (.long (1099511627775 : Int64)), .second, .val (.long v1), .second, .val (.long v47), .second, .val (.long v48), .second, .val (.int v49), .val (.long v50), .second, .val (.double (own_pr v1 v47)), .second, .val (.double (own_pr (v50 * v1) (v50 * v47))), .second, .unset, .unset, .unset, .unset, .unset, .unset, .unset, .unset] [(.int (cmpValue (FP.dcmp (own_pr v1 v47) FP.dconst1) .g))])) (fun t k => XS.dcmpS X87.here hx rfl (hb hby at_122) rfl rfl k) ?_
    have hc89 : ¬ ((0 : Int32) < (cmpValue (FP.dcmp (own_pr v1 v47) FP.dconst1) .g)) := own_c1 hO
    refine own_st (S' := T87.setTop (mkF m 128 #[.val (.long p0), .second, .val (.long p1), .second, .val (.long p2), .second, .val (.int p3), .val (.int p4), .val (.long (1099511627775 : Int64)), .second, .val (.long v1), .second, .val (.long v47), .second, .val (.long v48), .second, .val (.int v49), .val (.long v50), .second, .val (.double (own_pr v1 v47)), .second, .val (.double (own_pr (v50 * v1) (v50 * v47))), .second, .unset, .unset, .unset, .unset, .unset, .unset, .unset, .unset] [])) (fun t k => XS.ifYes X87.here hx rfl (pc0 := 123) (pc' := 128) rfl (hb hby at_123) rfl ((if0 _ _).trans (flt hc89).2.2.2) (by decide) (by decide) k) ?_
    show own_Go p.tables e below _ (T87.setTop (mkF m 128 #[.val (.long p0), .second, .val (.long p1), .second, .val (.long p2), .second, .val (.int p3), .val (.int p4), .val (.long (1099511627775 : Int64)), .second, .val (.long v1), .second, .val (.long v47), .second, .val (.long v48), .second, .val (.int v49), .val (.long v50), .second, .val (.double (own_pr v1 v47)), .second, .val (.double (own_pr (v50 * v1) (v50 * v47))), .second, .unset, .unset, .unset, .unset, .unset, .unset, .unset, .unset] []))
    refine own_st (S' := T87.setTop (mkF m 130 #[.val (.long p0), .second, .val (.long p1), .second, .val (.long p2), .second, .val (.int p3), .val (.int p4), .val (.long (1099511627775 : Int64)), .second, .val (.long v1), .second, .val (.long v47), .second, .val (.long v48), .second, .val (.int v49), .val (.long v50), .second, .val (.double (own_pr v1 v47)), .second, .val (.double (own_pr (v50 * v1) (v50 * v47))), .second, .unset, .unset, .unset, .unset, .unset, .unset, .unset, .unset] [(.double (own_pr v1 v47))])) (fun t k => XS.dload X87.here hx rfl (hb hby at_128) rfl k) ?_
    refine own_st (S' := T87.setTop (mkF m 132 #[.val (.long p0), .second, .val (.long p1), .second, .val (.long p2), .second, .val (.int p3), .val (.int p4), .val (.long (1099511627775 : Int64)), .second, .val (.long v1), .second, .val (.long v47), .second, .val (.long v48), .second, .val (.int v49), .val (.long v50), .second, .val (.double (own_pr v1 v47)), .second, .val (.double (own_pr (v50 * v1) (v50 * v47))), .second, .unset, .unset, .unset, .unset, .unset, .unset, .unset, .unset] [(.double (own_pr (v50 * v1) (v50 * v47))), (.double (own_pr v1 v47))])) (fun t k => XS.dload X87.here hx rfl (hb hby at_130) rfl k) ?_
    refine own_st (S' := T87.setTop (mkF m 133 #[.val (.long p0), .second, .val (.long p1), .second, .val (.long p2), .second, .val (.int p3), .val (.int p4), .val (.long (1099511627775 : Int64)), .second, .val (.long v1), .second, .val (.long v47), .second, .val (.long v48), .second, .val (.int v49), .val (.long v50), .second, .val (.double (own_pr v1 v47)), .second, .val (.double (own_pr (v50 * v1) (v50 * v47))), .second, .unset, .unset, .unset, .unset, .unset, .unset, .unset, .unset] [(.int (cmpValue (FP.dcmp (own_pr v1 v47) (own_pr (v50 * v1) (v50 * v47))) .l))])) (fun t k => XS.dcmpS X87.here hx rfl (hb hby at_132) rfl rfl k) ?_
    have hc90 : (cmpValue (FP.dcmp (own_pr v1 v47) (own_pr (v50 * v1) (v50 * v47))) .l) = (0 : Int32) := own_c2 hO hK
    refine own_st (S' := T87.setTop (mkF m 138 #[.val (.long p0), .second, .val (.long p1), .second, .val (.long p2), .second, .val (.int p3), .val (.int p4), .val (.long (1099511627775 : Int64)), .second, .val (.long v1), .second, .val (.long v47), .second, .val (.long v48), .second, .val (.int v49), .val (.long v50), .second, .val (.double (own_pr v1 v47)), .second, .val (.double (own_pr (v50 * v1) (v50 * v47))), .second, .unset, .unset, .unset, .unset, .unset, .unset, .unset, .unset] [])) (fun t k => XS.ifYes X87.here hx rfl (pc0 := 133) (pc' := 138) rfl (hb hby at_133) rfl ((if0 _ _).trans (teq hc90).1) (by decide) (by decide) k) ?_
    show own_Go p.tables e below _ (T87.setTop (mkF m 138 #[.val (.long p0), .second, .val (.long p1), .second, .val (.long p2), .second, .val (.int p3), .val (.int p4), .val (.long (1099511627775 : Int64)), .second, .val (.long v1), .second, .val (.long v47), .second, .val (.long v48), .second, .val (.int v49), .val (.long v50), .second, .val (.double (own_pr v1 v47)), .second, .val (.double (own_pr (v50 * v1) (v50 * v47))), .second, .unset, .unset, .unset, .unset, .unset, .unset, .unset, .unset] []))
    refine own_st (S' := T87.setTop (mkF m 140 #[.val (.long p0), .second, .val (.long p1), .second, .val (.long p2), .second, .val (.int p3), .val (.int p4), .val (.long (1099511627775 : Int64)), .second, .val (.long v1), .second, .val (.long v47), .second, .val (.long v48), .second, .val (.int v49), .val (.long v50), .second, .val (.double (own_pr v1 v47)), .second, .val (.double (own_pr (v50 * v1) (v50 * v47))), .second, .unset, .unset, .unset, .unset, .unset, .unset, .unset, .unset] [(.long v1)])) (fun t k => XS.lload X87.here hx rfl (hb hby at_138) rfl k) ?_
    refine own_st (S' := T87.setTop (mkF m 141 #[.val (.long p0), .second, .val (.long p1), .second, .val (.long p2), .second, .val (.int p3), .val (.int p4), .val (.long (1099511627775 : Int64)), .second, .val (.long v1), .second, .val (.long v47), .second, .val (.long v48), .second, .val (.int v49), .val (.long v50), .second, .val (.double (own_pr v1 v47)), .second, .val (.double (own_pr (v50 * v1) (v50 * v47))), .second, .unset, .unset, .unset, .unset, .unset, .unset, .unset, .unset] [(.long (0 : Int64)), (.long v1)])) (fun t k => XS.lconst X87.here hx rfl (hb hby at_140) k) ?_
    refine own_st (S' := T87.setTop (mkF m 142 #[.val (.long p0), .second, .val (.long p1), .second, .val (.long p2), .second, .val (.int p3), .val (.int p4), .val (.long (1099511627775 : Int64)), .second, .val (.long v1), .second, .val (.long v47), .second, .val (.long v48), .second, .val (.int v49), .val (.long v50), .second, .val (.double (own_pr v1 v47)), .second, .val (.double (own_pr (v50 * v1) (v50 * v47))), .second, .unset, .unset, .unset, .unset, .unset, .unset, .unset, .unset] [(.int (lcmpW v1 (0 : Int64)))])) (fun t k => XS.lcmp X87.here hx rfl (hb hby at_141) rfl k) ?_
    refine own_st (S' := T87.setTop (mkF m 158 #[.val (.long p0), .second, .val (.long p1), .second, .val (.long p2), .second, .val (.int p3), .val (.int p4), .val (.long (1099511627775 : Int64)), .second, .val (.long v1), .second, .val (.long v47), .second, .val (.long v48), .second, .val (.int v49), .val (.long v50), .second, .val (.double (own_pr v1 v47)), .second, .val (.double (own_pr (v50 * v1) (v50 * v47))), .second, .unset, .unset, .unset, .unset, .unset, .unset, .unset, .unset] [])) (fun t k => XS.ifYes X87.here hx rfl (pc0 := 142) (pc' := 158) rfl (hb hby at_142) rfl ((if0 _ _).trans (feq (mt (lw_eq _ _).mp hc2)).2) (by decide) (by decide) k) ?_
    show own_Go p.tables e below _ (T87.setTop (mkF m 158 #[.val (.long p0), .second, .val (.long p1), .second, .val (.long p2), .second, .val (.int p3), .val (.int p4), .val (.long (1099511627775 : Int64)), .second, .val (.long v1), .second, .val (.long v47), .second, .val (.long v48), .second, .val (.int v49), .val (.long v50), .second, .val (.double (own_pr v1 v47)), .second, .val (.double (own_pr (v50 * v1) (v50 * v47))), .second, .unset, .unset, .unset, .unset, .unset, .unset, .unset, .unset] []))
    obtain ⟨cn, hcn, ecn⟩ := own_cn qv49
    refine own_st (S' := T87.setTop (mkF m 160 #[.val (.long p0), .second, .val (.long p1), .second, .val (.long p2), .second, .val (.int p3), .val (.int p4), .val (.long (1099511627775 : Int64)), .second, .val (.long v1), .second, .val (.long v47), .second, .val (.long v48), .second, .val (.int v49), .val (.long v50), .second, .val (.double (own_pr v1 v47)), .second, .val (.double (own_pr (v50 * v1) (v50 * v47))), .second, .unset, .unset, .unset, .unset, .unset, .unset, .unset, .unset] [(.int v49)])) (fun t k => XS.iload X87.here hx rfl (hb hby at_158) rfl k) ?_
    refine own_st (S' := T87.setTop (mkF m 161 #[.val (.long p0), .second, .val (.long p1), .second, .val (.long p2), .second, .val (.int p3), .val (.int p4), .val (.long (1099511627775 : Int64)), .second, .val (.long v1), .second, .val (.long v47), .second, .val (.long v48), .second, .val (.int v49), .val (.long v50), .second, .val (.double (own_pr v1 v47)), .second, .val (.double (own_pr (v50 * v1) (v50 * v47))), .second, .unset, .unset, .unset, .unset, .unset, .unset, .unset, .unset] [(.double (FP.i2d v49))])) (fun t k => XS.i2dS X87.here hx rfl (hb hby at_160) rfl rfl k) ?_
    refine own_st (S' := T87.setTop (mkF m 164 #[.val (.long p0), .second, .val (.long p1), .second, .val (.long p2), .second, .val (.int p3), .val (.int p4), .val (.long (1099511627775 : Int64)), .second, .val (.long v1), .second, .val (.long v47), .second, .val (.long v48), .second, .val (.int v49), .val (.long v50), .second, .val (.double (own_pr v1 v47)), .second, .val (.double (own_pr (v50 * v1) (v50 * v47))), .second, .unset, .unset, .unset, .unset, .unset, .unset, .unset, .unset] [(.double (4620693217682128896 : UInt64)), (.double (FP.i2d v49))])) (fun t k => X87.ldc2DoubleC hx hown (mvT hZ (hw _ (List.mem_of_getElem? (i := 42) rfl))) (g := (mkF m 161 #[.val (.long p0), .second, .val (.long p1), .second, .val (.long p2), .second, .val (.int p3), .val (.int p4), .val (.long (1099511627775 : Int64)), .second, .val (.long v1), .second, .val (.long v47), .second, .val (.long v48), .second, .val (.int v49), .val (.long v50), .second, .val (.double (own_pr v1 v47)), .second, .val (.double (own_pr (v50 * v1) (v50 * v47))), .second, .unset, .unset, .unset, .unset, .unset, .unset, .unset, .unset] [(.double (FP.i2d v49))])) rfl (hb hby at_161) _ k) ?_
    refine own_st (S' := T87.setTop (mkF m 165 #[.val (.long p0), .second, .val (.long p1), .second, .val (.long p2), .second, .val (.int p3), .val (.int p4), .val (.long (1099511627775 : Int64)), .second, .val (.long v1), .second, .val (.long v47), .second, .val (.long v48), .second, .val (.int v49), .val (.long v50), .second, .val (.double (own_pr v1 v47)), .second, .val (.double (own_pr (v50 * v1) (v50 * v47))), .second, .unset, .unset, .unset, .unset, .unset, .unset, .unset, .unset] [(.double (FP.ddiv (FP.i2d v49) (4620693217682128896 : UInt64)))])) (fun t k => XS.ddivS X87.here hx rfl (hb hby at_164) rfl (own_rn hcn ecn) rfl k) ?_
    refine own_st (S' := T87.setTop (mkF m 167 #[.val (.long p0), .second, .val (.long p1), .second, .val (.long p2), .second, .val (.int p3), .val (.int p4), .val (.long (1099511627775 : Int64)), .second, .val (.long v1), .second, .val (.long v47), .second, .val (.long v48), .second, .val (.int v49), .val (.long v50), .second, .val (.double (own_pr v1 v47)), .second, .val (.double (own_pr (v50 * v1) (v50 * v47))), .second, .val (.double (FP.ddiv (FP.i2d v49) (4620693217682128896 : UInt64))), .second, .unset, .unset, .unset, .unset, .unset, .unset] [])) (fun t k => XS.dstore X87.here hx rfl (hb hby at_165) rfl (l' := #[.val (.long p0), .second, .val (.long p1), .second, .val (.long p2), .second, .val (.int p3), .val (.int p4), .val (.long (1099511627775 : Int64)), .second, .val (.long v1), .second, .val (.long v47), .second, .val (.long v48), .second, .val (.int v49), .val (.long v50), .second, .val (.double (own_pr v1 v47)), .second, .val (.double (own_pr (v50 * v1) (v50 * v47))), .second, .val (.double (FP.ddiv (FP.i2d v49) (4620693217682128896 : UInt64))), .second, .unset, .unset, .unset, .unset, .unset, .unset]) rfl k) ?_
    refine own_st (S' := T87.setTop (mkF m 170 #[.val (.long p0), .second, .val (.long p1), .second, .val (.long p2), .second, .val (.int p3), .val (.int p4), .val (.long (1099511627775 : Int64)), .second, .val (.long v1), .second, .val (.long v47), .second, .val (.long v48), .second, .val (.int v49), .val (.long v50), .second, .val (.double (own_pr v1 v47)), .second, .val (.double (own_pr (v50 * v1) (v50 * v47))), .second, .val (.double (FP.ddiv (FP.i2d v49) (4620693217682128896 : UInt64))), .second, .unset, .unset, .unset, .unset, .unset, .unset] [(.long (8 : Int64))])) (fun t k => X87.ldc2Long hx hown (mvT hZ (hw _ (List.mem_of_getElem? (i := 43) rfl))) (g := (mkF m 167 #[.val (.long p0), .second, .val (.long p1), .second, .val (.long p2), .second, .val (.int p3), .val (.int p4), .val (.long (1099511627775 : Int64)), .second, .val (.long v1), .second, .val (.long v47), .second, .val (.long v48), .second, .val (.int v49), .val (.long v50), .second, .val (.double (own_pr v1 v47)), .second, .val (.double (own_pr (v50 * v1) (v50 * v47))), .second, .val (.double (FP.ddiv (FP.i2d v49) (4620693217682128896 : UInt64))), .second, .unset, .unset, .unset, .unset, .unset, .unset] [])) rfl (hb hby at_167) _ k) ?_
    refine own_st (S' := T87.setTop (mkF m 172 #[.val (.long p0), .second, .val (.long p1), .second, .val (.long p2), .second, .val (.int p3), .val (.int p4), .val (.long (1099511627775 : Int64)), .second, .val (.long v1), .second, .val (.long v47), .second, .val (.long v48), .second, .val (.int v49), .val (.long v50), .second, .val (.double (own_pr v1 v47)), .second, .val (.double (own_pr (v50 * v1) (v50 * v47))), .second, .val (.double (FP.ddiv (FP.i2d v49) (4620693217682128896 : UInt64))), .second, .unset, .unset, .unset, .unset, .unset, .unset] [(.long v47), (.long (8 : Int64))])) (fun t k => XS.lload X87.here hx rfl (hb hby at_170) rfl k) ?_
    refine own_st (S' := T87.setTop (mkF m 173 #[.val (.long p0), .second, .val (.long p1), .second, .val (.long p2), .second, .val (.int p3), .val (.int p4), .val (.long (1099511627775 : Int64)), .second, .val (.long v1), .second, .val (.long v47), .second, .val (.long v48), .second, .val (.int v49), .val (.long v50), .second, .val (.double (own_pr v1 v47)), .second, .val (.double (own_pr (v50 * v1) (v50 * v47))), .second, .val (.double (FP.ddiv (FP.i2d v49) (4620693217682128896 : UInt64))), .second, .unset, .unset, .unset, .unset, .unset, .unset] [(.long ((8 : Int64) * v47))])) (fun t k => XS.lmul X87.here hx rfl (hb hby at_172) rfl k) ?_
    obtain ⟨v91, qv91⟩ : ∃ z : Int64, z = ((8 : Int64) * v47) := ⟨_, rfl⟩
    show own_Go p.tables e below _ (T87.setTop (mkF m 173 #[.val (.long p0), .second, .val (.long p1), .second, .val (.long p2), .second, .val (.int p3), .val (.int p4), .val (.long (1099511627775 : Int64)), .second, .val (.long v1), .second, .val (.long v47), .second, .val (.long v48), .second, .val (.int v49), .val (.long v50), .second, .val (.double (own_pr v1 v47)), .second, .val (.double (own_pr (v50 * v1) (v50 * v47))), .second, .val (.double (FP.ddiv (FP.i2d v49) (4620693217682128896 : UInt64))), .second, .unset, .unset, .unset, .unset, .unset, .unset] [(.long ((8 : Int64) * v47))]))
    rw [← qv91]
    refine own_st (S' := T87.setTop (mkF m 175 #[.val (.long p0), .second, .val (.long p1), .second, .val (.long p2), .second, .val (.int p3), .val (.int p4), .val (.long (1099511627775 : Int64)), .second, .val (.long v1), .second, .val (.long v47), .second, .val (.long v48), .second, .val (.int v49), .val (.long v50), .second, .val (.double (own_pr v1 v47)), .second, .val (.double (own_pr (v50 * v1) (v50 * v47))), .second, .val (.double (FP.ddiv (FP.i2d v49) (4620693217682128896 : UInt64))), .second, .val (.long v91), .second, .unset, .unset, .unset, .unset] [])) (fun t k => XS.lstore X87.here hx rfl (hb hby at_173) rfl (l' := #[.val (.long p0), .second, .val (.long p1), .second, .val (.long p2), .second, .val (.int p3), .val (.int p4), .val (.long (1099511627775 : Int64)), .second, .val (.long v1), .second, .val (.long v47), .second, .val (.long v48), .second, .val (.int v49), .val (.long v50), .second, .val (.double (own_pr v1 v47)), .second, .val (.double (own_pr (v50 * v1) (v50 * v47))), .second, .val (.double (FP.ddiv (FP.i2d v49) (4620693217682128896 : UInt64))), .second, .val (.long v91), .second, .unset, .unset, .unset, .unset]) rfl k) ?_
    refine own_st (S' := T87.setTop (mkF m 177 #[.val (.long p0), .second, .val (.long p1), .second, .val (.long p2), .second, .val (.int p3), .val (.int p4), .val (.long (1099511627775 : Int64)), .second, .val (.long v1), .second, .val (.long v47), .second, .val (.long v48), .second, .val (.int v49), .val (.long v50), .second, .val (.double (own_pr v1 v47)), .second, .val (.double (own_pr (v50 * v1) (v50 * v47))), .second, .val (.double (FP.ddiv (FP.i2d v49) (4620693217682128896 : UInt64))), .second, .val (.long v91), .second, .unset, .unset, .unset, .unset] [(.int v49)])) (fun t k => XS.iload X87.here hx rfl (hb hby at_175) rfl k) ?_
    refine own_st (S' := T87.setTop (mkF m 178 #[.val (.long p0), .second, .val (.long p1), .second, .val (.long p2), .second, .val (.int p3), .val (.int p4), .val (.long (1099511627775 : Int64)), .second, .val (.long v1), .second, .val (.long v47), .second, .val (.long v48), .second, .val (.int v49), .val (.long v50), .second, .val (.double (own_pr v1 v47)), .second, .val (.double (own_pr (v50 * v1) (v50 * v47))), .second, .val (.double (FP.ddiv (FP.i2d v49) (4620693217682128896 : UInt64))), .second, .val (.long v91), .second, .unset, .unset, .unset, .unset] [(.long v49.toInt64)])) (fun t k => XS.i2l X87.here hx rfl (hb hby at_177) rfl k) ?_
    refine own_st (S' := T87.setTop (mkF m 180 #[.val (.long p0), .second, .val (.long p1), .second, .val (.long p2), .second, .val (.int p3), .val (.int p4), .val (.long (1099511627775 : Int64)), .second, .val (.long v1), .second, .val (.long v47), .second, .val (.long v48), .second, .val (.int v49), .val (.long v50), .second, .val (.double (own_pr v1 v47)), .second, .val (.double (own_pr (v50 * v1) (v50 * v47))), .second, .val (.double (FP.ddiv (FP.i2d v49) (4620693217682128896 : UInt64))), .second, .val (.long v91), .second, .unset, .unset, .unset, .unset] [(.long v1), (.long v49.toInt64)])) (fun t k => XS.lload X87.here hx rfl (hb hby at_178) rfl k) ?_
    refine own_st (S' := T87.setTop (mkF m 181 #[.val (.long p0), .second, .val (.long p1), .second, .val (.long p2), .second, .val (.int p3), .val (.int p4), .val (.long (1099511627775 : Int64)), .second, .val (.long v1), .second, .val (.long v47), .second, .val (.long v48), .second, .val (.int v49), .val (.long v50), .second, .val (.double (own_pr v1 v47)), .second, .val (.double (own_pr (v50 * v1) (v50 * v47))), .second, .val (.double (FP.ddiv (FP.i2d v49) (4620693217682128896 : UInt64))), .second, .val (.long v91), .second, .unset, .unset, .unset, .unset] [(.long (v49.toInt64 * v1))])) (fun t k => XS.lmul X87.here hx rfl (hb hby at_180) rfl k) ?_
    obtain ⟨v92, qv92⟩ : ∃ z : Int64, z = (v49.toInt64 * v1) := ⟨_, rfl⟩
    show own_Go p.tables e below _ (T87.setTop (mkF m 181 #[.val (.long p0), .second, .val (.long p1), .second, .val (.long p2), .second, .val (.int p3), .val (.int p4), .val (.long (1099511627775 : Int64)), .second, .val (.long v1), .second, .val (.long v47), .second, .val (.long v48), .second, .val (.int v49), .val (.long v50), .second, .val (.double (own_pr v1 v47)), .second, .val (.double (own_pr (v50 * v1) (v50 * v47))), .second, .val (.double (FP.ddiv (FP.i2d v49) (4620693217682128896 : UInt64))), .second, .val (.long v91), .second, .unset, .unset, .unset, .unset] [(.long (v49.toInt64 * v1))]))
    rw [← qv92]
    refine own_st (S' := T87.setTop (mkF m 183 #[.val (.long p0), .second, .val (.long p1), .second, .val (.long p2), .second, .val (.int p3), .val (.int p4), .val (.long (1099511627775 : Int64)), .second, .val (.long v1), .second, .val (.long v47), .second, .val (.long v48), .second, .val (.int v49), .val (.long v50), .second, .val (.double (own_pr v1 v47)), .second, .val (.double (own_pr (v50 * v1) (v50 * v47))), .second, .val (.double (FP.ddiv (FP.i2d v49) (4620693217682128896 : UInt64))), .second, .val (.long v91), .second, .val (.long v92), .second, .unset, .unset] [])) (fun t k => XS.lstore X87.here hx rfl (hb hby at_181) rfl (l' := #[.val (.long p0), .second, .val (.long p1), .second, .val (.long p2), .second, .val (.int p3), .val (.int p4), .val (.long (1099511627775 : Int64)), .second, .val (.long v1), .second, .val (.long v47), .second, .val (.long v48), .second, .val (.int v49), .val (.long v50), .second, .val (.double (own_pr v1 v47)), .second, .val (.double (own_pr (v50 * v1) (v50 * v47))), .second, .val (.double (FP.ddiv (FP.i2d v49) (4620693217682128896 : UInt64))), .second, .val (.long v91), .second, .val (.long v92), .second, .unset, .unset]) rfl k) ?_
    refine own_st (S' := T87.setTop (mkF m 185 #[.val (.long p0), .second, .val (.long p1), .second, .val (.long p2), .second, .val (.int p3), .val (.int p4), .val (.long (1099511627775 : Int64)), .second, .val (.long v1), .second, .val (.long v47), .second, .val (.long v48), .second, .val (.int v49), .val (.long v50), .second, .val (.double (own_pr v1 v47)), .second, .val (.double (own_pr (v50 * v1) (v50 * v47))), .second, .val (.double (FP.ddiv (FP.i2d v49) (4620693217682128896 : UInt64))), .second, .val (.long v91), .second, .val (.long v92), .second, .unset, .unset] [(.long v91)])) (fun t k => XS.lload X87.here hx rfl (hb hby at_183) rfl k) ?_
    refine own_st (S' := T87.setTop (mkF m 187 #[.val (.long p0), .second, .val (.long p1), .second, .val (.long p2), .second, .val (.int p3), .val (.int p4), .val (.long (1099511627775 : Int64)), .second, .val (.long v1), .second, .val (.long v47), .second, .val (.long v48), .second, .val (.int v49), .val (.long v50), .second, .val (.double (own_pr v1 v47)), .second, .val (.double (own_pr (v50 * v1) (v50 * v47))), .second, .val (.double (FP.ddiv (FP.i2d v49) (4620693217682128896 : UInt64))), .second, .val (.long v91), .second, .val (.long v92), .second, .unset, .unset] [(.long v92), (.long v91)])) (fun t k => XS.lload X87.here hx rfl (hb hby at_185) rfl k) ?_
    refine own_st (S' := T87.setTop (mkF m 188 #[.val (.long p0), .second, .val (.long p1), .second, .val (.long p2), .second, .val (.int p3), .val (.int p4), .val (.long (1099511627775 : Int64)), .second, .val (.long v1), .second, .val (.long v47), .second, .val (.long v48), .second, .val (.int v49), .val (.long v50), .second, .val (.double (own_pr v1 v47)), .second, .val (.double (own_pr (v50 * v1) (v50 * v47))), .second, .val (.double (FP.ddiv (FP.i2d v49) (4620693217682128896 : UInt64))), .second, .val (.long v91), .second, .val (.long v92), .second, .unset, .unset] [(.int (lcmpW v91 v92))])) (fun t k => XS.lcmp X87.here hx rfl (hb hby at_187) rfl k) ?_
    obtain ⟨v93, qv93⟩ : ∃ z : Int32, z = (if v91 < v92 then (-1 : Int32) else (if v92 < v91 then (1 : Int32) else (0 : Int32))) := ⟨_, rfl⟩
    refine own_st (S' := T87.setTop (mkF m 208 #[.val (.long p0), .second, .val (.long p1), .second, .val (.long p2), .second, .val (.int p3), .val (.int p4), .val (.long (1099511627775 : Int64)), .second, .val (.long v1), .second, .val (.long v47), .second, .val (.long v48), .second, .val (.int v49), .val (.long v50), .second, .val (.double (own_pr v1 v47)), .second, .val (.double (own_pr (v50 * v1) (v50 * v47))), .second, .val (.double (FP.ddiv (FP.i2d v49) (4620693217682128896 : UInt64))), .second, .val (.long v91), .second, .val (.long v92), .second, .unset, .unset] [(.int v93)])) (fun t k => ?_) ?_
    · show Steps p.tables e below (T87.setTop (mkF m 188 #[.val (.long p0), .second, .val (.long p1), .second, .val (.long p2), .second, .val (.int p3), .val (.int p4), .val (.long (1099511627775 : Int64)), .second, .val (.long v1), .second, .val (.long v47), .second, .val (.long v48), .second, .val (.int v49), .val (.long v50), .second, .val (.double (own_pr v1 v47)), .second, .val (.double (own_pr (v50 * v1) (v50 * v47))), .second, .val (.double (FP.ddiv (FP.i2d v49) (4620693217682128896 : UInt64))), .second, .val (.long v91), .second, .val (.long v92), .second, .unset, .unset] [(.int (lcmpW v91 v92))])) _
      by_cases hc94 : v91 < v92
      · rw [if_pos hc94] at qv93
        replace qv93 := Eq.symm qv93
        subst qv93
        refine XS.ifNo X87.here hx rfl (hb hby at_188) rfl ((if0 _ _).trans (tlt ((lw_lt _ _).mpr hc94)).2.1) ?_
        show Steps p.tables e below (T87.setTop (mkF m 191 #[.val (.long p0), .second, .val (.long p1), .second, .val (.long p2), .second, .val (.int p3), .val (.int p4), .val (.long (1099511627775 : Int64)), .second, .val (.long v1), .second, .val (.long v47), .second, .val (.long v48), .second, .val (.int v49), .val (.long v50), .second, .val (.double (own_pr v1 v47)), .second, .val (.double (own_pr (v50 * v1) (v50 * v47))), .second, .val (.double (FP.ddiv (FP.i2d v49) (4620693217682128896 : UInt64))), .second, .val (.long v91), .second, .val (.long v92), .second, .unset, .unset] [])) _
        refine XS.iconst X87.here hx rfl (hb hby at_191) ?_
        show Steps p.tables e below (T87.setTop (mkF m 192 #[.val (.long p0), .second, .val (.long p1), .second, .val (.long p2), .second, .val (.int p3), .val (.int p4), .val (.long (1099511627775 : Int64)), .second, .val (.long v1), .second, .val (.long v47), .second, .val (.long v48), .second, .val (.int v49), .val (.long v50), .second, .val (.double (own_pr v1 v47)), .second, .val (.double (own_pr (v50 * v1) (v50 * v47))), .second, .val (.double (FP.ddiv (FP.i2d v49) (4620693217682128896 : UInt64))), .second, .val (.long v91), .second, .val (.long v92), .second, .unset, .unset] [(.int (-1 : Int32))])) _
        refine XS.goto X87.here hx rfl (pc0 := 192) (pc' := 208) rfl (hb hby at_192) (by decide) (by decide) ?_
        show Steps p.tables e below (T87.setTop (mkF m 208 #[.val (.long p0), .second, .val (.long p1), .second, .val (.long p2), .second, .val (.int p3), .val (.int p4), .val (.long (1099511627775 : Int64)), .second, .val (.long v1), .second, .val (.long v47), .second, .val (.long v48), .second, .val (.int v49), .val (.long v50), .second, .val (.double (own_pr v1 v47)), .second, .val (.double (own_pr (v50 * v1) (v50 * v47))), .second, .val (.double (FP.ddiv (FP.i2d v49) (4620693217682128896 : UInt64))), .second, .val (.long v91), .second, .val (.long v92), .second, .unset, .unset] [(.int (-1 : Int32))])) _
        exact k
      · rw [if_neg hc94] at qv93
        refine XS.ifYes X87.here hx rfl (pc0 := 188) (pc' := 195) rfl (hb hby at_188) rfl ((if0 _ _).trans (flt (mt (lw_lt _ _).mp hc94)).2.1) (by decide) (by decide) ?_
        show Steps p.tables e below (T87.setTop (mkF m 195 #[.val (.long p0), .second, .val (.long p1), .second, .val (.long p2), .second, .val (.int p3), .val (.int p4), .val (.long (1099511627775 : Int64)), .second, .val (.long v1), .second, .val (.long v47), .second, .val (.long v48), .second, .val (.int v49), .val (.long v50), .second, .val (.double (own_pr v1 v47)), .second, .val (.double (own_pr (v50 * v1) (v50 * v47))), .second, .val (.double (FP.ddiv (FP.i2d v49) (4620693217682128896 : UInt64))), .second, .val (.long v91), .second, .val (.long v92), .second, .unset, .unset] [])) _
        refine XS.lload X87.here hx rfl (hb hby at_195) rfl ?_
        show Steps p.tables e below (T87.setTop (mkF m 197 #[.val (.long p0), .second, .val (.long p1), .second, .val (.long p2), .second, .val (.int p3), .val (.int p4), .val (.long (1099511627775 : Int64)), .second, .val (.long v1), .second, .val (.long v47), .second, .val (.long v48), .second, .val (.int v49), .val (.long v50), .second, .val (.double (own_pr v1 v47)), .second, .val (.double (own_pr (v50 * v1) (v50 * v47))), .second, .val (.double (FP.ddiv (FP.i2d v49) (4620693217682128896 : UInt64))), .second, .val (.long v91), .second, .val (.long v92), .second, .unset, .unset] [(.long v91)])) _
        refine XS.lload X87.here hx rfl (hb hby at_197) rfl ?_
        show Steps p.tables e below (T87.setTop (mkF m 199 #[.val (.long p0), .second, .val (.long p1), .second, .val (.long p2), .second, .val (.int p3), .val (.int p4), .val (.long (1099511627775 : Int64)), .second, .val (.long v1), .second, .val (.long v47), .second, .val (.long v48), .second, .val (.int v49), .val (.long v50), .second, .val (.double (own_pr v1 v47)), .second, .val (.double (own_pr (v50 * v1) (v50 * v47))), .second, .val (.double (FP.ddiv (FP.i2d v49) (4620693217682128896 : UInt64))), .second, .val (.long v91), .second, .val (.long v92), .second, .unset, .unset] [(.long v92), (.long v91)])) _
        refine XS.lcmp X87.here hx rfl (hb hby at_199) rfl ?_
        show Steps p.tables e below (T87.setTop (mkF m 200 #[.val (.long p0), .second, .val (.long p1), .second, .val (.long p2), .second, .val (.int p3), .val (.int p4), .val (.long (1099511627775 : Int64)), .second, .val (.long v1), .second, .val (.long v47), .second, .val (.long v48), .second, .val (.int v49), .val (.long v50), .second, .val (.double (own_pr v1 v47)), .second, .val (.double (own_pr (v50 * v1) (v50 * v47))), .second, .val (.double (FP.ddiv (FP.i2d v49) (4620693217682128896 : UInt64))), .second, .val (.long v91), .second, .val (.long v92), .second, .unset, .unset] [(.int (lcmpW v91 v92))])) _
        by_cases hc95 : v92 < v91
        · rw [if_pos hc95] at qv93
          replace qv93 := Eq.symm qv93
          subst qv93
          refine XS.ifNo X87.here hx rfl (hb hby at_200) rfl ((if0 _ _).trans (tlt ((lw_gt _ _).mpr hc95)).2.2.2) ?_
          show Steps p.tables e below (T87.setTop (mkF m 203 #[.val (.long p0), .second, .val (.long p1), .second, .val (.long p2), .second, .val (.int p3), .val (.int p4), .val (.long (1099511627775 : Int64)), .second, .val (.long v1), .second, .val (.long v47), .second, .val (.long v48), .second, .val (.int v49), .val (.long v50), .second, .val (.double (own_pr v1 v47)), .second, .val (.double (own_pr (v50 * v1) (v50 * v47))), .second, .val (.double (FP.ddiv (FP.i2d v49) (4620693217682128896 : UInt64))), .second, .val (.long v91), .second, .val (.long v92), .second, .unset, .unset] [])) _
          refine XS.iconst X87.here hx rfl (hb hby at_203) ?_
          show Steps p.tables e below (T87.setTop (mkF m 204 #[.val (.long p0), .second, .val (.long p1), .second, .val (.long p2), .second, .val (.int p3), .val (.int p4), .val (.long (1099511627775 : Int64)), .second, .val (.long v1), .second, .val (.long v47), .second, .val (.long v48), .second, .val (.int v49), .val (.long v50), .second, .val (.double (own_pr v1 v47)), .second, .val (.double (own_pr (v50 * v1) (v50 * v47))), .second, .val (.double (FP.ddiv (FP.i2d v49) (4620693217682128896 : UInt64))), .second, .val (.long v91), .second, .val (.long v92), .second, .unset, .unset] [(.int (1 : Int32))])) _
          refine XS.goto X87.here hx rfl (pc0 := 204) (pc' := 208) rfl (hb hby at_204) (by decide) (by decide) ?_
          show Steps p.tables e below (T87.setTop (mkF m 208 #[.val (.long p0), .second, .val (.long p1), .second, .val (.long p2), .second, .val (.int p3), .val (.int p4), .val (.long (1099511627775 : Int64)), .second, .val (.long v1), .second, .val (.long v47), .second, .val (.long v48), .second, .val (.int v49), .val (.long v50), .second, .val (.double (own_pr v1 v47)), .second, .val (.double (own_pr (v50 * v1) (v50 * v47))), .second, .val (.double (FP.ddiv (FP.i2d v49) (4620693217682128896 : UInt64))), .second, .val (.long v91), .second, .val (.long v92), .second, .unset, .unset] [(.int (1 : Int32))])) _
          exact k
        · rw [if_neg hc95] at qv93
          replace qv93 := Eq.symm qv93
          subst qv93
          refine XS.ifYes X87.here hx rfl (pc0 := 200) (pc' := 207) rfl (hb hby at_200) rfl ((if0 _ _).trans (flt (mt (lw_gt _ _).mp hc95)).2.2.2) (by decide) (by decide) ?_
          show Steps p.tables e below (T87.setTop (mkF m 207 #[.val (.long p0), .second, .val (.long p1), .second, .val (.long p2), .second, .val (.int p3), .val (.int p4), .val (.long (1099511627775 : Int64)), .second, .val (.long v1), .second, .val (.long v47), .second, .val (.long v48), .second, .val (.int v49), .val (.long v50), .second, .val (.double (own_pr v1 v47)), .second, .val (.double (own_pr (v50 * v1) (v50 * v47))), .second, .val (.double (FP.ddiv (FP.i2d v49) (4620693217682128896 : UInt64))), .second, .val (.long v91), .second, .val (.long v92), .second, .unset, .unset] [])) _
          refine XS.iconst X87.here hx rfl (hb hby at_207) ?_
          show Steps p.tables e below (T87.setTop (mkF m 208 #[.val (.long p0), .second, .val (.long p1), .second, .val (.long p2), .second, .val (.int p3), .val (.int p4), .val (.long (1099511627775 : Int64)), .second, .val (.long v1), .second, .val (.long v47), .second, .val (.long v48), .second, .val (.int v49), .val (.long v50), .second, .val (.double (own_pr v1 v47)), .second, .val (.double (own_pr (v50 * v1) (v50 * v47))), .second, .val (.double (FP.ddiv (FP.i2d v49) (4620693217682128896 : UInt64))), .second, .val (.long v91), .second, .val (.long v92), .second, .unset, .unset] [(.int (0 : Int32))])) _
          exact k
    show own_Go p.tables e below _ (T87.setTop (mkF m 208 #[.val (.long p0), .second, .val (.long p1), .second, .val (.long p2), .second, .val (.int p3), .val (.int p4), .val (.long (1099511627775 : Int64)), .second, .val (.long v1), .second, .val (.long v47), .second, .val (.long v48), .second, .val (.int v49), .val (.long v50), .second, .val (.double (own_pr v1 v47)), .second, .val (.double (own_pr (v50 * v1) (v50 * v47))), .second, .val (.double (FP.ddiv (FP.i2d v49) (4620693217682128896 : UInt64))), .second, .val (.long v91), .second, .val (.long v92), .second, .unset, .unset] [(.int v93)]))
    refine own_st (S' := T87.setTop (mkF m 210 #[.val (.long p0), .second, .val (.long p1), .second, .val (.long p2), .second, .val (.int p3), .val (.int p4), .val (.long (1099511627775 : Int64)), .second, .val (.long v1), .second, .val (.long v47), .second, .val (.long v48), .second, .val (.int v49), .val (.long v50), .second, .val (.double (own_pr v1 v47)), .second, .val (.double (own_pr (v50 * v1) (v50 * v47))), .second, .val (.double (FP.ddiv (FP.i2d v49) (4620693217682128896 : UInt64))), .second, .val (.long v91), .second, .val (.long v92), .second, .val (.int v93), .unset] [])) (fun t k => XS.istore X87.here hx rfl (hb hby at_208) rfl (l' := #[.val (.long p0), .second, .val (.long p1), .second, .val (.long p2), .second, .val (.int p3), .val (.int p4), .val (.long (1099511627775 : Int64)), .second, .val (.long v1), .second, .val (.long v47), .second, .val (.long v48), .second, .val (.int v49), .val (.long v50), .second, .val (.double (own_pr v1 v47)), .second, .val (.double (own_pr (v50 * v1) (v50 * v47))), .second, .val (.double (FP.ddiv (FP.i2d v49) (4620693217682128896 : UInt64))), .second, .val (.long v91), .second, .val (.long v92), .second, .val (.int v93), .unset]) rfl k) ?_
    refine own_st (S' := T87.setTop (mkF m 212 #[.val (.long p0), .second, .val (.long p1), .second, .val (.long p2), .second, .val (.int p3), .val (.int p4), .val (.long (1099511627775 : Int64)), .second, .val (.long v1), .second, .val (.long v47), .second, .val (.long v48), .second, .val (.int v49), .val (.long v50), .second, .val (.double (own_pr v1 v47)), .second, .val (.double (own_pr (v50 * v1) (v50 * v47))), .second, .val (.double (FP.ddiv (FP.i2d v49) (4620693217682128896 : UInt64))), .second, .val (.long v91), .second, .val (.long v92), .second, .val (.int v93), .unset] [(.double (own_pr v1 v47))])) (fun t k => XS.dload X87.here hx rfl (hb hby at_210) rfl k) ?_
    refine own_st (S' := T87.setTop (mkF m 214 #[.val (.long p0), .second, .val (.long p1), .second, .val (.long p2), .second, .val (.int p3), .val (.int p4), .val (.long (1099511627775 : Int64)), .second, .val (.long v1), .second, .val (.long v47), .second, .val (.long v48), .second, .val (.int v49), .val (.long v50), .second, .val (.double (own_pr v1 v47)), .second, .val (.double (own_pr (v50 * v1) (v50 * v47))), .second, .val (.double (FP.ddiv (FP.i2d v49) (4620693217682128896 : UInt64))), .second, .val (.long v91), .second, .val (.long v92), .second, .val (.int v93), .unset] [(.double (FP.ddiv (FP.i2d v49) (4620693217682128896 : UInt64))), (.double (own_pr v1 v47))])) (fun t k => XS.dload X87.here hx rfl (hb hby at_212) rfl k) ?_
    refine own_st (S' := T87.setTop (mkF m 215 #[.val (.long p0), .second, .val (.long p1), .second, .val (.long p2), .second, .val (.int p3), .val (.int p4), .val (.long (1099511627775 : Int64)), .second, .val (.long v1), .second, .val (.long v47), .second, .val (.long v48), .second, .val (.int v49), .val (.long v50), .second, .val (.double (own_pr v1 v47)), .second, .val (.double (own_pr (v50 * v1) (v50 * v47))), .second, .val (.double (FP.ddiv (FP.i2d v49) (4620693217682128896 : UInt64))), .second, .val (.long v91), .second, .val (.long v92), .second, .val (.int v93), .unset] [(.int (cmpValue (FP.dcmp (own_pr v1 v47) (FP.ddiv (FP.i2d v49) (4620693217682128896 : UInt64))) .g))])) (fun t k => XS.dcmpS X87.here hx rfl (hb hby at_214) rfl rfl k) ?_
    by_cases hc96 : (cmpValue (FP.dcmp (own_pr v1 v47) (FP.ddiv (FP.i2d v49) (4620693217682128896 : UInt64))) .g) < (0 : Int32)
    · refine own_st (S' := T87.setTop (mkF m 218 #[.val (.long p0), .second, .val (.long p1), .second, .val (.long p2), .second, .val (.int p3), .val (.int p4), .val (.long (1099511627775 : Int64)), .second, .val (.long v1), .second, .val (.long v47), .second, .val (.long v48), .second, .val (.int v49), .val (.long v50), .second, .val (.double (own_pr v1 v47)), .second, .val (.double (own_pr (v50 * v1) (v50 * v47))), .second, .val (.double (FP.ddiv (FP.i2d v49) (4620693217682128896 : UInt64))), .second, .val (.long v91), .second, .val (.long v92), .second, .val (.int v93), .unset] [])) (fun t k => XS.ifNo X87.here hx rfl (hb hby at_215) rfl ((if0 _ _).trans (tlt hc96).2.1) k) ?_
      show own_Go p.tables e below _ (T87.setTop (mkF m 218 #[.val (.long p0), .second, .val (.long p1), .second, .val (.long p2), .second, .val (.int p3), .val (.int p4), .val (.long (1099511627775 : Int64)), .second, .val (.long v1), .second, .val (.long v47), .second, .val (.long v48), .second, .val (.int v49), .val (.long v50), .second, .val (.double (own_pr v1 v47)), .second, .val (.double (own_pr (v50 * v1) (v50 * v47))), .second, .val (.double (FP.ddiv (FP.i2d v49) (4620693217682128896 : UInt64))), .second, .val (.long v91), .second, .val (.long v92), .second, .val (.int v93), .unset] []))
      refine own_st (S' := T87.setTop (mkF m 219 #[.val (.long p0), .second, .val (.long p1), .second, .val (.long p2), .second, .val (.int p3), .val (.int p4), .val (.long (1099511627775 : Int64)), .second, .val (.long v1), .second, .val (.long v47), .second, .val (.long v48), .second, .val (.int v49), .val (.long v50), .second, .val (.double (own_pr v1 v47)), .second, .val (.double (own_pr (v50 * v1) (v50 * v47))), .second, .val (.double (FP.ddiv (FP.i2d v49) (4620693217682128896 : UInt64))), .second, .val (.long v91), .second, .val (.long v92), .second, .val (.int v93), .unset] [(.int (-1 : Int32))])) (fun t k => XS.iconst X87.here hx rfl (hb hby at_218) k) ?_
      refine own_st (S' := T87.setTop (mkF m 235 #[.val (.long p0), .second, .val (.long p1), .second, .val (.long p2), .second, .val (.int p3), .val (.int p4), .val (.long (1099511627775 : Int64)), .second, .val (.long v1), .second, .val (.long v47), .second, .val (.long v48), .second, .val (.int v49), .val (.long v50), .second, .val (.double (own_pr v1 v47)), .second, .val (.double (own_pr (v50 * v1) (v50 * v47))), .second, .val (.double (FP.ddiv (FP.i2d v49) (4620693217682128896 : UInt64))), .second, .val (.long v91), .second, .val (.long v92), .second, .val (.int v93), .unset] [(.int (-1 : Int32))])) (fun t k => XS.goto X87.here hx rfl (pc0 := 219) (pc' := 235) rfl (hb hby at_219) (by decide) (by decide) k) ?_
      refine own_st (S' := T87.setTop (mkF m 237 #[.val (.long p0), .second, .val (.long p1), .second, .val (.long p2), .second, .val (.int p3), .val (.int p4), .val (.long (1099511627775 : Int64)), .second, .val (.long v1), .second, .val (.long v47), .second, .val (.long v48), .second, .val (.int v49), .val (.long v50), .second, .val (.double (own_pr v1 v47)), .second, .val (.double (own_pr (v50 * v1) (v50 * v47))), .second, .val (.double (FP.ddiv (FP.i2d v49) (4620693217682128896 : UInt64))), .second, .val (.long v91), .second, .val (.long v92), .second, .val (.int v93), .val (.int (-1 : Int32))] [])) (fun t k => XS.istore X87.here hx rfl (hb hby at_235) rfl (l' := #[.val (.long p0), .second, .val (.long p1), .second, .val (.long p2), .second, .val (.int p3), .val (.int p4), .val (.long (1099511627775 : Int64)), .second, .val (.long v1), .second, .val (.long v47), .second, .val (.long v48), .second, .val (.int v49), .val (.long v50), .second, .val (.double (own_pr v1 v47)), .second, .val (.double (own_pr (v50 * v1) (v50 * v47))), .second, .val (.double (FP.ddiv (FP.i2d v49) (4620693217682128896 : UInt64))), .second, .val (.long v91), .second, .val (.long v92), .second, .val (.int v93), .val (.int (-1 : Int32))]) rfl k) ?_
      refine own_st (S' := T87.setTop (mkF m 239 #[.val (.long p0), .second, .val (.long p1), .second, .val (.long p2), .second, .val (.int p3), .val (.int p4), .val (.long (1099511627775 : Int64)), .second, .val (.long v1), .second, .val (.long v47), .second, .val (.long v48), .second, .val (.int v49), .val (.long v50), .second, .val (.double (own_pr v1 v47)), .second, .val (.double (own_pr (v50 * v1) (v50 * v47))), .second, .val (.double (FP.ddiv (FP.i2d v49) (4620693217682128896 : UInt64))), .second, .val (.long v91), .second, .val (.long v92), .second, .val (.int v93), .val (.int (-1 : Int32))] [(.int v93)])) (fun t k => XS.iload X87.here hx rfl (hb hby at_237) rfl k) ?_
      refine own_st (S' := T87.setTop (mkF m 241 #[.val (.long p0), .second, .val (.long p1), .second, .val (.long p2), .second, .val (.int p3), .val (.int p4), .val (.long (1099511627775 : Int64)), .second, .val (.long v1), .second, .val (.long v47), .second, .val (.long v48), .second, .val (.int v49), .val (.long v50), .second, .val (.double (own_pr v1 v47)), .second, .val (.double (own_pr (v50 * v1) (v50 * v47))), .second, .val (.double (FP.ddiv (FP.i2d v49) (4620693217682128896 : UInt64))), .second, .val (.long v91), .second, .val (.long v92), .second, .val (.int v93), .val (.int (-1 : Int32))] [(.int (-1 : Int32)), (.int v93)])) (fun t k => XS.iload X87.here hx rfl (hb hby at_239) rfl k) ?_
      have hc97 : v93 = (-1 : Int32) := by rw [qv93, own_fin hO hc2 hcn ecn qv91 qv92, if_pos hc96]
      refine own_st (S' := T87.setTop (mkF m 244 #[.val (.long p0), .second, .val (.long p1), .second, .val (.long p2), .second, .val (.int p3), .val (.int p4), .val (.long (1099511627775 : Int64)), .second, .val (.long v1), .second, .val (.long v47), .second, .val (.long v48), .second, .val (.int v49), .val (.long v50), .second, .val (.double (own_pr v1 v47)), .second, .val (.double (own_pr (v50 * v1) (v50 * v47))), .second, .val (.double (FP.ddiv (FP.i2d v49) (4620693217682128896 : UInt64))), .second, .val (.long v91), .second, .val (.long v92), .second, .val (.int v93), .val (.int (-1 : Int32))] [])) (fun t k => XS.icmpNo X87.here hx rfl (hb hby at_241) rfl (teq hc97).2 k) ?_
      show own_Go p.tables e below _ (T87.setTop (mkF m 244 #[.val (.long p0), .second, .val (.long p1), .second, .val (.long p2), .second, .val (.int p3), .val (.int p4), .val (.long (1099511627775 : Int64)), .second, .val (.long v1), .second, .val (.long v47), .second, .val (.long v48), .second, .val (.int v49), .val (.long v50), .second, .val (.double (own_pr v1 v47)), .second, .val (.double (own_pr (v50 * v1) (v50 * v47))), .second, .val (.double (FP.ddiv (FP.i2d v49) (4620693217682128896 : UInt64))), .second, .val (.long v91), .second, .val (.long v92), .second, .val (.int v93), .val (.int (-1 : Int32))] []))
      refine own_st (S' := T87.setTop (mkF m 245 #[.val (.long p0), .second, .val (.long p1), .second, .val (.long p2), .second, .val (.int p3), .val (.int p4), .val (.long (1099511627775 : Int64)), .second, .val (.long v1), .second, .val (.long v47), .second, .val (.long v48), .second, .val (.int v49), .val (.long v50), .second, .val (.double (own_pr v1 v47)), .second, .val (.double (own_pr (v50 * v1) (v50 * v47))), .second, .val (.double (FP.ddiv (FP.i2d v49) (4620693217682128896 : UInt64))), .second, .val (.long v91), .second, .val (.long v92), .second, .val (.int v93), .val (.int (-1 : Int32))] [(.int (1 : Int32))])) (fun t k => XS.iconst X87.here hx rfl (hb hby at_244) k) ?_
      refine own_st (S' := T87.setTop (mkF m 249 #[.val (.long p0), .second, .val (.long p1), .second, .val (.long p2), .second, .val (.int p3), .val (.int p4), .val (.long (1099511627775 : Int64)), .second, .val (.long v1), .second, .val (.long v47), .second, .val (.long v48), .second, .val (.int v49), .val (.long v50), .second, .val (.double (own_pr v1 v47)), .second, .val (.double (own_pr (v50 * v1) (v50 * v47))), .second, .val (.double (FP.ddiv (FP.i2d v49) (4620693217682128896 : UInt64))), .second, .val (.long v91), .second, .val (.long v92), .second, .val (.int v93), .val (.int (-1 : Int32))] [(.int (1 : Int32))])) (fun t k => XS.goto X87.here hx rfl (pc0 := 245) (pc' := 249) rfl (hb hby at_245) (by decide) (by decide) k) ?_
      refine own_retNW X87 hS (by rw [hh87]; exact hk) hx (t := .boolean) hret (by simp) hlk (hb hby at_249) ?_ (by decide) (by decide)
      rw [hh87]
      exact ⟨rfl, N87⟩
    · refine own_st (S' := T87.setTop (mkF m 222 #[.val (.long p0), .second, .val (.long p1), .second, .val (.long p2), .second, .val (.int p3), .val (.int p4), .val (.long (1099511627775 : Int64)), .second, .val (.long v1), .second, .val (.long v47), .second, .val (.long v48), .second, .val (.int v49), .val (.long v50), .second, .val (.double (own_pr v1 v47)), .second, .val (.double (own_pr (v50 * v1) (v50 * v47))), .second, .val (.double (FP.ddiv (FP.i2d v49) (4620693217682128896 : UInt64))), .second, .val (.long v91), .second, .val (.long v92), .second, .val (.int v93), .unset] [])) (fun t k => XS.ifYes X87.here hx rfl (pc0 := 215) (pc' := 222) rfl (hb hby at_215) rfl ((if0 _ _).trans (flt hc96).2.1) (by decide) (by decide) k) ?_
      show own_Go p.tables e below _ (T87.setTop (mkF m 222 #[.val (.long p0), .second, .val (.long p1), .second, .val (.long p2), .second, .val (.int p3), .val (.int p4), .val (.long (1099511627775 : Int64)), .second, .val (.long v1), .second, .val (.long v47), .second, .val (.long v48), .second, .val (.int v49), .val (.long v50), .second, .val (.double (own_pr v1 v47)), .second, .val (.double (own_pr (v50 * v1) (v50 * v47))), .second, .val (.double (FP.ddiv (FP.i2d v49) (4620693217682128896 : UInt64))), .second, .val (.long v91), .second, .val (.long v92), .second, .val (.int v93), .unset] []))
      refine own_st (S' := T87.setTop (mkF m 224 #[.val (.long p0), .second, .val (.long p1), .second, .val (.long p2), .second, .val (.int p3), .val (.int p4), .val (.long (1099511627775 : Int64)), .second, .val (.long v1), .second, .val (.long v47), .second, .val (.long v48), .second, .val (.int v49), .val (.long v50), .second, .val (.double (own_pr v1 v47)), .second, .val (.double (own_pr (v50 * v1) (v50 * v47))), .second, .val (.double (FP.ddiv (FP.i2d v49) (4620693217682128896 : UInt64))), .second, .val (.long v91), .second, .val (.long v92), .second, .val (.int v93), .unset] [(.double (own_pr v1 v47))])) (fun t k => XS.dload X87.here hx rfl (hb hby at_222) rfl k) ?_
      refine own_st (S' := T87.setTop (mkF m 226 #[.val (.long p0), .second, .val (.long p1), .second, .val (.long p2), .second, .val (.int p3), .val (.int p4), .val (.long (1099511627775 : Int64)), .second, .val (.long v1), .second, .val (.long v47), .second, .val (.long v48), .second, .val (.int v49), .val (.long v50), .second, .val (.double (own_pr v1 v47)), .second, .val (.double (own_pr (v50 * v1) (v50 * v47))), .second, .val (.double (FP.ddiv (FP.i2d v49) (4620693217682128896 : UInt64))), .second, .val (.long v91), .second, .val (.long v92), .second, .val (.int v93), .unset] [(.double (FP.ddiv (FP.i2d v49) (4620693217682128896 : UInt64))), (.double (own_pr v1 v47))])) (fun t k => XS.dload X87.here hx rfl (hb hby at_224) rfl k) ?_
      refine own_st (S' := T87.setTop (mkF m 227 #[.val (.long p0), .second, .val (.long p1), .second, .val (.long p2), .second, .val (.int p3), .val (.int p4), .val (.long (1099511627775 : Int64)), .second, .val (.long v1), .second, .val (.long v47), .second, .val (.long v48), .second, .val (.int v49), .val (.long v50), .second, .val (.double (own_pr v1 v47)), .second, .val (.double (own_pr (v50 * v1) (v50 * v47))), .second, .val (.double (FP.ddiv (FP.i2d v49) (4620693217682128896 : UInt64))), .second, .val (.long v91), .second, .val (.long v92), .second, .val (.int v93), .unset] [(.int (cmpValue (FP.dcmp (own_pr v1 v47) (FP.ddiv (FP.i2d v49) (4620693217682128896 : UInt64))) .l))])) (fun t k => XS.dcmpS X87.here hx rfl (hb hby at_226) rfl rfl k) ?_
      obtain ⟨v98, qv98⟩ : ∃ z : Int32, z = (if (0 : Int32) < (cmpValue (FP.dcmp (own_pr v1 v47) (FP.ddiv (FP.i2d v49) (4620693217682128896 : UInt64))) .l) then (1 : Int32) else (0 : Int32)) := ⟨_, rfl⟩
      refine own_st (S' := T87.setTop (mkF m 235 #[.val (.long p0), .second, .val (.long p1), .second, .val (.long p2), .second, .val (.int p3), .val (.int p4), .val (.long (1099511627775 : Int64)), .second, .val (.long v1), .second, .val (.long v47), .second, .val (.long v48), .second, .val (.int v49), .val (.long v50), .second, .val (.double (own_pr v1 v47)), .second, .val (.double (own_pr (v50 * v1) (v50 * v47))), .second, .val (.double (FP.ddiv (FP.i2d v49) (4620693217682128896 : UInt64))), .second, .val (.long v91), .second, .val (.long v92), .second, .val (.int v93), .unset] [(.int v98)])) (fun t k => ?_) ?_
      · show Steps p.tables e below (T87.setTop (mkF m 227 #[.val (.long p0), .second, .val (.long p1), .second, .val (.long p2), .second, .val (.int p3), .val (.int p4), .val (.long (1099511627775 : Int64)), .second, .val (.long v1), .second, .val (.long v47), .second, .val (.long v48), .second, .val (.int v49), .val (.long v50), .second, .val (.double (own_pr v1 v47)), .second, .val (.double (own_pr (v50 * v1) (v50 * v47))), .second, .val (.double (FP.ddiv (FP.i2d v49) (4620693217682128896 : UInt64))), .second, .val (.long v91), .second, .val (.long v92), .second, .val (.int v93), .unset] [(.int (cmpValue (FP.dcmp (own_pr v1 v47) (FP.ddiv (FP.i2d v49) (4620693217682128896 : UInt64))) .l))])) _
        by_cases hc99 : (0 : Int32) < (cmpValue (FP.dcmp (own_pr v1 v47) (FP.ddiv (FP.i2d v49) (4620693217682128896 : UInt64))) .l)
        · rw [if_pos hc99] at qv98
          replace qv98 := Eq.symm qv98
          subst qv98
          refine XS.ifNo X87.here hx rfl (hb hby at_227) rfl ((if0 _ _).trans (tlt hc99).2.2.2) ?_
          show Steps p.tables e below (T87.setTop (mkF m 230 #[.val (.long p0), .second, .val (.long p1), .second, .val (.long p2), .second, .val (.int p3), .val (.int p4), .val (.long (1099511627775 : Int64)), .second, .val (.long v1), .second, .val (.long v47), .second, .val (.long v48), .second, .val (.int v49), .val (.long v50), .second, .val (.double (own_pr v1 v47)), .second, .val (.double (own_pr (v50 * v1) (v50 * v47))), .second, .val (.double (FP.ddiv (FP.i2d v49) (4620693217682128896 : UInt64))), .second, .val (.long v91), .second, .val (.long v92), .second, .val (.int v93), .unset] [])) _
          refine XS.iconst X87.here hx rfl (hb hby at_230) ?_
          show Steps p.tables e below (T87.setTop (mkF m 231 #[.val (.long p0), .second, .val (.long p1), .second, .val (.long p2), .second, .val (.int p3), .val (.int p4), .val (.long (1099511627775 : Int64)), .second, .val (.long v1), .second, .val (.long v47), .second, .val (.long v48), .second, .val (.int v49), .val (.long v50), .second, .val (.double (own_pr v1 v47)), .second, .val (.double (own_pr (v50 * v1) (v50 * v47))), .second, .val (.double (FP.ddiv (FP.i2d v49) (4620693217682128896 : UInt64))), .second, .val (.long v91), .second, .val (.long v92), .second, .val (.int v93), .unset] [(.int (1 : Int32))])) _
          refine XS.goto X87.here hx rfl (pc0 := 231) (pc' := 235) rfl (hb hby at_231) (by decide) (by decide) ?_
          show Steps p.tables e below (T87.setTop (mkF m 235 #[.val (.long p0), .second, .val (.long p1), .second, .val (.long p2), .second, .val (.int p3), .val (.int p4), .val (.long (1099511627775 : Int64)), .second, .val (.long v1), .second, .val (.long v47), .second, .val (.long v48), .second, .val (.int v49), .val (.long v50), .second, .val (.double (own_pr v1 v47)), .second, .val (.double (own_pr (v50 * v1) (v50 * v47))), .second, .val (.double (FP.ddiv (FP.i2d v49) (4620693217682128896 : UInt64))), .second, .val (.long v91), .second, .val (.long v92), .second, .val (.int v93), .unset] [(.int (1 : Int32))])) _
          exact k
        · rw [if_neg hc99] at qv98
          replace qv98 := Eq.symm qv98
          subst qv98
          refine XS.ifYes X87.here hx rfl (pc0 := 227) (pc' := 234) rfl (hb hby at_227) rfl ((if0 _ _).trans (flt hc99).2.2.2) (by decide) (by decide) ?_
          show Steps p.tables e below (T87.setTop (mkF m 234 #[.val (.long p0), .second, .val (.long p1), .second, .val (.long p2), .second, .val (.int p3), .val (.int p4), .val (.long (1099511627775 : Int64)), .second, .val (.long v1), .second, .val (.long v47), .second, .val (.long v48), .second, .val (.int v49), .val (.long v50), .second, .val (.double (own_pr v1 v47)), .second, .val (.double (own_pr (v50 * v1) (v50 * v47))), .second, .val (.double (FP.ddiv (FP.i2d v49) (4620693217682128896 : UInt64))), .second, .val (.long v91), .second, .val (.long v92), .second, .val (.int v93), .unset] [])) _
          refine XS.iconst X87.here hx rfl (hb hby at_234) ?_
          show Steps p.tables e below (T87.setTop (mkF m 235 #[.val (.long p0), .second, .val (.long p1), .second, .val (.long p2), .second, .val (.int p3), .val (.int p4), .val (.long (1099511627775 : Int64)), .second, .val (.long v1), .second, .val (.long v47), .second, .val (.long v48), .second, .val (.int v49), .val (.long v50), .second, .val (.double (own_pr v1 v47)), .second, .val (.double (own_pr (v50 * v1) (v50 * v47))), .second, .val (.double (FP.ddiv (FP.i2d v49) (4620693217682128896 : UInt64))), .second, .val (.long v91), .second, .val (.long v92), .second, .val (.int v93), .unset] [(.int (0 : Int32))])) _
          exact k
      show own_Go p.tables e below _ (T87.setTop (mkF m 235 #[.val (.long p0), .second, .val (.long p1), .second, .val (.long p2), .second, .val (.int p3), .val (.int p4), .val (.long (1099511627775 : Int64)), .second, .val (.long v1), .second, .val (.long v47), .second, .val (.long v48), .second, .val (.int v49), .val (.long v50), .second, .val (.double (own_pr v1 v47)), .second, .val (.double (own_pr (v50 * v1) (v50 * v47))), .second, .val (.double (FP.ddiv (FP.i2d v49) (4620693217682128896 : UInt64))), .second, .val (.long v91), .second, .val (.long v92), .second, .val (.int v93), .unset] [(.int v98)]))
      refine own_st (S' := T87.setTop (mkF m 237 #[.val (.long p0), .second, .val (.long p1), .second, .val (.long p2), .second, .val (.int p3), .val (.int p4), .val (.long (1099511627775 : Int64)), .second, .val (.long v1), .second, .val (.long v47), .second, .val (.long v48), .second, .val (.int v49), .val (.long v50), .second, .val (.double (own_pr v1 v47)), .second, .val (.double (own_pr (v50 * v1) (v50 * v47))), .second, .val (.double (FP.ddiv (FP.i2d v49) (4620693217682128896 : UInt64))), .second, .val (.long v91), .second, .val (.long v92), .second, .val (.int v93), .val (.int v98)] [])) (fun t k => XS.istore X87.here hx rfl (hb hby at_235) rfl (l' := #[.val (.long p0), .second, .val (.long p1), .second, .val (.long p2), .second, .val (.int p3), .val (.int p4), .val (.long (1099511627775 : Int64)), .second, .val (.long v1), .second, .val (.long v47), .second, .val (.long v48), .second, .val (.int v49), .val (.long v50), .second, .val (.double (own_pr v1 v47)), .second, .val (.double (own_pr (v50 * v1) (v50 * v47))), .second, .val (.double (FP.ddiv (FP.i2d v49) (4620693217682128896 : UInt64))), .second, .val (.long v91), .second, .val (.long v92), .second, .val (.int v93), .val (.int v98)]) rfl k) ?_
      refine own_st (S' := T87.setTop (mkF m 239 #[.val (.long p0), .second, .val (.long p1), .second, .val (.long p2), .second, .val (.int p3), .val (.int p4), .val (.long (1099511627775 : Int64)), .second, .val (.long v1), .second, .val (.long v47), .second, .val (.long v48), .second, .val (.int v49), .val (.long v50), .second, .val (.double (own_pr v1 v47)), .second, .val (.double (own_pr (v50 * v1) (v50 * v47))), .second, .val (.double (FP.ddiv (FP.i2d v49) (4620693217682128896 : UInt64))), .second, .val (.long v91), .second, .val (.long v92), .second, .val (.int v93), .val (.int v98)] [(.int v93)])) (fun t k => XS.iload X87.here hx rfl (hb hby at_237) rfl k) ?_
      refine own_st (S' := T87.setTop (mkF m 241 #[.val (.long p0), .second, .val (.long p1), .second, .val (.long p2), .second, .val (.int p3), .val (.int p4), .val (.long (1099511627775 : Int64)), .second, .val (.long v1), .second, .val (.long v47), .second, .val (.long v48), .second, .val (.int v49), .val (.long v50), .second, .val (.double (own_pr v1 v47)), .second, .val (.double (own_pr (v50 * v1) (v50 * v47))), .second, .val (.double (FP.ddiv (FP.i2d v49) (4620693217682128896 : UInt64))), .second, .val (.long v91), .second, .val (.long v92), .second, .val (.int v93), .val (.int v98)] [(.int v98), (.int v93)])) (fun t k => XS.iload X87.here hx rfl (hb hby at_239) rfl k) ?_
      have hc100 : v93 = v98 := by rw [qv93, own_fin hO hc2 hcn ecn qv91 qv92, if_neg hc96, qv98]
      refine own_st (S' := T87.setTop (mkF m 244 #[.val (.long p0), .second, .val (.long p1), .second, .val (.long p2), .second, .val (.int p3), .val (.int p4), .val (.long (1099511627775 : Int64)), .second, .val (.long v1), .second, .val (.long v47), .second, .val (.long v48), .second, .val (.int v49), .val (.long v50), .second, .val (.double (own_pr v1 v47)), .second, .val (.double (own_pr (v50 * v1) (v50 * v47))), .second, .val (.double (FP.ddiv (FP.i2d v49) (4620693217682128896 : UInt64))), .second, .val (.long v91), .second, .val (.long v92), .second, .val (.int v93), .val (.int v98)] [])) (fun t k => XS.icmpNo X87.here hx rfl (hb hby at_241) rfl (teq hc100).2 k) ?_
      show own_Go p.tables e below _ (T87.setTop (mkF m 244 #[.val (.long p0), .second, .val (.long p1), .second, .val (.long p2), .second, .val (.int p3), .val (.int p4), .val (.long (1099511627775 : Int64)), .second, .val (.long v1), .second, .val (.long v47), .second, .val (.long v48), .second, .val (.int v49), .val (.long v50), .second, .val (.double (own_pr v1 v47)), .second, .val (.double (own_pr (v50 * v1) (v50 * v47))), .second, .val (.double (FP.ddiv (FP.i2d v49) (4620693217682128896 : UInt64))), .second, .val (.long v91), .second, .val (.long v92), .second, .val (.int v93), .val (.int v98)] []))
      refine own_st (S' := T87.setTop (mkF m 245 #[.val (.long p0), .second, .val (.long p1), .second, .val (.long p2), .second, .val (.int p3), .val (.int p4), .val (.long (1099511627775 : Int64)), .second, .val (.long v1), .second, .val (.long v47), .second, .val (.long v48), .second, .val (.int v49), .val (.long v50), .second, .val (.double (own_pr v1 v47)), .second, .val (.double (own_pr (v50 * v1) (v50 * v47))), .second, .val (.double (FP.ddiv (FP.i2d v49) (4620693217682128896 : UInt64))), .second, .val (.long v91), .second, .val (.long v92), .second, .val (.int v93), .val (.int v98)] [(.int (1 : Int32))])) (fun t k => XS.iconst X87.here hx rfl (hb hby at_244) k) ?_
      refine own_st (S' := T87.setTop (mkF m 249 #[.val (.long p0), .second, .val (.long p1), .second, .val (.long p2), .second, .val (.int p3), .val (.int p4), .val (.long (1099511627775 : Int64)), .second, .val (.long v1), .second, .val (.long v47), .second, .val (.long v48), .second, .val (.int v49), .val (.long v50), .second, .val (.double (own_pr v1 v47)), .second, .val (.double (own_pr (v50 * v1) (v50 * v47))), .second, .val (.double (FP.ddiv (FP.i2d v49) (4620693217682128896 : UInt64))), .second, .val (.long v91), .second, .val (.long v92), .second, .val (.int v93), .val (.int v98)] [(.int (1 : Int32))])) (fun t k => XS.goto X87.here hx rfl (pc0 := 245) (pc' := 249) rfl (hb hby at_245) (by decide) (by decide) k) ?_
      refine own_retNW X87 hS (by rw [hh87]; exact hk) hx (t := .boolean) hret (by simp) hlk (hb hby at_249) ?_ (by decide) (by decide)
      rw [hh87]
      exact ⟨rfl, N87⟩
set_option maxRecDepth 65536 in
set_option maxHeartbeats 40000000 in
theorem comes_1 {Post : Tables → Env → Array Value → State → Outcome → State → Prop} (hpost : ∀ tb e args s v u, (limb_1_1.after args s (.returned v) u = true ∧ limb_1_2.after args s (.returned v) u = true ∧ True) → ReturnedEndW s (.returned v) u (Jvm.fieldLocs frame_1_writes args s ++ Jvm.arrayLocs frame_1_arrays args s ++ Jvm.staticLocs frame_1_statics s) 16 2176 → Post tb e args s (.returned v) u) :
    ArmFor flags0 classFile x code maxLocals ret World_1 tables_1 room_1 Calls_1 rest_1 Pre_1 Post := by
  intro l hfl _ _ p e ha hc hk s m args below hf hA hF happ hP
  obtain ⟨hcalls, hrest, hpre⟩ := hP
  obtain ⟨-, -, -, hnamed, -, -, -, hat⟩ := (Spec.applies_iff hf).mp happ
  obtain ⟨hg, hn⟩ := and_e (Cond.before_iff.mp (show (Jvm.Cond.and given_1 narrow_1).before args s = true from hpre))
  obtain ⟨c0, d0⟩ := and_e hg
  obtain ⟨c1, d1⟩ := and_e d0
  obtain ⟨c2, d2⟩ := and_e d1
  obtain ⟨c3, d3⟩ := and_e d2
  obtain ⟨c4, d4⟩ := and_e d3
  obtain ⟨w0, w1, w2, w3, w4, rfl⟩ : ∃ w0 w1 w2 w3 w4 : Value, args = #[w0, w1, w2, w3, w4] := by
    have hs : args.size = 5 := by simpa [Cond.value, given_1] using c0
    obtain ⟨L⟩ := args
    match L, hs with
    | [w0, w1, w2, w3, w4], _ => exact ⟨w0, w1, w2, w3, w4, rfl⟩
  have hw := fun d (hd : d ∈ tables_1) => atoms_spec (ws := Jvm.Cond.code x code maxLocals ret :: tables_1) hat d (List.mem_cons_of_mem _ hd)
  have hfit : Fit s := fun {y c} hc i hi => by
    obtain ⟨ha, rfl⟩ := Array.getElem?_eq_some_iff.mp hc
    have q := List.all_eq_true.mp ((Array.all_eq_true_iff_forall_mem.mp hF) _ (Array.getElem_mem ha)) i (List.mem_range.mpr hi)
    simpa [Array.getElem?_eq_getElem hi] using q
  obtain ⟨i0, ei0⟩ := isL_v c1
  obtain rfl : w0 = (.long i0) := Option.some.inj ei0
  obtain ⟨i1, ei1⟩ := isL_v c2
  obtain rfl : w1 = (.long i1) := Option.some.inj ei1
  obtain ⟨i2, ei2⟩ := isL_v c3
  obtain rfl : w2 = (.long i2) := Option.some.inj ei2
  obtain ⟨i3, ei3⟩ := is_v c4
  obtain rfl : w3 = (.int i3) := Option.some.inj ei3
  obtain ⟨i4, ei4⟩ := is_v d4
  obtain rfl : w4 = (.int i4) := Option.some.inj ei4
  obtain ⟨n, o, h1, h2, h3, _, L, rfl, ⟨rfl, N⟩, hq⟩ := rm0 l s _ hw tables_1 i0 i1 i2 i3 i4  s.heap s.heap.size (Nat.le_refl _)  p e ha hc hk s m _ below hf ((Spec.applies_iff_loose hf).mp happ).1 ⟨rfl, State.Warmed39.refl s, rfl⟩ trivial
  refine ⟨n, _, h1, h2, h3, hpost _ _ _ _ _ _ ⟨Cond.after_iff.mpr rfl, Cond.after_iff.mpr (eq_i res_at (Term.int_eval (1)) rfl), trivial⟩ ⟨hq.1, hq.2.1, hq.2.2.1, (hq.2.2.2.sift fun y hy => Or.inr (N y hy)).mono (by decide) (by decide)⟩⟩
theorem main_1_1 : Claimed_1_1 := comes_1 fun _ _ _ _ _ _ h hF => ⟨h.1, hF⟩
theorem main_1_2 : Claimed_1_2 := comes_1 fun _ _ _ _ _ _ h hF => ⟨h.2.1, hF⟩
end Jvm.Pilot.@@N@@
namespace Jvm.Pilot.@@N@@
open Jvm Jvm.ClassFile Sem Op Lib Jvm.Free Jvm.Stand Jvm.Pilot.@@N@@.Jvm.D
/-! MADE BY PROGRAM (witnessworld.py) out of the Statement's table words and the real class files: 16 classes; the members and pool entries that the words name. The judged class is class 1, her method 1. -/
namespace start1
open Jvm.ClassFile
def u (s : String) : CpInfo := .utf8 (stringToUtf16 s)
/-- a pool by its gaps: so many unusable entries, then the entry; so many at the end -/
def gap : Nat → List CpInfo → List CpInfo
  | 0, r => r
  | n + 1, r => .unusable :: gap n r
def poolList (es : List (Nat × CpInfo)) (last : Nat) : List CpInfo := es.foldr (fun e r => gap e.1 (e.2 :: r)) (gap last [])
def pool (es : List (Nat × CpInfo)) (last : Nat) : Array CpInfo := ⟨poolList es last⟩
def fileOf (pool : Array CpInfo) (this : Nat) (attrs : Array Attribute := #[]) (ms : Array MethodInfo := #[]) (fl : Nat := 33) (sup : Nat := 0) (ifs : Array Nat := #[]) (fds : Array FieldInfo := #[]) : ClassFile where
  minorVersion := 0
  majorVersion := 65
  constantPool := pool
  accessFlags := fl
  thisClass := this
  superClass := sup
  interfaces := ifs
  fields := fds
  methods := ms
  attributes := attrs
def plain (name : String) (sup : Option ClassId) : Class where
  name := name
  kind := .ordinary
  loader := none
  accessFlags := 33
  super := sup
  interfaces := #[]
  cf := none
  fields := #[]
  methods := #[]
  instanceTypes := #[]
  staticTypes := #[]
  resolved := #[]
  callSites := []
  init := .initialized
  statics := none
  mirror := none

def pool0 : Array CpInfo := pool [(5, u "<init>"), (0, u "()V"), (1, .class_ 10), (1, u "java/lang/Object")] 113

def k0c0 : Code := { maxStack := 0, maxLocals := 1, code := object_method_1_code, exceptionTable := #[], attributes := #[] }
def k0m0 : Method := { name := "<init>", desc := "()V", sig := { parameters := [], returnType := none }, accessFlags := 1, code := some k0c0 }
/-- java/lang/Object -/
def k0 : Class := { plain "java/lang/Object" none with
  accessFlags := 33
  interfaces := #[]
  cf := some (fileOf pool0 8 #[] #[{ accessFlags := 1, nameIndex := 5, descriptorIndex := 6, attributes := #[] }] 33 0 #[] #[])
  fields := #[]
  methods := #[k0m0]
  instanceTypes := #[]
  staticTypes := #[]
  resolved := Array.replicate 124 none
  statics := none }

def pool1 : Array CpInfo := pool [(2, .class_ 4), (1, u "java/lang/Object"), (0, u "<init>"), (0, u "()V"), (0, .long 1099511627775), (1, .integer 2147483647), (0, .class_ 11), (0, u "com/example/gaithersburg/gaithersburg/TopicScore"), (0, .string 13), (0, u "t"), (0, .methodref 10 15), (0, .nameAndType 5 16), (0, u "(Ljava/lang/String;JJJ)V"), (0, .methodref 10 18), (0, .nameAndType 19 20), (0, u "precision"), (0, u "()D"), (0, .double 4620693217682128896), (1, .long 8), (1, .class_ 26), (0, u "com/example/gaithersburg/gaithersburg/TopicScorePrecisionPinLaw"), (2, u "law"), (0, u "(JJJII)Z")] 3

def k1m0 : Method := { name := "<init>", desc := "()V", sig := { parameters := [], returnType := none }, accessFlags := 1, code := none }
def k1c1 : Code := { maxStack := 11, maxLocals := 31, code := code, exceptionTable := #[], attributes := #[] }
def k1m1 : Method := { name := "law", desc := "(JJJII)Z", sig := { parameters := [.long, .long, .long, .int, .int], returnType := some .boolean }, accessFlags := 9, code := some k1c1 }
/-- com/example/gaithersburg/gaithersburg/TopicScorePrecisionPinLaw -/
def k1 : Class := { plain "com/example/gaithersburg/gaithersburg/TopicScorePrecisionPinLaw" (some 0) with
  accessFlags := 49
  interfaces := #[]
  cf := some (fileOf pool1 25 #[] #[{ accessFlags := 1, nameIndex := 5, descriptorIndex := 6, attributes := #[] }, { accessFlags := 9, nameIndex := 29, descriptorIndex := 30, attributes := #[] }] 49 2 #[] #[])
  fields := #[]
  methods := #[k1m0, k1m1]
  instanceTypes := #[]
  staticTypes := #[]
  resolved := Array.replicate 34 none
  statics := none }

def pool2 : Array CpInfo := pool [(1, .methodref 2 3), (0, .class_ 4), (0, .nameAndType 5 6), (0, u "java/lang/Object"), (0, u "<init>"), (0, u "()V"), (0, .class_ 8), (0, u "java/lang/Record")] 13

def k2c0 : Code := { maxStack := 1, maxLocals := 1, code := jdk_30_method_1_code, exceptionTable := #[], attributes := #[] }
def k2m0 : Method := { name := "<init>", desc := "()V", sig := { parameters := [], returnType := none }, accessFlags := 4, code := some k2c0 }
/-- java/lang/Record -/
def k2 : Class := { plain "java/lang/Record" (some 0) with
  accessFlags := 1057
  interfaces := #[]
  cf := some (fileOf pool2 7 #[] #[{ accessFlags := 4, nameIndex := 5, descriptorIndex := 6, attributes := #[] }] 1057 2 #[] #[])
  fields := #[]
  methods := #[k2m0]
  instanceTypes := #[]
  staticTypes := #[]
  resolved := Array.replicate 22 none
  statics := none }

def pool3 : Array CpInfo := pool [(1, .methodref 2 3), (0, .class_ 4), (0, .nameAndType 5 6), (0, u "java/lang/Record"), (0, u "<init>"), (0, u "()V"), (0, .string 8), (0, u "topicId"), (0, .methodref 10 11), (0, .class_ 12), (0, .nameAndType 13 14), (0, u "java/util/Objects"), (0, u "requireNonNull"), (0, u "(Ljava/lang/Object;Ljava/lang/String;)Ljava/lang/Object;"), (9, .fieldref 25 26), (0, .class_ 27), (0, .nameAndType 8 28), (0, u "com/example/gaithersburg/gaithersburg/TopicScore"), (0, u "Ljava/lang/String;"), (0, .fieldref 25 30), (0, .nameAndType 31 32), (0, u "shown"), (0, u "J"), (0, .fieldref 25 34), (0, .nameAndType 35 32), (0, u "relevantShown"), (0, .fieldref 25 37), (0, .nameAndType 38 32), (0, u "relevant"), (32, u "(Ljava/lang/String;JJJ)V"), (6, u "precision"), (0, u "()D")] 38

def k3c0 : Code := { maxStack := 8, maxLocals := 8, code := prog_50_method_1_code, exceptionTable := #[], attributes := #[] }
def k3m0 : Method := { name := "<init>", desc := "(Ljava/lang/String;JJJ)V", sig := { parameters := [(.object "java/lang/String"), .long, .long, .long], returnType := none }, accessFlags := 1, code := some k3c0 }
def k3c1 : Code := { maxStack := 4, maxLocals := 1, code := prog_50_method_3_code, exceptionTable := #[], attributes := #[] }
def k3m1 : Method := { name := "precision", desc := "()D", sig := { parameters := [], returnType := some .double }, accessFlags := 1, code := some k3c1 }
/-- com/example/gaithersburg/gaithersburg/TopicScore -/
def k3 : Class := { plain "com/example/gaithersburg/gaithersburg/TopicScore" (some 2) with
  accessFlags := 49
  interfaces := #[]
  cf := some (fileOf pool3 25 #[] #[{ accessFlags := 1, nameIndex := 5, descriptorIndex := 71, attributes := #[] }, { accessFlags := 1, nameIndex := 78, descriptorIndex := 79, attributes := #[] }] 49 2 #[] #[{ accessFlags := 18, nameIndex := 8, descriptorIndex := 28, attributes := #[] }, { accessFlags := 18, nameIndex := 31, descriptorIndex := 32, attributes := #[] }, { accessFlags := 18, nameIndex := 35, descriptorIndex := 32, attributes := #[] }, { accessFlags := 18, nameIndex := 38, descriptorIndex := 32, attributes := #[] }])
  fields := #[{ name := "topicId", type := (.object "java/lang/String"), accessFlags := 18, slot := 0, constantValue := 0 }, { name := "shown", type := .long, accessFlags := 18, slot := 1, constantValue := 0 }, { name := "relevantShown", type := .long, accessFlags := 18, slot := 2, constantValue := 0 }, { name := "relevant", type := .long, accessFlags := 18, slot := 3, constantValue := 0 }]
  methods := #[k3m0, k3m1]
  instanceTypes := #[(.object "java/lang/String"), .long, .long, .long]
  staticTypes := #[]
  resolved := Array.replicate 118 none
  statics := none }

def pool4 : Array CpInfo := pool [(1, .class_ 2), (0, u "java/io/Serializable"), (0, .class_ 4), (0, u "java/lang/Object")] 2

/-- java/io/Serializable -/
def k4 : Class := { plain "java/io/Serializable" (some 0) with
  accessFlags := 1537
  interfaces := #[]
  cf := some (fileOf pool4 1 #[] #[] 1537 3 #[] #[])
  fields := #[]
  methods := #[]
  instanceTypes := #[]
  staticTypes := #[]
  resolved := Array.replicate 7 none
  statics := none }

def pool5 : Array CpInfo := pool [(1, .class_ 2), (0, u "java/lang/Comparable"), (0, .class_ 4), (0, u "java/lang/Object")] 7

/-- java/lang/Comparable -/
def k5 : Class := { plain "java/lang/Comparable" (some 0) with
  accessFlags := 1537
  interfaces := #[]
  cf := some (fileOf pool5 1 #[] #[] 1537 3 #[] #[])
  fields := #[]
  methods := #[]
  instanceTypes := #[]
  staticTypes := #[]
  resolved := Array.replicate 12 none
  statics := none }

def pool6 : Array CpInfo := pool [(2, .class_ 4), (1, u "java/lang/CharSequence"), (42, .class_ 48), (0, u "java/lang/CharSequence$1CodePointIterator"), (10, .class_ 60), (0, u "java/lang/CharSequence$1CharIterator"), (5, .class_ 67), (0, u "java/lang/Object")] 63

/-- java/lang/CharSequence -/
def k6 : Class := { plain "java/lang/CharSequence" (some 0) with
  accessFlags := 1537
  interfaces := #[]
  cf := some (fileOf pool6 2 #[.nestMembers #[47, 59]] #[] 1537 66 #[] #[])
  fields := #[]
  methods := #[]
  instanceTypes := #[]
  staticTypes := #[]
  resolved := Array.replicate 131 none
  statics := none }

def pool7 : Array CpInfo := pool [(1, .class_ 2), (0, u "java/lang/constant/Constable"), (0, .class_ 4), (0, u "java/lang/Object")] 6

/-- java/lang/constant/Constable -/
def k7 : Class := { plain "java/lang/constant/Constable" (some 0) with
  accessFlags := 1537
  interfaces := #[]
  cf := some (fileOf pool7 1 #[] #[] 1537 3 #[] #[])
  fields := #[]
  methods := #[]
  instanceTypes := #[]
  staticTypes := #[]
  resolved := Array.replicate 11 none
  statics := none }

def pool8 : Array CpInfo := pool [(1, .class_ 2), (0, u "java/lang/constant/ConstantDesc"), (0, .class_ 4), (0, u "java/lang/Object")] 32

/-- java/lang/constant/ConstantDesc -/
def k8 : Class := { plain "java/lang/constant/ConstantDesc" (some 0) with
  accessFlags := 1537
  interfaces := #[]
  cf := some (fileOf pool8 1 #[] #[] 1537 3 #[] #[])
  fields := #[]
  methods := #[]
  instanceTypes := #[]
  staticTypes := #[]
  resolved := Array.replicate 37 none
  statics := none }

def pool9 : Array CpInfo := pool [(2, .class_ 4), (1, u "java/lang/Object"), (0, u "<init>"), (0, u "()V"), (3, .class_ 12), (1, u "java/lang/String"), (0, u "value"), (0, u "[B"), (2, u "coder"), (0, u "B"), (2, u "hash"), (0, u "I"), (2, u "hashIsZero"), (0, u "Z"), (13, u "COMPACT_STRINGS"), (534, .class_ 576), (0, u "java/lang/CharSequence"), (22, u "CASE_INSENSITIVE_ORDER"), (0, u "Ljava/util/Comparator;"), (500, u "serialPersistentFields"), (0, u "[Ljava/io/ObjectStreamField;"), (0, .class_ 1104), (0, u "java/lang/String$CaseInsensitiveComparator"), (1, .class_ 1107), (0, u "java/io/Serializable"), (0, .class_ 1109), (0, u "java/lang/Comparable"), (0, .class_ 1111), (0, u "java/lang/constant/Constable"), (0, .class_ 1113), (0, u "java/lang/constant/ConstantDesc"), (2, u "serialVersionUID"), (0, u "J"), (3, u "REPL"), (0, u "C"), (2, u "LATIN1"), (1, u "UTF16")] 323

def k9m0 : Method := { name := "<init>", desc := "()V", sig := { parameters := [], returnType := none }, accessFlags := 1, code := none }
/-- java/lang/String -/
def k9 : Class := { plain "java/lang/String" (some 0) with
  accessFlags := 49
  interfaces := #[4, 5, 6, 7, 8]
  cf := some (fileOf pool9 10 #[.nestMembers #[1103]] #[{ accessFlags := 1, nameIndex := 5, descriptorIndex := 6, attributes := #[] }] 49 2 #[1106, 1108, 575, 1110, 1112] #[{ accessFlags := 18, nameIndex := 13, descriptorIndex := 14, attributes := #[] }, { accessFlags := 18, nameIndex := 17, descriptorIndex := 18, attributes := #[] }, { accessFlags := 2, nameIndex := 21, descriptorIndex := 22, attributes := #[] }, { accessFlags := 2, nameIndex := 25, descriptorIndex := 26, attributes := #[] }, { accessFlags := 26, nameIndex := 1116, descriptorIndex := 1117, attributes := #[] }, { accessFlags := 24, nameIndex := 40, descriptorIndex := 26, attributes := #[] }, { accessFlags := 26, nameIndex := 1101, descriptorIndex := 1102, attributes := #[] }, { accessFlags := 26, nameIndex := 1121, descriptorIndex := 1122, attributes := #[] }, { accessFlags := 25, nameIndex := 599, descriptorIndex := 600, attributes := #[] }, { accessFlags := 24, nameIndex := 1125, descriptorIndex := 18, attributes := #[] }, { accessFlags := 24, nameIndex := 1127, descriptorIndex := 18, attributes := #[] }])
  fields := #[{ name := "value", type := (.array .byte), accessFlags := 18, slot := 0, constantValue := 0 }, { name := "coder", type := .byte, accessFlags := 18, slot := 1, constantValue := 0 }, { name := "hash", type := .int, accessFlags := 2, slot := 2, constantValue := 0 }, { name := "hashIsZero", type := .boolean, accessFlags := 2, slot := 3, constantValue := 0 }, { name := "serialVersionUID", type := .long, accessFlags := 26, slot := 0, constantValue := 0 }, { name := "COMPACT_STRINGS", type := .boolean, accessFlags := 24, slot := 1, constantValue := 0 }, { name := "serialPersistentFields", type := (.array (.object "java/io/ObjectStreamField")), accessFlags := 26, slot := 2, constantValue := 0 }, { name := "REPL", type := .char, accessFlags := 26, slot := 3, constantValue := 0 }, { name := "CASE_INSENSITIVE_ORDER", type := (.object "java/util/Comparator"), accessFlags := 25, slot := 4, constantValue := 0 }, { name := "LATIN1", type := .byte, accessFlags := 24, slot := 5, constantValue := 0 }, { name := "UTF16", type := .byte, accessFlags := 24, slot := 6, constantValue := 0 }]
  methods := #[k9m0]
  instanceTypes := #[(.array .byte), .byte, .int, .boolean]
  staticTypes := #[.long, .boolean, (.array (.object "java/io/ObjectStreamField")), .char, (.object "java/util/Comparator"), .byte, .byte]
  resolved := Array.replicate 1451 none
  statics := none }

def pool10 : Array CpInfo := pool [(2, .class_ 4), (1, u "java/lang/Object"), (0, u "<init>"), (0, u "()V"), (35, .class_ 44), (1, u "java/util/Objects"), (0, u "requireNonNull"), (48, u "(Ljava/lang/Object;Ljava/lang/String;)Ljava/lang/Object;")] 89

def k10m0 : Method := { name := "<init>", desc := "()V", sig := { parameters := [], returnType := none }, accessFlags := 2, code := none }
def k10c1 : Code := { maxStack := 3, maxLocals := 2, code := jdk_31_method_11_code, exceptionTable := #[], attributes := #[] }
def k10m1 : Method := { name := "requireNonNull", desc := "(Ljava/lang/Object;Ljava/lang/String;)Ljava/lang/Object;", sig := { parameters := [(.object "java/lang/Object"), (.object "java/lang/String")], returnType := some (.object "java/lang/Object") }, accessFlags := 9, code := some k10c1 }
/-- java/util/Objects -/
def k10 : Class := { plain "java/util/Objects" (some 0) with
  accessFlags := 49
  interfaces := #[]
  cf := some (fileOf pool10 42 #[] #[{ accessFlags := 2, nameIndex := 5, descriptorIndex := 6, attributes := #[] }, { accessFlags := 9, nameIndex := 45, descriptorIndex := 94, attributes := #[] }] 49 2 #[] #[])
  fields := #[]
  methods := #[k10m0, k10m1]
  instanceTypes := #[]
  staticTypes := #[]
  resolved := Array.replicate 184 none
  statics := none }

def pool11 : Array CpInfo := pool [(1, u "java/lang/Cloneable"), (0, .class_ 1), (0, u "java/lang/Object"), (0, .class_ 3)] 3

/-- java/lang/Cloneable -/
def k11 : Class := { plain "java/lang/Cloneable" (some 0) with
  accessFlags := 1537
  interfaces := #[]
  cf := some (fileOf pool11 2 #[] #[] 1537 4 #[] #[])
  fields := #[]
  methods := #[]
  instanceTypes := #[]
  staticTypes := #[]
  resolved := Array.replicate 8 none
  statics := none }

/-- the primitive byte -/
def k12 : Class := { plain "byte" none with kind := .primitive 'B', accessFlags := 0x411 }
/-- [B -/
def k13 : Class := { plain "[B" (some 0) with kind := .array 12 .byte, interfaces := #[11, 4], accessFlags := 1041 }

/-- the primitive int -/
def k14 : Class := { plain "int" none with kind := .primitive 'I', accessFlags := 0x411 }
/-- [I -/
def k15 : Class := { plain "[I" (some 0) with kind := .array 14 .int, interfaces := #[11, 4], accessFlags := 1041 }

def heap : Heap := #[]
def classes : Array Class := #[k0, k1, k2, k3, k4, k5, k6, k7, k8, k9, k10, k11, k12, k13, k14, k15]
def interned : List (Array UInt16 × Addr) := []
def slotsUsed : Nat := 0
def theMethod : MethodId := ⟨1, 1⟩
def args0 : Array Value := #[.long 5, .long 7, .long 9, .int 3, .int 2]
def aboutOver (below : List Frame) : State where
  vm := { classes := classes, interned := interned.toArray }
  heap := heap
  slotsUsed := slotsUsed
  threads := #[{ frames := .invoking theMethod args0 :: below }]
def below0 : List Frame := [.native { method := ⟨0, 0⟩, args := #[] }]
def about1 : State := aboutOver below0
def p0 : Program := .bare "" "" ""
def e0 : Env := launch0.env 0 0 0
theorem w_frames : about1.frames = Frame.invoking theMethod args0 :: below0 := rfl
set_option maxRecDepth 65536 in
theorem w_args : argsFit about1.vm theMethod args0 = true := by decide +kernel
set_option maxRecDepth 65536 in
theorem w_heap : heapFits about1 = true := by decide +kernel
set_option maxRecDepth 65536 in
theorem w_runnable : about1.curStatus? = some .runnable := by decide +kernel
set_option maxRecDepth 65536 in
theorem w_alone : about1.alone = true := by decide +kernel
set_option maxRecDepth 65536 in
theorem w_named : about1.methodNamed? x = some theMethod := by decide +kernel
set_option maxRecDepth 65536 in
theorem w_hears : about1.hears theMethod below0 = true := by decide +kernel
set_option maxRecDepth 65536 in
theorem w_ripe : about1.ripe theMethod args0 below0 = true := by decide +kernel
theorem w_running : about1.status = .running := rfl
set_option maxRecDepth 65536 in
theorem w_room : about1.hasRoom e0.platform room_1 = true :=
  launch0.hasRoom_least _ room_1 (by decide +kernel) (by decide +kernel) (by decide +kernel) (by decide +kernel) (by decide +kernel) (by decide +kernel)
theorem allAtoms_all (ts : List Jvm.Cond) (a : Array Jvm.Value) (st : Jvm.State) : (allAtoms ts).before a st = ts.all (fun c => c.before a st) := by
  induction ts with
  | nil => rfl
  | cons c t ih =>
    show (Jvm.Cond.and c (allAtoms t)).before a st = _
    rw [Jvm.Cond.before_and, ih, List.all_cons]
def words1 : List Jvm.Cond := Jvm.Cond.code x code maxLocals ret :: tables_1
/-- a 'code' word, met by the world's own term for the bytes: nothing is compared byte by byte -/
theorem code_word {y : MethodName} {bytes : ByteArray} {mx : Nat} {rt : Option FieldType} {a : Array Value} {s : State} {m : MethodId} {meth : Method} {c : Code} (h1 : s.methodNamed? y = some m) (h2 : s.vm.method? m = some meth) (h3 : meth.code = some c) (h4 : c.code = bytes)
    (h5 : (c.maxLocals == mx && c.exceptionTable.isEmpty && decide (c.maxStack ≤ mostOperands) && decide (meth.sig.returnType = rt) && !meth.locks && decide (parseMethodDescriptor y.desc = some meth.sig)) = true) : (Jvm.Cond.code y bytes mx rt).before a s = true := by
  simp only [Bool.and_eq_true, beq_iff_eq, Bool.not_eq_true', decide_eq_true_eq] at h5
  obtain ⟨⟨⟨⟨⟨g1, g2⟩, g3⟩, g4⟩, g5⟩, g6⟩ := h5
  simp [Cond.before, Cond.holds, Cond.value, h1, h2, h3, h4, g1, g2, g3, g4, g5, g6]
def isCode : Jvm.Cond → Bool
  | .code _ _ _ _ => true
  | _ => false
theorem all_split {L : List Jvm.Cond} {P : Jvm.Cond → Bool} (h1 : L.all (fun c => isCode c || P c) = true) (h2 : ∀ c ∈ L.filter isCode, P c = true) : L.all P = true := by
  refine List.all_eq_true.mpr fun c hc => ?_
  have h := List.all_eq_true.mp h1 c hc
  rcases Bool.eq_false_or_eq_true (isCode c) with hi | hi
  · exact h2 c (List.mem_filter.mpr ⟨hc, hi⟩)
  · simpa [hi] using h
set_option maxRecDepth 65536 in
theorem w_c0 : (Jvm.Cond.code x code maxLocals ret).before args0 about1 = true := code_word (m := ⟨1, 1⟩) (meth := k1m1) (c := k1c1) (by decide +kernel) rfl rfl rfl (by decide +kernel)
set_option maxRecDepth 65536 in
theorem w_c1 : (Jvm.Cond.code ({ cls := "com/example/gaithersburg/gaithersburg/TopicScore", name := "<init>", desc := "(Ljava/lang/String;JJJ)V" } : Jvm.MethodName) prog_50_method_1_code (8 : Nat) (Option.none : Option Jvm.ClassFile.FieldType)).before args0 about1 = true := code_word (m := ⟨3, 0⟩) (meth := k3m0) (c := k3c0) (by decide +kernel) rfl rfl rfl (by decide +kernel)
set_option maxRecDepth 65536 in
theorem w_c2 : (Jvm.Cond.code ({ cls := "java/lang/Record", name := "<init>", desc := "()V" } : Jvm.MethodName) jdk_30_method_1_code (1 : Nat) (Option.none : Option Jvm.ClassFile.FieldType)).before args0 about1 = true := code_word (m := ⟨2, 0⟩) (meth := k2m0) (c := k2c0) (by decide +kernel) rfl rfl rfl (by decide +kernel)
set_option maxRecDepth 65536 in
theorem w_c3 : (Jvm.Cond.code ({ cls := "java/lang/Object", name := "<init>", desc := "()V" } : Jvm.MethodName) object_method_1_code (1 : Nat) (Option.none : Option Jvm.ClassFile.FieldType)).before args0 about1 = true := code_word (m := ⟨0, 0⟩) (meth := k0m0) (c := k0c0) (by decide +kernel) rfl rfl rfl (by decide +kernel)
set_option maxRecDepth 65536 in
theorem w_c4 : (Jvm.Cond.code ({ cls := "java/util/Objects", name := "requireNonNull", desc := "(Ljava/lang/Object;Ljava/lang/String;)Ljava/lang/Object;" } : Jvm.MethodName) jdk_31_method_11_code (2 : Nat) (Option.some (Jvm.ClassFile.FieldType.object "java/lang/Object"))).before args0 about1 = true := code_word (m := ⟨10, 1⟩) (meth := k10m1) (c := k10c1) (by decide +kernel) rfl rfl rfl (by decide +kernel)
set_option maxRecDepth 65536 in
theorem w_c5 : (Jvm.Cond.code ({ cls := "com/example/gaithersburg/gaithersburg/TopicScore", name := "precision", desc := "()D" } : Jvm.MethodName) prog_50_method_3_code (1 : Nat) (Option.some Jvm.ClassFile.FieldType.double)).before args0 about1 = true := code_word (m := ⟨3, 1⟩) (meth := k3m1) (c := k3c1) (by decide +kernel) rfl rfl rfl (by decide +kernel)
def codes1 : List Jvm.Cond := [Jvm.Cond.code x code maxLocals ret, Jvm.Cond.code ({ cls := "com/example/gaithersburg/gaithersburg/TopicScore", name := "<init>", desc := "(Ljava/lang/String;JJJ)V" } : Jvm.MethodName) prog_50_method_1_code (8 : Nat) (Option.none : Option Jvm.ClassFile.FieldType), Jvm.Cond.code ({ cls := "java/lang/Record", name := "<init>", desc := "()V" } : Jvm.MethodName) jdk_30_method_1_code (1 : Nat) (Option.none : Option Jvm.ClassFile.FieldType), Jvm.Cond.code ({ cls := "java/lang/Object", name := "<init>", desc := "()V" } : Jvm.MethodName) object_method_1_code (1 : Nat) (Option.none : Option Jvm.ClassFile.FieldType), Jvm.Cond.code ({ cls := "java/util/Objects", name := "requireNonNull", desc := "(Ljava/lang/Object;Ljava/lang/String;)Ljava/lang/Object;" } : Jvm.MethodName) jdk_31_method_11_code (2 : Nat) (Option.some (Jvm.ClassFile.FieldType.object "java/lang/Object")), Jvm.Cond.code ({ cls := "com/example/gaithersburg/gaithersburg/TopicScore", name := "precision", desc := "()D" } : Jvm.MethodName) prog_50_method_3_code (1 : Nat) (Option.some Jvm.ClassFile.FieldType.double)]
set_option maxRecDepth 65536 in
theorem codes_eq : words1.filter isCode = codes1 := rfl
theorem w_codes : ∀ c ∈ words1.filter isCode, c.before args0 about1 = true := by
  rw [codes_eq]
  intro c hc
  simp only [codes1, List.mem_cons, List.not_mem_nil, or_false] at hc
  rcases hc with rfl | rfl | rfl | rfl | rfl | rfl
  · exact w_c0
  · exact w_c1
  · exact w_c2
  · exact w_c3
  · exact w_c4
  · exact w_c5
set_option maxRecDepth 65536 in
theorem w_t1 : (words1.take 24).all (fun c => isCode c || c.before args0 about1) = true := by decide +kernel
set_option maxRecDepth 65536 in
theorem w_t2 : (words1.drop 24).all (fun c => isCode c || c.before args0 about1) = true := by decide +kernel
theorem w_tables : (allAtoms (Jvm.Cond.code x code maxLocals ret :: tables_1)).before args0 about1 = true := by
  rw [allAtoms_all]
  show words1.all (fun c => c.before args0 about1) = true
  refine all_split ?_ w_codes
  rw [← List.take_append_drop 24 words1, List.all_append, w_t1, w_t2]
  rfl
set_option maxRecDepth 65536 in
theorem w_case : (Jvm.Cond.and given_1 narrow_1).before args0 about1 = true := by decide +kernel
theorem w_applies : (headSpec (Jvm.Cond.code x code maxLocals ret :: tables_1) room_1).applies x e0.platform about1 = true :=
  (Spec.applies_iff w_frames).mpr ⟨w_running, w_runnable, w_alone, w_named, w_hears, w_ripe, w_room, w_tables⟩
theorem atStart : AtStart classFile x code maxLocals ret World_1 tables_1 room_1 Calls_1 rest_1 Pre_1 launch0 p0 e0 about1 theMethod args0 below0 :=
  ⟨lists_1, trivial, launch0.admits_env _ _ _, launch0.least_env, fairChoices_fair.cas, fairChoices_fair.clock, w_frames, w_args, w_heap, w_applies, trivial, trivial, w_case⟩
end start1
theorem witness_1 : WitnessClaimed_1 := ⟨start1.p0, start1.e0, start1.about1, start1.theMethod, start1.args0, start1.below0, start1.atStart⟩
end Jvm.Pilot.@@N@@
