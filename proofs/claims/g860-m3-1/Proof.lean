import JvmDerived
import JvmDerived.Pilot.@@N@@Statement
import JvmDerived.Pilot.@@N@@Code
set_option linter.unusedVariables false
set_option linter.unusedSimpArgs false
namespace Jvm.Pilot.@@N@@
open Jvm Jvm.ClassFile Sem Op Lib Jvm.Free Jvm.Stand Jvm.LawKit Jvm.RoadKit Bundle Jvm.Pilot.@@N@@.Jvm.D
section Own
variable {p : Program} {l : Launch} {e : Env} {R : Room} {s : State} {m : MethodId} {args : Array Value} {below : List Frame} {meth : Method} {c : Code} {T : State} {locs : List Loc} {cells slots : Nat} {Q : Option Value → Heap → List Loc → Prop} {k n : Nat}
/-- from this state the body comes to an end that meets Φ -/
def own_Go (tb : Tables) (e : Env) (below : List Frame) (Φ : Outcome → State → Prop) (S : State) : Prop :=
  ∃ U o, Steps tb e below S U ∧ U.status = .running ∧ Ended U below o ∧ Φ o U
/-- it returned; what it leaves meets Q; nothing else moved -/
def own_F (s : State) (Q : Option Value → Heap → List Loc → Prop) (k n : Nat) (o : Outcome) (U : State) : Prop := ∃ v L, o = .returned v ∧ Q v U.heap L ∧ FrameEnd s o U L k n
theorem own_st {tb : Tables} {Φ : Outcome → State → Prop} {S S' : State} (h : ∀ t, Steps tb e below S' t → Steps tb e below S t) (g : own_Go tb e below Φ S') : own_Go tb e below Φ S := by
  obtain ⟨U, o, h1, r⟩ := g
  exact ⟨U, o, h _ h1, r⟩
theorem own_tr {tb : Tables} {Φ : Outcome → State → Prop} {S S' : State} (h : Steps tb e below S S') (g : own_Go tb e below Φ S') : own_Go tb e below Φ S := by
  obtain ⟨U, o, h1, r⟩ := g
  exact ⟨U, o, h.trans h1, r⟩
theorem own_end (X : Stand p l e R s m args below meth c T locs cells slots) (v : Option Value) (hv : meth.sig.returnType = none → v = none) (hlk : meth.locks = false) (hq : Q v T.heap locs) (hk : cells ≤ k) (hn : slots ≤ n) {S : State}
    (hs : ∀ fs, (∀ (f : JFrame) (acts : List Action), f.method = m → f.locked = none → f.entered = [] → (doReturn e (T.setTop f) acts v).1 = T.setFrames fs) → Steps p.tables e below S (T.setFrames fs)) : own_Go p.tables e below (own_F s Q k n) S := by
  obtain ⟨fs, hr, hrun, hended, hW, hsame⟩ := X.leave (v := v) hv hlk
  exact ⟨_, _, hs fs hr, hrun, hended, v, locs, rfl, hq, ⟨_, rfl⟩, hW, hsame.mono hk hn⟩
theorem own_retN (X : Stand p l e R s m args below meth c T locs cells slots) (hx : p.tables.exec = Jvm.exec) {pc : Nat} {Ls : Array Slot} {z : Int32} {t : FieldType} {rest : List Value} (hret : meth.sig.returnType = some t) (ht : t = .boolean ∨ t = .byte ∨ t = .char ∨ t = .short) (hlk : meth.locks = false)
    (hd : decode c.code pc = .ok (.ireturn, 1)) (hq : Q (some (.int (nar t z))) T.heap locs) (hk : cells ≤ k) (hn : slots ≤ n) : own_Go p.tables e below (own_F s Q k n) (T.setTop (mkF m pc Ls (.int z :: rest))) :=
  own_end X _ (fun h => by rw [hret] at h; cases h) hlk hq hk hn fun fs hr => retN X hx hret ht hd hr
theorem own_retI (X : Stand p l e R s m args below meth c T locs cells slots) (hx : p.tables.exec = Jvm.exec) {pc : Nat} {Ls : Array Slot} {z : Int32} {rest : List Value} (hret : meth.sig.returnType = some .int) (hlk : meth.locks = false)
    (hd : decode c.code pc = .ok (.ireturn, 1)) (hq : Q (some (.int z)) T.heap locs) (hk : cells ≤ k) (hn : slots ≤ n) : own_Go p.tables e below (own_F s Q k n) (T.setTop (mkF m pc Ls (.int z :: rest))) :=
  own_end X _ (fun h => by rw [hret] at h; cases h) hlk hq hk hn fun fs hr => retOut X hx hret rfl (Or.inl ⟨rfl, Or.inl rfl, z, rfl⟩) hd hr
theorem own_retL (X : Stand p l e R s m args below meth c T locs cells slots) (hx : p.tables.exec = Jvm.exec) {pc : Nat} {Ls : Array Slot} {z : Int64} {rest : List Value} (hret : meth.sig.returnType = some .long) (hlk : meth.locks = false)
    (hd : decode c.code pc = .ok (.lreturn, 1)) (hq : Q (some (.long z)) T.heap locs) (hk : cells ≤ k) (hn : slots ≤ n) : own_Go p.tables e below (own_F s Q k n) (T.setTop (mkF m pc Ls (.long z :: rest))) :=
  own_end X _ (fun h => by rw [hret] at h; cases h) hlk hq hk hn fun fs hr => retOut X hx hret rfl (Or.inr (Or.inl ⟨rfl, rfl, z, rfl⟩)) hd hr
theorem own_retA (X : Stand p l e R s m args below meth c T locs cells slots) (hx : p.tables.exec = Jvm.exec) {pc : Nat} {Ls : Array Slot} {w : Value} {t : FieldType} {rest : List Value} (hret : meth.sig.returnType = some t) (ht : t.isReference = true) (hw : w.isRef = true) (hnw : narrow t w = w) (hlk : meth.locks = false)
    (hd : decode c.code pc = .ok (.areturn, 1)) (hq : Q (some w) T.heap locs) (hk : cells ≤ k) (hn : slots ≤ n) : own_Go p.tables e below (own_F s Q k n) (T.setTop (mkF m pc Ls (w :: rest))) :=
  own_end X _ (fun h => by rw [hret] at h; cases h) hlk hq hk hn fun fs hr => retOut X hx hret hnw (Or.inr (Or.inr (Or.inr (Or.inr ⟨rfl, ht, hw⟩)))) hd hr
theorem own_retD (X : Stand p l e R s m args below meth c T locs cells slots) (hx : p.tables.exec = Jvm.exec) {pc : Nat} {Ls : Array Slot} {z : UInt64} {rest : List Value} (hret : meth.sig.returnType = some .double) (hlk : meth.locks = false)
    (hd : decode c.code pc = .ok (.dreturn, 1)) (hq : Q (some (.double z)) T.heap locs) (hk : cells ≤ k) (hn : slots ≤ n) : own_Go p.tables e below (own_F s Q k n) (T.setTop (mkF m pc Ls (.double z :: rest))) :=
  own_end X _ (fun h => by rw [hret] at h; cases h) hlk hq hk hn fun fs hr => retOut X hx hret rfl (Or.inr (Or.inr (Or.inl ⟨rfl, rfl, z, rfl⟩))) hd hr
theorem own_retV (X : Stand p l e R s m args below meth c T locs cells slots) (hx : p.tables.exec = Jvm.exec) {pc : Nat} {Ls : Array Slot} (hret : meth.sig.returnType = none) (hlk : meth.locks = false)
    (hd : decode c.code pc = .ok (.return_, 1)) (hq : Q none T.heap locs) (hk : cells ≤ k) (hn : slots ≤ n) : own_Go p.tables e below (own_F s Q k n) (T.setTop (mkF m pc Ls [])) :=
  own_end X _ (fun _ => rfl) hlk hq hk hn fun fs hr => X.returnOut hx hret hd hr
theorem own_body {y : MethodName} {cd : ByteArray} {mx : Nat} {rt : Option FieldType} {ws : List Jvm.Cond} {rm : Room} {Z : State} {h0 : Heap} {as : Array Value} (hp : plainFor y = true)
    (go : ∀ (p : Program) (e : Env) (s : State) (m : MethodId) (below : List Frame) (meth : Method) (c : Code) (s₁ : State), p.tables.exec = Jvm.exec → c.code = cd → c.maxLocals = mx → s.vm.findClass y.cls = some m.cls → meth.name = y.name → meth.sig.returnType = rt → meth.locks = false → Z.Warmed39 s.vm →
      Stand p l e rm s m as below meth c s₁ [] 0 0 → s₁.heap = h0 → own_Go p.tables e below (own_F s Q rm.cells rm.slots) (s₁.setTop (entryFrame m as mx))) :
    MetFree l y (head1 (Jvm.Cond.code y cd mx rt :: ws) rm) (fun a U => a = as ∧ Z.Warmed39 U.vm ∧ U.heap = h0) (fun _ _ _ _ _ => True) (fun _ U o U' => ∃ v L, o = .returned v ∧ Q v U'.heap L ∧ FrameEnd U o U' L rm.cells rm.slots) := by
  refine MetFree.of_bodySF hp hisR ?_
  intro p e s m args below meth c s₁ Bd hml0 hP hK
  obtain ⟨rfl, hZ, hh⟩ := hP
  exact go p e s m below meth c s₁ Bd.exec Bd.bytes hml0 (findClass_of_methodNamed Bd.named) (name_of_methodNamed Bd.named Bd.method).1 Bd.returns Bd.notSynchronized hZ (Stand.of_body Bd) (by rw [← hh, Bd.state]; rfl)
end Own
theorem own_narb {P : Prop} [Decidable P] : nar .boolean (if P then (1 : Int32) else (0 : Int32)) = if P then (1 : Int32) else (0 : Int32) := by split <;> rfl
/-- an array by its length and what each place holds -/
def own_A (Z : State) (h : Heap) (a : Addr) (ty : FieldType) (n : Nat) (f : Nat → Value) : Prop := ∃ c : Cell, Arr Z h a c ty ∧ c.slots.size = n ∧ n < 2 ^ 31 ∧ ∀ j, j < n → c.slots[j]? = some (f j)
def own_up (f : Nat → Value) (i : Nat) (v : Value) : Nat → Value := fun j => if j = i then v else f j
def own_Ix (j : Int32) (i n : Nat) : Prop := ¬ j < 0 ∧ j.toNatClampNeg = i ∧ i < n
section Arrs
variable {Z : State} {h h' : Heap} {a b : Addr} {ty : FieldType} {n i : Nat} {f : Nat → Value} {v : Value} {sl : Nat} {ws : List Addr} {c : Cell} {j z : Int32}
theorem own_A.lt (F : own_A Z h a ty n f) : a < h.size := by obtain ⟨c, A, -⟩ := F; exact A.lt
theorem own_A.ext (F : own_A Z h a ty n f) (E : Ext h h') : own_A Z h' a ty n f := by obtain ⟨c, A, r⟩ := F; exact ⟨c, A.ext E, r⟩
theorem own_A.other (F : own_A Z h b ty n f) (W : Wr h h' a sl v) (q : b ≠ a) : own_A Z h' b ty n f := by obtain ⟨c, A, r⟩ := F; exact ⟨c, A.other W q, r⟩
theorem own_A.keep (F : own_A Z h a ty n f) (K : Keep h h' ws) (q : a ∉ ws) : own_A Z h' a ty n f := by obtain ⟨c, A, r⟩ := F; exact ⟨c, ⟨K.2.1 a c A.1 q, A.2⟩, r⟩
theorem own_clamp (z : Int32) : z.toNatClampNeg < 2 ^ 31 := by
  have := Int32.toInt_lt z
  simp only [Int32.toNatClampNeg]; omega
theorem own_A.new {k : ClassId} (A : Arr Z h a (newA k ty z) ty) (hz : z.toNatClampNeg = n) : own_A Z h a ty n (fun _ => defaultValue ty) := by
  refine ⟨_, A, by rw [sz_new, hz], by rw [← hz]; exact own_clamp z, fun j hj => ?_⟩
  simp [newA, hz, hj]
theorem own_ix (h1 : ¬ j < 0) (h2 : j.toNatClampNeg = i) (h3 : i < n) : own_Ix j i n := ⟨h1, h2, h3⟩
theorem own_in (S : c.slots.size = n) (h : own_Ix j i n) : ¬ (j < 0 ∨ c.slots.size ≤ j.toNatClampNeg) := by
  obtain ⟨h1, h2, h3⟩ := h
  rw [S, h2]
  exact fun q => q.elim h1 (fun r => absurd h3 (Nat.not_lt.mpr r))
theorem own_at (S : c.slots.size = n) (V : ∀ j, j < n → c.slots[j]? = some (f j)) (h : own_Ix j i n) (hv : f i = v) : c.slots[j.toNatClampNeg]? = some v := by
  obtain ⟨h1, h2, h3⟩ := h
  rw [h2, V i h3, hv]
theorem own_A.set (F : own_A Z h a ty n f) (hj : own_Ix j i n) (W : Wr h h' a j.toNatClampNeg v) : own_A Z h' a ty n (own_up f i v) := by
  obtain ⟨c, A, S, M, V⟩ := F
  obtain ⟨h1, h2, h3⟩ := hj
  rw [h2] at W
  refine ⟨c.setSlot i v, A.same W, by rw [sz_set]; exact S, M, fun j' hj' => ?_⟩
  show (c.slots.setIfInBounds i v)[j']? = _
  unfold own_up
  by_cases e : j' = i
  · subst e; rw [if_pos rfl]; simp [S, hj']
  · rw [if_neg e, Array.getElem?_setIfInBounds_ne (Ne.symm e)]; exact V j' hj'
theorem own_A.cong {g : Nat → Value} (F : own_A Z h a ty n f) (q : ∀ j, j < n → f j = g j) : own_A Z h a ty n g := by
  obtain ⟨c, A, S, M, V⟩ := F
  exact ⟨c, A, S, M, fun j hj => by rw [V j hj, q j hj]⟩
end Arrs
/-- a short array's values by a list -/
def own_V (vs : List Value) : Nat → Value := fun j => vs.getD j .null
theorem own_selP {Z s : State} {a0 args : Array Value} {y : MethodName} {n : Nat} (hZ : Z.Warmed39 s.vm) (wi : (Jvm.Cond.instantiable y.cls n).before a0 Z = true) (wp : (Jvm.Cond.privateMethod y).before a0 Z = true) (wm : (Jvm.Cond.instanceMethod y).before a0 Z = true)
    (hy : y.cls ≠ "java/lang/invoke/MethodHandle" ∧ y.cls ≠ "java/lang/invoke/VarHandle") : (Jvm.Cond.selects y.cls y y).before args s = true := by
  have w : (Jvm.Cond.instantiable y.cls n).before args s = true := mvT hZ wi
  obtain ⟨c, k, h1, h2, -, h4, -⟩ := Cond.instantiable_spec w
  exact selects_self_of_private h1 h2 (Bool.or_eq_false_iff.mp h4).1 (Cond.privateMethod_at (mvP hZ wp (args := #[]))) (mvT hZ wm) hy
section OwnW
variable {p : Program} {l : Launch} {e : Env} {R : Room} {s : State} {vm0 : Vm} {k0 : Nat} {m : MethodId} {args : Array Value} {below : List Frame} {meth : Method} {c : Code} {T : State} {locs : List Loc} {cells slots : Nat} {Q : Option Value → Heap → List Loc → Prop} {k n : Nat}
/-- as own_F, of a body that may load String constants -/
def own_FW (s : State) (Q : Option Value → Heap → List Loc → Prop) (k n : Nat) (o : Outcome) (U : State) : Prop := ∃ v L, o = .returned v ∧ Q v U.heap L ∧ ReturnedEndW s o U L k n
theorem own_endW (X : Stand p l e R (s.setVm vm0) m args below meth c T locs cells slots) (hS : s.Since vm0 k0) (hk0 : k0 ≤ T.heap.size) (v : Option Value) (hv : meth.sig.returnType = none → v = none) (hlk : meth.locks = false) (hq : Q v T.heap locs) (hk : cells ≤ k) (hn : slots ≤ n) {S : State}
    (hs : ∀ fs, (∀ (f : JFrame) (acts : List Action), f.method = m → f.locked = none → f.entered = [] → (doReturn e (T.setTop f) acts v).1 = T.setFrames fs) → Steps p.tables e below S (T.setFrames fs)) : own_Go p.tables e below (own_FW s Q k n) S := by
  obtain ⟨fs, hr, hrun, hended, hW, hsame⟩ := X.leave (v := v) hv hlk
  obtain ⟨h1, h2, h3⟩ := hS.ended (U := T.setFrames fs) hW hk0 hsame
  exact ⟨_, _, hs fs hr, hrun, hended, v, locs, rfl, hq, ⟨_, rfl⟩, h1, h2, h3.mono hk hn⟩
theorem own_retNW (X : Stand p l e R (s.setVm vm0) m args below meth c T locs cells slots) (hS : s.Since vm0 k0) (hk0 : k0 ≤ T.heap.size) (hx : p.tables.exec = Jvm.exec) {pc : Nat} {Ls : Array Slot} {z : Int32} {t : FieldType} {rest : List Value} (hret : meth.sig.returnType = some t) (ht : t = .boolean ∨ t = .byte ∨ t = .char ∨ t = .short) (hlk : meth.locks = false)
    (hd : decode c.code pc = .ok (.ireturn, 1)) (hq : Q (some (.int (nar t z))) T.heap locs) (hk : cells ≤ k) (hn : slots ≤ n) : own_Go p.tables e below (own_FW s Q k n) (T.setTop (mkF m pc Ls (.int z :: rest))) :=
  own_endW X hS hk0 _ (fun h => by rw [hret] at h; cases h) hlk hq hk hn fun fs hr => retN X hx hret ht hd hr
theorem own_retVW (X : Stand p l e R (s.setVm vm0) m args below meth c T locs cells slots) (hS : s.Since vm0 k0) (hk0 : k0 ≤ T.heap.size) (hx : p.tables.exec = Jvm.exec) {pc : Nat} {Ls : Array Slot} (hret : meth.sig.returnType = none) (hlk : meth.locks = false)
    (hd : decode c.code pc = .ok (.return_, 1)) (hq : Q none T.heap locs) (hk : cells ≤ k) (hn : slots ≤ n) : own_Go p.tables e below (own_FW s Q k n) (T.setTop (mkF m pc Ls [])) :=
  own_endW X hS hk0 _ (fun _ => rfl) hlk hq hk hn fun fs hr => X.returnOut hx hret hd hr
theorem own_bodyW {y : MethodName} {cd : ByteArray} {mx : Nat} {rt : Option FieldType} {ws : List Jvm.Cond} {rm : Room} {Z : State} {h0 : Heap} {as : Array Value} (hp : plainFor y = true)
    (go : ∀ (p : Program) (e : Env) (s : State) (m : MethodId) (below : List Frame) (meth : Method) (c : Code) (s₁ : State), p.tables.exec = Jvm.exec → c.code = cd → c.maxLocals = mx → s.vm.findClass y.cls = some m.cls → meth.name = y.name → meth.sig.returnType = rt → meth.locks = false → Z.Warmed39 s.vm →
      Stand p l e rm s m as below meth c s₁ [] 0 0 → s₁.heap = h0 → own_Go p.tables e below (own_FW s Q rm.cells rm.slots) (s₁.setTop (entryFrame m as mx))) :
    MetFree l y (head1 (Jvm.Cond.code y cd mx rt :: ws) rm) (fun a U => a = as ∧ Z.Warmed39 U.vm ∧ U.heap = h0) (fun _ _ _ _ _ => True) (fun _ U o U' => ∃ v L, o = .returned v ∧ Q v U'.heap L ∧ ReturnedEndW U o U' L rm.cells rm.slots) := by
  refine MetFree.of_bodySF hp hisR ?_
  intro p e s m args below meth c s₁ Bd hml0 hP hK
  obtain ⟨rfl, hZ, hh⟩ := hP
  exact go p e s m below meth c s₁ Bd.exec Bd.bytes hml0 (findClass_of_methodNamed Bd.named) (name_of_methodNamed Bd.named Bd.method).1 Bd.returns Bd.notSynchronized hZ (Stand.of_body Bd) (by rw [← hh, Bd.state]; rfl)
/-- as own_bodyW, from the case's own start -/
theorem own_bodyZ {y : MethodName} {cd : ByteArray} {mx : Nat} {rt : Option FieldType} {ws : List Jvm.Cond} {rm : Room} {Z : State} {as : Array Value} (hp : plainFor y = true)
    (go : ∀ (p : Program) (e : Env) (m : MethodId) (below : List Frame) (meth : Method) (c : Code) (s₁ : State), p.tables.exec = Jvm.exec → c.code = cd → c.maxLocals = mx → Z.vm.findClass y.cls = some m.cls → meth.name = y.name → meth.sig.returnType = rt → meth.locks = false →
      Stand p l e rm Z m as below meth c s₁ [] 0 0 → s₁.heap = Z.heap → own_Go p.tables e below (own_FW Z Q rm.cells rm.slots) (s₁.setTop (entryFrame m as mx))) :
    MetFree l y (head1 (Jvm.Cond.code y cd mx rt :: ws) rm) (fun a U => a = as ∧ U = Z) (fun _ _ _ _ _ => True) (fun _ U o U' => ∃ v L, o = .returned v ∧ Q v U'.heap L ∧ ReturnedEndW U o U' L rm.cells rm.slots) := by
  refine MetFree.of_bodySF hp hisR ?_
  intro p e s m args below meth c s₁ Bd hml0 hP hK
  obtain ⟨rfl, rfl⟩ := hP
  exact go p e m below meth c s₁ Bd.exec Bd.bytes hml0 (findClass_of_methodNamed Bd.named) (name_of_methodNamed Bd.named Bd.method).1 Bd.returns Bd.notSynchronized (Stand.of_body Bd) (by rw [Bd.state]; rfl)
end OwnW

/-! IdMap in plain Lean: the table's places and what put and remove do to them -/
def own_J (f : Nat → Int64) : Nat → Value := fun j => .long (f j)
def own_uJ (f : Nat → Int64) (i : Nat) (v : Int64) : Nat → Int64 := fun j => if j = i then v else f j
theorem own_upJ (f : Nat → Int64) (i : Nat) (v : Int64) : own_up (own_J f) i (.long v) = own_J (own_uJ f i v) := by
  funext j; unfold own_up own_J own_uJ; split <;> rfl
/-- the first place of a key -/
def own_fs (k : Int64) : Int32 := ((((k * (-7046029254386353131 : Int64)).toUInt64 >>> ((60 : Int32) &&& 0x3f).toInt64.toUInt64).toInt64).toInt32)
def own_fn (k : Int64) : Nat := (own_fs k).toNatClampNeg % 16
/-- the place behind so many steps -/
def own_pl (k : Int64) (d : Nat) : Nat := (own_fn k + d) % 16
theorem own_pl_lt (k : Int64) (d : Nat) : own_pl k d < 16 := Nat.mod_lt _ (by decide)
theorem own_fs_eq (k : Int64) : own_fs k = Int32.ofNat (own_pl k 0) := by
  have h : (own_fs k).toInt ≤ 15 ∧ 0 ≤ (own_fs k).toInt := by
    obtain ⟨u, hu⟩ : ∃ u : UInt64, u = (k * (-7046029254386353131 : Int64)).toUInt64 := ⟨_, rfl⟩
    unfold own_fs
    rw [← hu, show (((60 : Int32) &&& 0x3f).toInt64.toUInt64) = (60 : UInt64) from by decide]
    have b : ((u >>> 60).toNat) < 16 := by
      rw [UInt64.toNat_shiftRight]
      have := u.toNat_lt
      have r : u.toNat >>> 60 < 16 := by rw [Nat.shiftRight_eq_div_pow]; omega
      exact r
    generalize u >>> 60 = w at b
    have e : w = UInt64.ofNat w.toNat := by simp
    rw [e]
    generalize w.toNat = n at b
    revert n
    decide
  unfold own_pl own_fn
  apply Int32.toInt_inj.mp
  rw [Int32.toInt_ofNat_of_lt (by omega)]
  have e : (own_fs k).toNatClampNeg = (own_fs k).toInt.toNat := rfl
  rw [e]
  omega
theorem own_next (n : Nat) : (Int32.ofNat (n % 16) + 1) &&& 15 = Int32.ofNat ((n + 1) % 16) := by
  have h : n % 16 < 16 := Nat.mod_lt _ (by decide)
  rw [show (n + 1) % 16 = (n % 16 + 1) % 16 by omega]
  generalize n % 16 = i at h
  revert i
  decide
theorem own_ixJ {i : Nat} (h : i < 16) : own_Ix (Int32.ofNat i) i 16 := by
  have e : (Int32.ofNat i).toInt = i := Int32.toInt_ofNat_of_lt (by omega)
  refine ⟨fun q => ?_, ?_, h⟩
  · have := Int32.lt_iff_toInt_lt.mp q
    rw [e] at this
    have z : (0 : Int32).toInt = 0 := rfl
    omega
  · show (Int32.ofNat i).toInt.toNat = i
    rw [e]; rfl
/-- D steps from the key's first place stands the first place that is free or the key's -/
def own_Pr (f : Nat → Int64) (k : Int64) (D : Nat) : Prop := (∀ d, d < D → f (own_pl k d) ≠ 0 ∧ f (own_pl k d) ≠ k) ∧ (f (own_pl k D) = 0 ∨ f (own_pl k D) = k)
def own_Emp (f : Nat → Int64) : Prop := ∃ j, j < 16 ∧ f j = 0
theorem own_reach (k : Int64) {j : Nat} (h : j < 16) : ∃ d, d < 16 ∧ own_pl k d = j := by
  have b : own_fn k < 16 := Nat.mod_lt _ (by decide)
  refine ⟨(j + 16 - own_fn k) % 16, Nat.mod_lt _ (by decide), ?_⟩
  unfold own_pl
  omega
theorem own_least {P : Nat → Prop} : ∀ n, P n → ∃ D, P D ∧ ∀ d, d < D → ¬ P d := by
  intro n
  induction n using Nat.strongRecOn with
  | ind n ih =>
    intro h
    by_cases q : ∃ m, m < n ∧ P m
    · obtain ⟨m, h1, h2⟩ := q
      exact ih m h1 h2
    · exact ⟨n, h, fun d hd r => q ⟨d, hd, r⟩⟩
theorem own_ex {f : Nat → Int64} (k : Int64) (h : own_Emp f) : ∃ D, own_Pr f k D := by
  obtain ⟨j, hj, e⟩ := h
  obtain ⟨d, -, q⟩ := own_reach k hj
  have p : ∃ d, f (own_pl k d) = 0 ∨ f (own_pl k d) = k := ⟨d, Or.inl (by rw [q]; exact e)⟩
  obtain ⟨d0, p0⟩ := p
  obtain ⟨D, h1, h2⟩ := own_least (P := fun d => f (own_pl k d) = 0 ∨ f (own_pl k d) = k) d0 p0
  exact ⟨D, fun d hd => ⟨fun q => h2 d hd (Or.inl q), fun q => h2 d hd (Or.inr q)⟩, h1⟩
/-- every key that is held is found where it is -/
def own_Good (f : Nat → Int64) : Prop := ∀ j, j < 16 → f j ≠ 0 → ∃ D, own_Pr f (f j) D ∧ own_pl (f j) D = j
theorem own_PrU {f : Nat → Int64} {k : Int64} {D D' : Nat} (h : own_Pr f k D) (h' : own_Pr f k D') : D = D' := by
  rcases Nat.lt_trichotomy D D' with q | q | q
  · exact absurd h.2 (fun r => r.elim (h'.1 D q).1 (h'.1 D q).2)
  · exact q
  · exact absurd h'.2 (fun r => r.elim (h.1 D' q).1 (h.1 D' q).2)
def own_Has (f : Nat → Int64) (k : Int64) : Prop := ∃ j, j < 16 ∧ f j = k
theorem own_hasAt {f : Nat → Int64} {k : Int64} {D : Nat} (g : own_Good f) (hk : k ≠ 0) (h : own_Pr f k D) : own_Has f k ↔ f (own_pl k D) = k := by
  constructor
  · rintro ⟨j, hj, rfl⟩
    obtain ⟨D', q1, q2⟩ := g j hj hk
    rw [own_PrU h q1, q2]
  · intro q
    exact ⟨_, own_pl_lt _ _, q⟩
/-- put: what it does -/
def own_Put (f : Nat → Int64) (w z : Int32) (k : Int64) (f' : Nat → Int64) (w' z' : Int32) : Prop :=
  (k = 0 ∧ f' = f ∧ w' = w ∧ z' = 1) ∨ (k ≠ 0 ∧ z' = z ∧ ∃ D, own_Pr f k D ∧ ((f (own_pl k D) = k ∧ f' = f ∧ w' = w) ∨ (f (own_pl k D) ≠ k ∧ f' = own_uJ f (own_pl k D) k ∧ w' = w + 1)))
def own_In (P : List Nat) (f : Nat → Int64) : Prop := ∀ j, j < 16 → f j ≠ 0 → j ∈ P
theorem own_empOf {P : List Nat} {f : Nat → Int64} (h : own_In P f) (hl : P.length ≤ 3) : own_Emp f := by
  have : ∃ j, j < 4 ∧ j ∉ P := by
    match P, hl with
    | [], _ => exact ⟨0, by decide, by simp⟩
    | [a], _ => refine ⟨if a = 0 then 1 else 0, by split <;> decide, ?_⟩; simp; split <;> omega
    | [a, b], _ =>
      by_cases h0 : 0 ∈ [a, b]
      · by_cases h1 : 1 ∈ [a, b]
        · exact ⟨2, by decide, by simp at *; omega⟩
        · exact ⟨1, by decide, h1⟩
      · exact ⟨0, by decide, h0⟩
    | [a, b, c], _ =>
      by_cases h0 : 0 ∈ [a, b, c]
      · by_cases h1 : 1 ∈ [a, b, c]
        · by_cases h2 : 2 ∈ [a, b, c]
          · exact ⟨3, by decide, by simp at *; omega⟩
          · exact ⟨2, by decide, h2⟩
        · exact ⟨1, by decide, h1⟩
      · exact ⟨0, by decide, h0⟩
  obtain ⟨j, hj, q⟩ := this
  refine ⟨j, by omega, ?_⟩
  by_cases e : f j = 0
  · exact e
  · exact absurd (h j (by omega) e) q
theorem own_putLaw {f f' : Nat → Int64} {w z w' z' : Int32} {k : Int64} {P : List Nat} (h : own_Put f w z k f' w' z') (g : own_Good f) (hP : own_In P f) :
    own_Good f' ∧ (∃ p, own_In (p :: P) f') ∧ (k = 0 → f' = f ∧ w' = w ∧ z' = 1) ∧ (k ≠ 0 → z' = z ∧ own_Has f' k ∧ (own_Has f k → w' = w) ∧ (¬ own_Has f k → w' = w + 1) ∧ ∀ x, x ≠ 0 → x ≠ k → (own_Has f' x ↔ own_Has f x)) := by
  rcases h with ⟨rfl, rfl, rfl, rfl⟩ | ⟨hk, rfl, D, hD, ⟨e, rfl, rfl⟩ | ⟨e, rfl, rfl⟩⟩
  · exact ⟨g, ⟨0, fun j hj q => List.mem_cons_of_mem _ (hP j hj q)⟩, fun _ => ⟨rfl, rfl, rfl⟩, fun q => absurd rfl q⟩
  · refine ⟨g, ⟨0, fun j hj q => List.mem_cons_of_mem _ (hP j hj q)⟩, fun q => absurd q hk, fun _ => ⟨rfl, ⟨_, own_pl_lt _ _, e⟩, fun _ => rfl, fun q => absurd ⟨_, own_pl_lt _ _, e⟩ q, fun _ _ _ => Iff.rfl⟩⟩
  · have z0 : f (own_pl k D) = 0 := hD.2.resolve_right e
    have off : ∀ j, f j ≠ 0 → own_uJ f (own_pl k D) k j = f j := fun j hj => by
      unfold own_uJ
      rw [if_neg]
      rintro rfl
      exact hj z0
    have at0 : own_uJ f (own_pl k D) k (own_pl k D) = k := by unfold own_uJ; rw [if_pos rfl]
    refine ⟨fun j hj q => ?_, ⟨own_pl k D, fun j hj q => ?_⟩, fun q => absurd q hk, fun _ => ⟨rfl, ⟨_, own_pl_lt k D, at0⟩, fun q => absurd ((own_hasAt g hk hD).mp q) e, fun _ => rfl, fun x hx hxk => ?_⟩⟩
    · by_cases hj' : j = own_pl k D
      · subst hj'
        rw [at0]
        refine ⟨D, ⟨fun d hd => ?_, Or.inr at0⟩, rfl⟩
        rw [off _ (hD.1 d hd).1]
        exact hD.1 d hd
      · have ej : own_uJ f (own_pl k D) k j = f j := by unfold own_uJ; rw [if_neg hj']
        rw [ej] at q ⊢
        obtain ⟨D', q1, q2⟩ := g j hj q
        refine ⟨D', ⟨fun d hd => ?_, Or.inr ?_⟩, q2⟩
        · rw [off _ (q1.1 d hd).1]
          exact q1.1 d hd
        · rw [q2, ej]
    · by_cases hj' : j = own_pl k D
      · rw [hj']; exact List.mem_cons_self ..
      · have ej : own_uJ f (own_pl k D) k j = f j := by unfold own_uJ; rw [if_neg hj']
        rw [ej] at q
        exact List.mem_cons_of_mem _ (hP j hj q)
    · constructor
      · rintro ⟨j, hj, q⟩
        by_cases hj' : j = own_pl k D
        · subst hj'; rw [at0] at q; exact absurd q.symm hxk
        · have ej : own_uJ f (own_pl k D) k j = f j := by unfold own_uJ; rw [if_neg hj']
          exact ⟨j, hj, by rw [← ej]; exact q⟩
      · rintro ⟨j, hj, q⟩
        exact ⟨j, hj, by rw [off j (by rw [q]; exact hx)]; exact q⟩
/-- remove: what the law asks of it -/
def own_Rem (f : Nat → Int64) (w z : Int32) (k : Int64) (f' : Nat → Int64) (w' z' : Int32) : Prop :=
  own_Emp f' ∧ (k = 0 → w' = w ∧ z' = 0) ∧ (k ≠ 0 → z' = z ∧ ¬ own_Has f' k ∧ (own_Has f k → w' = w - 1) ∧ (¬ own_Has f k → w' = w))
theorem own_next' {j : Nat} (h : j < 16) : (Int32.ofNat j + 1) &&& 15 = Int32.ofNat ((j + 1) % 16) := by
  revert j
  decide
theorem own_nextP (k : Int64) (i : Nat) : (Int32.ofNat (own_pl k i) + 1) &&& 15 = Int32.ofNat (own_pl k (i + 1)) := own_next _
theorem own_cap {w : Int32} (h : -1 ≤ w.toInt ∧ w.toInt ≤ 4) : (w + (1 : Int32)) * (2 : Int32) ≤ (16 : Int32) := by
  obtain ⟨n, hn, e⟩ : ∃ n : Nat, n < 6 ∧ w = Int32.ofNat n - 1 := ⟨(w.toInt + 1).toNat, by omega, by apply Int32.toInt_inj.mp; have s := c_isub (Int32.ofNat (w.toInt + 1).toNat) 1; have r := rng32 (Int32.ofNat (w.toInt + 1).toNat - 1); rw [Int32.toInt_ofNat_of_lt (by omega)] at s; have z : (1 : Int32).toInt = 1 := rfl; omega⟩
  subst e
  revert n
  decide
/-- the gap stands at y, the look at j; n steps on from j lies a free place, and the gap beyond it -/
def own_Sh (k : Int64) (f : Nat → Int64) (y j n : Nat) : Prop := y < 16 ∧ j < 16 ∧ (∀ t, t < 16 → t ≠ y → f t ≠ k) ∧ ∃ o, o < 16 ∧ f o = 0 ∧ (o + 16 - j) % 16 = n ∧ n < (o + 16 - y) % 16
theorem own_Sh.zero {k : Int64} {f : Nat → Int64} {y j : Nat} (h : own_Sh k f y j 0) : f j = 0 := by
  obtain ⟨h1, h2, -, o, h3, h4, h5, h6⟩ := h
  have : o = j := by omega
  rw [← this]; exact h4
theorem own_Sh.ne {k : Int64} {f : Nat → Int64} {y j n : Nat} (h : own_Sh k f y j n) : j ≠ y := by
  obtain ⟨h1, h2, -, o, h3, h4, h5, h6⟩ := h
  rintro rfl
  omega
theorem own_Sh.stay {k : Int64} {f : Nat → Int64} {y j n : Nat} (h : own_Sh k f y j (n + 1)) : own_Sh k f y ((j + 1) % 16) n := by
  obtain ⟨h1, h2, h3, o, h4, h5, h6, h7⟩ := h
  exact ⟨h1, by omega, h3, o, h4, h5, by omega, by omega⟩
theorem own_Sh.move {k : Int64} {f : Nat → Int64} {y j n : Nat} (h : own_Sh k f y j (n + 1)) (hj : f j ≠ 0) : own_Sh k (own_uJ f y (f j)) j ((j + 1) % 16) n := by
  have hne := h.ne
  obtain ⟨h1, h2, h3, o, h4, h5, h6, h7⟩ := h
  refine ⟨h2, by omega, fun t ht hty => ?_, o, h4, ?_, by omega, by omega⟩
  · unfold own_uJ
    split
    · exact h3 j h2 hne
    · rename_i q; exact h3 t ht q
  · unfold own_uJ
    rw [if_neg (by rintro rfl; omega)]
    exact h5
theorem own_Sh.done {k : Int64} {f : Nat → Int64} {y j n : Nat} (h : own_Sh k f y j n) (hk : k ≠ 0) : ¬ own_Has (own_uJ f y 0) k ∧ own_Emp (own_uJ f y 0) := by
  obtain ⟨h1, h2, h3, -⟩ := h
  refine ⟨?_, y, h1, by unfold own_uJ; rw [if_pos rfl]⟩
  rintro ⟨t, ht, q⟩
  unfold own_uJ at q
  split at q
  · exact hk q.symm
  · rename_i r; exact h3 t ht r q
theorem own_Sh.start {k : Int64} {f : Nat → Int64} {D : Nat} (g : own_Good f) (hE : own_Emp f) (hD : own_Pr f k D) (hk : k ≠ 0) (hf : f (own_pl k D) = k) : ∃ n, own_Sh k f (own_pl k D) ((own_pl k D + 1) % 16) n := by
  obtain ⟨o, ho, e⟩ := hE
  have hy := own_pl_lt k D
  have hne : o ≠ own_pl k D := by rintro rfl; exact hk (hf.symm.trans e)
  refine ⟨(o + 16 - (own_pl k D + 1) % 16) % 16, hy, by omega, fun t ht htn q => ?_, o, ho, e, rfl, by omega⟩
  obtain ⟨D', q1, q2⟩ := g t ht (by rw [q]; exact hk)
  rw [q] at q1 q2
  rw [own_PrU q1 hD] at q2
  exact htn q2.symm
def own_sz (w z : Int32) : Int32 := w + (if z = (0 : Int32) then (0 : Int32) else (1 : Int32))
/-- the table holds the keys of S, all of them where they are found; cnt of them, the zero with them -/
def own_Inv (S : Int64 → Prop) (f : Nat → Int64) (w z cnt : Int32) (P : List Nat) : Prop :=
  own_Good f ∧ own_In P f ∧ (∀ x, x ≠ 0 → (own_Has f x ↔ S x)) ∧ (S 0 → z = 1) ∧ (¬ S 0 → z = 0) ∧ own_sz w z = cnt ∧ 0 ≤ w.toInt ∧ w.toInt ≤ P.length
theorem own_inv0 : own_Inv (fun _ => False) (fun _ => 0) 0 0 0 [] := by
  refine ⟨fun j hj q => absurd rfl q, fun j hj q => absurd rfl q, fun x hx => ⟨fun ⟨j, hj, q⟩ => absurd q.symm hx, False.elim⟩, False.elim, fun _ => rfl, by decide, by decide, by decide⟩
theorem own_Inv.emp {S : Int64 → Prop} {f : Nat → Int64} {w z cnt : Int32} {P : List Nat} (J : own_Inv S f w z cnt P) (h : P.length ≤ 3) : own_Emp f := own_empOf J.2.1 h
theorem own_Inv.bnd {S : Int64 → Prop} {f : Nat → Int64} {w z cnt : Int32} {P : List Nat} (J : own_Inv S f w z cnt P) (h : P.length ≤ 3) : -1 ≤ w.toInt ∧ w.toInt ≤ 4 := by
  obtain ⟨-, -, -, -, -, -, h1, h2⟩ := J
  omega
theorem own_invPut {S : Int64 → Prop} {f f' : Nat → Int64} {w z w' z' cnt cnt' : Int32} {k : Int64} {P : List Nat} (J : own_Inv S f w z cnt P) (hP : P.length ≤ 3) (R : own_Put f w z k f' w' z') (h1 : S k → cnt' = cnt) (h2 : ¬ S k → cnt' = cnt + 1) :
    ∃ p, own_Inv (fun x => S x ∨ x = k) f' w' z' cnt' (p :: P) := by
  obtain ⟨g, i, hs, z1, z0, sz, b1, b2⟩ := J
  obtain ⟨g', ⟨p, i'⟩, r0, r1⟩ := own_putLaw R g i
  refine ⟨p, g', i', ?_⟩
  by_cases hk : k = 0
  · obtain ⟨rfl, rfl, rfl⟩ := r0 hk
    subst hk
    refine ⟨fun x hx => (hs x hx).trans ⟨Or.inl, fun q => q.resolve_right hx⟩, fun _ => rfl, fun q => absurd (Or.inr rfl) q, ?_, b1, Int.le_trans b2 (by simp; omega)⟩
    by_cases q : S 0
    · rw [h1 q, ← sz, z1 q]
    · rw [h2 q, ← sz, z0 q]
      show w' + (if (1 : Int32) = 0 then 0 else 1) = w' + (if (0 : Int32) = 0 then 0 else 1) + 1
      rw [if_neg (by decide), if_pos rfl, Int32.add_zero]
  · obtain ⟨rfl, hk', ra, rb, rc⟩ := r1 hk
    have n0 : ∀ q : S 0 ∨ (0 : Int64) = k, S 0 := fun q => q.resolve_right (fun r => hk r.symm)
    refine ⟨fun x hx => ?_, fun q => z1 (n0 q), fun q => z0 (fun r => q (Or.inl r)), ?_, ?_⟩
    · by_cases e : x = k
      · subst e; exact ⟨fun _ => Or.inr rfl, fun _ => hk'⟩
      · exact (rc x hx e).trans ((hs x hx).trans ⟨Or.inl, fun q => q.resolve_right e⟩)
    · by_cases q : S k
      · rw [h1 q, ← sz, ra ((hs k hk).mpr q)]
      · rw [h2 q, ← sz, rb (fun r => q ((hs k hk).mp r))]
        unfold own_sz
        grind
    · by_cases q : own_Has f k
      · rw [ra q]; exact ⟨b1, Int.le_trans b2 (by simp; omega)⟩
      · rw [rb q]
        have e := c_iadd w 1
        have r := rng32 (w + 1)
        have z : (1 : Int32).toInt = 1 := rfl
        have hl : (p :: P).length = P.length + 1 := rfl
        rw [hl]
        omega
theorem own_J1 {f' : Nat → Int64} {w' z' : Int32} {a : Int64} (R : own_Put (fun _ => 0) 0 0 a f' w' z') : ∃ p, own_Inv (fun x => x = a) f' w' z' 1 [p] := by
  obtain ⟨p, J⟩ := own_invPut (cnt' := 1) own_inv0 (by decide) R (fun q => q.elim) (fun _ => by decide)
  refine ⟨p, ?_⟩
  have e : (fun x => False ∨ x = a) = (fun x => x = a) := by funext x; simp
  rw [e] at J
  exact J
theorem own_J2 {f f' : Nat → Int64} {w z w' z' cnt : Int32} {a b : Int64} {p : Nat} (J : own_Inv (fun x => x = a) f w z cnt [p]) (R : own_Put f w z b f' w' z') : ∃ p', own_Inv (fun x => x = a ∨ x = b) f' w' z' (cnt + (if b = a then (0 : Int32) else (1 : Int32))) [p', p] :=
  own_invPut J (by simp) R (fun q => by rw [if_pos q, Int32.add_zero]) (fun q => by rw [if_neg q])
theorem own_J3 {f f' : Nat → Int64} {w z w' z' cnt : Int32} {a b c : Int64} {p p' : Nat} (J : own_Inv (fun x => x = a ∨ x = b) f w z cnt [p, p']) (R : own_Put f w z c f' w' z') : ∃ p'', own_Inv (fun x => (x = a ∨ x = b) ∨ x = c) f' w' z' (cnt + (if c = a then (0 : Int32) else if c = b then (0 : Int32) else (1 : Int32))) [p'', p, p'] :=
  own_invPut J (by simp) R (fun q => by
    by_cases h : c = a
    · rw [if_pos h, Int32.add_zero]
    · rw [if_neg h, if_pos (q.resolve_left h), Int32.add_zero]) (fun q => by rw [if_neg (fun h => q (Or.inl h)), if_neg (fun h => q (Or.inr h))])
theorem own_remLaw {S : Int64 → Prop} {f f' : Nat → Int64} {w z w' z' cnt : Int32} {k : Int64} {P : List Nat} (J : own_Inv S f w z cnt P) (hP : P.length ≤ 3) (R : own_Rem f w z k f' w' z') :
    own_Emp f' ∧ (-1 ≤ w'.toInt ∧ w'.toInt ≤ 4) ∧ (S k → own_sz w' z' = cnt - 1) ∧ (¬ S k → own_sz w' z' = cnt) ∧ (k = 0 → z' = 0) ∧ (k ≠ 0 → ¬ own_Has f' k) := by
  obtain ⟨g, i, hs, z1, z0, sz, b1, b2⟩ := J
  obtain ⟨e, r0, r1⟩ := R
  by_cases hk : k = 0
  · obtain ⟨rfl, rfl⟩ := r0 hk
    subst hk
    refine ⟨e, ⟨by omega, by omega⟩, fun q => ?_, fun q => ?_, fun _ => rfl, fun q => absurd rfl q⟩
    · rw [← sz, z1 q]
      show w' + (if (0 : Int32) = 0 then 0 else 1) = w' + (if (1 : Int32) = 0 then 0 else 1) - 1
      rw [if_pos rfl, if_neg (by decide)]
      grind
    · rw [← sz, z0 q]
  · obtain ⟨rfl, nh, ra, rb⟩ := r1 hk
    refine ⟨e, ?_, fun q => ?_, fun q => ?_, fun q => absurd q hk, fun _ => nh⟩
    · by_cases q : own_Has f k
      · rw [ra q]
        have e := c_isub w 1
        have r := rng32 (w - 1)
        have z : (1 : Int32).toInt = 1 := rfl
        omega
      · rw [rb q]; omega
    · rw [← sz, ra ((hs k hk).mpr q)]
      unfold own_sz
      grind
    · rw [← sz, rb (fun r => q ((hs k hk).mp r))]
theorem own_put4 {f f' : Nat → Int64} {w z w' z' : Int32} {k : Int64} (R : own_Put f w z k f' w' z') (h0 : k = 0 → z = 0) (h1 : k ≠ 0 → ¬ own_Has f k) : own_sz w' z' = own_sz w z + 1 := by
  rcases R with ⟨rfl, rfl, rfl, rfl⟩ | ⟨hk, rfl, D, hD, ⟨e, rfl, rfl⟩ | ⟨e, rfl, rfl⟩⟩
  · rw [h0 rfl]
    show w' + (if (1 : Int32) = 0 then 0 else 1) = w' + (if (0 : Int32) = 0 then 0 else 1) + 1
    rw [if_neg (by decide), if_pos rfl, Int32.add_zero]
  · exact absurd ⟨_, own_pl_lt k D, e⟩ (h1 hk)
  · unfold own_sz
    grind
theorem own_in4 {x a b c : Int64} {sz cnt : Int32} (h1 : ((x = a ∨ x = b) ∨ x = c) → sz = cnt - 1) (h0 : ¬ ((x = a ∨ x = b) ∨ x = c) → sz = cnt) :
    sz = if (if x = a then (1 : Int32) else (if x = b then (1 : Int32) else (if x = c then (1 : Int32) else (0 : Int32)))) = (0 : Int32) then cnt else (cnt - (1 : Int32)) := by
  by_cases ha : x = a
  · rw [if_pos ha, if_neg (by decide)]; exact h1 (Or.inl (Or.inl ha))
  · rw [if_neg ha]
    by_cases hb : x = b
    · rw [if_pos hb, if_neg (by decide)]; exact h1 (Or.inl (Or.inr hb))
    · rw [if_neg hb]
      by_cases hc : x = c
      · rw [if_pos hc, if_neg (by decide)]; exact h1 (Or.inr hc)
      · rw [if_neg hc, if_pos rfl]
        exact h0 (fun q => q.elim (fun r => r.elim ha hb) hc)

theorem d1_0 : decode jdk_33_method_47_code 0 = .ok (.iload_n 0, 1) := by decide +kernel
theorem d1_1 : decode jdk_33_method_47_code 1 = .ok (.ifCond .gt 14, 3) := by decide +kernel
theorem d1_15 : decode jdk_33_method_47_code 15 = .ok (.bipush 31, 2) := by decide +kernel
theorem d1_17 : decode jdk_33_method_47_code 17 = .ok (.istore_n 1, 1) := by decide +kernel
theorem d1_18 : decode jdk_33_method_47_code 18 = .ok (.iload_n 0, 1) := by decide +kernel
theorem d1_19 : decode jdk_33_method_47_code 19 = .ok (.ldc_w 264, 3) := by decide +kernel
theorem d1_22 : decode jdk_33_method_47_code 22 = .ok (.if_icmp .lt 11, 3) := by decide +kernel
theorem d1_33 : decode jdk_33_method_47_code 33 = .ok (.iload_n 0, 1) := by decide +kernel
theorem d1_34 : decode jdk_33_method_47_code 34 = .ok (.sipush 256, 3) := by decide +kernel
theorem d1_37 : decode jdk_33_method_47_code 37 = .ok (.if_icmp .lt 11, 3) := by decide +kernel
theorem d1_48 : decode jdk_33_method_47_code 48 = .ok (.iload_n 0, 1) := by decide +kernel
theorem d1_49 : decode jdk_33_method_47_code 49 = .ok (.bipush 16, 2) := by decide +kernel
theorem d1_51 : decode jdk_33_method_47_code 51 = .ok (.if_icmp .lt 10, 3) := by decide +kernel
theorem d1_61 : decode jdk_33_method_47_code 61 = .ok (.iload_n 0, 1) := by decide +kernel
theorem d1_62 : decode jdk_33_method_47_code 62 = .ok (.iconst 4, 1) := by decide +kernel
theorem d1_63 : decode jdk_33_method_47_code 63 = .ok (.if_icmp .lt 10, 3) := by decide +kernel
theorem d1_66 : decode jdk_33_method_47_code 66 = .ok (.iinc 1 (-2), 3) := by decide +kernel
theorem d1_69 : decode jdk_33_method_47_code 69 = .ok (.iload_n 0, 1) := by decide +kernel
theorem d1_70 : decode jdk_33_method_47_code 70 = .ok (.iconst 2, 1) := by decide +kernel
theorem d1_71 : decode jdk_33_method_47_code 71 = .ok (.iushr, 1) := by decide +kernel
theorem d1_72 : decode jdk_33_method_47_code 72 = .ok (.istore_n 0, 1) := by decide +kernel
theorem d1_73 : decode jdk_33_method_47_code 73 = .ok (.iload_n 1, 1) := by decide +kernel
theorem d1_74 : decode jdk_33_method_47_code 74 = .ok (.iload_n 0, 1) := by decide +kernel
theorem d1_75 : decode jdk_33_method_47_code 75 = .ok (.iconst 1, 1) := by decide +kernel
theorem d1_76 : decode jdk_33_method_47_code 76 = .ok (.iushr, 1) := by decide +kernel
theorem d1_77 : decode jdk_33_method_47_code 77 = .ok (.isub, 1) := by decide +kernel
theorem d1_78 : decode jdk_33_method_47_code 78 = .ok (.ireturn, 1) := by decide +kernel
theorem pn1 : plainName "java/lang/Integer" = true := by first | (simp [plainName, overriddenIn]; done) | decide +kernel
theorem ef1 (m : MethodId)  : entryFrame m #[(.int (15 : Int32))] 2 = mkF m 0 #[.val (.int (15 : Int32)), .unset] [] := by first | (simp [entryFrame, mkF, argsToLocals, Value.category]; done) | rfl
def Q1 (Z : State)  (h0 : Heap) (n0 : Nat) (v : Option Value) (h : Heap) (L : List Loc) : Prop := v = some (.int (28 : Int32)) ∧ Fr n0 L ∧ h = h0
set_option maxRecDepth 65536 in
set_option maxHeartbeats 40000000 in
theorem rm1 (l : Launch) (Z : State) (a0 : Array Value) (hw : ∀ d ∈ tables_1, d.before a0 Z = true) (ws : List Jvm.Cond)  (h0 : Heap) (n0 : Nat) (Z0 : n0 ≤ h0.size)  :
    MetFree l (⟨"java/lang/Integer", "numberOfLeadingZeros", "(I)I"⟩ : MethodName) (head1 (Jvm.Cond.code (⟨"java/lang/Integer", "numberOfLeadingZeros", "(I)I"⟩ : MethodName) jdk_33_method_47_code 2 (some .int) :: ws) ({ frames := 0, cells := 0, slots := 0, locals := 0 } : Room)) (fun as' U => as' = #[(.int (15 : Int32))] ∧ Z.Warmed39 U.vm ∧ U.heap = h0) (fun _ _ _ _ _ => True) (fun _ U o U' => ∃ v L, o = .returned v ∧ Q1 Z  h0 n0 v U'.heap L ∧ FrameEnd U o U' L ({ frames := 0, cells := 0, slots := 0, locals := 0 } : Room).cells ({ frames := 0, cells := 0, slots := 0, locals := 0 } : Room).slots) := by
  refine own_body (plainFor_of_name pn1) ?_
  intro p e s m below meth c s₁ hx hby hml hown0 hnm hret hlk hZ X0 e0
  have hown : s.vm.findClass "java/lang/Integer" = some m.cls := hown0
  have N0 := Fr.nil n0
  rw [ef1]
  show own_Go p.tables e below _ (s₁.setTop (mkF m 0 #[.val (.int (15 : Int32)), .unset] []))
  refine own_st (S' := s₁.setTop (mkF m 1 #[.val (.int (15 : Int32)), .unset] [(.int (15 : Int32))])) (fun t k => XS.iloadN X0.here hx rfl (hb hby d1_0) rfl k) ?_
  refine own_st (S' := s₁.setTop (mkF m 15 #[.val (.int (15 : Int32)), .unset] [])) (fun t k => XS.ifYes X0.here hx rfl (pc0 := 1) (pc' := 15) rfl (hb hby d1_1) rfl ((if0 _ _).trans (tlt (by decide)).2.2.1) (by decide) (by decide) k) ?_
  show own_Go p.tables e below _ (s₁.setTop (mkF m 15 #[.val (.int (15 : Int32)), .unset] []))
  refine own_st (S' := s₁.setTop (mkF m 17 #[.val (.int (15 : Int32)), .unset] [(.int (31 : Int32))])) (fun t k => XS.bipush X0.here hx rfl (hb hby d1_15) k) ?_
  refine own_st (S' := s₁.setTop (mkF m 18 #[.val (.int (15 : Int32)), .val (.int (31 : Int32))] [])) (fun t k => XS.istoreN X0.here hx rfl (hb hby d1_17) rfl (l' := #[.val (.int (15 : Int32)), .val (.int (31 : Int32))]) rfl k) ?_
  refine own_st (S' := s₁.setTop (mkF m 19 #[.val (.int (15 : Int32)), .val (.int (31 : Int32))] [(.int (15 : Int32))])) (fun t k => XS.iloadN X0.here hx rfl (hb hby d1_18) rfl k) ?_
  refine own_st (S' := s₁.setTop (mkF m 22 #[.val (.int (15 : Int32)), .val (.int (31 : Int32))] [(.int (65536 : Int32)), (.int (15 : Int32))])) (fun t k => X0.ldcwInt hx hown (mvT hZ (hw _ (List.mem_of_getElem? (i := 43) rfl))) (g := (mkF m 19 #[.val (.int (15 : Int32)), .val (.int (31 : Int32))] [(.int (15 : Int32))])) rfl (hb hby d1_19) _ k) ?_
  refine own_st (S' := s₁.setTop (mkF m 33 #[.val (.int (15 : Int32)), .val (.int (31 : Int32))] [])) (fun t k => XS.icmpYes X0.here hx rfl (pc0 := 22) (pc' := 33) rfl (hb hby d1_22) rfl (tlt (by decide)).1 (by decide) (by decide) k) ?_
  show own_Go p.tables e below _ (s₁.setTop (mkF m 33 #[.val (.int (15 : Int32)), .val (.int (31 : Int32))] []))
  refine own_st (S' := s₁.setTop (mkF m 34 #[.val (.int (15 : Int32)), .val (.int (31 : Int32))] [(.int (15 : Int32))])) (fun t k => XS.iloadN X0.here hx rfl (hb hby d1_33) rfl k) ?_
  refine own_st (S' := s₁.setTop (mkF m 37 #[.val (.int (15 : Int32)), .val (.int (31 : Int32))] [(.int (256 : Int32)), (.int (15 : Int32))])) (fun t k => XS.sipush X0.here hx rfl (hb hby d1_34) k) ?_
  refine own_st (S' := s₁.setTop (mkF m 48 #[.val (.int (15 : Int32)), .val (.int (31 : Int32))] [])) (fun t k => XS.icmpYes X0.here hx rfl (pc0 := 37) (pc' := 48) rfl (hb hby d1_37) rfl (tlt (by decide)).1 (by decide) (by decide) k) ?_
  show own_Go p.tables e below _ (s₁.setTop (mkF m 48 #[.val (.int (15 : Int32)), .val (.int (31 : Int32))] []))
  refine own_st (S' := s₁.setTop (mkF m 49 #[.val (.int (15 : Int32)), .val (.int (31 : Int32))] [(.int (15 : Int32))])) (fun t k => XS.iloadN X0.here hx rfl (hb hby d1_48) rfl k) ?_
  refine own_st (S' := s₁.setTop (mkF m 51 #[.val (.int (15 : Int32)), .val (.int (31 : Int32))] [(.int (16 : Int32)), (.int (15 : Int32))])) (fun t k => XS.bipush X0.here hx rfl (hb hby d1_49) k) ?_
  refine own_st (S' := s₁.setTop (mkF m 61 #[.val (.int (15 : Int32)), .val (.int (31 : Int32))] [])) (fun t k => XS.icmpYes X0.here hx rfl (pc0 := 51) (pc' := 61) rfl (hb hby d1_51) rfl (tlt (by decide)).1 (by decide) (by decide) k) ?_
  show own_Go p.tables e below _ (s₁.setTop (mkF m 61 #[.val (.int (15 : Int32)), .val (.int (31 : Int32))] []))
  refine own_st (S' := s₁.setTop (mkF m 62 #[.val (.int (15 : Int32)), .val (.int (31 : Int32))] [(.int (15 : Int32))])) (fun t k => XS.iloadN X0.here hx rfl (hb hby d1_61) rfl k) ?_
  refine own_st (S' := s₁.setTop (mkF m 63 #[.val (.int (15 : Int32)), .val (.int (31 : Int32))] [(.int (4 : Int32)), (.int (15 : Int32))])) (fun t k => XS.iconst X0.here hx rfl (hb hby d1_62) k) ?_
  refine own_st (S' := s₁.setTop (mkF m 66 #[.val (.int (15 : Int32)), .val (.int (31 : Int32))] [])) (fun t k => XS.icmpNo X0.here hx rfl (hb hby d1_63) rfl (flt (by decide)).1 k) ?_
  show own_Go p.tables e below _ (s₁.setTop (mkF m 66 #[.val (.int (15 : Int32)), .val (.int (31 : Int32))] []))
  refine own_st (S' := s₁.setTop (mkF m 69 #[.val (.int (15 : Int32)), .val (.int (29 : Int32))] [])) (fun t k => XS.iinc X0.here hx rfl (hb hby d1_66) rfl (l' := #[.val (.int (15 : Int32)), .val (.int (29 : Int32))]) rfl k) ?_
  refine own_st (S' := s₁.setTop (mkF m 70 #[.val (.int (15 : Int32)), .val (.int (29 : Int32))] [(.int (15 : Int32))])) (fun t k => XS.iloadN X0.here hx rfl (hb hby d1_69) rfl k) ?_
  refine own_st (S' := s₁.setTop (mkF m 71 #[.val (.int (15 : Int32)), .val (.int (29 : Int32))] [(.int (2 : Int32)), (.int (15 : Int32))])) (fun t k => XS.iconst X0.here hx rfl (hb hby d1_70) k) ?_
  refine own_st (S' := s₁.setTop (mkF m 72 #[.val (.int (15 : Int32)), .val (.int (29 : Int32))] [(.int (3 : Int32))])) (fun t k => XS.iushr X0.here hx rfl (hb hby d1_71) rfl k) ?_
  refine own_st (S' := s₁.setTop (mkF m 73 #[.val (.int (3 : Int32)), .val (.int (29 : Int32))] [])) (fun t k => XS.istoreN X0.here hx rfl (hb hby d1_72) rfl (l' := #[.val (.int (3 : Int32)), .val (.int (29 : Int32))]) rfl k) ?_
  refine own_st (S' := s₁.setTop (mkF m 74 #[.val (.int (3 : Int32)), .val (.int (29 : Int32))] [(.int (29 : Int32))])) (fun t k => XS.iloadN X0.here hx rfl (hb hby d1_73) rfl k) ?_
  refine own_st (S' := s₁.setTop (mkF m 75 #[.val (.int (3 : Int32)), .val (.int (29 : Int32))] [(.int (3 : Int32)), (.int (29 : Int32))])) (fun t k => XS.iloadN X0.here hx rfl (hb hby d1_74) rfl k) ?_
  refine own_st (S' := s₁.setTop (mkF m 76 #[.val (.int (3 : Int32)), .val (.int (29 : Int32))] [(.int (1 : Int32)), (.int (3 : Int32)), (.int (29 : Int32))])) (fun t k => XS.iconst X0.here hx rfl (hb hby d1_75) k) ?_
  refine own_st (S' := s₁.setTop (mkF m 77 #[.val (.int (3 : Int32)), .val (.int (29 : Int32))] [(.int (1 : Int32)), (.int (29 : Int32))])) (fun t k => XS.iushr X0.here hx rfl (hb hby d1_76) rfl k) ?_
  refine own_st (S' := s₁.setTop (mkF m 78 #[.val (.int (3 : Int32)), .val (.int (29 : Int32))] [(.int (28 : Int32))])) (fun t k => XS.isub X0.here hx rfl (hb hby d1_77) rfl k) ?_
  refine own_retI X0 hx hret hlk (hb hby d1_78) ?_ (by decide) (by decide)
  rw [e0]
  exact ⟨rfl, N0, rfl⟩
theorem d2_0 : decode jdk_35_method_48_code 0 = .ok (.lload_n 0, 1) := by decide +kernel
theorem d2_1 : decode jdk_35_method_48_code 1 = .ok (.bipush 32, 2) := by decide +kernel
theorem d2_3 : decode jdk_35_method_48_code 3 = .ok (.lushr, 1) := by decide +kernel
theorem d2_4 : decode jdk_35_method_48_code 4 = .ok (.l2i, 1) := by decide +kernel
theorem d2_5 : decode jdk_35_method_48_code 5 = .ok (.istore_n 2, 1) := by decide +kernel
theorem d2_6 : decode jdk_35_method_48_code 6 = .ok (.iload_n 2, 1) := by decide +kernel
theorem d2_7 : decode jdk_35_method_48_code 7 = .ok (.ifCond .ne 14, 3) := by decide +kernel
theorem d2_10 : decode jdk_35_method_48_code 10 = .ok (.bipush 32, 2) := by decide +kernel
theorem d2_12 : decode jdk_35_method_48_code 12 = .ok (.lload_n 0, 1) := by decide +kernel
theorem d2_13 : decode jdk_35_method_48_code 13 = .ok (.l2i, 1) := by decide +kernel
theorem d2_14 : decode jdk_35_method_48_code 14 = .ok (.invokestatic 308, 3) := by decide +kernel
theorem d2_17 : decode jdk_35_method_48_code 17 = .ok (.iadd, 1) := by decide +kernel
theorem d2_18 : decode jdk_35_method_48_code 18 = .ok (.goto 7, 3) := by decide +kernel
theorem d2_25 : decode jdk_35_method_48_code 25 = .ok (.ireturn, 1) := by decide +kernel
theorem pd2_0 : parseMethodDescriptor "(I)I" = some ⟨[.int], some .int⟩ := by decide +kernel
theorem pn2 : plainName "java/lang/Long" = true := by first | (simp [plainName, overriddenIn]; done) | decide +kernel
theorem ef2 (m : MethodId)  : entryFrame m #[(.long (15 : Int64))] 3 = mkF m 0 #[.val (.long (15 : Int64)), .second, .unset] [] := by first | (simp [entryFrame, mkF, argsToLocals, Value.category]; done) | rfl
def Q2 (Z : State)  (h0 : Heap) (n0 : Nat) (v : Option Value) (h : Heap) (L : List Loc) : Prop := v = some (.int (60 : Int32)) ∧ Fr n0 L ∧ h = h0
set_option maxRecDepth 65536 in
set_option maxHeartbeats 40000000 in
theorem rm2 (l : Launch) (Z : State) (a0 : Array Value) (hw : ∀ d ∈ tables_1, d.before a0 Z = true) (ws : List Jvm.Cond)  (h0 : Heap) (n0 : Nat) (Z0 : n0 ≤ h0.size)  :
    MetFree l (⟨"java/lang/Long", "numberOfLeadingZeros", "(J)I"⟩ : MethodName) (head1 (Jvm.Cond.code (⟨"java/lang/Long", "numberOfLeadingZeros", "(J)I"⟩ : MethodName) jdk_35_method_48_code 3 (some .int) :: ws) ({ frames := 1, cells := 0, slots := 0, locals := 14 } : Room)) (fun as' U => as' = #[(.long (15 : Int64))] ∧ Z.Warmed39 U.vm ∧ U.heap = h0) (fun _ _ _ _ _ => True) (fun _ U o U' => ∃ v L, o = .returned v ∧ Q2 Z  h0 n0 v U'.heap L ∧ FrameEnd U o U' L ({ frames := 1, cells := 0, slots := 0, locals := 14 } : Room).cells ({ frames := 1, cells := 0, slots := 0, locals := 14 } : Room).slots) := by
  refine own_body (plainFor_of_name pn2) ?_
  intro p e s m below meth c s₁ hx hby hml hown0 hnm hret hlk hZ X0 e0
  have hown : s.vm.findClass "java/lang/Long" = some m.cls := hown0
  have N0 := Fr.nil n0
  rw [ef2]
  show own_Go p.tables e below _ (s₁.setTop (mkF m 0 #[.val (.long (15 : Int64)), .second, .unset] []))
  refine own_st (S' := s₁.setTop (mkF m 1 #[.val (.long (15 : Int64)), .second, .unset] [(.long (15 : Int64))])) (fun t k => XS.lloadN X0.here hx rfl (hb hby d2_0) rfl k) ?_
  refine own_st (S' := s₁.setTop (mkF m 3 #[.val (.long (15 : Int64)), .second, .unset] [(.int (32 : Int32)), (.long (15 : Int64))])) (fun t k => XS.bipush X0.here hx rfl (hb hby d2_1) k) ?_
  refine own_st (S' := s₁.setTop (mkF m 4 #[.val (.long (15 : Int64)), .second, .unset] [(.long (0 : Int64))])) (fun t k => XS.lushr X0.here hx rfl (hb hby d2_3) rfl k) ?_
  refine own_st (S' := s₁.setTop (mkF m 5 #[.val (.long (15 : Int64)), .second, .unset] [(.int (0 : Int32))])) (fun t k => XS.l2i X0.here hx rfl (hb hby d2_4) rfl k) ?_
  refine own_st (S' := s₁.setTop (mkF m 6 #[.val (.long (15 : Int64)), .second, .val (.int (0 : Int32))] [])) (fun t k => XS.istoreN X0.here hx rfl (hb hby d2_5) rfl (l' := #[.val (.long (15 : Int64)), .second, .val (.int (0 : Int32))]) rfl k) ?_
  refine own_st (S' := s₁.setTop (mkF m 7 #[.val (.long (15 : Int64)), .second, .val (.int (0 : Int32))] [(.int (0 : Int32))])) (fun t k => XS.iloadN X0.here hx rfl (hb hby d2_6) rfl k) ?_
  refine own_st (S' := s₁.setTop (mkF m 10 #[.val (.long (15 : Int64)), .second, .val (.int (0 : Int32))] [])) (fun t k => XS.ifNo X0.here hx rfl (hb hby d2_7) rfl ((if0 _ _).trans (teq (by decide)).2) k) ?_
  show own_Go p.tables e below _ (s₁.setTop (mkF m 10 #[.val (.long (15 : Int64)), .second, .val (.int (0 : Int32))] []))
  refine own_st (S' := s₁.setTop (mkF m 12 #[.val (.long (15 : Int64)), .second, .val (.int (0 : Int32))] [(.int (32 : Int32))])) (fun t k => XS.bipush X0.here hx rfl (hb hby d2_10) k) ?_
  refine own_st (S' := s₁.setTop (mkF m 13 #[.val (.long (15 : Int64)), .second, .val (.int (0 : Int32))] [(.long (15 : Int64)), (.int (32 : Int32))])) (fun t k => XS.lloadN X0.here hx rfl (hb hby d2_12) rfl k) ?_
  refine own_st (S' := s₁.setTop (mkF m 14 #[.val (.long (15 : Int64)), .second, .val (.int (0 : Int32))] [(.int (15 : Int32)), (.int (32 : Int32))])) (fun t k => XS.l2i X0.here hx rfl (hb hby d2_13) rfl k) ?_
  obtain ⟨_, _, ⟨T1, L1, k1, n1⟩, -, X1, ⟨Lc1, hQ1, l1, y1, z1⟩, st1⟩ := Jvm.LawKit.callS X0 hx (y := (⟨"java/lang/Integer", "numberOfLeadingZeros", "(I)I"⟩ : MethodName)) hown (mvT hZ (hw _ (List.mem_of_getElem? (i := 39) rfl))) (mvT hZ (hw _ (List.mem_of_getElem? (i := 40) rfl))) (mvT hZ (hw _ (List.mem_of_getElem? (i := 41) rfl))) (mvT hZ (hw _ (List.mem_of_getElem? (i := 42) rfl))) (by decide) (backOf (W := 1) (rm1 l Z a0 hw []  h0 n0 Z0 ) hZ (hw _ (List.mem_of_getElem? (i := 42) rfl)) (hw _ (List.mem_of_getElem? (i := 41) rfl)) (by decide) (by decide)) (g := (mkF m 14 #[.val (.long (15 : Int64)), .second, .val (.int (0 : Int32))] [(.int (15 : Int32)), (.int (32 : Int32))])) rfl (by rw [hml]; rfl) (argsL := [(.int (15 : Int32))]) (rest := [(.int (32 : Int32))]) (lenOf pd2_0 rfl) rfl (by show 2 * 0 + _ ≤ _; exact Nat.le_of_eq rfl) (hb hby d2_14) (fun _ _ => ⟨rfl, e0, (by decide : 0 + 0 ≤ _), (by decide : 0 + 0 ≤ _)⟩)
  dsimp only [Pt.U, Pt.locs, Pt.cells, Pt.slots] at X1 l1 y1 z1 st1 hQ1
  rw [l1, y1, z1] at X1
  obtain ⟨rfl, N1q, hh1⟩ := hQ1
  have N1 := Fr.app N0 N1q
  refine own_st st1 ?_
  show own_Go p.tables e below _ (T1.setTop (mkF m 17 #[.val (.long (15 : Int64)), .second, .val (.int (0 : Int32))] [(.int (28 : Int32)), (.int (32 : Int32))]))
  refine own_st (S' := T1.setTop (mkF m 18 #[.val (.long (15 : Int64)), .second, .val (.int (0 : Int32))] [(.int (60 : Int32))])) (fun t k => XS.iadd X1.here hx rfl (hb hby d2_17) rfl k) ?_
  refine own_st (S' := T1.setTop (mkF m 25 #[.val (.long (15 : Int64)), .second, .val (.int (0 : Int32))] [(.int (60 : Int32))])) (fun t k => XS.goto X1.here hx rfl (pc0 := 18) (pc' := 25) rfl (hb hby d2_18) (by decide) (by decide) k) ?_
  refine own_retI X1 hx hret hlk (hb hby d2_25) ?_ (by decide) (by decide)
  rw [hh1]
  exact ⟨rfl, N1, rfl⟩
theorem d3_0 : decode prog_15_method_9_code 0 = .ok (.lload_n 1, 1) := by decide +kernel
theorem d3_1 : decode prog_15_method_9_code 1 = .ok (.ldc2_w 38, 3) := by decide +kernel
theorem d3_4 : decode prog_15_method_9_code 4 = .ok (.lmul, 1) := by decide +kernel
theorem d3_5 : decode prog_15_method_9_code 5 = .ok (.aload_n 0, 1) := by decide +kernel
theorem d3_6 : decode prog_15_method_9_code 6 = .ok (.arraylength, 1) := by decide +kernel
theorem d3_7 : decode prog_15_method_9_code 7 = .ok (.iconst 1, 1) := by decide +kernel
theorem d3_8 : decode prog_15_method_9_code 8 = .ok (.isub, 1) := by decide +kernel
theorem d3_9 : decode prog_15_method_9_code 9 = .ok (.i2l, 1) := by decide +kernel
theorem d3_10 : decode prog_15_method_9_code 10 = .ok (.invokestatic 40, 3) := by decide +kernel
theorem d3_13 : decode prog_15_method_9_code 13 = .ok (.lushr, 1) := by decide +kernel
theorem d3_14 : decode prog_15_method_9_code 14 = .ok (.l2i, 1) := by decide +kernel
theorem d3_15 : decode prog_15_method_9_code 15 = .ok (.ireturn, 1) := by decide +kernel
theorem pd3_0 : parseMethodDescriptor "(J)I" = some ⟨[.long], some .int⟩ := by decide +kernel
theorem pn3 : plainName "com/example/gaithersburg/gaithersburg/IdMap" = true := by first | (simp [plainName, overriddenIn]; done) | decide +kernel
theorem ef3 (m : MethodId) (a : Addr) (kk : Int64) : entryFrame m #[(.ref a), (.long kk)] 3 = mkF m 0 #[.val (.ref a), .val (.long kk), .second] [] := by first | (simp [entryFrame, mkF, argsToLocals, Value.category]; done) | rfl
def Q3 (Z : State) (a : Addr) (kk : Int64) (f : Nat → Int64) (h0 : Heap) (n0 : Nat) (v : Option Value) (h : Heap) (L : List Loc) : Prop := v = some (.int (own_fs kk)) ∧ Fr n0 L ∧ h = h0
set_option maxRecDepth 65536 in
set_option maxHeartbeats 40000000 in
theorem rm3 (l : Launch) (Z : State) (a0 : Array Value) (hw : ∀ d ∈ tables_1, d.before a0 Z = true) (ws : List Jvm.Cond) (a : Addr) (kk : Int64) (f : Nat → Int64) (h0 : Heap) (n0 : Nat) (Z0 : n0 ≤ h0.size) (A_a : own_A Z h0 a .long 16 (own_J f)) :
    MetFree l (⟨"com/example/gaithersburg/gaithersburg/IdMap", "firstSlot", "([JJ)I"⟩ : MethodName) (head1 (Jvm.Cond.code (⟨"com/example/gaithersburg/gaithersburg/IdMap", "firstSlot", "([JJ)I"⟩ : MethodName) prog_15_method_9_code 3 (some .int) :: ws) ({ frames := 2, cells := 0, slots := 0, locals := 30 } : Room)) (fun as' U => as' = #[(.ref a), (.long kk)] ∧ Z.Warmed39 U.vm ∧ U.heap = h0) (fun _ _ _ _ _ => True) (fun _ U o U' => ∃ v L, o = .returned v ∧ Q3 Z a kk f h0 n0 v U'.heap L ∧ FrameEnd U o U' L ({ frames := 2, cells := 0, slots := 0, locals := 30 } : Room).cells ({ frames := 2, cells := 0, slots := 0, locals := 30 } : Room).slots) := by
  refine own_body (plainFor_of_name pn3) ?_
  intro p e s m below meth c s₁ hx hby hml hown0 hnm hret hlk hZ X0 e0
  have hown : s.vm.findClass "com/example/gaithersburg/gaithersburg/IdMap" = some m.cls := hown0
  have N0 := Fr.nil n0
  rw [ef3]
  show own_Go p.tables e below _ (s₁.setTop (mkF m 0 #[.val (.ref a), .val (.long kk), .second] []))
  refine own_st (S' := s₁.setTop (mkF m 1 #[.val (.ref a), .val (.long kk), .second] [(.long kk)])) (fun t k => XS.lloadN X0.here hx rfl (hb hby d3_0) rfl k) ?_
  refine own_st (S' := s₁.setTop (mkF m 4 #[.val (.ref a), .val (.long kk), .second] [(.long (-7046029254386353131 : Int64)), (.long kk)])) (fun t k => X0.ldc2Long hx hown (mvT hZ (hw _ (List.mem_of_getElem? (i := 34) rfl))) (g := (mkF m 1 #[.val (.ref a), .val (.long kk), .second] [(.long kk)])) rfl (hb hby d3_1) _ k) ?_
  refine own_st (S' := s₁.setTop (mkF m 5 #[.val (.ref a), .val (.long kk), .second] [(.long (kk * (-7046029254386353131 : Int64)))])) (fun t k => XS.lmul X0.here hx rfl (hb hby d3_4) rfl k) ?_
  refine own_st (S' := s₁.setTop (mkF m 6 #[.val (.ref a), .val (.long kk), .second] [(.ref a), (.long (kk * (-7046029254386353131 : Int64)))])) (fun t k => XS.aloadN X0.here hx rfl (hb hby d3_5) rfl rfl k) ?_
  have O1 := A_a
  obtain ⟨c1, Ar1, S1, M1, V1⟩ := O1
  have ln1 : c1.slots.size.toInt32 = (16 : Int32) := by rw [S1]; first | rfl | decide | exact rfl
  refine own_st (S' := s₁.setTop (mkF m 7 #[.val (.ref a), .val (.long kk), .second] [(.int (16 : Int32)), (.long (kk * (-7046029254386353131 : Int64)))])) (fun t k => X0.arraylength hx (by rw [e0]; exact Ar1.1) (State.isArrayOf_alike hZ.alike Ar1.2.1) (g := (mkF m 6 #[.val (.ref a), .val (.long kk), .second] [(.ref a), (.long (kk * (-7046029254386353131 : Int64)))])) rfl rfl (hb hby d3_6) _ (by rw [ln1]; exact k)) ?_
  refine own_st (S' := s₁.setTop (mkF m 8 #[.val (.ref a), .val (.long kk), .second] [(.int (1 : Int32)), (.int (16 : Int32)), (.long (kk * (-7046029254386353131 : Int64)))])) (fun t k => XS.iconst X0.here hx rfl (hb hby d3_7) k) ?_
  refine own_st (S' := s₁.setTop (mkF m 9 #[.val (.ref a), .val (.long kk), .second] [(.int (15 : Int32)), (.long (kk * (-7046029254386353131 : Int64)))])) (fun t k => XS.isub X0.here hx rfl (hb hby d3_8) rfl k) ?_
  refine own_st (S' := s₁.setTop (mkF m 10 #[.val (.ref a), .val (.long kk), .second] [(.long (15 : Int64)), (.long (kk * (-7046029254386353131 : Int64)))])) (fun t k => XS.i2l X0.here hx rfl (hb hby d3_9) rfl k) ?_
  obtain ⟨_, _, ⟨T2, L2, k2, n2⟩, -, X2, ⟨Lc2, hQ2, l2, y2, z2⟩, st2⟩ := Jvm.LawKit.callS X0 hx (y := (⟨"java/lang/Long", "numberOfLeadingZeros", "(J)I"⟩ : MethodName)) hown (mvT hZ (hw _ (List.mem_of_getElem? (i := 35) rfl))) (mvT hZ (hw _ (List.mem_of_getElem? (i := 36) rfl))) (mvT hZ (hw _ (List.mem_of_getElem? (i := 37) rfl))) (mvT hZ (hw _ (List.mem_of_getElem? (i := 38) rfl))) (by decide) (backOf (W := 2) (rm2 l Z a0 hw []  h0 n0 Z0 ) hZ (hw _ (List.mem_of_getElem? (i := 38) rfl)) (hw _ (List.mem_of_getElem? (i := 37) rfl)) (by decide) (by decide)) (g := (mkF m 10 #[.val (.ref a), .val (.long kk), .second] [(.long (15 : Int64)), (.long (kk * (-7046029254386353131 : Int64)))])) rfl (by rw [hml]; rfl) (argsL := [(.long (15 : Int64))]) (rest := [(.long (kk * (-7046029254386353131 : Int64)))]) (lenOf pd3_0 rfl) rfl (by show 2 * 0 + _ ≤ _; exact Nat.le_of_eq rfl) (hb hby d3_10) (fun _ _ => ⟨rfl, e0, (by decide : 0 + 0 ≤ _), (by decide : 0 + 0 ≤ _)⟩)
  dsimp only [Pt.U, Pt.locs, Pt.cells, Pt.slots] at X2 l2 y2 z2 st2 hQ2
  rw [l2, y2, z2] at X2
  obtain ⟨rfl, N2q, hh2⟩ := hQ2
  have N2 := Fr.app N0 N2q
  refine own_st st2 ?_
  show own_Go p.tables e below _ (T2.setTop (mkF m 13 #[.val (.ref a), .val (.long kk), .second] [(.int (60 : Int32)), (.long (kk * (-7046029254386353131 : Int64)))]))
  refine own_st (S' := T2.setTop (mkF m 14 #[.val (.ref a), .val (.long kk), .second] [(.long (((kk * (-7046029254386353131 : Int64)).toUInt64 >>> ((60 : Int32) &&& 0x3f).toInt64.toUInt64).toInt64))])) (fun t k => XS.lushr X2.here hx rfl (hb hby d3_13) rfl k) ?_
  refine own_st (S' := T2.setTop (mkF m 15 #[.val (.ref a), .val (.long kk), .second] [(.int (((kk * (-7046029254386353131 : Int64)).toUInt64 >>> ((60 : Int32) &&& 0x3f).toInt64.toUInt64).toInt64).toInt32)])) (fun t k => XS.l2i X2.here hx rfl (hb hby d3_14) rfl k) ?_
  refine own_retI X2 hx hret hlk (hb hby d3_15) ?_ (by decide) (by decide)
  rw [hh2]
  exact ⟨rfl, N2, rfl⟩
theorem d4_0 : decode prog_15_method_8_code 0 = .ok (.aload_n 0, 1) := by decide +kernel
theorem d4_1 : decode prog_15_method_8_code 1 = .ok (.arraylength, 1) := by decide +kernel
theorem d4_2 : decode prog_15_method_8_code 2 = .ok (.iconst 1, 1) := by decide +kernel
theorem d4_3 : decode prog_15_method_8_code 3 = .ok (.isub, 1) := by decide +kernel
theorem d4_4 : decode prog_15_method_8_code 4 = .ok (.istore_n 3, 1) := by decide +kernel
theorem d4_5 : decode prog_15_method_8_code 5 = .ok (.aload_n 0, 1) := by decide +kernel
theorem d4_6 : decode prog_15_method_8_code 6 = .ok (.lload_n 1, 1) := by decide +kernel
theorem d4_7 : decode prog_15_method_8_code 7 = .ok (.invokestatic 35, 3) := by decide +kernel
theorem d4_10 : decode prog_15_method_8_code 10 = .ok (.istore 4, 2) := by decide +kernel
theorem d4_12 : decode prog_15_method_8_code 12 = .ok (.aload_n 0, 1) := by decide +kernel
theorem d4_13 : decode prog_15_method_8_code 13 = .ok (.iload 4, 2) := by decide +kernel
theorem d4_15 : decode prog_15_method_8_code 15 = .ok (.laload, 1) := by decide +kernel
theorem d4_16 : decode prog_15_method_8_code 16 = .ok (.lconst 0, 1) := by decide +kernel
theorem d4_17 : decode prog_15_method_8_code 17 = .ok (.lcmp, 1) := by decide +kernel
theorem d4_18 : decode prog_15_method_8_code 18 = .ok (.ifCond .eq 23, 3) := by decide +kernel
theorem d4_21 : decode prog_15_method_8_code 21 = .ok (.aload_n 0, 1) := by decide +kernel
theorem d4_22 : decode prog_15_method_8_code 22 = .ok (.iload 4, 2) := by decide +kernel
theorem d4_24 : decode prog_15_method_8_code 24 = .ok (.laload, 1) := by decide +kernel
theorem d4_25 : decode prog_15_method_8_code 25 = .ok (.lload_n 1, 1) := by decide +kernel
theorem d4_26 : decode prog_15_method_8_code 26 = .ok (.lcmp, 1) := by decide +kernel
theorem d4_27 : decode prog_15_method_8_code 27 = .ok (.ifCond .eq 14, 3) := by decide +kernel
theorem d4_30 : decode prog_15_method_8_code 30 = .ok (.iload 4, 2) := by decide +kernel
theorem d4_32 : decode prog_15_method_8_code 32 = .ok (.iconst 1, 1) := by decide +kernel
theorem d4_33 : decode prog_15_method_8_code 33 = .ok (.iadd, 1) := by decide +kernel
theorem d4_34 : decode prog_15_method_8_code 34 = .ok (.iload_n 3, 1) := by decide +kernel
theorem d4_35 : decode prog_15_method_8_code 35 = .ok (.iand, 1) := by decide +kernel
theorem d4_36 : decode prog_15_method_8_code 36 = .ok (.istore 4, 2) := by decide +kernel
theorem d4_38 : decode prog_15_method_8_code 38 = .ok (.goto (-26), 3) := by decide +kernel
theorem d4_41 : decode prog_15_method_8_code 41 = .ok (.iload 4, 2) := by decide +kernel
theorem d4_43 : decode prog_15_method_8_code 43 = .ok (.ireturn, 1) := by decide +kernel
theorem pd4_0 : parseMethodDescriptor "([JJ)I" = some ⟨[(.array .long), .long], some .int⟩ := by decide +kernel
theorem pn4 : plainName "com/example/gaithersburg/gaithersburg/IdMap" = true := by first | (simp [plainName, overriddenIn]; done) | decide +kernel
theorem ef4 (m : MethodId) (a : Addr) (kk : Int64) : entryFrame m #[(.ref a), (.long kk)] 5 = mkF m 0 #[.val (.ref a), .val (.long kk), .second, .unset, .unset] [] := by first | (simp [entryFrame, mkF, argsToLocals, Value.category]; done) | rfl
def Q4 (Z : State) (a : Addr) (kk : Int64) (f : Nat → Int64) (D : Nat) (h0 : Heap) (n0 : Nat) (v : Option Value) (h : Heap) (L : List Loc) : Prop := v = some (.int (Int32.ofNat (own_pl kk D))) ∧ Fr n0 L ∧ h = h0
set_option maxRecDepth 65536 in
set_option maxHeartbeats 40000000 in
theorem rm4 (l : Launch) (Z : State) (a0 : Array Value) (hw : ∀ d ∈ tables_1, d.before a0 Z = true) (ws : List Jvm.Cond) (a : Addr) (kk : Int64) (f : Nat → Int64) (D : Nat) (h0 : Heap) (n0 : Nat) (Z0 : n0 ≤ h0.size) (A_a : own_A Z h0 a .long 16 (own_J f)) (hD : own_Pr f kk D) :
    MetFree l (⟨"com/example/gaithersburg/gaithersburg/IdMap", "slotOf", "([JJ)I"⟩ : MethodName) (head1 (Jvm.Cond.code (⟨"com/example/gaithersburg/gaithersburg/IdMap", "slotOf", "([JJ)I"⟩ : MethodName) prog_15_method_8_code 5 (some .int) :: ws) ({ frames := 3, cells := 0, slots := 0, locals := 44 } : Room)) (fun as' U => as' = #[(.ref a), (.long kk)] ∧ Z.Warmed39 U.vm ∧ U.heap = h0) (fun _ _ _ _ _ => True) (fun _ U o U' => ∃ v L, o = .returned v ∧ Q4 Z a kk f D h0 n0 v U'.heap L ∧ FrameEnd U o U' L ({ frames := 3, cells := 0, slots := 0, locals := 44 } : Room).cells ({ frames := 3, cells := 0, slots := 0, locals := 44 } : Room).slots) := by
  refine own_body (plainFor_of_name pn4) ?_
  intro p e s m below meth c s₁ hx hby hml hown0 hnm hret hlk hZ X0 e0
  have hown : s.vm.findClass "com/example/gaithersburg/gaithersburg/IdMap" = some m.cls := hown0
  have N0 := Fr.nil n0
  rw [ef4]
  show own_Go p.tables e below _ (s₁.setTop (mkF m 0 #[.val (.ref a), .val (.long kk), .second, .unset, .unset] []))
  refine own_st (S' := s₁.setTop (mkF m 1 #[.val (.ref a), .val (.long kk), .second, .unset, .unset] [(.ref a)])) (fun t k => XS.aloadN X0.here hx rfl (hb hby d4_0) rfl rfl k) ?_
  have O1 := A_a
  obtain ⟨c1, Ar1, S1, M1, V1⟩ := O1
  have ln1 : c1.slots.size.toInt32 = (16 : Int32) := by rw [S1]; first | rfl | decide | exact rfl
  refine own_st (S' := s₁.setTop (mkF m 2 #[.val (.ref a), .val (.long kk), .second, .unset, .unset] [(.int (16 : Int32))])) (fun t k => X0.arraylength hx (by rw [e0]; exact Ar1.1) (State.isArrayOf_alike hZ.alike Ar1.2.1) (g := (mkF m 1 #[.val (.ref a), .val (.long kk), .second, .unset, .unset] [(.ref a)])) rfl rfl (hb hby d4_1) _ (by rw [ln1]; exact k)) ?_
  refine own_st (S' := s₁.setTop (mkF m 3 #[.val (.ref a), .val (.long kk), .second, .unset, .unset] [(.int (1 : Int32)), (.int (16 : Int32))])) (fun t k => XS.iconst X0.here hx rfl (hb hby d4_2) k) ?_
  refine own_st (S' := s₁.setTop (mkF m 4 #[.val (.ref a), .val (.long kk), .second, .unset, .unset] [(.int (15 : Int32))])) (fun t k => XS.isub X0.here hx rfl (hb hby d4_3) rfl k) ?_
  refine own_st (S' := s₁.setTop (mkF m 5 #[.val (.ref a), .val (.long kk), .second, .val (.int (15 : Int32)), .unset] [])) (fun t k => XS.istoreN X0.here hx rfl (hb hby d4_4) rfl (l' := #[.val (.ref a), .val (.long kk), .second, .val (.int (15 : Int32)), .unset]) rfl k) ?_
  refine own_st (S' := s₁.setTop (mkF m 6 #[.val (.ref a), .val (.long kk), .second, .val (.int (15 : Int32)), .unset] [(.ref a)])) (fun t k => XS.aloadN X0.here hx rfl (hb hby d4_5) rfl rfl k) ?_
  refine own_st (S' := s₁.setTop (mkF m 7 #[.val (.ref a), .val (.long kk), .second, .val (.int (15 : Int32)), .unset] [(.long kk), (.ref a)])) (fun t k => XS.lloadN X0.here hx rfl (hb hby d4_6) rfl k) ?_
  obtain ⟨_, _, ⟨T2, L2, k2, n2⟩, -, X2, ⟨Lc2, hQ2, l2, y2, z2⟩, st2⟩ := Jvm.LawKit.callS X0 hx (y := (⟨"com/example/gaithersburg/gaithersburg/IdMap", "firstSlot", "([JJ)I"⟩ : MethodName)) hown (mvT hZ (hw _ (List.mem_of_getElem? (i := 31) rfl))) (mvT hZ (hw _ (List.mem_of_getElem? (i := 32) rfl))) (mvT hZ (hw _ (List.mem_of_getElem? (i := 2) rfl))) (mvT hZ (hw _ (List.mem_of_getElem? (i := 33) rfl))) (by decide) (backOf (W := 0) (rm3 l Z a0 hw [] a kk f h0 n0 Z0 A_a) hZ (hw _ (List.mem_of_getElem? (i := 33) rfl)) (hw _ (List.mem_of_getElem? (i := 2) rfl)) (by decide) (by decide)) (g := (mkF m 7 #[.val (.ref a), .val (.long kk), .second, .val (.int (15 : Int32)), .unset] [(.long kk), (.ref a)])) rfl (by rw [hml]; rfl) (argsL := [(.ref a), (.long kk)]) (rest := []) (lenOf pd4_0 rfl) rfl (by show 2 * 0 + _ ≤ _; exact Nat.le_of_eq rfl) (hb hby d4_7) (fun _ _ => ⟨rfl, e0, (by decide : 0 + 0 ≤ _), (by decide : 0 + 0 ≤ _)⟩)
  dsimp only [Pt.U, Pt.locs, Pt.cells, Pt.slots] at X2 l2 y2 z2 st2 hQ2
  rw [l2, y2, z2] at X2
  obtain ⟨rfl, N2q, hh2⟩ := hQ2
  have N2 := Fr.app N0 N2q
  refine own_st st2 ?_
  show own_Go p.tables e below _ (T2.setTop (mkF m 10 #[.val (.ref a), .val (.long kk), .second, .val (.int (15 : Int32)), .unset] [(.int (own_fs kk))]))
  obtain ⟨v3, qv3⟩ : ∃ z : Int32, z = (own_fs kk) := ⟨_, rfl⟩
  show own_Go p.tables e below _ (T2.setTop (mkF m 10 #[.val (.ref a), .val (.long kk), .second, .val (.int (15 : Int32)), .unset] [(.int (own_fs kk))]))
  rw [← qv3]
  refine own_st (S' := T2.setTop (mkF m 12 #[.val (.ref a), .val (.long kk), .second, .val (.int (15 : Int32)), .val (.int v3)] [])) (fun t k => XS.istore X2.here hx rfl (hb hby d4_10) rfl (l' := #[.val (.ref a), .val (.long kk), .second, .val (.int (15 : Int32)), .val (.int v3)]) rfl k) ?_
  rw [qv3, own_fs_eq kk]
  suffices loop : ∀ r i, i + r = D → own_Go p.tables e below (own_F s (Q4 Z a kk f D h0 n0) 0 0) (T2.setTop (mkF m 12 #[.val (.ref a), .val (.long kk), .second, .val (.int (15 : Int32)), .val (.int (Int32.ofNat (own_pl kk i)))] [])) from loop D 0 (Nat.zero_add D)
  intro r
  induction r with
  | zero =>
    intro i hi
    have hi' : i = D := by omega
    rw [hi']
    show own_Go p.tables e below _ (T2.setTop (mkF m 12 #[.val (.ref a), .val (.long kk), .second, .val (.int (15 : Int32)), .val (.int (Int32.ofNat (own_pl kk D)))] []))
    refine own_st (S' := T2.setTop (mkF m 13 #[.val (.ref a), .val (.long kk), .second, .val (.int (15 : Int32)), .val (.int (Int32.ofNat (own_pl kk D)))] [(.ref a)])) (fun t k => XS.aloadN X2.here hx rfl (hb hby d4_12) rfl rfl k) ?_
    refine own_st (S' := T2.setTop (mkF m 15 #[.val (.ref a), .val (.long kk), .second, .val (.int (15 : Int32)), .val (.int (Int32.ofNat (own_pl kk D)))] [(.int (Int32.ofNat (own_pl kk D))), (.ref a)])) (fun t k => XS.iload X2.here hx rfl (hb hby d4_13) rfl k) ?_
    have O4 := A_a
    obtain ⟨c4, Ar4, S4, M4, V4⟩ := O4
    have at4 : c4.slots[((Int32.ofNat (own_pl kk D))).toNatClampNeg]? = some (.long (f (own_pl kk D))) := own_at S4 V4 (own_ixJ (own_pl_lt kk D)) rfl
    refine own_st (S' := T2.setTop (mkF m 16 #[.val (.ref a), .val (.long kk), .second, .val (.int (15 : Int32)), .val (.int (Int32.ofNat (own_pl kk D)))] [(.long (f (own_pl kk D)))])) (fun t k => X2.laload hx (j := (Int32.ofNat (own_pl kk D))) (v := (.long (f (own_pl kk D)))) (by rw [hh2]; exact Ar4.1) (State.isArrayOf_alike hZ.alike Ar4.2.1) Ar4.2.2 (own_in S4 (own_ixJ (own_pl_lt kk D))) at4 (g := (mkF m 15 #[.val (.ref a), .val (.long kk), .second, .val (.int (15 : Int32)), .val (.int (Int32.ofNat (own_pl kk D)))] [(.int (Int32.ofNat (own_pl kk D))), (.ref a)])) rfl rfl (hb hby d4_15) _ k) ?_
    refine own_st (S' := T2.setTop (mkF m 17 #[.val (.ref a), .val (.long kk), .second, .val (.int (15 : Int32)), .val (.int (Int32.ofNat (own_pl kk D)))] [(.long (0 : Int64)), (.long (f (own_pl kk D)))])) (fun t k => XS.lconst X2.here hx rfl (hb hby d4_16) k) ?_
    refine own_st (S' := T2.setTop (mkF m 18 #[.val (.ref a), .val (.long kk), .second, .val (.int (15 : Int32)), .val (.int (Int32.ofNat (own_pl kk D)))] [(.int (lcmpW (f (own_pl kk D)) (0 : Int64)))])) (fun t k => XS.lcmp X2.here hx rfl (hb hby d4_17) rfl k) ?_
    by_cases hc5 : (f (own_pl kk D)) = (0 : Int64)
    · refine own_st (S' := T2.setTop (mkF m 41 #[.val (.ref a), .val (.long kk), .second, .val (.int (15 : Int32)), .val (.int (Int32.ofNat (own_pl kk D)))] [])) (fun t k => XS.ifYes X2.here hx rfl (pc0 := 18) (pc' := 41) rfl (hb hby d4_18) rfl ((if0 _ _).trans (teq ((lw_eq _ _).mpr hc5)).1) (by decide) (by decide) k) ?_
      show own_Go p.tables e below _ (T2.setTop (mkF m 41 #[.val (.ref a), .val (.long kk), .second, .val (.int (15 : Int32)), .val (.int (Int32.ofNat (own_pl kk D)))] []))
      refine own_st (S' := T2.setTop (mkF m 43 #[.val (.ref a), .val (.long kk), .second, .val (.int (15 : Int32)), .val (.int (Int32.ofNat (own_pl kk D)))] [(.int (Int32.ofNat (own_pl kk D)))])) (fun t k => XS.iload X2.here hx rfl (hb hby d4_41) rfl k) ?_
      refine own_retI X2 hx hret hlk (hb hby d4_43) ?_ (by decide) (by decide)
      rw [hh2]
      exact ⟨rfl, N2, rfl⟩
    · refine own_st (S' := T2.setTop (mkF m 21 #[.val (.ref a), .val (.long kk), .second, .val (.int (15 : Int32)), .val (.int (Int32.ofNat (own_pl kk D)))] [])) (fun t k => XS.ifNo X2.here hx rfl (hb hby d4_18) rfl ((if0 _ _).trans (feq (mt (lw_eq _ _).mp hc5)).1) k) ?_
      show own_Go p.tables e below _ (T2.setTop (mkF m 21 #[.val (.ref a), .val (.long kk), .second, .val (.int (15 : Int32)), .val (.int (Int32.ofNat (own_pl kk D)))] []))
      refine own_st (S' := T2.setTop (mkF m 22 #[.val (.ref a), .val (.long kk), .second, .val (.int (15 : Int32)), .val (.int (Int32.ofNat (own_pl kk D)))] [(.ref a)])) (fun t k => XS.aloadN X2.here hx rfl (hb hby d4_21) rfl rfl k) ?_
      refine own_st (S' := T2.setTop (mkF m 24 #[.val (.ref a), .val (.long kk), .second, .val (.int (15 : Int32)), .val (.int (Int32.ofNat (own_pl kk D)))] [(.int (Int32.ofNat (own_pl kk D))), (.ref a)])) (fun t k => XS.iload X2.here hx rfl (hb hby d4_22) rfl k) ?_
      have O6 := A_a
      obtain ⟨c6, Ar6, S6, M6, V6⟩ := O6
      have at6 : c6.slots[((Int32.ofNat (own_pl kk D))).toNatClampNeg]? = some (.long (f (own_pl kk D))) := own_at S6 V6 (own_ixJ (own_pl_lt kk D)) rfl
      refine own_st (S' := T2.setTop (mkF m 25 #[.val (.ref a), .val (.long kk), .second, .val (.int (15 : Int32)), .val (.int (Int32.ofNat (own_pl kk D)))] [(.long (f (own_pl kk D)))])) (fun t k => X2.laload hx (j := (Int32.ofNat (own_pl kk D))) (v := (.long (f (own_pl kk D)))) (by rw [hh2]; exact Ar6.1) (State.isArrayOf_alike hZ.alike Ar6.2.1) Ar6.2.2 (own_in S6 (own_ixJ (own_pl_lt kk D))) at6 (g := (mkF m 24 #[.val (.ref a), .val (.long kk), .second, .val (.int (15 : Int32)), .val (.int (Int32.ofNat (own_pl kk D)))] [(.int (Int32.ofNat (own_pl kk D))), (.ref a)])) rfl rfl (hb hby d4_24) _ k) ?_
      refine own_st (S' := T2.setTop (mkF m 26 #[.val (.ref a), .val (.long kk), .second, .val (.int (15 : Int32)), .val (.int (Int32.ofNat (own_pl kk D)))] [(.long kk), (.long (f (own_pl kk D)))])) (fun t k => XS.lloadN X2.here hx rfl (hb hby d4_25) rfl k) ?_
      refine own_st (S' := T2.setTop (mkF m 27 #[.val (.ref a), .val (.long kk), .second, .val (.int (15 : Int32)), .val (.int (Int32.ofNat (own_pl kk D)))] [(.int (lcmpW (f (own_pl kk D)) kk))])) (fun t k => XS.lcmp X2.here hx rfl (hb hby d4_26) rfl k) ?_
      have hc7 : (f (own_pl kk D)) = kk := hD.2.resolve_left (by assumption)
      refine own_st (S' := T2.setTop (mkF m 41 #[.val (.ref a), .val (.long kk), .second, .val (.int (15 : Int32)), .val (.int (Int32.ofNat (own_pl kk D)))] [])) (fun t k => XS.ifYes X2.here hx rfl (pc0 := 27) (pc' := 41) rfl (hb hby d4_27) rfl ((if0 _ _).trans (teq ((lw_eq _ _).mpr hc7)).1) (by decide) (by decide) k) ?_
      show own_Go p.tables e below _ (T2.setTop (mkF m 41 #[.val (.ref a), .val (.long kk), .second, .val (.int (15 : Int32)), .val (.int (Int32.ofNat (own_pl kk D)))] []))
      refine own_st (S' := T2.setTop (mkF m 43 #[.val (.ref a), .val (.long kk), .second, .val (.int (15 : Int32)), .val (.int (Int32.ofNat (own_pl kk D)))] [(.int (Int32.ofNat (own_pl kk D)))])) (fun t k => XS.iload X2.here hx rfl (hb hby d4_41) rfl k) ?_
      refine own_retI X2 hx hret hlk (hb hby d4_43) ?_ (by decide) (by decide)
      rw [hh2]
      exact ⟨rfl, N2, rfl⟩
  | succ r ih =>
    intro i hi
    have hp := hD.1 i (by omega)
    show own_Go p.tables e below _ (T2.setTop (mkF m 12 #[.val (.ref a), .val (.long kk), .second, .val (.int (15 : Int32)), .val (.int (Int32.ofNat (own_pl kk i)))] []))
    refine own_st (S' := T2.setTop (mkF m 13 #[.val (.ref a), .val (.long kk), .second, .val (.int (15 : Int32)), .val (.int (Int32.ofNat (own_pl kk i)))] [(.ref a)])) (fun t k => XS.aloadN X2.here hx rfl (hb hby d4_12) rfl rfl k) ?_
    refine own_st (S' := T2.setTop (mkF m 15 #[.val (.ref a), .val (.long kk), .second, .val (.int (15 : Int32)), .val (.int (Int32.ofNat (own_pl kk i)))] [(.int (Int32.ofNat (own_pl kk i))), (.ref a)])) (fun t k => XS.iload X2.here hx rfl (hb hby d4_13) rfl k) ?_
    have O8 := A_a
    obtain ⟨c8, Ar8, S8, M8, V8⟩ := O8
    have at8 : c8.slots[((Int32.ofNat (own_pl kk i))).toNatClampNeg]? = some (.long (f (own_pl kk i))) := own_at S8 V8 (own_ixJ (own_pl_lt kk i)) rfl
    refine own_st (S' := T2.setTop (mkF m 16 #[.val (.ref a), .val (.long kk), .second, .val (.int (15 : Int32)), .val (.int (Int32.ofNat (own_pl kk i)))] [(.long (f (own_pl kk i)))])) (fun t k => X2.laload hx (j := (Int32.ofNat (own_pl kk i))) (v := (.long (f (own_pl kk i)))) (by rw [hh2]; exact Ar8.1) (State.isArrayOf_alike hZ.alike Ar8.2.1) Ar8.2.2 (own_in S8 (own_ixJ (own_pl_lt kk i))) at8 (g := (mkF m 15 #[.val (.ref a), .val (.long kk), .second, .val (.int (15 : Int32)), .val (.int (Int32.ofNat (own_pl kk i)))] [(.int (Int32.ofNat (own_pl kk i))), (.ref a)])) rfl rfl (hb hby d4_15) _ k) ?_
    refine own_st (S' := T2.setTop (mkF m 17 #[.val (.ref a), .val (.long kk), .second, .val (.int (15 : Int32)), .val (.int (Int32.ofNat (own_pl kk i)))] [(.long (0 : Int64)), (.long (f (own_pl kk i)))])) (fun t k => XS.lconst X2.here hx rfl (hb hby d4_16) k) ?_
    refine own_st (S' := T2.setTop (mkF m 18 #[.val (.ref a), .val (.long kk), .second, .val (.int (15 : Int32)), .val (.int (Int32.ofNat (own_pl kk i)))] [(.int (lcmpW (f (own_pl kk i)) (0 : Int64)))])) (fun t k => XS.lcmp X2.here hx rfl (hb hby d4_17) rfl k) ?_
    have hc9 : ¬ ((f (own_pl kk i)) = (0 : Int64)) := hp.1
    refine own_st (S' := T2.setTop (mkF m 21 #[.val (.ref a), .val (.long kk), .second, .val (.int (15 : Int32)), .val (.int (Int32.ofNat (own_pl kk i)))] [])) (fun t k => XS.ifNo X2.here hx rfl (hb hby d4_18) rfl ((if0 _ _).trans (feq (mt (lw_eq _ _).mp hc9)).1) k) ?_
    show own_Go p.tables e below _ (T2.setTop (mkF m 21 #[.val (.ref a), .val (.long kk), .second, .val (.int (15 : Int32)), .val (.int (Int32.ofNat (own_pl kk i)))] []))
    refine own_st (S' := T2.setTop (mkF m 22 #[.val (.ref a), .val (.long kk), .second, .val (.int (15 : Int32)), .val (.int (Int32.ofNat (own_pl kk i)))] [(.ref a)])) (fun t k => XS.aloadN X2.here hx rfl (hb hby d4_21) rfl rfl k) ?_
    refine own_st (S' := T2.setTop (mkF m 24 #[.val (.ref a), .val (.long kk), .second, .val (.int (15 : Int32)), .val (.int (Int32.ofNat (own_pl kk i)))] [(.int (Int32.ofNat (own_pl kk i))), (.ref a)])) (fun t k => XS.iload X2.here hx rfl (hb hby d4_22) rfl k) ?_
    have O10 := A_a
    obtain ⟨c10, Ar10, S10, M10, V10⟩ := O10
    have at10 : c10.slots[((Int32.ofNat (own_pl kk i))).toNatClampNeg]? = some (.long (f (own_pl kk i))) := own_at S10 V10 (own_ixJ (own_pl_lt kk i)) rfl
    refine own_st (S' := T2.setTop (mkF m 25 #[.val (.ref a), .val (.long kk), .second, .val (.int (15 : Int32)), .val (.int (Int32.ofNat (own_pl kk i)))] [(.long (f (own_pl kk i)))])) (fun t k => X2.laload hx (j := (Int32.ofNat (own_pl kk i))) (v := (.long (f (own_pl kk i)))) (by rw [hh2]; exact Ar10.1) (State.isArrayOf_alike hZ.alike Ar10.2.1) Ar10.2.2 (own_in S10 (own_ixJ (own_pl_lt kk i))) at10 (g := (mkF m 24 #[.val (.ref a), .val (.long kk), .second, .val (.int (15 : Int32)), .val (.int (Int32.ofNat (own_pl kk i)))] [(.int (Int32.ofNat (own_pl kk i))), (.ref a)])) rfl rfl (hb hby d4_24) _ k) ?_
    refine own_st (S' := T2.setTop (mkF m 26 #[.val (.ref a), .val (.long kk), .second, .val (.int (15 : Int32)), .val (.int (Int32.ofNat (own_pl kk i)))] [(.long kk), (.long (f (own_pl kk i)))])) (fun t k => XS.lloadN X2.here hx rfl (hb hby d4_25) rfl k) ?_
    refine own_st (S' := T2.setTop (mkF m 27 #[.val (.ref a), .val (.long kk), .second, .val (.int (15 : Int32)), .val (.int (Int32.ofNat (own_pl kk i)))] [(.int (lcmpW (f (own_pl kk i)) kk))])) (fun t k => XS.lcmp X2.here hx rfl (hb hby d4_26) rfl k) ?_
    have hc11 : ¬ ((f (own_pl kk i)) = kk) := hp.2
    refine own_st (S' := T2.setTop (mkF m 30 #[.val (.ref a), .val (.long kk), .second, .val (.int (15 : Int32)), .val (.int (Int32.ofNat (own_pl kk i)))] [])) (fun t k => XS.ifNo X2.here hx rfl (hb hby d4_27) rfl ((if0 _ _).trans (feq (mt (lw_eq _ _).mp hc11)).1) k) ?_
    show own_Go p.tables e below _ (T2.setTop (mkF m 30 #[.val (.ref a), .val (.long kk), .second, .val (.int (15 : Int32)), .val (.int (Int32.ofNat (own_pl kk i)))] []))
    refine own_st (S' := T2.setTop (mkF m 32 #[.val (.ref a), .val (.long kk), .second, .val (.int (15 : Int32)), .val (.int (Int32.ofNat (own_pl kk i)))] [(.int (Int32.ofNat (own_pl kk i)))])) (fun t k => XS.iload X2.here hx rfl (hb hby d4_30) rfl k) ?_
    refine own_st (S' := T2.setTop (mkF m 33 #[.val (.ref a), .val (.long kk), .second, .val (.int (15 : Int32)), .val (.int (Int32.ofNat (own_pl kk i)))] [(.int (1 : Int32)), (.int (Int32.ofNat (own_pl kk i)))])) (fun t k => XS.iconst X2.here hx rfl (hb hby d4_32) k) ?_
    refine own_st (S' := T2.setTop (mkF m 34 #[.val (.ref a), .val (.long kk), .second, .val (.int (15 : Int32)), .val (.int (Int32.ofNat (own_pl kk i)))] [(.int ((Int32.ofNat (own_pl kk i)) + (1 : Int32)))])) (fun t k => XS.iadd X2.here hx rfl (hb hby d4_33) rfl k) ?_
    refine own_st (S' := T2.setTop (mkF m 35 #[.val (.ref a), .val (.long kk), .second, .val (.int (15 : Int32)), .val (.int (Int32.ofNat (own_pl kk i)))] [(.int (15 : Int32)), (.int ((Int32.ofNat (own_pl kk i)) + (1 : Int32)))])) (fun t k => XS.iloadN X2.here hx rfl (hb hby d4_34) rfl k) ?_
    refine own_st (S' := T2.setTop (mkF m 36 #[.val (.ref a), .val (.long kk), .second, .val (.int (15 : Int32)), .val (.int (Int32.ofNat (own_pl kk i)))] [(.int (((Int32.ofNat (own_pl kk i)) + (1 : Int32)) &&& (15 : Int32)))])) (fun t k => XS.iand X2.here hx rfl (hb hby d4_35) rfl k) ?_
    obtain ⟨v12, qv12⟩ : ∃ z : Int32, z = (((Int32.ofNat (own_pl kk i)) + (1 : Int32)) &&& (15 : Int32)) := ⟨_, rfl⟩
    show own_Go p.tables e below _ (T2.setTop (mkF m 36 #[.val (.ref a), .val (.long kk), .second, .val (.int (15 : Int32)), .val (.int (Int32.ofNat (own_pl kk i)))] [(.int (((Int32.ofNat (own_pl kk i)) + (1 : Int32)) &&& (15 : Int32)))]))
    rw [← qv12]
    refine own_st (S' := T2.setTop (mkF m 38 #[.val (.ref a), .val (.long kk), .second, .val (.int (15 : Int32)), .val (.int v12)] [])) (fun t k => XS.istore X2.here hx rfl (hb hby d4_36) rfl (l' := #[.val (.ref a), .val (.long kk), .second, .val (.int (15 : Int32)), .val (.int v12)]) rfl k) ?_
    refine own_st (S' := T2.setTop (mkF m 12 #[.val (.ref a), .val (.long kk), .second, .val (.int (15 : Int32)), .val (.int v12)] [])) (fun t k => XS.goto X2.here hx rfl (pc0 := 38) (pc' := 12) rfl (hb hby d4_38) (by decide) (by decide) k) ?_
    rw [qv12, own_nextP]; exact ih (i + 1) (by omega)
theorem d5_0 : decode prog_15_method_1_code 0 = .ok (.aload_n 0, 1) := by decide +kernel
theorem d5_1 : decode prog_15_method_1_code 1 = .ok (.invokespecial 1, 3) := by decide +kernel
theorem d5_4 : decode prog_15_method_1_code 4 = .ok (.aload_n 0, 1) := by decide +kernel
theorem d5_5 : decode prog_15_method_1_code 5 = .ok (.bipush 16, 2) := by decide +kernel
theorem d5_7 : decode prog_15_method_1_code 7 = .ok (.newarray .long, 2) := by decide +kernel
theorem d5_9 : decode prog_15_method_1_code 9 = .ok (.putfield 7, 3) := by decide +kernel
theorem d5_12 : decode prog_15_method_1_code 12 = .ok (.aload_n 0, 1) := by decide +kernel
theorem d5_13 : decode prog_15_method_1_code 13 = .ok (.bipush 16, 2) := by decide +kernel
theorem d5_15 : decode prog_15_method_1_code 15 = .ok (.newarray .long, 2) := by decide +kernel
theorem d5_17 : decode prog_15_method_1_code 17 = .ok (.putfield 13, 3) := by decide +kernel
theorem d5_20 : decode prog_15_method_1_code 20 = .ok (.return_, 1) := by decide +kernel
theorem pn5 : plainName "com/example/gaithersburg/gaithersburg/IdMap" = true := by first | (simp [plainName, overriddenIn]; done) | decide +kernel
theorem ef5 (m : MethodId) (ob : Addr) : entryFrame m #[(.ref ob)] 1 = mkF m 0 #[.val (.ref ob)] [] := by first | (simp [entryFrame, mkF, argsToLocals, Value.category]; done) | rfl
def Q5 (Z : State) (ob : Addr) (h0 : Heap) (n0 : Nat) (v : Option Value) (h : Heap) (L : List Loc) : Prop := ∃ (ai av : Addr), v = none ∧ Fr n0 L ∧ Keep h0 h [ob] ∧ h0.size ≤ ai ∧ h0.size ≤ av ∧ ai ≠ av ∧ Exa Z h ob "com/example/gaithersburg/gaithersburg/IdMap" ∧ Fld Z h ob "com/example/gaithersburg/gaithersburg/IdMap" "ids" "[J" (.ref ai) ∧ Fld Z h ob "com/example/gaithersburg/gaithersburg/IdMap" "values" "[J" (.ref av) ∧ Fld Z h ob "com/example/gaithersburg/gaithersburg/IdMap" "held" "I" (.int (0 : Int32)) ∧ Fld Z h ob "com/example/gaithersburg/gaithersburg/IdMap" "holdsFree" "Z" (.int (0 : Int32)) ∧ Fld Z h ob "com/example/gaithersburg/gaithersburg/IdMap" "freeValue" "J" (.long (0 : Int64)) ∧ own_A Z h ai .long 16 (own_J (fun _ => (0 : Int64))) ∧ own_A Z h av .long 16 (own_J (fun _ => (0 : Int64)))
set_option maxRecDepth 65536 in
set_option maxHeartbeats 40000000 in
theorem rm5 (l : Launch) (Z : State) (a0 : Array Value) (hw : ∀ d ∈ tables_1, d.before a0 Z = true) (ws : List Jvm.Cond) (ob : Addr) (h0 : Heap) (n0 : Nat) (Z0 : n0 ≤ h0.size) (E_ob : Exa Z h0 ob "com/example/gaithersburg/gaithersburg/IdMap") (F_ob_ids : Fld Z h0 ob "com/example/gaithersburg/gaithersburg/IdMap" "ids" "[J" .null) (F_ob_values : Fld Z h0 ob "com/example/gaithersburg/gaithersburg/IdMap" "values" "[J" .null) (F_ob_held : Fld Z h0 ob "com/example/gaithersburg/gaithersburg/IdMap" "held" "I" (.int (0 : Int32))) (F_ob_holdsFree : Fld Z h0 ob "com/example/gaithersburg/gaithersburg/IdMap" "holdsFree" "Z" (.int (0 : Int32))) (F_ob_freeValue : Fld Z h0 ob "com/example/gaithersburg/gaithersburg/IdMap" "freeValue" "J" (.long (0 : Int64))) (G_ob : n0 ≤ ob) :
    MetFree l (⟨"com/example/gaithersburg/gaithersburg/IdMap", "<init>", "()V"⟩ : MethodName) (head1 (Jvm.Cond.code (⟨"com/example/gaithersburg/gaithersburg/IdMap", "<init>", "()V"⟩ : MethodName) prog_15_method_1_code 1 none :: ws) ({ frames := 1, cells := 2, slots := 32, locals := 12 } : Room)) (fun as' U => as' = #[(.ref ob)] ∧ Z.Warmed39 U.vm ∧ U.heap = h0) (fun _ _ _ _ _ => True) (fun _ U o U' => ∃ v L, o = .returned v ∧ Q5 Z ob h0 n0 v U'.heap L ∧ FrameEnd U o U' L ({ frames := 1, cells := 2, slots := 32, locals := 12 } : Room).cells ({ frames := 1, cells := 2, slots := 32, locals := 12 } : Room).slots) := by
  refine own_body (plainFor_of_name pn5) ?_
  intro p e s m below meth c s₁ hx hby hml hown0 hnm hret hlk hZ X0 e0
  have hown : s.vm.findClass "com/example/gaithersburg/gaithersburg/IdMap" = some m.cls := hown0
  have N0 := Fr.nil n0
  rw [ef5]
  have K0 : Keep h0 h0 [ob] := Keep.refl h0 [ob]
  show own_Go p.tables e below _ (s₁.setTop (mkF m 0 #[.val (.ref ob)] []))
  refine own_st (S' := s₁.setTop (mkF m 1 #[.val (.ref ob)] [(.ref ob)])) (fun t k => XS.aloadN X0.here hx rfl (hb hby d5_0) rfl rfl k) ?_
  obtain ⟨T1, X1, e1, st1⟩ := initO X0 hx hZ hown (hw _ (List.mem_of_getElem? (i := 6) rfl)) (hw _ (List.mem_of_getElem? (i := 7) rfl)) (hw _ (List.mem_of_getElem? (i := 8) rfl)) e0 (g := (mkF m 1 #[.val (.ref ob)] [(.ref ob)])) rfl (by rw [hml]; rfl) rfl (hb hby d5_1) (by decide) (W := 0) (by show 2 * 0 + _ ≤ _; exact Nat.le_of_eq rfl) (by decide)
  refine own_st st1 ?_
  show own_Go p.tables e below _ (T1.setTop (mkF m 4 #[.val (.ref ob)] []))
  refine own_st (S' := T1.setTop (mkF m 5 #[.val (.ref ob)] [(.ref ob)])) (fun t k => XS.aloadN X1.here hx rfl (hb hby d5_4) rfl rfl k) ?_
  refine own_st (S' := T1.setTop (mkF m 7 #[.val (.ref ob)] [(.int (16 : Int32)), (.ref ob)])) (fun t k => XS.bipush X1.here hx rfl (hb hby d5_5) k) ?_
  obtain ⟨T2, h2, k2, X2, e2, E2, A2, st2⟩ := newP X1 hx hZ (hw _ (List.mem_of_getElem? (i := 9) rfl)) e1 (g := (mkF m 7 #[.val (.ref ob)] [(.int (16 : Int32)), (.ref ob)])) rfl (hb hby d5_7) rfl (by decide) (cap := 16) (by decide) (by decide) (by decide) (by decide)
  obtain ⟨b2, g2⟩ : ∃ z, z = h0.size := ⟨_, rfl⟩
  rw [← g2] at A2 st2
  have G_b2 : n0 ≤ b2 := Nat.le_trans Z0 (Nat.le_of_eq g2.symm)
  have sz_b2 : h0.size ≤ b2 := Nat.le_trans K0.1 (Nat.le_of_eq g2.symm)
  have ne_ob_b2 : ob ≠ b2 := Nat.ne_of_lt (Nat.lt_of_lt_of_le E_ob.lt (Nat.le_of_eq g2.symm))
  have f3 : Exa Z h2 ob "com/example/gaithersburg/gaithersburg/IdMap" := E_ob.ext E2
  have f4 : Fld Z h2 ob "com/example/gaithersburg/gaithersburg/IdMap" "ids" "[J" .null := F_ob_ids.ext E2
  have f5 : Fld Z h2 ob "com/example/gaithersburg/gaithersburg/IdMap" "values" "[J" .null := F_ob_values.ext E2
  have f6 : Fld Z h2 ob "com/example/gaithersburg/gaithersburg/IdMap" "held" "I" (.int (0 : Int32)) := F_ob_held.ext E2
  have f7 : Fld Z h2 ob "com/example/gaithersburg/gaithersburg/IdMap" "holdsFree" "Z" (.int (0 : Int32)) := F_ob_holdsFree.ext E2
  have f8 : Fld Z h2 ob "com/example/gaithersburg/gaithersburg/IdMap" "freeValue" "J" (.long (0 : Int64)) := F_ob_freeValue.ext E2
  have Z2 : n0 ≤ h2.size := Nat.le_trans Z0 E2.1
  have K2 : Keep h0 h2 [ob] := K0.ext E2
  have f9 : own_A Z h2 b2 .long 16 (fun _ => (.long (0 : Int64))) := own_A.new A2 (by first | rfl | decide | exact rfl)
  refine own_st st2 ?_
  show own_Go p.tables e below _ (T2.setTop (mkF m 9 #[.val (.ref ob)] [(.ref b2), (.ref ob)]))
  obtain ⟨T10, h10, X10, e10, W10, st10⟩ := putF X2 hx hZ hown (host := "") (Or.inl (hw _ (List.mem_of_getElem? (i := 10) rfl))) Via.refl e2 f4 f3 (Or.inl (hw _ (List.mem_of_getElem? (i := 11) rfl))) (hw _ (List.mem_of_getElem? (i := 1) rfl)) (ty := (.array .long)) (by decide) rfl rfl (g := (mkF m 9 #[.val (.ref ob)] [(.ref b2), (.ref ob)])) rfl rfl (hb hby d5_9)
  refine own_st st10 ?_
  have f11 : Exa Z h10 ob "com/example/gaithersburg/gaithersburg/IdMap" := f3.wr W10
  have f12 : Fld Z h10 ob "com/example/gaithersburg/gaithersburg/IdMap" "values" "[J" .null := f5.other W10 (Or.inr (slot_ne (Or.inl (hw _ (List.mem_of_getElem? (i := 13) rfl))) (Or.inl (hw _ (List.mem_of_getElem? (i := 11) rfl))) (by decide) (t := (.array .long)) (t' := (.array .long)) (by decide) (by decide)))
  have f13 : Fld Z h10 ob "com/example/gaithersburg/gaithersburg/IdMap" "held" "I" (.int (0 : Int32)) := f6.other W10 (Or.inr (slot_ne (Or.inl (hw _ (List.mem_of_getElem? (i := 20) rfl))) (Or.inl (hw _ (List.mem_of_getElem? (i := 11) rfl))) (by decide) (t := .int) (t' := (.array .long)) (by decide) (by decide)))
  have f14 : Fld Z h10 ob "com/example/gaithersburg/gaithersburg/IdMap" "holdsFree" "Z" (.int (0 : Int32)) := f7.other W10 (Or.inr (slot_ne (Or.inl (hw _ (List.mem_of_getElem? (i := 22) rfl))) (Or.inl (hw _ (List.mem_of_getElem? (i := 11) rfl))) (by decide) (t := .boolean) (t' := (.array .long)) (by decide) (by decide)))
  have f15 : Fld Z h10 ob "com/example/gaithersburg/gaithersburg/IdMap" "freeValue" "J" (.long (0 : Int64)) := f8.other W10 (Or.inr (slot_ne (Or.inl (hw _ (List.mem_of_getElem? (i := 47) rfl))) (Or.inl (hw _ (List.mem_of_getElem? (i := 11) rfl))) (by decide) (t := .long) (t' := (.array .long)) (by decide) (by decide)))
  have f16 : own_A Z h10 b2 .long 16 (fun _ => (.long (0 : Int64))) := f9.other W10 (Ne.symm ne_ob_b2)
  have Z10 : n0 ≤ h10.size := Nat.le_trans Z2 (Keep.of_wr W10).1
  have N10 := Fr.snoc X10 N0 G_ob
  have K10 : Keep h0 h10 [ob] := K2.wr W10 (Or.inl (List.mem_of_getElem? (i := 0) rfl))
  have f17 : Fld Z h10 ob "com/example/gaithersburg/gaithersburg/IdMap" "ids" "[J" (.ref b2) := f4.same W10
  show own_Go p.tables e below _ (T10.setTop (mkF m 12 #[.val (.ref ob)] []))
  refine own_st (S' := T10.setTop (mkF m 13 #[.val (.ref ob)] [(.ref ob)])) (fun t k => XS.aloadN X10.here hx rfl (hb hby d5_12) rfl rfl k) ?_
  refine own_st (S' := T10.setTop (mkF m 15 #[.val (.ref ob)] [(.int (16 : Int32)), (.ref ob)])) (fun t k => XS.bipush X10.here hx rfl (hb hby d5_13) k) ?_
  obtain ⟨T18, h18, k18, X18, e18, E18, A18, st18⟩ := newP X10 hx hZ (hw _ (List.mem_of_getElem? (i := 9) rfl)) e10 (g := (mkF m 15 #[.val (.ref ob)] [(.int (16 : Int32)), (.ref ob)])) rfl (hb hby d5_15) rfl (by decide) (cap := 16) (by decide) (by decide) (by decide) (by decide)
  obtain ⟨b18, g18⟩ : ∃ z, z = h10.size := ⟨_, rfl⟩
  rw [← g18] at A18 st18
  have G_b18 : n0 ≤ b18 := Nat.le_trans Z10 (Nat.le_of_eq g18.symm)
  have sz_b18 : h0.size ≤ b18 := Nat.le_trans K10.1 (Nat.le_of_eq g18.symm)
  have ne_ob_b18 : ob ≠ b18 := Nat.ne_of_lt (Nat.lt_of_lt_of_le f11.lt (Nat.le_of_eq g18.symm))
  have ne_b2_b18 : b2 ≠ b18 := Nat.ne_of_lt (Nat.lt_of_lt_of_le f16.lt (Nat.le_of_eq g18.symm))
  have f19 : Exa Z h18 ob "com/example/gaithersburg/gaithersburg/IdMap" := f11.ext E18
  have f20 : Fld Z h18 ob "com/example/gaithersburg/gaithersburg/IdMap" "ids" "[J" (.ref b2) := f17.ext E18
  have f21 : Fld Z h18 ob "com/example/gaithersburg/gaithersburg/IdMap" "values" "[J" .null := f12.ext E18
  have f22 : Fld Z h18 ob "com/example/gaithersburg/gaithersburg/IdMap" "held" "I" (.int (0 : Int32)) := f13.ext E18
  have f23 : Fld Z h18 ob "com/example/gaithersburg/gaithersburg/IdMap" "holdsFree" "Z" (.int (0 : Int32)) := f14.ext E18
  have f24 : Fld Z h18 ob "com/example/gaithersburg/gaithersburg/IdMap" "freeValue" "J" (.long (0 : Int64)) := f15.ext E18
  have f25 : own_A Z h18 b2 .long 16 (fun _ => (.long (0 : Int64))) := f16.ext E18
  have Z18 : n0 ≤ h18.size := Nat.le_trans Z10 E18.1
  have K18 : Keep h0 h18 [ob] := K10.ext E18
  have f26 : own_A Z h18 b18 .long 16 (fun _ => (.long (0 : Int64))) := own_A.new A18 (by first | rfl | decide | exact rfl)
  refine own_st st18 ?_
  show own_Go p.tables e below _ (T18.setTop (mkF m 17 #[.val (.ref ob)] [(.ref b18), (.ref ob)]))
  obtain ⟨T27, h27, X27, e27, W27, st27⟩ := putF X18 hx hZ hown (host := "") (Or.inl (hw _ (List.mem_of_getElem? (i := 12) rfl))) Via.refl e18 f21 f19 (Or.inl (hw _ (List.mem_of_getElem? (i := 13) rfl))) (hw _ (List.mem_of_getElem? (i := 1) rfl)) (ty := (.array .long)) (by decide) rfl rfl (g := (mkF m 17 #[.val (.ref ob)] [(.ref b18), (.ref ob)])) rfl rfl (hb hby d5_17)
  refine own_st st27 ?_
  have f28 : Exa Z h27 ob "com/example/gaithersburg/gaithersburg/IdMap" := f19.wr W27
  have f29 : Fld Z h27 ob "com/example/gaithersburg/gaithersburg/IdMap" "ids" "[J" (.ref b2) := f20.other W27 (Or.inr (slot_ne (Or.inl (hw _ (List.mem_of_getElem? (i := 11) rfl))) (Or.inl (hw _ (List.mem_of_getElem? (i := 13) rfl))) (by decide) (t := (.array .long)) (t' := (.array .long)) (by decide) (by decide)))
  have f30 : Fld Z h27 ob "com/example/gaithersburg/gaithersburg/IdMap" "held" "I" (.int (0 : Int32)) := f22.other W27 (Or.inr (slot_ne (Or.inl (hw _ (List.mem_of_getElem? (i := 20) rfl))) (Or.inl (hw _ (List.mem_of_getElem? (i := 13) rfl))) (by decide) (t := .int) (t' := (.array .long)) (by decide) (by decide)))
  have f31 : Fld Z h27 ob "com/example/gaithersburg/gaithersburg/IdMap" "holdsFree" "Z" (.int (0 : Int32)) := f23.other W27 (Or.inr (slot_ne (Or.inl (hw _ (List.mem_of_getElem? (i := 22) rfl))) (Or.inl (hw _ (List.mem_of_getElem? (i := 13) rfl))) (by decide) (t := .boolean) (t' := (.array .long)) (by decide) (by decide)))
  have f32 : Fld Z h27 ob "com/example/gaithersburg/gaithersburg/IdMap" "freeValue" "J" (.long (0 : Int64)) := f24.other W27 (Or.inr (slot_ne (Or.inl (hw _ (List.mem_of_getElem? (i := 47) rfl))) (Or.inl (hw _ (List.mem_of_getElem? (i := 13) rfl))) (by decide) (t := .long) (t' := (.array .long)) (by decide) (by decide)))
  have f33 : own_A Z h27 b2 .long 16 (fun _ => (.long (0 : Int64))) := f25.other W27 (Ne.symm ne_ob_b2)
  have f34 : own_A Z h27 b18 .long 16 (fun _ => (.long (0 : Int64))) := f26.other W27 (Ne.symm ne_ob_b18)
  have Z27 : n0 ≤ h27.size := Nat.le_trans Z18 (Keep.of_wr W27).1
  have N27 := Fr.snoc X27 N10 G_ob
  have K27 : Keep h0 h27 [ob] := K18.wr W27 (Or.inl (List.mem_of_getElem? (i := 0) rfl))
  have f35 : Fld Z h27 ob "com/example/gaithersburg/gaithersburg/IdMap" "values" "[J" (.ref b18) := f21.same W27
  show own_Go p.tables e below _ (T27.setTop (mkF m 20 #[.val (.ref ob)] []))
  refine own_retV X27 hx hret hlk (hb hby d5_20) ?_ (by decide) (by decide)
  rw [e27]
  exact ⟨b2, b18, rfl, N27, K27, sz_b2, sz_b18, ne_b2_b18, f28, f29, f35, f30, f31, f32, f33, f34⟩
theorem d6_0 : decode prog_15_method_4_code 0 = .ok (.aload_n 0, 1) := by decide +kernel
theorem d6_1 : decode prog_15_method_4_code 1 = .ok (.getfield 28, 3) := by decide +kernel
theorem d6_4 : decode prog_15_method_4_code 4 = .ok (.aload_n 0, 1) := by decide +kernel
theorem d6_5 : decode prog_15_method_4_code 5 = .ok (.getfield 16, 3) := by decide +kernel
theorem d6_8 : decode prog_15_method_4_code 8 = .ok (.ifCond .eq 7, 3) := by decide +kernel
theorem d6_11 : decode prog_15_method_4_code 11 = .ok (.iconst 1, 1) := by decide +kernel
theorem d6_12 : decode prog_15_method_4_code 12 = .ok (.goto 4, 3) := by decide +kernel
theorem d6_15 : decode prog_15_method_4_code 15 = .ok (.iconst 0, 1) := by decide +kernel
theorem d6_16 : decode prog_15_method_4_code 16 = .ok (.iadd, 1) := by decide +kernel
theorem d6_17 : decode prog_15_method_4_code 17 = .ok (.ireturn, 1) := by decide +kernel
theorem pn6 : plainName "com/example/gaithersburg/gaithersburg/IdMap" = true := by first | (simp [plainName, overriddenIn]; done) | decide +kernel
theorem ef6 (m : MethodId) (ob : Addr) : entryFrame m #[(.ref ob)] 1 = mkF m 0 #[.val (.ref ob)] [] := by first | (simp [entryFrame, mkF, argsToLocals, Value.category]; done) | rfl
def Q6 (Z : State) (ob : Addr) (w : Int32) (zf : Int32) (h0 : Heap) (n0 : Nat) (v : Option Value) (h : Heap) (L : List Loc) : Prop := v = some (.int (own_sz w zf)) ∧ Fr n0 L ∧ h = h0
set_option maxRecDepth 65536 in
set_option maxHeartbeats 40000000 in
theorem rm6 (l : Launch) (Z : State) (a0 : Array Value) (hw : ∀ d ∈ tables_1, d.before a0 Z = true) (ws : List Jvm.Cond) (ob : Addr) (w : Int32) (zf : Int32) (h0 : Heap) (n0 : Nat) (Z0 : n0 ≤ h0.size) (F_ob_held : Fld Z h0 ob "com/example/gaithersburg/gaithersburg/IdMap" "held" "I" (.int w)) (F_ob_holdsFree : Fld Z h0 ob "com/example/gaithersburg/gaithersburg/IdMap" "holdsFree" "Z" (.int zf)) :
    MetFree l (⟨"com/example/gaithersburg/gaithersburg/IdMap", "size", "()I"⟩ : MethodName) (head1 (Jvm.Cond.code (⟨"com/example/gaithersburg/gaithersburg/IdMap", "size", "()I"⟩ : MethodName) prog_15_method_4_code 1 (some .int) :: ws) ({ frames := 0, cells := 0, slots := 0, locals := 0 } : Room)) (fun as' U => as' = #[(.ref ob)] ∧ Z.Warmed39 U.vm ∧ U.heap = h0) (fun _ _ _ _ _ => True) (fun _ U o U' => ∃ v L, o = .returned v ∧ Q6 Z ob w zf h0 n0 v U'.heap L ∧ FrameEnd U o U' L ({ frames := 0, cells := 0, slots := 0, locals := 0 } : Room).cells ({ frames := 0, cells := 0, slots := 0, locals := 0 } : Room).slots) := by
  refine own_body (plainFor_of_name pn6) ?_
  intro p e s m below meth c s₁ hx hby hml hown0 hnm hret hlk hZ X0 e0
  have hown : s.vm.findClass "com/example/gaithersburg/gaithersburg/IdMap" = some m.cls := hown0
  have N0 := Fr.nil n0
  rw [ef6]
  show own_Go p.tables e below _ (s₁.setTop (mkF m 0 #[.val (.ref ob)] []))
  refine own_st (S' := s₁.setTop (mkF m 1 #[.val (.ref ob)] [(.ref ob)])) (fun t k => XS.aloadN X0.here hx rfl (hb hby d6_0) rfl rfl k) ?_
  obtain ⟨T1, X1, e1, st1⟩ := getF X0 hx hZ hown (host := "") (Or.inl (hw _ (List.mem_of_getElem? (i := 19) rfl))) Via.refl e0 F_ob_held (g := (mkF m 1 #[.val (.ref ob)] [(.ref ob)])) rfl rfl (hb hby d6_1)
  refine own_st st1 ?_
  show own_Go p.tables e below _ (T1.setTop (mkF m 4 #[.val (.ref ob)] [(.int w)]))
  refine own_st (S' := T1.setTop (mkF m 5 #[.val (.ref ob)] [(.ref ob), (.int w)])) (fun t k => XS.aloadN X1.here hx rfl (hb hby d6_4) rfl rfl k) ?_
  obtain ⟨T2, X2, e2, st2⟩ := getF X1 hx hZ hown (host := "") (Or.inl (hw _ (List.mem_of_getElem? (i := 21) rfl))) Via.refl e1 F_ob_holdsFree (g := (mkF m 5 #[.val (.ref ob)] [(.ref ob), (.int w)])) rfl rfl (hb hby d6_5)
  refine own_st st2 ?_
  show own_Go p.tables e below _ (T2.setTop (mkF m 8 #[.val (.ref ob)] [(.int zf), (.int w)]))
  obtain ⟨v3, qv3⟩ : ∃ z : Int32, z = (if zf = (0 : Int32) then (0 : Int32) else (1 : Int32)) := ⟨_, rfl⟩
  refine own_st (S' := T2.setTop (mkF m 16 #[.val (.ref ob)] [(.int v3), (.int w)])) (fun t k => ?_) ?_
  · show Steps p.tables e below (T2.setTop (mkF m 8 #[.val (.ref ob)] [(.int zf), (.int w)])) _
    by_cases hc4 : zf = (0 : Int32)
    · rw [if_pos hc4] at qv3
      replace qv3 := Eq.symm qv3
      subst qv3
      refine XS.ifYes X2.here hx rfl (pc0 := 8) (pc' := 15) rfl (hb hby d6_8) rfl ((if0 _ _).trans (teq hc4).1) (by decide) (by decide) ?_
      show Steps p.tables e below (T2.setTop (mkF m 15 #[.val (.ref ob)] [(.int w)])) _
      refine XS.iconst X2.here hx rfl (hb hby d6_15) ?_
      show Steps p.tables e below (T2.setTop (mkF m 16 #[.val (.ref ob)] [(.int (0 : Int32)), (.int w)])) _
      exact k
    · rw [if_neg hc4] at qv3
      replace qv3 := Eq.symm qv3
      subst qv3
      refine XS.ifNo X2.here hx rfl (hb hby d6_8) rfl ((if0 _ _).trans (feq hc4).1) ?_
      show Steps p.tables e below (T2.setTop (mkF m 11 #[.val (.ref ob)] [(.int w)])) _
      refine XS.iconst X2.here hx rfl (hb hby d6_11) ?_
      show Steps p.tables e below (T2.setTop (mkF m 12 #[.val (.ref ob)] [(.int (1 : Int32)), (.int w)])) _
      refine XS.goto X2.here hx rfl (pc0 := 12) (pc' := 16) rfl (hb hby d6_12) (by decide) (by decide) ?_
      show Steps p.tables e below (T2.setTop (mkF m 16 #[.val (.ref ob)] [(.int (1 : Int32)), (.int w)])) _
      exact k
  show own_Go p.tables e below _ (T2.setTop (mkF m 16 #[.val (.ref ob)] [(.int v3), (.int w)]))
  refine own_st (S' := T2.setTop (mkF m 17 #[.val (.ref ob)] [(.int (w + v3))])) (fun t k => XS.iadd X2.here hx rfl (hb hby d6_16) rfl k) ?_
  refine own_retI X2 hx hret hlk (hb hby d6_17) ?_ (by decide) (by decide)
  rw [e2]
  rw [qv3]
  exact ⟨rfl, N0, rfl⟩
theorem d7_0 : decode prog_15_method_2_code 0 = .ok (.lload_n 1, 1) := by decide +kernel
theorem d7_1 : decode prog_15_method_2_code 1 = .ok (.lconst 0, 1) := by decide +kernel
theorem d7_2 : decode prog_15_method_2_code 2 = .ok (.lcmp, 1) := by decide +kernel
theorem d7_3 : decode prog_15_method_2_code 3 = .ok (.ifCond .ne 14, 3) := by decide +kernel
theorem d7_6 : decode prog_15_method_2_code 6 = .ok (.aload_n 0, 1) := by decide +kernel
theorem d7_7 : decode prog_15_method_2_code 7 = .ok (.iconst 1, 1) := by decide +kernel
theorem d7_8 : decode prog_15_method_2_code 8 = .ok (.putfield 16, 3) := by decide +kernel
theorem d7_11 : decode prog_15_method_2_code 11 = .ok (.aload_n 0, 1) := by decide +kernel
theorem d7_12 : decode prog_15_method_2_code 12 = .ok (.lload_n 3, 1) := by decide +kernel
theorem d7_13 : decode prog_15_method_2_code 13 = .ok (.putfield 20, 3) := by decide +kernel
theorem d7_16 : decode prog_15_method_2_code 16 = .ok (.return_, 1) := by decide +kernel
theorem d7_17 : decode prog_15_method_2_code 17 = .ok (.aload_n 0, 1) := by decide +kernel
theorem d7_18 : decode prog_15_method_2_code 18 = .ok (.getfield 7, 3) := by decide +kernel
theorem d7_21 : decode prog_15_method_2_code 21 = .ok (.lload_n 1, 1) := by decide +kernel
theorem d7_22 : decode prog_15_method_2_code 22 = .ok (.invokestatic 24, 3) := by decide +kernel
theorem d7_25 : decode prog_15_method_2_code 25 = .ok (.istore 5, 2) := by decide +kernel
theorem d7_27 : decode prog_15_method_2_code 27 = .ok (.aload_n 0, 1) := by decide +kernel
theorem d7_28 : decode prog_15_method_2_code 28 = .ok (.getfield 13, 3) := by decide +kernel
theorem d7_31 : decode prog_15_method_2_code 31 = .ok (.iload 5, 2) := by decide +kernel
theorem d7_33 : decode prog_15_method_2_code 33 = .ok (.lload_n 3, 1) := by decide +kernel
theorem d7_34 : decode prog_15_method_2_code 34 = .ok (.lastore, 1) := by decide +kernel
theorem d7_35 : decode prog_15_method_2_code 35 = .ok (.aload_n 0, 1) := by decide +kernel
theorem d7_36 : decode prog_15_method_2_code 36 = .ok (.getfield 7, 3) := by decide +kernel
theorem d7_39 : decode prog_15_method_2_code 39 = .ok (.iload 5, 2) := by decide +kernel
theorem d7_41 : decode prog_15_method_2_code 41 = .ok (.laload, 1) := by decide +kernel
theorem d7_42 : decode prog_15_method_2_code 42 = .ok (.lload_n 1, 1) := by decide +kernel
theorem d7_43 : decode prog_15_method_2_code 43 = .ok (.lcmp, 1) := by decide +kernel
theorem d7_44 : decode prog_15_method_2_code 44 = .ok (.ifCond .ne 4, 3) := by decide +kernel
theorem d7_47 : decode prog_15_method_2_code 47 = .ok (.return_, 1) := by decide +kernel
theorem d7_48 : decode prog_15_method_2_code 48 = .ok (.aload_n 0, 1) := by decide +kernel
theorem d7_49 : decode prog_15_method_2_code 49 = .ok (.getfield 7, 3) := by decide +kernel
theorem d7_52 : decode prog_15_method_2_code 52 = .ok (.iload 5, 2) := by decide +kernel
theorem d7_54 : decode prog_15_method_2_code 54 = .ok (.lload_n 1, 1) := by decide +kernel
theorem d7_55 : decode prog_15_method_2_code 55 = .ok (.lastore, 1) := by decide +kernel
theorem d7_56 : decode prog_15_method_2_code 56 = .ok (.aload_n 0, 1) := by decide +kernel
theorem d7_57 : decode prog_15_method_2_code 57 = .ok (.dup, 1) := by decide +kernel
theorem d7_58 : decode prog_15_method_2_code 58 = .ok (.getfield 28, 3) := by decide +kernel
theorem d7_61 : decode prog_15_method_2_code 61 = .ok (.iconst 1, 1) := by decide +kernel
theorem d7_62 : decode prog_15_method_2_code 62 = .ok (.iadd, 1) := by decide +kernel
theorem d7_63 : decode prog_15_method_2_code 63 = .ok (.putfield 28, 3) := by decide +kernel
theorem d7_66 : decode prog_15_method_2_code 66 = .ok (.aload_n 0, 1) := by decide +kernel
theorem d7_67 : decode prog_15_method_2_code 67 = .ok (.getfield 28, 3) := by decide +kernel
theorem d7_70 : decode prog_15_method_2_code 70 = .ok (.iconst 2, 1) := by decide +kernel
theorem d7_71 : decode prog_15_method_2_code 71 = .ok (.imul, 1) := by decide +kernel
theorem d7_72 : decode prog_15_method_2_code 72 = .ok (.aload_n 0, 1) := by decide +kernel
theorem d7_73 : decode prog_15_method_2_code 73 = .ok (.getfield 7, 3) := by decide +kernel
theorem d7_76 : decode prog_15_method_2_code 76 = .ok (.arraylength, 1) := by decide +kernel
theorem d7_77 : decode prog_15_method_2_code 77 = .ok (.if_icmp .le 7, 3) := by decide +kernel
theorem d7_84 : decode prog_15_method_2_code 84 = .ok (.return_, 1) := by decide +kernel
theorem pd7_0 : parseMethodDescriptor "([JJ)I" = some ⟨[(.array .long), .long], some .int⟩ := by decide +kernel
theorem pn7 : plainName "com/example/gaithersburg/gaithersburg/IdMap" = true := by first | (simp [plainName, overriddenIn]; done) | decide +kernel
theorem ef7 (m : MethodId) (ob : Addr) (kk : Int64) (x : Int64) : entryFrame m #[(.ref ob), (.long kk), (.long x)] 6 = mkF m 0 #[.val (.ref ob), .val (.long kk), .second, .val (.long x), .second, .unset] [] := by first | (simp [entryFrame, mkF, argsToLocals, Value.category]; done) | rfl
def Q7 (Z : State) (ob : Addr) (kk : Int64) (x : Int64) (ai : Addr) (av : Addr) (w : Int32) (zf : Int32) (u : Int64) (f : Nat → Int64) (g : Nat → Int64) (h0 : Heap) (n0 : Nat) (v : Option Value) (h : Heap) (L : List Loc) : Prop := ∃ (fo : Nat → Int64) (go : Nat → Int64) (wo : Int32) (zo : Int32) (uo : Int64), v = none ∧ Fr n0 L ∧ Keep h0 h [ob, ai, av] ∧ Exa Z h ob "com/example/gaithersburg/gaithersburg/IdMap" ∧ Fld Z h ob "com/example/gaithersburg/gaithersburg/IdMap" "ids" "[J" (.ref ai) ∧ Fld Z h ob "com/example/gaithersburg/gaithersburg/IdMap" "values" "[J" (.ref av) ∧ Fld Z h ob "com/example/gaithersburg/gaithersburg/IdMap" "held" "I" (.int wo) ∧ Fld Z h ob "com/example/gaithersburg/gaithersburg/IdMap" "holdsFree" "Z" (.int zo) ∧ Fld Z h ob "com/example/gaithersburg/gaithersburg/IdMap" "freeValue" "J" (.long uo) ∧ own_A Z h ai .long 16 (own_J fo) ∧ own_A Z h av .long 16 (own_J go) ∧ own_Put f w zf kk fo wo zo
set_option maxRecDepth 65536 in
set_option maxHeartbeats 40000000 in
theorem rm7 (l : Launch) (Z : State) (a0 : Array Value) (hw : ∀ d ∈ tables_1, d.before a0 Z = true) (ws : List Jvm.Cond) (ob : Addr) (kk : Int64) (x : Int64) (ai : Addr) (av : Addr) (w : Int32) (zf : Int32) (u : Int64) (f : Nat → Int64) (g : Nat → Int64) (h0 : Heap) (n0 : Nat) (Z0 : n0 ≤ h0.size) (E_ob : Exa Z h0 ob "com/example/gaithersburg/gaithersburg/IdMap") (F_ob_ids : Fld Z h0 ob "com/example/gaithersburg/gaithersburg/IdMap" "ids" "[J" (.ref ai)) (F_ob_values : Fld Z h0 ob "com/example/gaithersburg/gaithersburg/IdMap" "values" "[J" (.ref av)) (F_ob_held : Fld Z h0 ob "com/example/gaithersburg/gaithersburg/IdMap" "held" "I" (.int w)) (F_ob_holdsFree : Fld Z h0 ob "com/example/gaithersburg/gaithersburg/IdMap" "holdsFree" "Z" (.int zf)) (F_ob_freeValue : Fld Z h0 ob "com/example/gaithersburg/gaithersburg/IdMap" "freeValue" "J" (.long u)) (A_ai : own_A Z h0 ai .long 16 (own_J f)) (A_av : own_A Z h0 av .long 16 (own_J g)) (G_ob : n0 ≤ ob) (G_ai : n0 ≤ ai) (G_av : n0 ≤ av) (ne_ob_ai : ob ≠ ai) (ne_ob_av : ob ≠ av) (ne_ai_av : ai ≠ av) (hE : own_Emp f) (hB : -1 ≤ w.toInt ∧ w.toInt ≤ 4) :
    MetFree l (⟨"com/example/gaithersburg/gaithersburg/IdMap", "put", "(JJ)V"⟩ : MethodName) (head1 (Jvm.Cond.code (⟨"com/example/gaithersburg/gaithersburg/IdMap", "put", "(JJ)V"⟩ : MethodName) prog_15_method_2_code 6 none :: ws) ({ frames := 4, cells := 0, slots := 0, locals := 60 } : Room)) (fun as' U => as' = #[(.ref ob), (.long kk), (.long x)] ∧ Z.Warmed39 U.vm ∧ U.heap = h0) (fun _ _ _ _ _ => True) (fun _ U o U' => ∃ v L, o = .returned v ∧ Q7 Z ob kk x ai av w zf u f g h0 n0 v U'.heap L ∧ FrameEnd U o U' L ({ frames := 4, cells := 0, slots := 0, locals := 60 } : Room).cells ({ frames := 4, cells := 0, slots := 0, locals := 60 } : Room).slots) := by
  refine own_body (plainFor_of_name pn7) ?_
  intro p e s m below meth c s₁ hx hby hml hown0 hnm hret hlk hZ X0 e0
  have hown : s.vm.findClass "com/example/gaithersburg/gaithersburg/IdMap" = some m.cls := hown0
  have N0 := Fr.nil n0
  rw [ef7]
  have K0 : Keep h0 h0 [ob, ai, av] := Keep.refl h0 [ob, ai, av]
  show own_Go p.tables e below _ (s₁.setTop (mkF m 0 #[.val (.ref ob), .val (.long kk), .second, .val (.long x), .second, .unset] []))
  refine own_st (S' := s₁.setTop (mkF m 1 #[.val (.ref ob), .val (.long kk), .second, .val (.long x), .second, .unset] [(.long kk)])) (fun t k => XS.lloadN X0.here hx rfl (hb hby d7_0) rfl k) ?_
  refine own_st (S' := s₁.setTop (mkF m 2 #[.val (.ref ob), .val (.long kk), .second, .val (.long x), .second, .unset] [(.long (0 : Int64)), (.long kk)])) (fun t k => XS.lconst X0.here hx rfl (hb hby d7_1) k) ?_
  refine own_st (S' := s₁.setTop (mkF m 3 #[.val (.ref ob), .val (.long kk), .second, .val (.long x), .second, .unset] [(.int (lcmpW kk (0 : Int64)))])) (fun t k => XS.lcmp X0.here hx rfl (hb hby d7_2) rfl k) ?_
  by_cases hc1 : kk = (0 : Int64)
  · refine own_st (S' := s₁.setTop (mkF m 6 #[.val (.ref ob), .val (.long kk), .second, .val (.long x), .second, .unset] [])) (fun t k => XS.ifNo X0.here hx rfl (hb hby d7_3) rfl ((if0 _ _).trans (teq ((lw_eq _ _).mpr hc1)).2) k) ?_
    show own_Go p.tables e below _ (s₁.setTop (mkF m 6 #[.val (.ref ob), .val (.long kk), .second, .val (.long x), .second, .unset] []))
    refine own_st (S' := s₁.setTop (mkF m 7 #[.val (.ref ob), .val (.long kk), .second, .val (.long x), .second, .unset] [(.ref ob)])) (fun t k => XS.aloadN X0.here hx rfl (hb hby d7_6) rfl rfl k) ?_
    refine own_st (S' := s₁.setTop (mkF m 8 #[.val (.ref ob), .val (.long kk), .second, .val (.long x), .second, .unset] [(.int (1 : Int32)), (.ref ob)])) (fun t k => XS.iconst X0.here hx rfl (hb hby d7_7) k) ?_
    obtain ⟨T2, h2, X2, e2, W2, st2⟩ := putFN X0 hx hZ hown (hw _ (List.mem_of_getElem? (i := 21) rfl)) Via.refl e0 F_ob_holdsFree E_ob (Or.inl (hw _ (List.mem_of_getElem? (i := 22) rfl))) (hw _ (List.mem_of_getElem? (i := 1) rfl)) (ty := .boolean) (v' := (.int (1 : Int32))) (by decide) rfl (by first | rfl | decide) (g := (mkF m 8 #[.val (.ref ob), .val (.long kk), .second, .val (.long x), .second, .unset] [(.int (1 : Int32)), (.ref ob)])) rfl rfl (hb hby d7_8)
    refine own_st st2 ?_
    have f3 : Exa Z h2 ob "com/example/gaithersburg/gaithersburg/IdMap" := E_ob.wr W2
    have f4 : Fld Z h2 ob "com/example/gaithersburg/gaithersburg/IdMap" "ids" "[J" (.ref ai) := F_ob_ids.other W2 (Or.inr (slot_ne (Or.inl (hw _ (List.mem_of_getElem? (i := 11) rfl))) (Or.inl (hw _ (List.mem_of_getElem? (i := 22) rfl))) (by decide) (t := (.array .long)) (t' := .boolean) (by decide) (by decide)))
    have f5 : Fld Z h2 ob "com/example/gaithersburg/gaithersburg/IdMap" "values" "[J" (.ref av) := F_ob_values.other W2 (Or.inr (slot_ne (Or.inl (hw _ (List.mem_of_getElem? (i := 13) rfl))) (Or.inl (hw _ (List.mem_of_getElem? (i := 22) rfl))) (by decide) (t := (.array .long)) (t' := .boolean) (by decide) (by decide)))
    have f6 : Fld Z h2 ob "com/example/gaithersburg/gaithersburg/IdMap" "held" "I" (.int w) := F_ob_held.other W2 (Or.inr (slot_ne (Or.inl (hw _ (List.mem_of_getElem? (i := 20) rfl))) (Or.inl (hw _ (List.mem_of_getElem? (i := 22) rfl))) (by decide) (t := .int) (t' := .boolean) (by decide) (by decide)))
    have f7 : Fld Z h2 ob "com/example/gaithersburg/gaithersburg/IdMap" "freeValue" "J" (.long u) := F_ob_freeValue.other W2 (Or.inr (slot_ne (Or.inl (hw _ (List.mem_of_getElem? (i := 47) rfl))) (Or.inl (hw _ (List.mem_of_getElem? (i := 22) rfl))) (by decide) (t := .long) (t' := .boolean) (by decide) (by decide)))
    have f8 : own_A Z h2 ai .long 16 (own_J f) := A_ai.other W2 (Ne.symm ne_ob_ai)
    have f9 : own_A Z h2 av .long 16 (own_J g) := A_av.other W2 (Ne.symm ne_ob_av)
    have Z2 : n0 ≤ h2.size := Nat.le_trans Z0 (Keep.of_wr W2).1
    have N2 := Fr.snoc X2 N0 G_ob
    have K2 : Keep h0 h2 [ob, ai, av] := K0.wr W2 (Or.inl (List.mem_of_getElem? (i := 0) rfl))
    have f10 : Fld Z h2 ob "com/example/gaithersburg/gaithersburg/IdMap" "holdsFree" "Z" (.int (1 : Int32)) := F_ob_holdsFree.same W2
    show own_Go p.tables e below _ (T2.setTop (mkF m 11 #[.val (.ref ob), .val (.long kk), .second, .val (.long x), .second, .unset] []))
    refine own_st (S' := T2.setTop (mkF m 12 #[.val (.ref ob), .val (.long kk), .second, .val (.long x), .second, .unset] [(.ref ob)])) (fun t k => XS.aloadN X2.here hx rfl (hb hby d7_11) rfl rfl k) ?_
    refine own_st (S' := T2.setTop (mkF m 13 #[.val (.ref ob), .val (.long kk), .second, .val (.long x), .second, .unset] [(.long x), (.ref ob)])) (fun t k => XS.lloadN X2.here hx rfl (hb hby d7_12) rfl k) ?_
    obtain ⟨T11, h11, X11, e11, W11, st11⟩ := putF X2 hx hZ hown (host := "") (Or.inl (hw _ (List.mem_of_getElem? (i := 46) rfl))) Via.refl e2 f7 f3 (Or.inl (hw _ (List.mem_of_getElem? (i := 47) rfl))) (hw _ (List.mem_of_getElem? (i := 1) rfl)) (ty := .long) (by decide) rfl rfl (g := (mkF m 13 #[.val (.ref ob), .val (.long kk), .second, .val (.long x), .second, .unset] [(.long x), (.ref ob)])) rfl rfl (hb hby d7_13)
    refine own_st st11 ?_
    have f12 : Exa Z h11 ob "com/example/gaithersburg/gaithersburg/IdMap" := f3.wr W11
    have f13 : Fld Z h11 ob "com/example/gaithersburg/gaithersburg/IdMap" "ids" "[J" (.ref ai) := f4.other W11 (Or.inr (slot_ne (Or.inl (hw _ (List.mem_of_getElem? (i := 11) rfl))) (Or.inl (hw _ (List.mem_of_getElem? (i := 47) rfl))) (by decide) (t := (.array .long)) (t' := .long) (by decide) (by decide)))
    have f14 : Fld Z h11 ob "com/example/gaithersburg/gaithersburg/IdMap" "values" "[J" (.ref av) := f5.other W11 (Or.inr (slot_ne (Or.inl (hw _ (List.mem_of_getElem? (i := 13) rfl))) (Or.inl (hw _ (List.mem_of_getElem? (i := 47) rfl))) (by decide) (t := (.array .long)) (t' := .long) (by decide) (by decide)))
    have f15 : Fld Z h11 ob "com/example/gaithersburg/gaithersburg/IdMap" "held" "I" (.int w) := f6.other W11 (Or.inr (slot_ne (Or.inl (hw _ (List.mem_of_getElem? (i := 20) rfl))) (Or.inl (hw _ (List.mem_of_getElem? (i := 47) rfl))) (by decide) (t := .int) (t' := .long) (by decide) (by decide)))
    have f16 : Fld Z h11 ob "com/example/gaithersburg/gaithersburg/IdMap" "holdsFree" "Z" (.int (1 : Int32)) := f10.other W11 (Or.inr (slot_ne (Or.inl (hw _ (List.mem_of_getElem? (i := 22) rfl))) (Or.inl (hw _ (List.mem_of_getElem? (i := 47) rfl))) (by decide) (t := .boolean) (t' := .long) (by decide) (by decide)))
    have f17 : own_A Z h11 ai .long 16 (own_J f) := f8.other W11 (Ne.symm ne_ob_ai)
    have f18 : own_A Z h11 av .long 16 (own_J g) := f9.other W11 (Ne.symm ne_ob_av)
    have Z11 : n0 ≤ h11.size := Nat.le_trans Z2 (Keep.of_wr W11).1
    have N11 := Fr.snoc X11 N2 G_ob
    have K11 : Keep h0 h11 [ob, ai, av] := K2.wr W11 (Or.inl (List.mem_of_getElem? (i := 0) rfl))
    have f19 : Fld Z h11 ob "com/example/gaithersburg/gaithersburg/IdMap" "freeValue" "J" (.long x) := f7.same W11
    show own_Go p.tables e below _ (T11.setTop (mkF m 16 #[.val (.ref ob), .val (.long kk), .second, .val (.long x), .second, .unset] []))
    refine own_retV X11 hx hret hlk (hb hby d7_16) ?_ (by decide) (by decide)
    rw [e11]
    exact ⟨f, g, w, (1 : Int32), x, rfl, N11, K11, f12, f13, f14, f15, f16, f19, f17, f18, (Or.inl ⟨hc1, rfl, rfl, rfl⟩)⟩
  · refine own_st (S' := s₁.setTop (mkF m 17 #[.val (.ref ob), .val (.long kk), .second, .val (.long x), .second, .unset] [])) (fun t k => XS.ifYes X0.here hx rfl (pc0 := 3) (pc' := 17) rfl (hb hby d7_3) rfl ((if0 _ _).trans (feq (mt (lw_eq _ _).mp hc1)).2) (by decide) (by decide) k) ?_
    show own_Go p.tables e below _ (s₁.setTop (mkF m 17 #[.val (.ref ob), .val (.long kk), .second, .val (.long x), .second, .unset] []))
    refine own_st (S' := s₁.setTop (mkF m 18 #[.val (.ref ob), .val (.long kk), .second, .val (.long x), .second, .unset] [(.ref ob)])) (fun t k => XS.aloadN X0.here hx rfl (hb hby d7_17) rfl rfl k) ?_
    obtain ⟨T20, X20, e20, st20⟩ := getF X0 hx hZ hown (host := "") (Or.inl (hw _ (List.mem_of_getElem? (i := 10) rfl))) Via.refl e0 F_ob_ids (g := (mkF m 18 #[.val (.ref ob), .val (.long kk), .second, .val (.long x), .second, .unset] [(.ref ob)])) rfl rfl (hb hby d7_18)
    refine own_st st20 ?_
    show own_Go p.tables e below _ (T20.setTop (mkF m 21 #[.val (.ref ob), .val (.long kk), .second, .val (.long x), .second, .unset] [(.ref ai)]))
    refine own_st (S' := T20.setTop (mkF m 22 #[.val (.ref ob), .val (.long kk), .second, .val (.long x), .second, .unset] [(.long kk), (.ref ai)])) (fun t k => XS.lloadN X20.here hx rfl (hb hby d7_21) rfl k) ?_
    obtain ⟨D, hD⟩ := own_ex kk hE
    obtain ⟨_, _, ⟨T21, L21, k21, n21⟩, -, X21, ⟨Lc21, hQ21, l21, y21, z21⟩, st21⟩ := Jvm.LawKit.callS X20 hx (y := (⟨"com/example/gaithersburg/gaithersburg/IdMap", "slotOf", "([JJ)I"⟩ : MethodName)) hown (mvT hZ (hw _ (List.mem_of_getElem? (i := 28) rfl))) (mvT hZ (hw _ (List.mem_of_getElem? (i := 29) rfl))) (mvT hZ (hw _ (List.mem_of_getElem? (i := 2) rfl))) (mvT hZ (hw _ (List.mem_of_getElem? (i := 30) rfl))) (by decide) (backOf (W := 0) (rm4 l Z a0 hw [] ai kk f D h0 n0 Z0 A_ai hD) hZ (hw _ (List.mem_of_getElem? (i := 30) rfl)) (hw _ (List.mem_of_getElem? (i := 2) rfl)) (by decide) (by decide)) (g := (mkF m 22 #[.val (.ref ob), .val (.long kk), .second, .val (.long x), .second, .unset] [(.long kk), (.ref ai)])) rfl (by rw [hml]; rfl) (argsL := [(.ref ai), (.long kk)]) (rest := []) (lenOf pd7_0 rfl) rfl (by show 2 * 0 + _ ≤ _; exact Nat.le_of_eq rfl) (hb hby d7_22) (fun _ _ => ⟨rfl, e20, (by decide : 0 + 0 ≤ _), (by decide : 0 + 0 ≤ _)⟩)
    dsimp only [Pt.U, Pt.locs, Pt.cells, Pt.slots] at X21 l21 y21 z21 st21 hQ21
    rw [l21, y21, z21] at X21
    obtain ⟨rfl, N21q, hh21⟩ := hQ21
    have N21 := Fr.app N0 N21q
    refine own_st st21 ?_
    show own_Go p.tables e below _ (T21.setTop (mkF m 25 #[.val (.ref ob), .val (.long kk), .second, .val (.long x), .second, .unset] [(.int (Int32.ofNat (own_pl kk D)))]))
    obtain ⟨v22, qv22⟩ : ∃ z : Int32, z = (Int32.ofNat (own_pl kk D)) := ⟨_, rfl⟩
    show own_Go p.tables e below _ (T21.setTop (mkF m 25 #[.val (.ref ob), .val (.long kk), .second, .val (.long x), .second, .unset] [(.int (Int32.ofNat (own_pl kk D)))]))
    rw [← qv22]
    refine own_st (S' := T21.setTop (mkF m 27 #[.val (.ref ob), .val (.long kk), .second, .val (.long x), .second, .val (.int v22)] [])) (fun t k => XS.istore X21.here hx rfl (hb hby d7_25) rfl (l' := #[.val (.ref ob), .val (.long kk), .second, .val (.long x), .second, .val (.int v22)]) rfl k) ?_
    refine own_st (S' := T21.setTop (mkF m 28 #[.val (.ref ob), .val (.long kk), .second, .val (.long x), .second, .val (.int v22)] [(.ref ob)])) (fun t k => XS.aloadN X21.here hx rfl (hb hby d7_27) rfl rfl k) ?_
    obtain ⟨T23, X23, e23, st23⟩ := getF X21 hx hZ hown (host := "") (Or.inl (hw _ (List.mem_of_getElem? (i := 12) rfl))) Via.refl hh21 F_ob_values (g := (mkF m 28 #[.val (.ref ob), .val (.long kk), .second, .val (.long x), .second, .val (.int v22)] [(.ref ob)])) rfl rfl (hb hby d7_28)
    refine own_st st23 ?_
    show own_Go p.tables e below _ (T23.setTop (mkF m 31 #[.val (.ref ob), .val (.long kk), .second, .val (.long x), .second, .val (.int v22)] [(.ref av)]))
    refine own_st (S' := T23.setTop (mkF m 33 #[.val (.ref ob), .val (.long kk), .second, .val (.long x), .second, .val (.int v22)] [(.int v22), (.ref av)])) (fun t k => XS.iload X23.here hx rfl (hb hby d7_31) rfl k) ?_
    refine own_st (S' := T23.setTop (mkF m 34 #[.val (.ref ob), .val (.long kk), .second, .val (.long x), .second, .val (.int v22)] [(.long x), (.int v22), (.ref av)])) (fun t k => XS.lloadN X23.here hx rfl (hb hby d7_33) rfl k) ?_
    have O24 := A_av
    obtain ⟨c24, Ar24, S24, M24, V24⟩ := O24
    obtain ⟨T24, h24, X24, e24, W24, st24⟩ := stJ X23 hx hZ e23 Ar24 (j := v22) (own_in S24 (by rw [qv22]; exact own_ixJ (own_pl_lt kk D))) (g := (mkF m 34 #[.val (.ref ob), .val (.long kk), .second, .val (.long x), .second, .val (.int v22)] [(.long x), (.int v22), (.ref av)])) rfl rfl (hb hby d7_34)
    refine own_st st24 ?_
    have f25 : Exa Z h24 ob "com/example/gaithersburg/gaithersburg/IdMap" := E_ob.wr W24
    have f26 : Fld Z h24 ob "com/example/gaithersburg/gaithersburg/IdMap" "ids" "[J" (.ref ai) := F_ob_ids.other W24 (Or.inl ne_ob_av)
    have f27 : Fld Z h24 ob "com/example/gaithersburg/gaithersburg/IdMap" "values" "[J" (.ref av) := F_ob_values.other W24 (Or.inl ne_ob_av)
    have f28 : Fld Z h24 ob "com/example/gaithersburg/gaithersburg/IdMap" "held" "I" (.int w) := F_ob_held.other W24 (Or.inl ne_ob_av)
    have f29 : Fld Z h24 ob "com/example/gaithersburg/gaithersburg/IdMap" "holdsFree" "Z" (.int zf) := F_ob_holdsFree.other W24 (Or.inl ne_ob_av)
    have f30 : Fld Z h24 ob "com/example/gaithersburg/gaithersburg/IdMap" "freeValue" "J" (.long u) := F_ob_freeValue.other W24 (Or.inl ne_ob_av)
    have f31 : own_A Z h24 ai .long 16 (own_J f) := A_ai.other W24 ne_ai_av
    have Z24 : n0 ≤ h24.size := Nat.le_trans Z0 (Keep.of_wr W24).1
    have N24 := Fr.snoc X24 N21 G_av
    have K24 : Keep h0 h24 [ob, ai, av] := K0.wr W24 (Or.inl (List.mem_of_getElem? (i := 2) rfl))
    have f32 : own_A Z h24 av .long 16 (own_J (own_uJ g (own_pl kk D) x)) := by rw [← own_upJ]; exact own_A.set ⟨c24, Ar24, S24, M24, V24⟩ (by rw [qv22]; exact own_ixJ (own_pl_lt kk D)) W24
    show own_Go p.tables e below _ (T24.setTop (mkF m 35 #[.val (.ref ob), .val (.long kk), .second, .val (.long x), .second, .val (.int v22)] []))
    refine own_st (S' := T24.setTop (mkF m 36 #[.val (.ref ob), .val (.long kk), .second, .val (.long x), .second, .val (.int v22)] [(.ref ob)])) (fun t k => XS.aloadN X24.here hx rfl (hb hby d7_35) rfl rfl k) ?_
    obtain ⟨T33, X33, e33, st33⟩ := getF X24 hx hZ hown (host := "") (Or.inl (hw _ (List.mem_of_getElem? (i := 10) rfl))) Via.refl e24 f26 (g := (mkF m 36 #[.val (.ref ob), .val (.long kk), .second, .val (.long x), .second, .val (.int v22)] [(.ref ob)])) rfl rfl (hb hby d7_36)
    refine own_st st33 ?_
    show own_Go p.tables e below _ (T33.setTop (mkF m 39 #[.val (.ref ob), .val (.long kk), .second, .val (.long x), .second, .val (.int v22)] [(.ref ai)]))
    refine own_st (S' := T33.setTop (mkF m 41 #[.val (.ref ob), .val (.long kk), .second, .val (.long x), .second, .val (.int v22)] [(.int v22), (.ref ai)])) (fun t k => XS.iload X33.here hx rfl (hb hby d7_39) rfl k) ?_
    have O34 := f31
    obtain ⟨c34, Ar34, S34, M34, V34⟩ := O34
    have at34 : c34.slots[(v22).toNatClampNeg]? = some (.long (f (own_pl kk D))) := own_at S34 V34 (by rw [qv22]; exact own_ixJ (own_pl_lt kk D)) rfl
    refine own_st (S' := T33.setTop (mkF m 42 #[.val (.ref ob), .val (.long kk), .second, .val (.long x), .second, .val (.int v22)] [(.long (f (own_pl kk D)))])) (fun t k => X33.laload hx (j := v22) (v := (.long (f (own_pl kk D)))) (by rw [e33]; exact Ar34.1) (State.isArrayOf_alike hZ.alike Ar34.2.1) Ar34.2.2 (own_in S34 (by rw [qv22]; exact own_ixJ (own_pl_lt kk D))) at34 (g := (mkF m 41 #[.val (.ref ob), .val (.long kk), .second, .val (.long x), .second, .val (.int v22)] [(.int v22), (.ref ai)])) rfl rfl (hb hby d7_41) _ k) ?_
    refine own_st (S' := T33.setTop (mkF m 43 #[.val (.ref ob), .val (.long kk), .second, .val (.long x), .second, .val (.int v22)] [(.long kk), (.long (f (own_pl kk D)))])) (fun t k => XS.lloadN X33.here hx rfl (hb hby d7_42) rfl k) ?_
    refine own_st (S' := T33.setTop (mkF m 44 #[.val (.ref ob), .val (.long kk), .second, .val (.long x), .second, .val (.int v22)] [(.int (lcmpW (f (own_pl kk D)) kk))])) (fun t k => XS.lcmp X33.here hx rfl (hb hby d7_43) rfl k) ?_
    by_cases hc35 : (f (own_pl kk D)) = kk
    · refine own_st (S' := T33.setTop (mkF m 47 #[.val (.ref ob), .val (.long kk), .second, .val (.long x), .second, .val (.int v22)] [])) (fun t k => XS.ifNo X33.here hx rfl (hb hby d7_44) rfl ((if0 _ _).trans (teq ((lw_eq _ _).mpr hc35)).2) k) ?_
      show own_Go p.tables e below _ (T33.setTop (mkF m 47 #[.val (.ref ob), .val (.long kk), .second, .val (.long x), .second, .val (.int v22)] []))
      refine own_retV X33 hx hret hlk (hb hby d7_47) ?_ (by decide) (by decide)
      rw [e33]
      exact ⟨f, (own_uJ g (own_pl kk D) x), w, zf, u, rfl, N24, K24, f25, f26, f27, f28, f29, f30, f31, f32, (Or.inr ⟨hc1, rfl, D, hD, Or.inl ⟨hc35, rfl, rfl⟩⟩)⟩
    · refine own_st (S' := T33.setTop (mkF m 48 #[.val (.ref ob), .val (.long kk), .second, .val (.long x), .second, .val (.int v22)] [])) (fun t k => XS.ifYes X33.here hx rfl (pc0 := 44) (pc' := 48) rfl (hb hby d7_44) rfl ((if0 _ _).trans (feq (mt (lw_eq _ _).mp hc35)).2) (by decide) (by decide) k) ?_
      show own_Go p.tables e below _ (T33.setTop (mkF m 48 #[.val (.ref ob), .val (.long kk), .second, .val (.long x), .second, .val (.int v22)] []))
      refine own_st (S' := T33.setTop (mkF m 49 #[.val (.ref ob), .val (.long kk), .second, .val (.long x), .second, .val (.int v22)] [(.ref ob)])) (fun t k => XS.aloadN X33.here hx rfl (hb hby d7_48) rfl rfl k) ?_
      obtain ⟨T36, X36, e36, st36⟩ := getF X33 hx hZ hown (host := "") (Or.inl (hw _ (List.mem_of_getElem? (i := 10) rfl))) Via.refl e33 f26 (g := (mkF m 49 #[.val (.ref ob), .val (.long kk), .second, .val (.long x), .second, .val (.int v22)] [(.ref ob)])) rfl rfl (hb hby d7_49)
      refine own_st st36 ?_
      show own_Go p.tables e below _ (T36.setTop (mkF m 52 #[.val (.ref ob), .val (.long kk), .second, .val (.long x), .second, .val (.int v22)] [(.ref ai)]))
      refine own_st (S' := T36.setTop (mkF m 54 #[.val (.ref ob), .val (.long kk), .second, .val (.long x), .second, .val (.int v22)] [(.int v22), (.ref ai)])) (fun t k => XS.iload X36.here hx rfl (hb hby d7_52) rfl k) ?_
      refine own_st (S' := T36.setTop (mkF m 55 #[.val (.ref ob), .val (.long kk), .second, .val (.long x), .second, .val (.int v22)] [(.long kk), (.int v22), (.ref ai)])) (fun t k => XS.lloadN X36.here hx rfl (hb hby d7_54) rfl k) ?_
      have O37 := f31
      obtain ⟨c37, Ar37, S37, M37, V37⟩ := O37
      obtain ⟨T37, h37, X37, e37, W37, st37⟩ := stJ X36 hx hZ e36 Ar37 (j := v22) (own_in S37 (by rw [qv22]; exact own_ixJ (own_pl_lt kk D))) (g := (mkF m 55 #[.val (.ref ob), .val (.long kk), .second, .val (.long x), .second, .val (.int v22)] [(.long kk), (.int v22), (.ref ai)])) rfl rfl (hb hby d7_55)
      refine own_st st37 ?_
      have f38 : Exa Z h37 ob "com/example/gaithersburg/gaithersburg/IdMap" := f25.wr W37
      have f39 : Fld Z h37 ob "com/example/gaithersburg/gaithersburg/IdMap" "ids" "[J" (.ref ai) := f26.other W37 (Or.inl ne_ob_ai)
      have f40 : Fld Z h37 ob "com/example/gaithersburg/gaithersburg/IdMap" "values" "[J" (.ref av) := f27.other W37 (Or.inl ne_ob_ai)
      have f41 : Fld Z h37 ob "com/example/gaithersburg/gaithersburg/IdMap" "held" "I" (.int w) := f28.other W37 (Or.inl ne_ob_ai)
      have f42 : Fld Z h37 ob "com/example/gaithersburg/gaithersburg/IdMap" "holdsFree" "Z" (.int zf) := f29.other W37 (Or.inl ne_ob_ai)
      have f43 : Fld Z h37 ob "com/example/gaithersburg/gaithersburg/IdMap" "freeValue" "J" (.long u) := f30.other W37 (Or.inl ne_ob_ai)
      have f44 : own_A Z h37 av .long 16 (own_J (own_uJ g (own_pl kk D) x)) := f32.other W37 (Ne.symm ne_ai_av)
      have Z37 : n0 ≤ h37.size := Nat.le_trans Z24 (Keep.of_wr W37).1
      have N37 := Fr.snoc X37 N24 G_ai
      have K37 : Keep h0 h37 [ob, ai, av] := K24.wr W37 (Or.inl (List.mem_of_getElem? (i := 1) rfl))
      have f45 : own_A Z h37 ai .long 16 (own_J (own_uJ f (own_pl kk D) kk)) := by rw [← own_upJ]; exact own_A.set ⟨c37, Ar37, S37, M37, V37⟩ (by rw [qv22]; exact own_ixJ (own_pl_lt kk D)) W37
      show own_Go p.tables e below _ (T37.setTop (mkF m 56 #[.val (.ref ob), .val (.long kk), .second, .val (.long x), .second, .val (.int v22)] []))
      refine own_st (S' := T37.setTop (mkF m 57 #[.val (.ref ob), .val (.long kk), .second, .val (.long x), .second, .val (.int v22)] [(.ref ob)])) (fun t k => XS.aloadN X37.here hx rfl (hb hby d7_56) rfl rfl k) ?_
      refine own_st (S' := T37.setTop (mkF m 58 #[.val (.ref ob), .val (.long kk), .second, .val (.long x), .second, .val (.int v22)] [(.ref ob), (.ref ob)])) (fun t k => XS.dup X37.here hx rfl (hb hby d7_57) rfl rfl k) ?_
      obtain ⟨T46, X46, e46, st46⟩ := getF X37 hx hZ hown (host := "") (Or.inl (hw _ (List.mem_of_getElem? (i := 19) rfl))) Via.refl e37 f41 (g := (mkF m 58 #[.val (.ref ob), .val (.long kk), .second, .val (.long x), .second, .val (.int v22)] [(.ref ob), (.ref ob)])) rfl rfl (hb hby d7_58)
      refine own_st st46 ?_
      show own_Go p.tables e below _ (T46.setTop (mkF m 61 #[.val (.ref ob), .val (.long kk), .second, .val (.long x), .second, .val (.int v22)] [(.int w), (.ref ob)]))
      refine own_st (S' := T46.setTop (mkF m 62 #[.val (.ref ob), .val (.long kk), .second, .val (.long x), .second, .val (.int v22)] [(.int (1 : Int32)), (.int w), (.ref ob)])) (fun t k => XS.iconst X46.here hx rfl (hb hby d7_61) k) ?_
      refine own_st (S' := T46.setTop (mkF m 63 #[.val (.ref ob), .val (.long kk), .second, .val (.long x), .second, .val (.int v22)] [(.int (w + (1 : Int32))), (.ref ob)])) (fun t k => XS.iadd X46.here hx rfl (hb hby d7_62) rfl k) ?_
      obtain ⟨T47, h47, X47, e47, W47, st47⟩ := putF X46 hx hZ hown (host := "") (Or.inl (hw _ (List.mem_of_getElem? (i := 19) rfl))) Via.refl e46 f41 f38 (Or.inl (hw _ (List.mem_of_getElem? (i := 20) rfl))) (hw _ (List.mem_of_getElem? (i := 1) rfl)) (ty := .int) (by decide) rfl rfl (g := (mkF m 63 #[.val (.ref ob), .val (.long kk), .second, .val (.long x), .second, .val (.int v22)] [(.int (w + (1 : Int32))), (.ref ob)])) rfl rfl (hb hby d7_63)
      refine own_st st47 ?_
      have f48 : Exa Z h47 ob "com/example/gaithersburg/gaithersburg/IdMap" := f38.wr W47
      have f49 : Fld Z h47 ob "com/example/gaithersburg/gaithersburg/IdMap" "ids" "[J" (.ref ai) := f39.other W47 (Or.inr (slot_ne (Or.inl (hw _ (List.mem_of_getElem? (i := 11) rfl))) (Or.inl (hw _ (List.mem_of_getElem? (i := 20) rfl))) (by decide) (t := (.array .long)) (t' := .int) (by decide) (by decide)))
      have f50 : Fld Z h47 ob "com/example/gaithersburg/gaithersburg/IdMap" "values" "[J" (.ref av) := f40.other W47 (Or.inr (slot_ne (Or.inl (hw _ (List.mem_of_getElem? (i := 13) rfl))) (Or.inl (hw _ (List.mem_of_getElem? (i := 20) rfl))) (by decide) (t := (.array .long)) (t' := .int) (by decide) (by decide)))
      have f51 : Fld Z h47 ob "com/example/gaithersburg/gaithersburg/IdMap" "holdsFree" "Z" (.int zf) := f42.other W47 (Or.inr (slot_ne (Or.inl (hw _ (List.mem_of_getElem? (i := 22) rfl))) (Or.inl (hw _ (List.mem_of_getElem? (i := 20) rfl))) (by decide) (t := .boolean) (t' := .int) (by decide) (by decide)))
      have f52 : Fld Z h47 ob "com/example/gaithersburg/gaithersburg/IdMap" "freeValue" "J" (.long u) := f43.other W47 (Or.inr (slot_ne (Or.inl (hw _ (List.mem_of_getElem? (i := 47) rfl))) (Or.inl (hw _ (List.mem_of_getElem? (i := 20) rfl))) (by decide) (t := .long) (t' := .int) (by decide) (by decide)))
      have f53 : own_A Z h47 ai .long 16 (own_J (own_uJ f (own_pl kk D) kk)) := f45.other W47 (Ne.symm ne_ob_ai)
      have f54 : own_A Z h47 av .long 16 (own_J (own_uJ g (own_pl kk D) x)) := f44.other W47 (Ne.symm ne_ob_av)
      have Z47 : n0 ≤ h47.size := Nat.le_trans Z37 (Keep.of_wr W47).1
      have N47 := Fr.snoc X47 N37 G_ob
      have K47 : Keep h0 h47 [ob, ai, av] := K37.wr W47 (Or.inl (List.mem_of_getElem? (i := 0) rfl))
      have f55 : Fld Z h47 ob "com/example/gaithersburg/gaithersburg/IdMap" "held" "I" (.int (w + (1 : Int32))) := f41.same W47
      show own_Go p.tables e below _ (T47.setTop (mkF m 66 #[.val (.ref ob), .val (.long kk), .second, .val (.long x), .second, .val (.int v22)] []))
      refine own_st (S' := T47.setTop (mkF m 67 #[.val (.ref ob), .val (.long kk), .second, .val (.long x), .second, .val (.int v22)] [(.ref ob)])) (fun t k => XS.aloadN X47.here hx rfl (hb hby d7_66) rfl rfl k) ?_
      obtain ⟨T56, X56, e56, st56⟩ := getF X47 hx hZ hown (host := "") (Or.inl (hw _ (List.mem_of_getElem? (i := 19) rfl))) Via.refl e47 f55 (g := (mkF m 67 #[.val (.ref ob), .val (.long kk), .second, .val (.long x), .second, .val (.int v22)] [(.ref ob)])) rfl rfl (hb hby d7_67)
      refine own_st st56 ?_
      show own_Go p.tables e below _ (T56.setTop (mkF m 70 #[.val (.ref ob), .val (.long kk), .second, .val (.long x), .second, .val (.int v22)] [(.int (w + (1 : Int32)))]))
      refine own_st (S' := T56.setTop (mkF m 71 #[.val (.ref ob), .val (.long kk), .second, .val (.long x), .second, .val (.int v22)] [(.int (2 : Int32)), (.int (w + (1 : Int32)))])) (fun t k => XS.iconst X56.here hx rfl (hb hby d7_70) k) ?_
      refine own_st (S' := T56.setTop (mkF m 72 #[.val (.ref ob), .val (.long kk), .second, .val (.long x), .second, .val (.int v22)] [(.int ((w + (1 : Int32)) * (2 : Int32)))])) (fun t k => XS.imul X56.here hx rfl (hb hby d7_71) rfl k) ?_
      refine own_st (S' := T56.setTop (mkF m 73 #[.val (.ref ob), .val (.long kk), .second, .val (.long x), .second, .val (.int v22)] [(.ref ob), (.int ((w + (1 : Int32)) * (2 : Int32)))])) (fun t k => XS.aloadN X56.here hx rfl (hb hby d7_72) rfl rfl k) ?_
      obtain ⟨T57, X57, e57, st57⟩ := getF X56 hx hZ hown (host := "") (Or.inl (hw _ (List.mem_of_getElem? (i := 10) rfl))) Via.refl e56 f49 (g := (mkF m 73 #[.val (.ref ob), .val (.long kk), .second, .val (.long x), .second, .val (.int v22)] [(.ref ob), (.int ((w + (1 : Int32)) * (2 : Int32)))])) rfl rfl (hb hby d7_73)
      refine own_st st57 ?_
      show own_Go p.tables e below _ (T57.setTop (mkF m 76 #[.val (.ref ob), .val (.long kk), .second, .val (.long x), .second, .val (.int v22)] [(.ref ai), (.int ((w + (1 : Int32)) * (2 : Int32)))]))
      have O58 := f53
      obtain ⟨c58, Ar58, S58, M58, V58⟩ := O58
      have ln58 : c58.slots.size.toInt32 = (16 : Int32) := by rw [S58]; first | rfl | decide | exact rfl
      refine own_st (S' := T57.setTop (mkF m 77 #[.val (.ref ob), .val (.long kk), .second, .val (.long x), .second, .val (.int v22)] [(.int (16 : Int32)), (.int ((w + (1 : Int32)) * (2 : Int32)))])) (fun t k => X57.arraylength hx (by rw [e57]; exact Ar58.1) (State.isArrayOf_alike hZ.alike Ar58.2.1) (g := (mkF m 76 #[.val (.ref ob), .val (.long kk), .second, .val (.long x), .second, .val (.int v22)] [(.ref ai), (.int ((w + (1 : Int32)) * (2 : Int32)))])) rfl rfl (hb hby d7_76) _ (by rw [ln58]; exact k)) ?_
      have hc59 : ¬ ((16 : Int32) < ((w + (1 : Int32)) * (2 : Int32))) := by exact Int32.not_lt.mpr (own_cap hB)
      refine own_st (S' := T57.setTop (mkF m 84 #[.val (.ref ob), .val (.long kk), .second, .val (.long x), .second, .val (.int v22)] [])) (fun t k => XS.icmpYes X57.here hx rfl (pc0 := 77) (pc' := 84) rfl (hb hby d7_77) rfl (flt hc59).2.2.2 (by decide) (by decide) k) ?_
      show own_Go p.tables e below _ (T57.setTop (mkF m 84 #[.val (.ref ob), .val (.long kk), .second, .val (.long x), .second, .val (.int v22)] []))
      refine own_retV X57 hx hret hlk (hb hby d7_84) ?_ (by decide) (by decide)
      rw [e57]
      exact ⟨(own_uJ f (own_pl kk D) kk), (own_uJ g (own_pl kk D) x), (w + (1 : Int32)), zf, u, rfl, N47, K47, f48, f49, f50, f55, f51, f52, f53, f54, (Or.inr ⟨hc1, rfl, D, hD, Or.inr ⟨hc35, rfl, rfl⟩⟩)⟩
theorem d8_0 : decode prog_15_method_6_code 0 = .ok (.lload_n 1, 1) := by decide +kernel
theorem d8_1 : decode prog_15_method_6_code 1 = .ok (.lconst 0, 1) := by decide +kernel
theorem d8_2 : decode prog_15_method_6_code 2 = .ok (.lcmp, 1) := by decide +kernel
theorem d8_3 : decode prog_15_method_6_code 3 = .ok (.ifCond .ne 9, 3) := by decide +kernel
theorem d8_6 : decode prog_15_method_6_code 6 = .ok (.aload_n 0, 1) := by decide +kernel
theorem d8_7 : decode prog_15_method_6_code 7 = .ok (.iconst 0, 1) := by decide +kernel
theorem d8_8 : decode prog_15_method_6_code 8 = .ok (.putfield 16, 3) := by decide +kernel
theorem d8_11 : decode prog_15_method_6_code 11 = .ok (.return_, 1) := by decide +kernel
theorem d8_12 : decode prog_15_method_6_code 12 = .ok (.aload_n 0, 1) := by decide +kernel
theorem d8_13 : decode prog_15_method_6_code 13 = .ok (.getfield 7, 3) := by decide +kernel
theorem d8_16 : decode prog_15_method_6_code 16 = .ok (.lload_n 1, 1) := by decide +kernel
theorem d8_17 : decode prog_15_method_6_code 17 = .ok (.invokestatic 24, 3) := by decide +kernel
theorem d8_20 : decode prog_15_method_6_code 20 = .ok (.istore_n 3, 1) := by decide +kernel
theorem d8_21 : decode prog_15_method_6_code 21 = .ok (.aload_n 0, 1) := by decide +kernel
theorem d8_22 : decode prog_15_method_6_code 22 = .ok (.getfield 7, 3) := by decide +kernel
theorem d8_25 : decode prog_15_method_6_code 25 = .ok (.iload_n 3, 1) := by decide +kernel
theorem d8_26 : decode prog_15_method_6_code 26 = .ok (.laload, 1) := by decide +kernel
theorem d8_27 : decode prog_15_method_6_code 27 = .ok (.lload_n 1, 1) := by decide +kernel
theorem d8_28 : decode prog_15_method_6_code 28 = .ok (.lcmp, 1) := by decide +kernel
theorem d8_29 : decode prog_15_method_6_code 29 = .ok (.ifCond .eq 4, 3) := by decide +kernel
theorem d8_32 : decode prog_15_method_6_code 32 = .ok (.return_, 1) := by decide +kernel
theorem d8_33 : decode prog_15_method_6_code 33 = .ok (.aload_n 0, 1) := by decide +kernel
theorem d8_34 : decode prog_15_method_6_code 34 = .ok (.dup, 1) := by decide +kernel
theorem d8_35 : decode prog_15_method_6_code 35 = .ok (.getfield 28, 3) := by decide +kernel
theorem d8_38 : decode prog_15_method_6_code 38 = .ok (.iconst 1, 1) := by decide +kernel
theorem d8_39 : decode prog_15_method_6_code 39 = .ok (.isub, 1) := by decide +kernel
theorem d8_40 : decode prog_15_method_6_code 40 = .ok (.putfield 28, 3) := by decide +kernel
theorem d8_43 : decode prog_15_method_6_code 43 = .ok (.aload_n 0, 1) := by decide +kernel
theorem d8_44 : decode prog_15_method_6_code 44 = .ok (.getfield 7, 3) := by decide +kernel
theorem d8_47 : decode prog_15_method_6_code 47 = .ok (.arraylength, 1) := by decide +kernel
theorem d8_48 : decode prog_15_method_6_code 48 = .ok (.iconst 1, 1) := by decide +kernel
theorem d8_49 : decode prog_15_method_6_code 49 = .ok (.isub, 1) := by decide +kernel
theorem d8_50 : decode prog_15_method_6_code 50 = .ok (.istore 4, 2) := by decide +kernel
theorem d8_52 : decode prog_15_method_6_code 52 = .ok (.iload_n 3, 1) := by decide +kernel
theorem d8_53 : decode prog_15_method_6_code 53 = .ok (.iconst 1, 1) := by decide +kernel
theorem d8_54 : decode prog_15_method_6_code 54 = .ok (.iadd, 1) := by decide +kernel
theorem d8_55 : decode prog_15_method_6_code 55 = .ok (.iload 4, 2) := by decide +kernel
theorem d8_57 : decode prog_15_method_6_code 57 = .ok (.iand, 1) := by decide +kernel
theorem d8_58 : decode prog_15_method_6_code 58 = .ok (.istore 5, 2) := by decide +kernel
theorem d8_60 : decode prog_15_method_6_code 60 = .ok (.aload_n 0, 1) := by decide +kernel
theorem d8_61 : decode prog_15_method_6_code 61 = .ok (.getfield 7, 3) := by decide +kernel
theorem d8_64 : decode prog_15_method_6_code 64 = .ok (.iload 5, 2) := by decide +kernel
theorem d8_66 : decode prog_15_method_6_code 66 = .ok (.laload, 1) := by decide +kernel
theorem d8_67 : decode prog_15_method_6_code 67 = .ok (.lconst 0, 1) := by decide +kernel
theorem d8_68 : decode prog_15_method_6_code 68 = .ok (.lcmp, 1) := by decide +kernel
theorem d8_69 : decode prog_15_method_6_code 69 = .ok (.ifCond .eq 78, 3) := by decide +kernel
theorem d8_72 : decode prog_15_method_6_code 72 = .ok (.aload_n 0, 1) := by decide +kernel
theorem d8_73 : decode prog_15_method_6_code 73 = .ok (.getfield 7, 3) := by decide +kernel
theorem d8_76 : decode prog_15_method_6_code 76 = .ok (.aload_n 0, 1) := by decide +kernel
theorem d8_77 : decode prog_15_method_6_code 77 = .ok (.getfield 7, 3) := by decide +kernel
theorem d8_80 : decode prog_15_method_6_code 80 = .ok (.iload 5, 2) := by decide +kernel
theorem d8_82 : decode prog_15_method_6_code 82 = .ok (.laload, 1) := by decide +kernel
theorem d8_83 : decode prog_15_method_6_code 83 = .ok (.invokestatic 35, 3) := by decide +kernel
theorem d8_86 : decode prog_15_method_6_code 86 = .ok (.istore 6, 2) := by decide +kernel
theorem d8_88 : decode prog_15_method_6_code 88 = .ok (.iload 5, 2) := by decide +kernel
theorem d8_90 : decode prog_15_method_6_code 90 = .ok (.iload 6, 2) := by decide +kernel
theorem d8_92 : decode prog_15_method_6_code 92 = .ok (.isub, 1) := by decide +kernel
theorem d8_93 : decode prog_15_method_6_code 93 = .ok (.iload 4, 2) := by decide +kernel
theorem d8_95 : decode prog_15_method_6_code 95 = .ok (.iand, 1) := by decide +kernel
theorem d8_96 : decode prog_15_method_6_code 96 = .ok (.iload 5, 2) := by decide +kernel
theorem d8_98 : decode prog_15_method_6_code 98 = .ok (.iload_n 3, 1) := by decide +kernel
theorem d8_99 : decode prog_15_method_6_code 99 = .ok (.isub, 1) := by decide +kernel
theorem d8_100 : decode prog_15_method_6_code 100 = .ok (.iload 4, 2) := by decide +kernel
theorem d8_102 : decode prog_15_method_6_code 102 = .ok (.iand, 1) := by decide +kernel
theorem d8_103 : decode prog_15_method_6_code 103 = .ok (.if_icmp .lt 32, 3) := by decide +kernel
theorem d8_106 : decode prog_15_method_6_code 106 = .ok (.aload_n 0, 1) := by decide +kernel
theorem d8_107 : decode prog_15_method_6_code 107 = .ok (.getfield 7, 3) := by decide +kernel
theorem d8_110 : decode prog_15_method_6_code 110 = .ok (.iload_n 3, 1) := by decide +kernel
theorem d8_111 : decode prog_15_method_6_code 111 = .ok (.aload_n 0, 1) := by decide +kernel
theorem d8_112 : decode prog_15_method_6_code 112 = .ok (.getfield 7, 3) := by decide +kernel
theorem d8_115 : decode prog_15_method_6_code 115 = .ok (.iload 5, 2) := by decide +kernel
theorem d8_117 : decode prog_15_method_6_code 117 = .ok (.laload, 1) := by decide +kernel
theorem d8_118 : decode prog_15_method_6_code 118 = .ok (.lastore, 1) := by decide +kernel
theorem d8_119 : decode prog_15_method_6_code 119 = .ok (.aload_n 0, 1) := by decide +kernel
theorem d8_120 : decode prog_15_method_6_code 120 = .ok (.getfield 13, 3) := by decide +kernel
theorem d8_123 : decode prog_15_method_6_code 123 = .ok (.iload_n 3, 1) := by decide +kernel
theorem d8_124 : decode prog_15_method_6_code 124 = .ok (.aload_n 0, 1) := by decide +kernel
theorem d8_125 : decode prog_15_method_6_code 125 = .ok (.getfield 13, 3) := by decide +kernel
theorem d8_128 : decode prog_15_method_6_code 128 = .ok (.iload 5, 2) := by decide +kernel
theorem d8_130 : decode prog_15_method_6_code 130 = .ok (.laload, 1) := by decide +kernel
theorem d8_131 : decode prog_15_method_6_code 131 = .ok (.lastore, 1) := by decide +kernel
theorem d8_132 : decode prog_15_method_6_code 132 = .ok (.iload 5, 2) := by decide +kernel
theorem d8_134 : decode prog_15_method_6_code 134 = .ok (.istore_n 3, 1) := by decide +kernel
theorem d8_135 : decode prog_15_method_6_code 135 = .ok (.iload 5, 2) := by decide +kernel
theorem d8_137 : decode prog_15_method_6_code 137 = .ok (.iconst 1, 1) := by decide +kernel
theorem d8_138 : decode prog_15_method_6_code 138 = .ok (.iadd, 1) := by decide +kernel
theorem d8_139 : decode prog_15_method_6_code 139 = .ok (.iload 4, 2) := by decide +kernel
theorem d8_141 : decode prog_15_method_6_code 141 = .ok (.iand, 1) := by decide +kernel
theorem d8_142 : decode prog_15_method_6_code 142 = .ok (.istore 5, 2) := by decide +kernel
theorem d8_144 : decode prog_15_method_6_code 144 = .ok (.goto (-84), 3) := by decide +kernel
theorem d8_147 : decode prog_15_method_6_code 147 = .ok (.aload_n 0, 1) := by decide +kernel
theorem d8_148 : decode prog_15_method_6_code 148 = .ok (.getfield 7, 3) := by decide +kernel
theorem d8_151 : decode prog_15_method_6_code 151 = .ok (.iload_n 3, 1) := by decide +kernel
theorem d8_152 : decode prog_15_method_6_code 152 = .ok (.lconst 0, 1) := by decide +kernel
theorem d8_153 : decode prog_15_method_6_code 153 = .ok (.lastore, 1) := by decide +kernel
theorem d8_154 : decode prog_15_method_6_code 154 = .ok (.return_, 1) := by decide +kernel
theorem pd8_0 : parseMethodDescriptor "([JJ)I" = some ⟨[(.array .long), .long], some .int⟩ := by decide +kernel
theorem pn8 : plainName "com/example/gaithersburg/gaithersburg/IdMap" = true := by first | (simp [plainName, overriddenIn]; done) | decide +kernel
theorem ef8 (m : MethodId) (ob : Addr) (kk : Int64) : entryFrame m #[(.ref ob), (.long kk)] 7 = mkF m 0 #[.val (.ref ob), .val (.long kk), .second, .unset, .unset, .unset, .unset] [] := by first | (simp [entryFrame, mkF, argsToLocals, Value.category]; done) | rfl
def Q8 (Z : State) (ob : Addr) (kk : Int64) (ai : Addr) (av : Addr) (w : Int32) (zf : Int32) (u : Int64) (f : Nat → Int64) (g : Nat → Int64) (h0 : Heap) (n0 : Nat) (v : Option Value) (h : Heap) (L : List Loc) : Prop := ∃ (fo : Nat → Int64) (go : Nat → Int64) (wo : Int32) (zo : Int32) (uo : Int64), v = none ∧ Fr n0 L ∧ Keep h0 h [ob, ai, av] ∧ Exa Z h ob "com/example/gaithersburg/gaithersburg/IdMap" ∧ Fld Z h ob "com/example/gaithersburg/gaithersburg/IdMap" "ids" "[J" (.ref ai) ∧ Fld Z h ob "com/example/gaithersburg/gaithersburg/IdMap" "values" "[J" (.ref av) ∧ Fld Z h ob "com/example/gaithersburg/gaithersburg/IdMap" "held" "I" (.int wo) ∧ Fld Z h ob "com/example/gaithersburg/gaithersburg/IdMap" "holdsFree" "Z" (.int zo) ∧ Fld Z h ob "com/example/gaithersburg/gaithersburg/IdMap" "freeValue" "J" (.long uo) ∧ own_A Z h ai .long 16 (own_J fo) ∧ own_A Z h av .long 16 (own_J go) ∧ own_Rem f w zf kk fo wo zo
set_option maxRecDepth 65536 in
set_option maxHeartbeats 40000000 in
theorem rm8 (l : Launch) (Z : State) (a0 : Array Value) (hw : ∀ d ∈ tables_1, d.before a0 Z = true) (ws : List Jvm.Cond) (ob : Addr) (kk : Int64) (ai : Addr) (av : Addr) (w : Int32) (zf : Int32) (u : Int64) (f : Nat → Int64) (g : Nat → Int64) (h0 : Heap) (n0 : Nat) (Z0 : n0 ≤ h0.size) (E_ob : Exa Z h0 ob "com/example/gaithersburg/gaithersburg/IdMap") (F_ob_ids : Fld Z h0 ob "com/example/gaithersburg/gaithersburg/IdMap" "ids" "[J" (.ref ai)) (F_ob_values : Fld Z h0 ob "com/example/gaithersburg/gaithersburg/IdMap" "values" "[J" (.ref av)) (F_ob_held : Fld Z h0 ob "com/example/gaithersburg/gaithersburg/IdMap" "held" "I" (.int w)) (F_ob_holdsFree : Fld Z h0 ob "com/example/gaithersburg/gaithersburg/IdMap" "holdsFree" "Z" (.int zf)) (F_ob_freeValue : Fld Z h0 ob "com/example/gaithersburg/gaithersburg/IdMap" "freeValue" "J" (.long u)) (A_ai : own_A Z h0 ai .long 16 (own_J f)) (A_av : own_A Z h0 av .long 16 (own_J g)) (G_ob : n0 ≤ ob) (G_ai : n0 ≤ ai) (G_av : n0 ≤ av) (ne_ob_ai : ob ≠ ai) (ne_ob_av : ob ≠ av) (ne_ai_av : ai ≠ av) (hE : own_Emp f) (hG : own_Good f) :
    MetFree l (⟨"com/example/gaithersburg/gaithersburg/IdMap", "remove", "(J)V"⟩ : MethodName) (head1 (Jvm.Cond.code (⟨"com/example/gaithersburg/gaithersburg/IdMap", "remove", "(J)V"⟩ : MethodName) prog_15_method_6_code 7 none :: ws) ({ frames := 4, cells := 0, slots := 0, locals := 60 } : Room)) (fun as' U => as' = #[(.ref ob), (.long kk)] ∧ Z.Warmed39 U.vm ∧ U.heap = h0) (fun _ _ _ _ _ => True) (fun _ U o U' => ∃ v L, o = .returned v ∧ Q8 Z ob kk ai av w zf u f g h0 n0 v U'.heap L ∧ FrameEnd U o U' L ({ frames := 4, cells := 0, slots := 0, locals := 60 } : Room).cells ({ frames := 4, cells := 0, slots := 0, locals := 60 } : Room).slots) := by
  refine own_body (plainFor_of_name pn8) ?_
  intro p e s m below meth c s₁ hx hby hml hown0 hnm hret hlk hZ X0 e0
  have hown : s.vm.findClass "com/example/gaithersburg/gaithersburg/IdMap" = some m.cls := hown0
  have N0 := Fr.nil n0
  rw [ef8]
  have K0 : Keep h0 h0 [ob, ai, av] := Keep.refl h0 [ob, ai, av]
  show own_Go p.tables e below _ (s₁.setTop (mkF m 0 #[.val (.ref ob), .val (.long kk), .second, .unset, .unset, .unset, .unset] []))
  refine own_st (S' := s₁.setTop (mkF m 1 #[.val (.ref ob), .val (.long kk), .second, .unset, .unset, .unset, .unset] [(.long kk)])) (fun t k => XS.lloadN X0.here hx rfl (hb hby d8_0) rfl k) ?_
  refine own_st (S' := s₁.setTop (mkF m 2 #[.val (.ref ob), .val (.long kk), .second, .unset, .unset, .unset, .unset] [(.long (0 : Int64)), (.long kk)])) (fun t k => XS.lconst X0.here hx rfl (hb hby d8_1) k) ?_
  refine own_st (S' := s₁.setTop (mkF m 3 #[.val (.ref ob), .val (.long kk), .second, .unset, .unset, .unset, .unset] [(.int (lcmpW kk (0 : Int64)))])) (fun t k => XS.lcmp X0.here hx rfl (hb hby d8_2) rfl k) ?_
  by_cases hc1 : kk = (0 : Int64)
  · refine own_st (S' := s₁.setTop (mkF m 6 #[.val (.ref ob), .val (.long kk), .second, .unset, .unset, .unset, .unset] [])) (fun t k => XS.ifNo X0.here hx rfl (hb hby d8_3) rfl ((if0 _ _).trans (teq ((lw_eq _ _).mpr hc1)).2) k) ?_
    show own_Go p.tables e below _ (s₁.setTop (mkF m 6 #[.val (.ref ob), .val (.long kk), .second, .unset, .unset, .unset, .unset] []))
    refine own_st (S' := s₁.setTop (mkF m 7 #[.val (.ref ob), .val (.long kk), .second, .unset, .unset, .unset, .unset] [(.ref ob)])) (fun t k => XS.aloadN X0.here hx rfl (hb hby d8_6) rfl rfl k) ?_
    refine own_st (S' := s₁.setTop (mkF m 8 #[.val (.ref ob), .val (.long kk), .second, .unset, .unset, .unset, .unset] [(.int (0 : Int32)), (.ref ob)])) (fun t k => XS.iconst X0.here hx rfl (hb hby d8_7) k) ?_
    obtain ⟨T2, h2, X2, e2, W2, st2⟩ := putFN X0 hx hZ hown (hw _ (List.mem_of_getElem? (i := 21) rfl)) Via.refl e0 F_ob_holdsFree E_ob (Or.inl (hw _ (List.mem_of_getElem? (i := 22) rfl))) (hw _ (List.mem_of_getElem? (i := 1) rfl)) (ty := .boolean) (v' := (.int (0 : Int32))) (by decide) rfl (by first | rfl | decide) (g := (mkF m 8 #[.val (.ref ob), .val (.long kk), .second, .unset, .unset, .unset, .unset] [(.int (0 : Int32)), (.ref ob)])) rfl rfl (hb hby d8_8)
    refine own_st st2 ?_
    have f3 : Exa Z h2 ob "com/example/gaithersburg/gaithersburg/IdMap" := E_ob.wr W2
    have f4 : Fld Z h2 ob "com/example/gaithersburg/gaithersburg/IdMap" "ids" "[J" (.ref ai) := F_ob_ids.other W2 (Or.inr (slot_ne (Or.inl (hw _ (List.mem_of_getElem? (i := 11) rfl))) (Or.inl (hw _ (List.mem_of_getElem? (i := 22) rfl))) (by decide) (t := (.array .long)) (t' := .boolean) (by decide) (by decide)))
    have f5 : Fld Z h2 ob "com/example/gaithersburg/gaithersburg/IdMap" "values" "[J" (.ref av) := F_ob_values.other W2 (Or.inr (slot_ne (Or.inl (hw _ (List.mem_of_getElem? (i := 13) rfl))) (Or.inl (hw _ (List.mem_of_getElem? (i := 22) rfl))) (by decide) (t := (.array .long)) (t' := .boolean) (by decide) (by decide)))
    have f6 : Fld Z h2 ob "com/example/gaithersburg/gaithersburg/IdMap" "held" "I" (.int w) := F_ob_held.other W2 (Or.inr (slot_ne (Or.inl (hw _ (List.mem_of_getElem? (i := 20) rfl))) (Or.inl (hw _ (List.mem_of_getElem? (i := 22) rfl))) (by decide) (t := .int) (t' := .boolean) (by decide) (by decide)))
    have f7 : Fld Z h2 ob "com/example/gaithersburg/gaithersburg/IdMap" "freeValue" "J" (.long u) := F_ob_freeValue.other W2 (Or.inr (slot_ne (Or.inl (hw _ (List.mem_of_getElem? (i := 47) rfl))) (Or.inl (hw _ (List.mem_of_getElem? (i := 22) rfl))) (by decide) (t := .long) (t' := .boolean) (by decide) (by decide)))
    have f8 : own_A Z h2 ai .long 16 (own_J f) := A_ai.other W2 (Ne.symm ne_ob_ai)
    have f9 : own_A Z h2 av .long 16 (own_J g) := A_av.other W2 (Ne.symm ne_ob_av)
    have Z2 : n0 ≤ h2.size := Nat.le_trans Z0 (Keep.of_wr W2).1
    have N2 := Fr.snoc X2 N0 G_ob
    have K2 : Keep h0 h2 [ob, ai, av] := K0.wr W2 (Or.inl (List.mem_of_getElem? (i := 0) rfl))
    have f10 : Fld Z h2 ob "com/example/gaithersburg/gaithersburg/IdMap" "holdsFree" "Z" (.int (0 : Int32)) := F_ob_holdsFree.same W2
    show own_Go p.tables e below _ (T2.setTop (mkF m 11 #[.val (.ref ob), .val (.long kk), .second, .unset, .unset, .unset, .unset] []))
    refine own_retV X2 hx hret hlk (hb hby d8_11) ?_ (by decide) (by decide)
    rw [e2]
    exact ⟨f, g, w, (0 : Int32), u, rfl, N2, K2, f3, f4, f5, f6, f10, f7, f8, f9, hE, (fun _ => ⟨rfl, rfl⟩), (fun q => absurd hc1 q)⟩
  · refine own_st (S' := s₁.setTop (mkF m 12 #[.val (.ref ob), .val (.long kk), .second, .unset, .unset, .unset, .unset] [])) (fun t k => XS.ifYes X0.here hx rfl (pc0 := 3) (pc' := 12) rfl (hb hby d8_3) rfl ((if0 _ _).trans (feq (mt (lw_eq _ _).mp hc1)).2) (by decide) (by decide) k) ?_
    show own_Go p.tables e below _ (s₁.setTop (mkF m 12 #[.val (.ref ob), .val (.long kk), .second, .unset, .unset, .unset, .unset] []))
    refine own_st (S' := s₁.setTop (mkF m 13 #[.val (.ref ob), .val (.long kk), .second, .unset, .unset, .unset, .unset] [(.ref ob)])) (fun t k => XS.aloadN X0.here hx rfl (hb hby d8_12) rfl rfl k) ?_
    obtain ⟨T11, X11, e11, st11⟩ := getF X0 hx hZ hown (host := "") (Or.inl (hw _ (List.mem_of_getElem? (i := 10) rfl))) Via.refl e0 F_ob_ids (g := (mkF m 13 #[.val (.ref ob), .val (.long kk), .second, .unset, .unset, .unset, .unset] [(.ref ob)])) rfl rfl (hb hby d8_13)
    refine own_st st11 ?_
    show own_Go p.tables e below _ (T11.setTop (mkF m 16 #[.val (.ref ob), .val (.long kk), .second, .unset, .unset, .unset, .unset] [(.ref ai)]))
    refine own_st (S' := T11.setTop (mkF m 17 #[.val (.ref ob), .val (.long kk), .second, .unset, .unset, .unset, .unset] [(.long kk), (.ref ai)])) (fun t k => XS.lloadN X11.here hx rfl (hb hby d8_16) rfl k) ?_
    obtain ⟨D, hD⟩ := own_ex kk hE
    obtain ⟨_, _, ⟨T12, L12, k12, n12⟩, -, X12, ⟨Lc12, hQ12, l12, y12, z12⟩, st12⟩ := Jvm.LawKit.callS X11 hx (y := (⟨"com/example/gaithersburg/gaithersburg/IdMap", "slotOf", "([JJ)I"⟩ : MethodName)) hown (mvT hZ (hw _ (List.mem_of_getElem? (i := 28) rfl))) (mvT hZ (hw _ (List.mem_of_getElem? (i := 29) rfl))) (mvT hZ (hw _ (List.mem_of_getElem? (i := 2) rfl))) (mvT hZ (hw _ (List.mem_of_getElem? (i := 30) rfl))) (by decide) (backOf (W := 0) (rm4 l Z a0 hw [] ai kk f D h0 n0 Z0 A_ai hD) hZ (hw _ (List.mem_of_getElem? (i := 30) rfl)) (hw _ (List.mem_of_getElem? (i := 2) rfl)) (by decide) (by decide)) (g := (mkF m 17 #[.val (.ref ob), .val (.long kk), .second, .unset, .unset, .unset, .unset] [(.long kk), (.ref ai)])) rfl (by rw [hml]; rfl) (argsL := [(.ref ai), (.long kk)]) (rest := []) (lenOf pd8_0 rfl) rfl (by show 2 * 0 + _ ≤ _; exact Nat.le_of_eq rfl) (hb hby d8_17) (fun _ _ => ⟨rfl, e11, (by decide : 0 + 0 ≤ _), (by decide : 0 + 0 ≤ _)⟩)
    dsimp only [Pt.U, Pt.locs, Pt.cells, Pt.slots] at X12 l12 y12 z12 st12 hQ12
    rw [l12, y12, z12] at X12
    obtain ⟨rfl, N12q, hh12⟩ := hQ12
    have N12 := Fr.app N0 N12q
    refine own_st st12 ?_
    show own_Go p.tables e below _ (T12.setTop (mkF m 20 #[.val (.ref ob), .val (.long kk), .second, .unset, .unset, .unset, .unset] [(.int (Int32.ofNat (own_pl kk D)))]))
    obtain ⟨v13, qv13⟩ : ∃ z : Int32, z = (Int32.ofNat (own_pl kk D)) := ⟨_, rfl⟩
    show own_Go p.tables e below _ (T12.setTop (mkF m 20 #[.val (.ref ob), .val (.long kk), .second, .unset, .unset, .unset, .unset] [(.int (Int32.ofNat (own_pl kk D)))]))
    rw [← qv13]
    refine own_st (S' := T12.setTop (mkF m 21 #[.val (.ref ob), .val (.long kk), .second, .val (.int v13), .unset, .unset, .unset] [])) (fun t k => XS.istoreN X12.here hx rfl (hb hby d8_20) rfl (l' := #[.val (.ref ob), .val (.long kk), .second, .val (.int v13), .unset, .unset, .unset]) rfl k) ?_
    refine own_st (S' := T12.setTop (mkF m 22 #[.val (.ref ob), .val (.long kk), .second, .val (.int v13), .unset, .unset, .unset] [(.ref ob)])) (fun t k => XS.aloadN X12.here hx rfl (hb hby d8_21) rfl rfl k) ?_
    obtain ⟨T14, X14, e14, st14⟩ := getF X12 hx hZ hown (host := "") (Or.inl (hw _ (List.mem_of_getElem? (i := 10) rfl))) Via.refl hh12 F_ob_ids (g := (mkF m 22 #[.val (.ref ob), .val (.long kk), .second, .val (.int v13), .unset, .unset, .unset] [(.ref ob)])) rfl rfl (hb hby d8_22)
    refine own_st st14 ?_
    show own_Go p.tables e below _ (T14.setTop (mkF m 25 #[.val (.ref ob), .val (.long kk), .second, .val (.int v13), .unset, .unset, .unset] [(.ref ai)]))
    refine own_st (S' := T14.setTop (mkF m 26 #[.val (.ref ob), .val (.long kk), .second, .val (.int v13), .unset, .unset, .unset] [(.int v13), (.ref ai)])) (fun t k => XS.iloadN X14.here hx rfl (hb hby d8_25) rfl k) ?_
    have O15 := A_ai
    obtain ⟨c15, Ar15, S15, M15, V15⟩ := O15
    have at15 : c15.slots[(v13).toNatClampNeg]? = some (.long (f (own_pl kk D))) := own_at S15 V15 (by rw [qv13]; exact own_ixJ (own_pl_lt kk D)) rfl
    refine own_st (S' := T14.setTop (mkF m 27 #[.val (.ref ob), .val (.long kk), .second, .val (.int v13), .unset, .unset, .unset] [(.long (f (own_pl kk D)))])) (fun t k => X14.laload hx (j := v13) (v := (.long (f (own_pl kk D)))) (by rw [e14]; exact Ar15.1) (State.isArrayOf_alike hZ.alike Ar15.2.1) Ar15.2.2 (own_in S15 (by rw [qv13]; exact own_ixJ (own_pl_lt kk D))) at15 (g := (mkF m 26 #[.val (.ref ob), .val (.long kk), .second, .val (.int v13), .unset, .unset, .unset] [(.int v13), (.ref ai)])) rfl rfl (hb hby d8_26) _ k) ?_
    refine own_st (S' := T14.setTop (mkF m 28 #[.val (.ref ob), .val (.long kk), .second, .val (.int v13), .unset, .unset, .unset] [(.long kk), (.long (f (own_pl kk D)))])) (fun t k => XS.lloadN X14.here hx rfl (hb hby d8_27) rfl k) ?_
    refine own_st (S' := T14.setTop (mkF m 29 #[.val (.ref ob), .val (.long kk), .second, .val (.int v13), .unset, .unset, .unset] [(.int (lcmpW (f (own_pl kk D)) kk))])) (fun t k => XS.lcmp X14.here hx rfl (hb hby d8_28) rfl k) ?_
    by_cases hc16 : (f (own_pl kk D)) = kk
    · refine own_st (S' := T14.setTop (mkF m 33 #[.val (.ref ob), .val (.long kk), .second, .val (.int v13), .unset, .unset, .unset] [])) (fun t k => XS.ifYes X14.here hx rfl (pc0 := 29) (pc' := 33) rfl (hb hby d8_29) rfl ((if0 _ _).trans (teq ((lw_eq _ _).mpr hc16)).1) (by decide) (by decide) k) ?_
      show own_Go p.tables e below _ (T14.setTop (mkF m 33 #[.val (.ref ob), .val (.long kk), .second, .val (.int v13), .unset, .unset, .unset] []))
      refine own_st (S' := T14.setTop (mkF m 34 #[.val (.ref ob), .val (.long kk), .second, .val (.int v13), .unset, .unset, .unset] [(.ref ob)])) (fun t k => XS.aloadN X14.here hx rfl (hb hby d8_33) rfl rfl k) ?_
      refine own_st (S' := T14.setTop (mkF m 35 #[.val (.ref ob), .val (.long kk), .second, .val (.int v13), .unset, .unset, .unset] [(.ref ob), (.ref ob)])) (fun t k => XS.dup X14.here hx rfl (hb hby d8_34) rfl rfl k) ?_
      obtain ⟨T17, X17, e17, st17⟩ := getF X14 hx hZ hown (host := "") (Or.inl (hw _ (List.mem_of_getElem? (i := 19) rfl))) Via.refl e14 F_ob_held (g := (mkF m 35 #[.val (.ref ob), .val (.long kk), .second, .val (.int v13), .unset, .unset, .unset] [(.ref ob), (.ref ob)])) rfl rfl (hb hby d8_35)
      refine own_st st17 ?_
      show own_Go p.tables e below _ (T17.setTop (mkF m 38 #[.val (.ref ob), .val (.long kk), .second, .val (.int v13), .unset, .unset, .unset] [(.int w), (.ref ob)]))
      refine own_st (S' := T17.setTop (mkF m 39 #[.val (.ref ob), .val (.long kk), .second, .val (.int v13), .unset, .unset, .unset] [(.int (1 : Int32)), (.int w), (.ref ob)])) (fun t k => XS.iconst X17.here hx rfl (hb hby d8_38) k) ?_
      refine own_st (S' := T17.setTop (mkF m 40 #[.val (.ref ob), .val (.long kk), .second, .val (.int v13), .unset, .unset, .unset] [(.int (w - (1 : Int32))), (.ref ob)])) (fun t k => XS.isub X17.here hx rfl (hb hby d8_39) rfl k) ?_
      obtain ⟨T18, h18, X18, e18, W18, st18⟩ := putF X17 hx hZ hown (host := "") (Or.inl (hw _ (List.mem_of_getElem? (i := 19) rfl))) Via.refl e17 F_ob_held E_ob (Or.inl (hw _ (List.mem_of_getElem? (i := 20) rfl))) (hw _ (List.mem_of_getElem? (i := 1) rfl)) (ty := .int) (by decide) rfl rfl (g := (mkF m 40 #[.val (.ref ob), .val (.long kk), .second, .val (.int v13), .unset, .unset, .unset] [(.int (w - (1 : Int32))), (.ref ob)])) rfl rfl (hb hby d8_40)
      refine own_st st18 ?_
      have f19 : Exa Z h18 ob "com/example/gaithersburg/gaithersburg/IdMap" := E_ob.wr W18
      have f20 : Fld Z h18 ob "com/example/gaithersburg/gaithersburg/IdMap" "ids" "[J" (.ref ai) := F_ob_ids.other W18 (Or.inr (slot_ne (Or.inl (hw _ (List.mem_of_getElem? (i := 11) rfl))) (Or.inl (hw _ (List.mem_of_getElem? (i := 20) rfl))) (by decide) (t := (.array .long)) (t' := .int) (by decide) (by decide)))
      have f21 : Fld Z h18 ob "com/example/gaithersburg/gaithersburg/IdMap" "values" "[J" (.ref av) := F_ob_values.other W18 (Or.inr (slot_ne (Or.inl (hw _ (List.mem_of_getElem? (i := 13) rfl))) (Or.inl (hw _ (List.mem_of_getElem? (i := 20) rfl))) (by decide) (t := (.array .long)) (t' := .int) (by decide) (by decide)))
      have f22 : Fld Z h18 ob "com/example/gaithersburg/gaithersburg/IdMap" "holdsFree" "Z" (.int zf) := F_ob_holdsFree.other W18 (Or.inr (slot_ne (Or.inl (hw _ (List.mem_of_getElem? (i := 22) rfl))) (Or.inl (hw _ (List.mem_of_getElem? (i := 20) rfl))) (by decide) (t := .boolean) (t' := .int) (by decide) (by decide)))
      have f23 : Fld Z h18 ob "com/example/gaithersburg/gaithersburg/IdMap" "freeValue" "J" (.long u) := F_ob_freeValue.other W18 (Or.inr (slot_ne (Or.inl (hw _ (List.mem_of_getElem? (i := 47) rfl))) (Or.inl (hw _ (List.mem_of_getElem? (i := 20) rfl))) (by decide) (t := .long) (t' := .int) (by decide) (by decide)))
      have f24 : own_A Z h18 ai .long 16 (own_J f) := A_ai.other W18 (Ne.symm ne_ob_ai)
      have f25 : own_A Z h18 av .long 16 (own_J g) := A_av.other W18 (Ne.symm ne_ob_av)
      have Z18 : n0 ≤ h18.size := Nat.le_trans Z0 (Keep.of_wr W18).1
      have N18 := Fr.snoc X18 N12 G_ob
      have K18 : Keep h0 h18 [ob, ai, av] := K0.wr W18 (Or.inl (List.mem_of_getElem? (i := 0) rfl))
      have f26 : Fld Z h18 ob "com/example/gaithersburg/gaithersburg/IdMap" "held" "I" (.int (w - (1 : Int32))) := F_ob_held.same W18
      show own_Go p.tables e below _ (T18.setTop (mkF m 43 #[.val (.ref ob), .val (.long kk), .second, .val (.int v13), .unset, .unset, .unset] []))
      refine own_st (S' := T18.setTop (mkF m 44 #[.val (.ref ob), .val (.long kk), .second, .val (.int v13), .unset, .unset, .unset] [(.ref ob)])) (fun t k => XS.aloadN X18.here hx rfl (hb hby d8_43) rfl rfl k) ?_
      obtain ⟨T27, X27, e27, st27⟩ := getF X18 hx hZ hown (host := "") (Or.inl (hw _ (List.mem_of_getElem? (i := 10) rfl))) Via.refl e18 f20 (g := (mkF m 44 #[.val (.ref ob), .val (.long kk), .second, .val (.int v13), .unset, .unset, .unset] [(.ref ob)])) rfl rfl (hb hby d8_44)
      refine own_st st27 ?_
      show own_Go p.tables e below _ (T27.setTop (mkF m 47 #[.val (.ref ob), .val (.long kk), .second, .val (.int v13), .unset, .unset, .unset] [(.ref ai)]))
      have O28 := f24
      obtain ⟨c28, Ar28, S28, M28, V28⟩ := O28
      have ln28 : c28.slots.size.toInt32 = (16 : Int32) := by rw [S28]; first | rfl | decide | exact rfl
      refine own_st (S' := T27.setTop (mkF m 48 #[.val (.ref ob), .val (.long kk), .second, .val (.int v13), .unset, .unset, .unset] [(.int (16 : Int32))])) (fun t k => X27.arraylength hx (by rw [e27]; exact Ar28.1) (State.isArrayOf_alike hZ.alike Ar28.2.1) (g := (mkF m 47 #[.val (.ref ob), .val (.long kk), .second, .val (.int v13), .unset, .unset, .unset] [(.ref ai)])) rfl rfl (hb hby d8_47) _ (by rw [ln28]; exact k)) ?_
      refine own_st (S' := T27.setTop (mkF m 49 #[.val (.ref ob), .val (.long kk), .second, .val (.int v13), .unset, .unset, .unset] [(.int (1 : Int32)), (.int (16 : Int32))])) (fun t k => XS.iconst X27.here hx rfl (hb hby d8_48) k) ?_
      refine own_st (S' := T27.setTop (mkF m 50 #[.val (.ref ob), .val (.long kk), .second, .val (.int v13), .unset, .unset, .unset] [(.int (15 : Int32))])) (fun t k => XS.isub X27.here hx rfl (hb hby d8_49) rfl k) ?_
      refine own_st (S' := T27.setTop (mkF m 52 #[.val (.ref ob), .val (.long kk), .second, .val (.int v13), .val (.int (15 : Int32)), .unset, .unset] [])) (fun t k => XS.istore X27.here hx rfl (hb hby d8_50) rfl (l' := #[.val (.ref ob), .val (.long kk), .second, .val (.int v13), .val (.int (15 : Int32)), .unset, .unset]) rfl k) ?_
      refine own_st (S' := T27.setTop (mkF m 53 #[.val (.ref ob), .val (.long kk), .second, .val (.int v13), .val (.int (15 : Int32)), .unset, .unset] [(.int v13)])) (fun t k => XS.iloadN X27.here hx rfl (hb hby d8_52) rfl k) ?_
      refine own_st (S' := T27.setTop (mkF m 54 #[.val (.ref ob), .val (.long kk), .second, .val (.int v13), .val (.int (15 : Int32)), .unset, .unset] [(.int (1 : Int32)), (.int v13)])) (fun t k => XS.iconst X27.here hx rfl (hb hby d8_53) k) ?_
      refine own_st (S' := T27.setTop (mkF m 55 #[.val (.ref ob), .val (.long kk), .second, .val (.int v13), .val (.int (15 : Int32)), .unset, .unset] [(.int (v13 + (1 : Int32)))])) (fun t k => XS.iadd X27.here hx rfl (hb hby d8_54) rfl k) ?_
      refine own_st (S' := T27.setTop (mkF m 57 #[.val (.ref ob), .val (.long kk), .second, .val (.int v13), .val (.int (15 : Int32)), .unset, .unset] [(.int (15 : Int32)), (.int (v13 + (1 : Int32)))])) (fun t k => XS.iload X27.here hx rfl (hb hby d8_55) rfl k) ?_
      refine own_st (S' := T27.setTop (mkF m 58 #[.val (.ref ob), .val (.long kk), .second, .val (.int v13), .val (.int (15 : Int32)), .unset, .unset] [(.int ((v13 + (1 : Int32)) &&& (15 : Int32)))])) (fun t k => XS.iand X27.here hx rfl (hb hby d8_57) rfl k) ?_
      obtain ⟨v29, qv29⟩ : ∃ z : Int32, z = ((v13 + (1 : Int32)) &&& (15 : Int32)) := ⟨_, rfl⟩
      show own_Go p.tables e below _ (T27.setTop (mkF m 58 #[.val (.ref ob), .val (.long kk), .second, .val (.int v13), .val (.int (15 : Int32)), .unset, .unset] [(.int ((v13 + (1 : Int32)) &&& (15 : Int32)))]))
      rw [← qv29]
      refine own_st (S' := T27.setTop (mkF m 60 #[.val (.ref ob), .val (.long kk), .second, .val (.int v13), .val (.int (15 : Int32)), .val (.int v29), .unset] [])) (fun t k => XS.istore X27.here hx rfl (hb hby d8_58) rfl (l' := #[.val (.ref ob), .val (.long kk), .second, .val (.int v13), .val (.int (15 : Int32)), .val (.int v29), .unset]) rfl k) ?_
      have hk : kk ≠ 0 := hc1
      have hH : own_Has f kk := ⟨_, own_pl_lt kk D, hc16⟩
      have loop : ∀ (n : Nat) (T : State) (L : List Loc) (f1 g1 : Nat → Int64) (y j : Nat) (q6 : Slot), Stand p l e ({ frames := 4, cells := 0, slots := 0, locals := 60 } : Room) s m #[(.ref ob), (.long kk)] below meth c T L 0 0 → Fr n0 L → Keep h0 T.heap [ob, ai, av] → n0 ≤ T.heap.size → Exa Z T.heap ob "com/example/gaithersburg/gaithersburg/IdMap" → Fld Z T.heap ob "com/example/gaithersburg/gaithersburg/IdMap" "ids" "[J" (.ref ai) → Fld Z T.heap ob "com/example/gaithersburg/gaithersburg/IdMap" "values" "[J" (.ref av) → Fld Z T.heap ob "com/example/gaithersburg/gaithersburg/IdMap" "held" "I" (.int (w - (1 : Int32))) → Fld Z T.heap ob "com/example/gaithersburg/gaithersburg/IdMap" "holdsFree" "Z" (.int zf) → Fld Z T.heap ob "com/example/gaithersburg/gaithersburg/IdMap" "freeValue" "J" (.long u) → own_A Z T.heap ai .long 16 (own_J f1) → own_A Z T.heap av .long 16 (own_J g1) → own_Sh kk f1 y j n → (q6 = .unset ∨ ∃ v : Int32, q6 = .val (.int v)) → own_Go p.tables e below (own_F s (Q8 Z ob kk ai av w zf u f g h0 n0) 0 0) (T.setTop (mkF m 60 #[.val (.ref ob), .val (.long kk), .second, .val (.int (Int32.ofNat y)), .val (.int (15 : Int32)), .val (.int (Int32.ofNat j)), q6] [])) := by
        intro n
        induction n with
        | zero =>
          intro T L f1 g1 y j q6 X N K Zz Fa Fb Fc Fd Fe Ff Fg Fh hs hq
          have hy := hs.1
          have hj := hs.2.1
          have hz : f1 j = 0 := hs.zero
          show own_Go p.tables e below _ (T.setTop (mkF m 60 #[.val (.ref ob), .val (.long kk), .second, .val (.int (Int32.ofNat y)), .val (.int (15 : Int32)), .val (.int (Int32.ofNat j)), q6] []))
          refine own_st (S' := T.setTop (mkF m 61 #[.val (.ref ob), .val (.long kk), .second, .val (.int (Int32.ofNat y)), .val (.int (15 : Int32)), .val (.int (Int32.ofNat j)), q6] [(.ref ob)])) (fun t k => XS.aloadN X.here hx rfl (hb hby d8_60) rfl rfl k) ?_
          obtain ⟨T30, X30, e30, st30⟩ := getF X hx hZ hown (host := "") (Or.inl (hw _ (List.mem_of_getElem? (i := 10) rfl))) Via.refl rfl Fb (g := (mkF m 61 #[.val (.ref ob), .val (.long kk), .second, .val (.int (Int32.ofNat y)), .val (.int (15 : Int32)), .val (.int (Int32.ofNat j)), q6] [(.ref ob)])) rfl rfl (hb hby d8_61)
          refine own_st st30 ?_
          show own_Go p.tables e below _ (T30.setTop (mkF m 64 #[.val (.ref ob), .val (.long kk), .second, .val (.int (Int32.ofNat y)), .val (.int (15 : Int32)), .val (.int (Int32.ofNat j)), q6] [(.ref ai)]))
          refine own_st (S' := T30.setTop (mkF m 66 #[.val (.ref ob), .val (.long kk), .second, .val (.int (Int32.ofNat y)), .val (.int (15 : Int32)), .val (.int (Int32.ofNat j)), q6] [(.int (Int32.ofNat j)), (.ref ai)])) (fun t k => XS.iload X30.here hx rfl (hb hby d8_64) rfl k) ?_
          have O31 := Fg
          obtain ⟨c31, Ar31, S31, M31, V31⟩ := O31
          have at31 : c31.slots[((Int32.ofNat j)).toNatClampNeg]? = some (.long (f1 j)) := own_at S31 V31 (own_ixJ hj) rfl
          refine own_st (S' := T30.setTop (mkF m 67 #[.val (.ref ob), .val (.long kk), .second, .val (.int (Int32.ofNat y)), .val (.int (15 : Int32)), .val (.int (Int32.ofNat j)), q6] [(.long (f1 j))])) (fun t k => X30.laload hx (j := (Int32.ofNat j)) (v := (.long (f1 j))) (by rw [e30]; exact Ar31.1) (State.isArrayOf_alike hZ.alike Ar31.2.1) Ar31.2.2 (own_in S31 (own_ixJ hj)) at31 (g := (mkF m 66 #[.val (.ref ob), .val (.long kk), .second, .val (.int (Int32.ofNat y)), .val (.int (15 : Int32)), .val (.int (Int32.ofNat j)), q6] [(.int (Int32.ofNat j)), (.ref ai)])) rfl rfl (hb hby d8_66) _ k) ?_
          refine own_st (S' := T30.setTop (mkF m 68 #[.val (.ref ob), .val (.long kk), .second, .val (.int (Int32.ofNat y)), .val (.int (15 : Int32)), .val (.int (Int32.ofNat j)), q6] [(.long (0 : Int64)), (.long (f1 j))])) (fun t k => XS.lconst X30.here hx rfl (hb hby d8_67) k) ?_
          refine own_st (S' := T30.setTop (mkF m 69 #[.val (.ref ob), .val (.long kk), .second, .val (.int (Int32.ofNat y)), .val (.int (15 : Int32)), .val (.int (Int32.ofNat j)), q6] [(.int (lcmpW (f1 j) (0 : Int64)))])) (fun t k => XS.lcmp X30.here hx rfl (hb hby d8_68) rfl k) ?_
          have hc32 : (f1 j) = (0 : Int64) := hz
          refine own_st (S' := T30.setTop (mkF m 147 #[.val (.ref ob), .val (.long kk), .second, .val (.int (Int32.ofNat y)), .val (.int (15 : Int32)), .val (.int (Int32.ofNat j)), q6] [])) (fun t k => XS.ifYes X30.here hx rfl (pc0 := 69) (pc' := 147) rfl (hb hby d8_69) rfl ((if0 _ _).trans (teq ((lw_eq _ _).mpr hc32)).1) (by decide) (by decide) k) ?_
          show own_Go p.tables e below _ (T30.setTop (mkF m 147 #[.val (.ref ob), .val (.long kk), .second, .val (.int (Int32.ofNat y)), .val (.int (15 : Int32)), .val (.int (Int32.ofNat j)), q6] []))
          refine own_st (S' := T30.setTop (mkF m 148 #[.val (.ref ob), .val (.long kk), .second, .val (.int (Int32.ofNat y)), .val (.int (15 : Int32)), .val (.int (Int32.ofNat j)), q6] [(.ref ob)])) (fun t k => XS.aloadN X30.here hx rfl (hb hby d8_147) rfl rfl k) ?_
          obtain ⟨T33, X33, e33, st33⟩ := getF X30 hx hZ hown (host := "") (Or.inl (hw _ (List.mem_of_getElem? (i := 10) rfl))) Via.refl e30 Fb (g := (mkF m 148 #[.val (.ref ob), .val (.long kk), .second, .val (.int (Int32.ofNat y)), .val (.int (15 : Int32)), .val (.int (Int32.ofNat j)), q6] [(.ref ob)])) rfl rfl (hb hby d8_148)
          refine own_st st33 ?_
          show own_Go p.tables e below _ (T33.setTop (mkF m 151 #[.val (.ref ob), .val (.long kk), .second, .val (.int (Int32.ofNat y)), .val (.int (15 : Int32)), .val (.int (Int32.ofNat j)), q6] [(.ref ai)]))
          refine own_st (S' := T33.setTop (mkF m 152 #[.val (.ref ob), .val (.long kk), .second, .val (.int (Int32.ofNat y)), .val (.int (15 : Int32)), .val (.int (Int32.ofNat j)), q6] [(.int (Int32.ofNat y)), (.ref ai)])) (fun t k => XS.iloadN X33.here hx rfl (hb hby d8_151) rfl k) ?_
          refine own_st (S' := T33.setTop (mkF m 153 #[.val (.ref ob), .val (.long kk), .second, .val (.int (Int32.ofNat y)), .val (.int (15 : Int32)), .val (.int (Int32.ofNat j)), q6] [(.long (0 : Int64)), (.int (Int32.ofNat y)), (.ref ai)])) (fun t k => XS.lconst X33.here hx rfl (hb hby d8_152) k) ?_
          have O34 := Fg
          obtain ⟨c34, Ar34, S34, M34, V34⟩ := O34
          obtain ⟨T34, h34, X34, e34, W34, st34⟩ := stJ X33 hx hZ e33 Ar34 (j := (Int32.ofNat y)) (own_in S34 (own_ixJ hy)) (g := (mkF m 153 #[.val (.ref ob), .val (.long kk), .second, .val (.int (Int32.ofNat y)), .val (.int (15 : Int32)), .val (.int (Int32.ofNat j)), q6] [(.long (0 : Int64)), (.int (Int32.ofNat y)), (.ref ai)])) rfl rfl (hb hby d8_153)
          refine own_st st34 ?_
          have f35 : Exa Z h34 ob "com/example/gaithersburg/gaithersburg/IdMap" := Fa.wr W34
          have f36 : Fld Z h34 ob "com/example/gaithersburg/gaithersburg/IdMap" "ids" "[J" (.ref ai) := Fb.other W34 (Or.inl ne_ob_ai)
          have f37 : Fld Z h34 ob "com/example/gaithersburg/gaithersburg/IdMap" "values" "[J" (.ref av) := Fc.other W34 (Or.inl ne_ob_ai)
          have f38 : Fld Z h34 ob "com/example/gaithersburg/gaithersburg/IdMap" "held" "I" (.int (w - (1 : Int32))) := Fd.other W34 (Or.inl ne_ob_ai)
          have f39 : Fld Z h34 ob "com/example/gaithersburg/gaithersburg/IdMap" "holdsFree" "Z" (.int zf) := Fe.other W34 (Or.inl ne_ob_ai)
          have f40 : Fld Z h34 ob "com/example/gaithersburg/gaithersburg/IdMap" "freeValue" "J" (.long u) := Ff.other W34 (Or.inl ne_ob_ai)
          have f41 : own_A Z h34 av .long 16 (own_J g1) := Fh.other W34 (Ne.symm ne_ai_av)
          have Z34 : n0 ≤ h34.size := Nat.le_trans Zz (Keep.of_wr W34).1
          have N34 := Fr.snoc X34 N G_ai
          have K34 : Keep h0 h34 [ob, ai, av] := K.wr W34 (Or.inl (List.mem_of_getElem? (i := 1) rfl))
          have f42 : own_A Z h34 ai .long 16 (own_J (own_uJ f1 y (0 : Int64))) := by rw [← own_upJ]; exact own_A.set ⟨c34, Ar34, S34, M34, V34⟩ (own_ixJ hy) W34
          show own_Go p.tables e below _ (T34.setTop (mkF m 154 #[.val (.ref ob), .val (.long kk), .second, .val (.int (Int32.ofNat y)), .val (.int (15 : Int32)), .val (.int (Int32.ofNat j)), q6] []))
          refine own_retV X34 hx hret hlk (hb hby d8_154) ?_ (by decide) (by decide)
          rw [e34]
          exact ⟨(own_uJ f1 y (0 : Int64)), g1, (w - (1 : Int32)), zf, u, rfl, N34, K34, f35, f36, f37, f38, f39, f40, f42, f41, (hs.done hk).2, (fun q => absurd q hk), (fun _ => ⟨rfl, (hs.done hk).1, fun _ => rfl, fun q => absurd hH q⟩)⟩
        | succ n ih =>
          intro T L f1 g1 y j q6 X N K Zz Fa Fb Fc Fd Fe Ff Fg Fh hs hq
          have hy := hs.1
          have hj := hs.2.1
          by_cases hz : f1 j = 0
          · show own_Go p.tables e below _ (T.setTop (mkF m 60 #[.val (.ref ob), .val (.long kk), .second, .val (.int (Int32.ofNat y)), .val (.int (15 : Int32)), .val (.int (Int32.ofNat j)), q6] []))
            refine own_st (S' := T.setTop (mkF m 61 #[.val (.ref ob), .val (.long kk), .second, .val (.int (Int32.ofNat y)), .val (.int (15 : Int32)), .val (.int (Int32.ofNat j)), q6] [(.ref ob)])) (fun t k => XS.aloadN X.here hx rfl (hb hby d8_60) rfl rfl k) ?_
            obtain ⟨T43, X43, e43, st43⟩ := getF X hx hZ hown (host := "") (Or.inl (hw _ (List.mem_of_getElem? (i := 10) rfl))) Via.refl rfl Fb (g := (mkF m 61 #[.val (.ref ob), .val (.long kk), .second, .val (.int (Int32.ofNat y)), .val (.int (15 : Int32)), .val (.int (Int32.ofNat j)), q6] [(.ref ob)])) rfl rfl (hb hby d8_61)
            refine own_st st43 ?_
            show own_Go p.tables e below _ (T43.setTop (mkF m 64 #[.val (.ref ob), .val (.long kk), .second, .val (.int (Int32.ofNat y)), .val (.int (15 : Int32)), .val (.int (Int32.ofNat j)), q6] [(.ref ai)]))
            refine own_st (S' := T43.setTop (mkF m 66 #[.val (.ref ob), .val (.long kk), .second, .val (.int (Int32.ofNat y)), .val (.int (15 : Int32)), .val (.int (Int32.ofNat j)), q6] [(.int (Int32.ofNat j)), (.ref ai)])) (fun t k => XS.iload X43.here hx rfl (hb hby d8_64) rfl k) ?_
            have O44 := Fg
            obtain ⟨c44, Ar44, S44, M44, V44⟩ := O44
            have at44 : c44.slots[((Int32.ofNat j)).toNatClampNeg]? = some (.long (f1 j)) := own_at S44 V44 (own_ixJ hj) rfl
            refine own_st (S' := T43.setTop (mkF m 67 #[.val (.ref ob), .val (.long kk), .second, .val (.int (Int32.ofNat y)), .val (.int (15 : Int32)), .val (.int (Int32.ofNat j)), q6] [(.long (f1 j))])) (fun t k => X43.laload hx (j := (Int32.ofNat j)) (v := (.long (f1 j))) (by rw [e43]; exact Ar44.1) (State.isArrayOf_alike hZ.alike Ar44.2.1) Ar44.2.2 (own_in S44 (own_ixJ hj)) at44 (g := (mkF m 66 #[.val (.ref ob), .val (.long kk), .second, .val (.int (Int32.ofNat y)), .val (.int (15 : Int32)), .val (.int (Int32.ofNat j)), q6] [(.int (Int32.ofNat j)), (.ref ai)])) rfl rfl (hb hby d8_66) _ k) ?_
            refine own_st (S' := T43.setTop (mkF m 68 #[.val (.ref ob), .val (.long kk), .second, .val (.int (Int32.ofNat y)), .val (.int (15 : Int32)), .val (.int (Int32.ofNat j)), q6] [(.long (0 : Int64)), (.long (f1 j))])) (fun t k => XS.lconst X43.here hx rfl (hb hby d8_67) k) ?_
            refine own_st (S' := T43.setTop (mkF m 69 #[.val (.ref ob), .val (.long kk), .second, .val (.int (Int32.ofNat y)), .val (.int (15 : Int32)), .val (.int (Int32.ofNat j)), q6] [(.int (lcmpW (f1 j) (0 : Int64)))])) (fun t k => XS.lcmp X43.here hx rfl (hb hby d8_68) rfl k) ?_
            have hc45 : (f1 j) = (0 : Int64) := hz
            refine own_st (S' := T43.setTop (mkF m 147 #[.val (.ref ob), .val (.long kk), .second, .val (.int (Int32.ofNat y)), .val (.int (15 : Int32)), .val (.int (Int32.ofNat j)), q6] [])) (fun t k => XS.ifYes X43.here hx rfl (pc0 := 69) (pc' := 147) rfl (hb hby d8_69) rfl ((if0 _ _).trans (teq ((lw_eq _ _).mpr hc45)).1) (by decide) (by decide) k) ?_
            show own_Go p.tables e below _ (T43.setTop (mkF m 147 #[.val (.ref ob), .val (.long kk), .second, .val (.int (Int32.ofNat y)), .val (.int (15 : Int32)), .val (.int (Int32.ofNat j)), q6] []))
            refine own_st (S' := T43.setTop (mkF m 148 #[.val (.ref ob), .val (.long kk), .second, .val (.int (Int32.ofNat y)), .val (.int (15 : Int32)), .val (.int (Int32.ofNat j)), q6] [(.ref ob)])) (fun t k => XS.aloadN X43.here hx rfl (hb hby d8_147) rfl rfl k) ?_
            obtain ⟨T46, X46, e46, st46⟩ := getF X43 hx hZ hown (host := "") (Or.inl (hw _ (List.mem_of_getElem? (i := 10) rfl))) Via.refl e43 Fb (g := (mkF m 148 #[.val (.ref ob), .val (.long kk), .second, .val (.int (Int32.ofNat y)), .val (.int (15 : Int32)), .val (.int (Int32.ofNat j)), q6] [(.ref ob)])) rfl rfl (hb hby d8_148)
            refine own_st st46 ?_
            show own_Go p.tables e below _ (T46.setTop (mkF m 151 #[.val (.ref ob), .val (.long kk), .second, .val (.int (Int32.ofNat y)), .val (.int (15 : Int32)), .val (.int (Int32.ofNat j)), q6] [(.ref ai)]))
            refine own_st (S' := T46.setTop (mkF m 152 #[.val (.ref ob), .val (.long kk), .second, .val (.int (Int32.ofNat y)), .val (.int (15 : Int32)), .val (.int (Int32.ofNat j)), q6] [(.int (Int32.ofNat y)), (.ref ai)])) (fun t k => XS.iloadN X46.here hx rfl (hb hby d8_151) rfl k) ?_
            refine own_st (S' := T46.setTop (mkF m 153 #[.val (.ref ob), .val (.long kk), .second, .val (.int (Int32.ofNat y)), .val (.int (15 : Int32)), .val (.int (Int32.ofNat j)), q6] [(.long (0 : Int64)), (.int (Int32.ofNat y)), (.ref ai)])) (fun t k => XS.lconst X46.here hx rfl (hb hby d8_152) k) ?_
            have O47 := Fg
            obtain ⟨c47, Ar47, S47, M47, V47⟩ := O47
            obtain ⟨T47, h47, X47, e47, W47, st47⟩ := stJ X46 hx hZ e46 Ar47 (j := (Int32.ofNat y)) (own_in S47 (own_ixJ hy)) (g := (mkF m 153 #[.val (.ref ob), .val (.long kk), .second, .val (.int (Int32.ofNat y)), .val (.int (15 : Int32)), .val (.int (Int32.ofNat j)), q6] [(.long (0 : Int64)), (.int (Int32.ofNat y)), (.ref ai)])) rfl rfl (hb hby d8_153)
            refine own_st st47 ?_
            have f48 : Exa Z h47 ob "com/example/gaithersburg/gaithersburg/IdMap" := Fa.wr W47
            have f49 : Fld Z h47 ob "com/example/gaithersburg/gaithersburg/IdMap" "ids" "[J" (.ref ai) := Fb.other W47 (Or.inl ne_ob_ai)
            have f50 : Fld Z h47 ob "com/example/gaithersburg/gaithersburg/IdMap" "values" "[J" (.ref av) := Fc.other W47 (Or.inl ne_ob_ai)
            have f51 : Fld Z h47 ob "com/example/gaithersburg/gaithersburg/IdMap" "held" "I" (.int (w - (1 : Int32))) := Fd.other W47 (Or.inl ne_ob_ai)
            have f52 : Fld Z h47 ob "com/example/gaithersburg/gaithersburg/IdMap" "holdsFree" "Z" (.int zf) := Fe.other W47 (Or.inl ne_ob_ai)
            have f53 : Fld Z h47 ob "com/example/gaithersburg/gaithersburg/IdMap" "freeValue" "J" (.long u) := Ff.other W47 (Or.inl ne_ob_ai)
            have f54 : own_A Z h47 av .long 16 (own_J g1) := Fh.other W47 (Ne.symm ne_ai_av)
            have Z47 : n0 ≤ h47.size := Nat.le_trans Zz (Keep.of_wr W47).1
            have N47 := Fr.snoc X47 N G_ai
            have K47 : Keep h0 h47 [ob, ai, av] := K.wr W47 (Or.inl (List.mem_of_getElem? (i := 1) rfl))
            have f55 : own_A Z h47 ai .long 16 (own_J (own_uJ f1 y (0 : Int64))) := by rw [← own_upJ]; exact own_A.set ⟨c47, Ar47, S47, M47, V47⟩ (own_ixJ hy) W47
            show own_Go p.tables e below _ (T47.setTop (mkF m 154 #[.val (.ref ob), .val (.long kk), .second, .val (.int (Int32.ofNat y)), .val (.int (15 : Int32)), .val (.int (Int32.ofNat j)), q6] []))
            refine own_retV X47 hx hret hlk (hb hby d8_154) ?_ (by decide) (by decide)
            rw [e47]
            exact ⟨(own_uJ f1 y (0 : Int64)), g1, (w - (1 : Int32)), zf, u, rfl, N47, K47, f48, f49, f50, f51, f52, f53, f55, f54, (hs.done hk).2, (fun q => absurd q hk), (fun _ => ⟨rfl, (hs.done hk).1, fun _ => rfl, fun q => absurd hH q⟩)⟩
          · show own_Go p.tables e below _ (T.setTop (mkF m 60 #[.val (.ref ob), .val (.long kk), .second, .val (.int (Int32.ofNat y)), .val (.int (15 : Int32)), .val (.int (Int32.ofNat j)), q6] []))
            refine own_st (S' := T.setTop (mkF m 61 #[.val (.ref ob), .val (.long kk), .second, .val (.int (Int32.ofNat y)), .val (.int (15 : Int32)), .val (.int (Int32.ofNat j)), q6] [(.ref ob)])) (fun t k => XS.aloadN X.here hx rfl (hb hby d8_60) rfl rfl k) ?_
            obtain ⟨T56, X56, e56, st56⟩ := getF X hx hZ hown (host := "") (Or.inl (hw _ (List.mem_of_getElem? (i := 10) rfl))) Via.refl rfl Fb (g := (mkF m 61 #[.val (.ref ob), .val (.long kk), .second, .val (.int (Int32.ofNat y)), .val (.int (15 : Int32)), .val (.int (Int32.ofNat j)), q6] [(.ref ob)])) rfl rfl (hb hby d8_61)
            refine own_st st56 ?_
            show own_Go p.tables e below _ (T56.setTop (mkF m 64 #[.val (.ref ob), .val (.long kk), .second, .val (.int (Int32.ofNat y)), .val (.int (15 : Int32)), .val (.int (Int32.ofNat j)), q6] [(.ref ai)]))
            refine own_st (S' := T56.setTop (mkF m 66 #[.val (.ref ob), .val (.long kk), .second, .val (.int (Int32.ofNat y)), .val (.int (15 : Int32)), .val (.int (Int32.ofNat j)), q6] [(.int (Int32.ofNat j)), (.ref ai)])) (fun t k => XS.iload X56.here hx rfl (hb hby d8_64) rfl k) ?_
            have O57 := Fg
            obtain ⟨c57, Ar57, S57, M57, V57⟩ := O57
            have at57 : c57.slots[((Int32.ofNat j)).toNatClampNeg]? = some (.long (f1 j)) := own_at S57 V57 (own_ixJ hj) rfl
            refine own_st (S' := T56.setTop (mkF m 67 #[.val (.ref ob), .val (.long kk), .second, .val (.int (Int32.ofNat y)), .val (.int (15 : Int32)), .val (.int (Int32.ofNat j)), q6] [(.long (f1 j))])) (fun t k => X56.laload hx (j := (Int32.ofNat j)) (v := (.long (f1 j))) (by rw [e56]; exact Ar57.1) (State.isArrayOf_alike hZ.alike Ar57.2.1) Ar57.2.2 (own_in S57 (own_ixJ hj)) at57 (g := (mkF m 66 #[.val (.ref ob), .val (.long kk), .second, .val (.int (Int32.ofNat y)), .val (.int (15 : Int32)), .val (.int (Int32.ofNat j)), q6] [(.int (Int32.ofNat j)), (.ref ai)])) rfl rfl (hb hby d8_66) _ k) ?_
            refine own_st (S' := T56.setTop (mkF m 68 #[.val (.ref ob), .val (.long kk), .second, .val (.int (Int32.ofNat y)), .val (.int (15 : Int32)), .val (.int (Int32.ofNat j)), q6] [(.long (0 : Int64)), (.long (f1 j))])) (fun t k => XS.lconst X56.here hx rfl (hb hby d8_67) k) ?_
            refine own_st (S' := T56.setTop (mkF m 69 #[.val (.ref ob), .val (.long kk), .second, .val (.int (Int32.ofNat y)), .val (.int (15 : Int32)), .val (.int (Int32.ofNat j)), q6] [(.int (lcmpW (f1 j) (0 : Int64)))])) (fun t k => XS.lcmp X56.here hx rfl (hb hby d8_68) rfl k) ?_
            have hc58 : ¬ ((f1 j) = (0 : Int64)) := hz
            refine own_st (S' := T56.setTop (mkF m 72 #[.val (.ref ob), .val (.long kk), .second, .val (.int (Int32.ofNat y)), .val (.int (15 : Int32)), .val (.int (Int32.ofNat j)), q6] [])) (fun t k => XS.ifNo X56.here hx rfl (hb hby d8_69) rfl ((if0 _ _).trans (feq (mt (lw_eq _ _).mp hc58)).1) k) ?_
            show own_Go p.tables e below _ (T56.setTop (mkF m 72 #[.val (.ref ob), .val (.long kk), .second, .val (.int (Int32.ofNat y)), .val (.int (15 : Int32)), .val (.int (Int32.ofNat j)), q6] []))
            refine own_st (S' := T56.setTop (mkF m 73 #[.val (.ref ob), .val (.long kk), .second, .val (.int (Int32.ofNat y)), .val (.int (15 : Int32)), .val (.int (Int32.ofNat j)), q6] [(.ref ob)])) (fun t k => XS.aloadN X56.here hx rfl (hb hby d8_72) rfl rfl k) ?_
            obtain ⟨T59, X59, e59, st59⟩ := getF X56 hx hZ hown (host := "") (Or.inl (hw _ (List.mem_of_getElem? (i := 10) rfl))) Via.refl e56 Fb (g := (mkF m 73 #[.val (.ref ob), .val (.long kk), .second, .val (.int (Int32.ofNat y)), .val (.int (15 : Int32)), .val (.int (Int32.ofNat j)), q6] [(.ref ob)])) rfl rfl (hb hby d8_73)
            refine own_st st59 ?_
            show own_Go p.tables e below _ (T59.setTop (mkF m 76 #[.val (.ref ob), .val (.long kk), .second, .val (.int (Int32.ofNat y)), .val (.int (15 : Int32)), .val (.int (Int32.ofNat j)), q6] [(.ref ai)]))
            refine own_st (S' := T59.setTop (mkF m 77 #[.val (.ref ob), .val (.long kk), .second, .val (.int (Int32.ofNat y)), .val (.int (15 : Int32)), .val (.int (Int32.ofNat j)), q6] [(.ref ob), (.ref ai)])) (fun t k => XS.aloadN X59.here hx rfl (hb hby d8_76) rfl rfl k) ?_
            obtain ⟨T60, X60, e60, st60⟩ := getF X59 hx hZ hown (host := "") (Or.inl (hw _ (List.mem_of_getElem? (i := 10) rfl))) Via.refl e59 Fb (g := (mkF m 77 #[.val (.ref ob), .val (.long kk), .second, .val (.int (Int32.ofNat y)), .val (.int (15 : Int32)), .val (.int (Int32.ofNat j)), q6] [(.ref ob), (.ref ai)])) rfl rfl (hb hby d8_77)
            refine own_st st60 ?_
            show own_Go p.tables e below _ (T60.setTop (mkF m 80 #[.val (.ref ob), .val (.long kk), .second, .val (.int (Int32.ofNat y)), .val (.int (15 : Int32)), .val (.int (Int32.ofNat j)), q6] [(.ref ai), (.ref ai)]))
            refine own_st (S' := T60.setTop (mkF m 82 #[.val (.ref ob), .val (.long kk), .second, .val (.int (Int32.ofNat y)), .val (.int (15 : Int32)), .val (.int (Int32.ofNat j)), q6] [(.int (Int32.ofNat j)), (.ref ai), (.ref ai)])) (fun t k => XS.iload X60.here hx rfl (hb hby d8_80) rfl k) ?_
            have O61 := Fg
            obtain ⟨c61, Ar61, S61, M61, V61⟩ := O61
            have at61 : c61.slots[((Int32.ofNat j)).toNatClampNeg]? = some (.long (f1 j)) := own_at S61 V61 (own_ixJ hj) rfl
            refine own_st (S' := T60.setTop (mkF m 83 #[.val (.ref ob), .val (.long kk), .second, .val (.int (Int32.ofNat y)), .val (.int (15 : Int32)), .val (.int (Int32.ofNat j)), q6] [(.long (f1 j)), (.ref ai)])) (fun t k => X60.laload hx (j := (Int32.ofNat j)) (v := (.long (f1 j))) (by rw [e60]; exact Ar61.1) (State.isArrayOf_alike hZ.alike Ar61.2.1) Ar61.2.2 (own_in S61 (own_ixJ hj)) at61 (g := (mkF m 82 #[.val (.ref ob), .val (.long kk), .second, .val (.int (Int32.ofNat y)), .val (.int (15 : Int32)), .val (.int (Int32.ofNat j)), q6] [(.int (Int32.ofNat j)), (.ref ai), (.ref ai)])) rfl rfl (hb hby d8_82) _ k) ?_
            obtain ⟨_, _, ⟨T62, L62, k62, n62⟩, -, X62, ⟨Lc62, hQ62, l62, y62, z62⟩, st62⟩ := Jvm.LawKit.callS X60 hx (y := (⟨"com/example/gaithersburg/gaithersburg/IdMap", "firstSlot", "([JJ)I"⟩ : MethodName)) hown (mvT hZ (hw _ (List.mem_of_getElem? (i := 31) rfl))) (mvT hZ (hw _ (List.mem_of_getElem? (i := 32) rfl))) (mvT hZ (hw _ (List.mem_of_getElem? (i := 2) rfl))) (mvT hZ (hw _ (List.mem_of_getElem? (i := 33) rfl))) (by decide) (backOf (W := 0) (rm3 l Z a0 hw [] ai (f1 j) f1 T.heap n0 Zz Fg) hZ (hw _ (List.mem_of_getElem? (i := 33) rfl)) (hw _ (List.mem_of_getElem? (i := 2) rfl)) (by decide) (by decide)) (g := (mkF m 83 #[.val (.ref ob), .val (.long kk), .second, .val (.int (Int32.ofNat y)), .val (.int (15 : Int32)), .val (.int (Int32.ofNat j)), q6] [(.long (f1 j)), (.ref ai)])) rfl (by rw [hml]; rfl) (argsL := [(.ref ai), (.long (f1 j))]) (rest := []) (lenOf pd8_0 rfl) rfl (by show 2 * 0 + _ ≤ _; exact Nat.le_of_eq rfl) (hb hby d8_83) (fun _ _ => ⟨rfl, e60, (by decide : 0 + 0 ≤ _), (by decide : 0 + 0 ≤ _)⟩)
            dsimp only [Pt.U, Pt.locs, Pt.cells, Pt.slots] at X62 l62 y62 z62 st62 hQ62
            rw [l62, y62, z62] at X62
            obtain ⟨rfl, N62q, hh62⟩ := hQ62
            have N62 := Fr.app N N62q
            refine own_st st62 ?_
            show own_Go p.tables e below _ (T62.setTop (mkF m 86 #[.val (.ref ob), .val (.long kk), .second, .val (.int (Int32.ofNat y)), .val (.int (15 : Int32)), .val (.int (Int32.ofNat j)), q6] [(.int (own_fs (f1 j)))]))
            obtain ⟨v63, qv63⟩ : ∃ z : Int32, z = (own_fs (f1 j)) := ⟨_, rfl⟩
            show own_Go p.tables e below _ (T62.setTop (mkF m 86 #[.val (.ref ob), .val (.long kk), .second, .val (.int (Int32.ofNat y)), .val (.int (15 : Int32)), .val (.int (Int32.ofNat j)), q6] [(.int (own_fs (f1 j)))]))
            rw [← qv63]
            refine own_st (S' := T62.setTop (mkF m 88 #[.val (.ref ob), .val (.long kk), .second, .val (.int (Int32.ofNat y)), .val (.int (15 : Int32)), .val (.int (Int32.ofNat j)), .val (.int v63)] [])) (fun t k => XS.istore X62.here hx rfl (hb hby d8_86) rfl (l' := #[.val (.ref ob), .val (.long kk), .second, .val (.int (Int32.ofNat y)), .val (.int (15 : Int32)), .val (.int (Int32.ofNat j)), .val (.int v63)]) (by rcases hq with rfl | ⟨_, rfl⟩ <;> rfl) k) ?_
            refine own_st (S' := T62.setTop (mkF m 90 #[.val (.ref ob), .val (.long kk), .second, .val (.int (Int32.ofNat y)), .val (.int (15 : Int32)), .val (.int (Int32.ofNat j)), .val (.int v63)] [(.int (Int32.ofNat j))])) (fun t k => XS.iload X62.here hx rfl (hb hby d8_88) rfl k) ?_
            refine own_st (S' := T62.setTop (mkF m 92 #[.val (.ref ob), .val (.long kk), .second, .val (.int (Int32.ofNat y)), .val (.int (15 : Int32)), .val (.int (Int32.ofNat j)), .val (.int v63)] [(.int v63), (.int (Int32.ofNat j))])) (fun t k => XS.iload X62.here hx rfl (hb hby d8_90) rfl k) ?_
            refine own_st (S' := T62.setTop (mkF m 93 #[.val (.ref ob), .val (.long kk), .second, .val (.int (Int32.ofNat y)), .val (.int (15 : Int32)), .val (.int (Int32.ofNat j)), .val (.int v63)] [(.int ((Int32.ofNat j) - v63))])) (fun t k => XS.isub X62.here hx rfl (hb hby d8_92) rfl k) ?_
            refine own_st (S' := T62.setTop (mkF m 95 #[.val (.ref ob), .val (.long kk), .second, .val (.int (Int32.ofNat y)), .val (.int (15 : Int32)), .val (.int (Int32.ofNat j)), .val (.int v63)] [(.int (15 : Int32)), (.int ((Int32.ofNat j) - v63))])) (fun t k => XS.iload X62.here hx rfl (hb hby d8_93) rfl k) ?_
            refine own_st (S' := T62.setTop (mkF m 96 #[.val (.ref ob), .val (.long kk), .second, .val (.int (Int32.ofNat y)), .val (.int (15 : Int32)), .val (.int (Int32.ofNat j)), .val (.int v63)] [(.int (((Int32.ofNat j) - v63) &&& (15 : Int32)))])) (fun t k => XS.iand X62.here hx rfl (hb hby d8_95) rfl k) ?_
            refine own_st (S' := T62.setTop (mkF m 98 #[.val (.ref ob), .val (.long kk), .second, .val (.int (Int32.ofNat y)), .val (.int (15 : Int32)), .val (.int (Int32.ofNat j)), .val (.int v63)] [(.int (Int32.ofNat j)), (.int (((Int32.ofNat j) - v63) &&& (15 : Int32)))])) (fun t k => XS.iload X62.here hx rfl (hb hby d8_96) rfl k) ?_
            refine own_st (S' := T62.setTop (mkF m 99 #[.val (.ref ob), .val (.long kk), .second, .val (.int (Int32.ofNat y)), .val (.int (15 : Int32)), .val (.int (Int32.ofNat j)), .val (.int v63)] [(.int (Int32.ofNat y)), (.int (Int32.ofNat j)), (.int (((Int32.ofNat j) - v63) &&& (15 : Int32)))])) (fun t k => XS.iloadN X62.here hx rfl (hb hby d8_98) rfl k) ?_
            refine own_st (S' := T62.setTop (mkF m 100 #[.val (.ref ob), .val (.long kk), .second, .val (.int (Int32.ofNat y)), .val (.int (15 : Int32)), .val (.int (Int32.ofNat j)), .val (.int v63)] [(.int ((Int32.ofNat j) - (Int32.ofNat y))), (.int (((Int32.ofNat j) - v63) &&& (15 : Int32)))])) (fun t k => XS.isub X62.here hx rfl (hb hby d8_99) rfl k) ?_
            refine own_st (S' := T62.setTop (mkF m 102 #[.val (.ref ob), .val (.long kk), .second, .val (.int (Int32.ofNat y)), .val (.int (15 : Int32)), .val (.int (Int32.ofNat j)), .val (.int v63)] [(.int (15 : Int32)), (.int ((Int32.ofNat j) - (Int32.ofNat y))), (.int (((Int32.ofNat j) - v63) &&& (15 : Int32)))])) (fun t k => XS.iload X62.here hx rfl (hb hby d8_100) rfl k) ?_
            refine own_st (S' := T62.setTop (mkF m 103 #[.val (.ref ob), .val (.long kk), .second, .val (.int (Int32.ofNat y)), .val (.int (15 : Int32)), .val (.int (Int32.ofNat j)), .val (.int v63)] [(.int (((Int32.ofNat j) - (Int32.ofNat y)) &&& (15 : Int32))), (.int (((Int32.ofNat j) - v63) &&& (15 : Int32)))])) (fun t k => XS.iand X62.here hx rfl (hb hby d8_102) rfl k) ?_
            by_cases hc64 : (((Int32.ofNat j) - v63) &&& (15 : Int32)) < (((Int32.ofNat j) - (Int32.ofNat y)) &&& (15 : Int32))
            · refine own_st (S' := T62.setTop (mkF m 135 #[.val (.ref ob), .val (.long kk), .second, .val (.int (Int32.ofNat y)), .val (.int (15 : Int32)), .val (.int (Int32.ofNat j)), .val (.int v63)] [])) (fun t k => XS.icmpYes X62.here hx rfl (pc0 := 103) (pc' := 135) rfl (hb hby d8_103) rfl (tlt hc64).1 (by decide) (by decide) k) ?_
              show own_Go p.tables e below _ (T62.setTop (mkF m 135 #[.val (.ref ob), .val (.long kk), .second, .val (.int (Int32.ofNat y)), .val (.int (15 : Int32)), .val (.int (Int32.ofNat j)), .val (.int v63)] []))
              refine own_st (S' := T62.setTop (mkF m 137 #[.val (.ref ob), .val (.long kk), .second, .val (.int (Int32.ofNat y)), .val (.int (15 : Int32)), .val (.int (Int32.ofNat j)), .val (.int v63)] [(.int (Int32.ofNat j))])) (fun t k => XS.iload X62.here hx rfl (hb hby d8_135) rfl k) ?_
              refine own_st (S' := T62.setTop (mkF m 138 #[.val (.ref ob), .val (.long kk), .second, .val (.int (Int32.ofNat y)), .val (.int (15 : Int32)), .val (.int (Int32.ofNat j)), .val (.int v63)] [(.int (1 : Int32)), (.int (Int32.ofNat j))])) (fun t k => XS.iconst X62.here hx rfl (hb hby d8_137) k) ?_
              refine own_st (S' := T62.setTop (mkF m 139 #[.val (.ref ob), .val (.long kk), .second, .val (.int (Int32.ofNat y)), .val (.int (15 : Int32)), .val (.int (Int32.ofNat j)), .val (.int v63)] [(.int ((Int32.ofNat j) + (1 : Int32)))])) (fun t k => XS.iadd X62.here hx rfl (hb hby d8_138) rfl k) ?_
              refine own_st (S' := T62.setTop (mkF m 141 #[.val (.ref ob), .val (.long kk), .second, .val (.int (Int32.ofNat y)), .val (.int (15 : Int32)), .val (.int (Int32.ofNat j)), .val (.int v63)] [(.int (15 : Int32)), (.int ((Int32.ofNat j) + (1 : Int32)))])) (fun t k => XS.iload X62.here hx rfl (hb hby d8_139) rfl k) ?_
              refine own_st (S' := T62.setTop (mkF m 142 #[.val (.ref ob), .val (.long kk), .second, .val (.int (Int32.ofNat y)), .val (.int (15 : Int32)), .val (.int (Int32.ofNat j)), .val (.int v63)] [(.int (((Int32.ofNat j) + (1 : Int32)) &&& (15 : Int32)))])) (fun t k => XS.iand X62.here hx rfl (hb hby d8_141) rfl k) ?_
              obtain ⟨v65, qv65⟩ : ∃ z : Int32, z = (((Int32.ofNat j) + (1 : Int32)) &&& (15 : Int32)) := ⟨_, rfl⟩
              show own_Go p.tables e below _ (T62.setTop (mkF m 142 #[.val (.ref ob), .val (.long kk), .second, .val (.int (Int32.ofNat y)), .val (.int (15 : Int32)), .val (.int (Int32.ofNat j)), .val (.int v63)] [(.int (((Int32.ofNat j) + (1 : Int32)) &&& (15 : Int32)))]))
              rw [← qv65]
              refine own_st (S' := T62.setTop (mkF m 144 #[.val (.ref ob), .val (.long kk), .second, .val (.int (Int32.ofNat y)), .val (.int (15 : Int32)), .val (.int v65), .val (.int v63)] [])) (fun t k => XS.istore X62.here hx rfl (hb hby d8_142) rfl (l' := #[.val (.ref ob), .val (.long kk), .second, .val (.int (Int32.ofNat y)), .val (.int (15 : Int32)), .val (.int v65), .val (.int v63)]) rfl k) ?_
              refine own_st (S' := T62.setTop (mkF m 60 #[.val (.ref ob), .val (.long kk), .second, .val (.int (Int32.ofNat y)), .val (.int (15 : Int32)), .val (.int v65), .val (.int v63)] [])) (fun t k => XS.goto X62.here hx rfl (pc0 := 144) (pc' := 60) rfl (hb hby d8_144) (by decide) (by decide) k) ?_
              rw [qv65, own_next' hj]
              exact ih _ _ _ _ _ _ _ X62 N62 (by rw [hh62]; exact K) (by rw [hh62]; exact Zz) (by rw [hh62]; exact Fa) (by rw [hh62]; exact Fb) (by rw [hh62]; exact Fc) (by rw [hh62]; exact Fd) (by rw [hh62]; exact Fe) (by rw [hh62]; exact Ff) (by rw [hh62]; exact Fg) (by rw [hh62]; exact Fh) hs.stay (Or.inr ⟨_, rfl⟩)
            · refine own_st (S' := T62.setTop (mkF m 106 #[.val (.ref ob), .val (.long kk), .second, .val (.int (Int32.ofNat y)), .val (.int (15 : Int32)), .val (.int (Int32.ofNat j)), .val (.int v63)] [])) (fun t k => XS.icmpNo X62.here hx rfl (hb hby d8_103) rfl (flt hc64).1 k) ?_
              show own_Go p.tables e below _ (T62.setTop (mkF m 106 #[.val (.ref ob), .val (.long kk), .second, .val (.int (Int32.ofNat y)), .val (.int (15 : Int32)), .val (.int (Int32.ofNat j)), .val (.int v63)] []))
              refine own_st (S' := T62.setTop (mkF m 107 #[.val (.ref ob), .val (.long kk), .second, .val (.int (Int32.ofNat y)), .val (.int (15 : Int32)), .val (.int (Int32.ofNat j)), .val (.int v63)] [(.ref ob)])) (fun t k => XS.aloadN X62.here hx rfl (hb hby d8_106) rfl rfl k) ?_
              obtain ⟨T66, X66, e66, st66⟩ := getF X62 hx hZ hown (host := "") (Or.inl (hw _ (List.mem_of_getElem? (i := 10) rfl))) Via.refl hh62 Fb (g := (mkF m 107 #[.val (.ref ob), .val (.long kk), .second, .val (.int (Int32.ofNat y)), .val (.int (15 : Int32)), .val (.int (Int32.ofNat j)), .val (.int v63)] [(.ref ob)])) rfl rfl (hb hby d8_107)
              refine own_st st66 ?_
              show own_Go p.tables e below _ (T66.setTop (mkF m 110 #[.val (.ref ob), .val (.long kk), .second, .val (.int (Int32.ofNat y)), .val (.int (15 : Int32)), .val (.int (Int32.ofNat j)), .val (.int v63)] [(.ref ai)]))
              refine own_st (S' := T66.setTop (mkF m 111 #[.val (.ref ob), .val (.long kk), .second, .val (.int (Int32.ofNat y)), .val (.int (15 : Int32)), .val (.int (Int32.ofNat j)), .val (.int v63)] [(.int (Int32.ofNat y)), (.ref ai)])) (fun t k => XS.iloadN X66.here hx rfl (hb hby d8_110) rfl k) ?_
              refine own_st (S' := T66.setTop (mkF m 112 #[.val (.ref ob), .val (.long kk), .second, .val (.int (Int32.ofNat y)), .val (.int (15 : Int32)), .val (.int (Int32.ofNat j)), .val (.int v63)] [(.ref ob), (.int (Int32.ofNat y)), (.ref ai)])) (fun t k => XS.aloadN X66.here hx rfl (hb hby d8_111) rfl rfl k) ?_
              obtain ⟨T67, X67, e67, st67⟩ := getF X66 hx hZ hown (host := "") (Or.inl (hw _ (List.mem_of_getElem? (i := 10) rfl))) Via.refl e66 Fb (g := (mkF m 112 #[.val (.ref ob), .val (.long kk), .second, .val (.int (Int32.ofNat y)), .val (.int (15 : Int32)), .val (.int (Int32.ofNat j)), .val (.int v63)] [(.ref ob), (.int (Int32.ofNat y)), (.ref ai)])) rfl rfl (hb hby d8_112)
              refine own_st st67 ?_
              show own_Go p.tables e below _ (T67.setTop (mkF m 115 #[.val (.ref ob), .val (.long kk), .second, .val (.int (Int32.ofNat y)), .val (.int (15 : Int32)), .val (.int (Int32.ofNat j)), .val (.int v63)] [(.ref ai), (.int (Int32.ofNat y)), (.ref ai)]))
              refine own_st (S' := T67.setTop (mkF m 117 #[.val (.ref ob), .val (.long kk), .second, .val (.int (Int32.ofNat y)), .val (.int (15 : Int32)), .val (.int (Int32.ofNat j)), .val (.int v63)] [(.int (Int32.ofNat j)), (.ref ai), (.int (Int32.ofNat y)), (.ref ai)])) (fun t k => XS.iload X67.here hx rfl (hb hby d8_115) rfl k) ?_
              have O68 := Fg
              obtain ⟨c68, Ar68, S68, M68, V68⟩ := O68
              have at68 : c68.slots[((Int32.ofNat j)).toNatClampNeg]? = some (.long (f1 j)) := own_at S68 V68 (own_ixJ hj) rfl
              refine own_st (S' := T67.setTop (mkF m 118 #[.val (.ref ob), .val (.long kk), .second, .val (.int (Int32.ofNat y)), .val (.int (15 : Int32)), .val (.int (Int32.ofNat j)), .val (.int v63)] [(.long (f1 j)), (.int (Int32.ofNat y)), (.ref ai)])) (fun t k => X67.laload hx (j := (Int32.ofNat j)) (v := (.long (f1 j))) (by rw [e67]; exact Ar68.1) (State.isArrayOf_alike hZ.alike Ar68.2.1) Ar68.2.2 (own_in S68 (own_ixJ hj)) at68 (g := (mkF m 117 #[.val (.ref ob), .val (.long kk), .second, .val (.int (Int32.ofNat y)), .val (.int (15 : Int32)), .val (.int (Int32.ofNat j)), .val (.int v63)] [(.int (Int32.ofNat j)), (.ref ai), (.int (Int32.ofNat y)), (.ref ai)])) rfl rfl (hb hby d8_117) _ k) ?_
              have O69 := Fg
              obtain ⟨c69, Ar69, S69, M69, V69⟩ := O69
              obtain ⟨T69, h69, X69, e69, W69, st69⟩ := stJ X67 hx hZ e67 Ar69 (j := (Int32.ofNat y)) (own_in S69 (own_ixJ hy)) (g := (mkF m 118 #[.val (.ref ob), .val (.long kk), .second, .val (.int (Int32.ofNat y)), .val (.int (15 : Int32)), .val (.int (Int32.ofNat j)), .val (.int v63)] [(.long (f1 j)), (.int (Int32.ofNat y)), (.ref ai)])) rfl rfl (hb hby d8_118)
              refine own_st st69 ?_
              have f70 : Exa Z h69 ob "com/example/gaithersburg/gaithersburg/IdMap" := Fa.wr W69
              have f71 : Fld Z h69 ob "com/example/gaithersburg/gaithersburg/IdMap" "ids" "[J" (.ref ai) := Fb.other W69 (Or.inl ne_ob_ai)
              have f72 : Fld Z h69 ob "com/example/gaithersburg/gaithersburg/IdMap" "values" "[J" (.ref av) := Fc.other W69 (Or.inl ne_ob_ai)
              have f73 : Fld Z h69 ob "com/example/gaithersburg/gaithersburg/IdMap" "held" "I" (.int (w - (1 : Int32))) := Fd.other W69 (Or.inl ne_ob_ai)
              have f74 : Fld Z h69 ob "com/example/gaithersburg/gaithersburg/IdMap" "holdsFree" "Z" (.int zf) := Fe.other W69 (Or.inl ne_ob_ai)
              have f75 : Fld Z h69 ob "com/example/gaithersburg/gaithersburg/IdMap" "freeValue" "J" (.long u) := Ff.other W69 (Or.inl ne_ob_ai)
              have f76 : own_A Z h69 av .long 16 (own_J g1) := Fh.other W69 (Ne.symm ne_ai_av)
              have Z69 : n0 ≤ h69.size := Nat.le_trans Zz (Keep.of_wr W69).1
              have N69 := Fr.snoc X69 N62 G_ai
              have K69 : Keep h0 h69 [ob, ai, av] := K.wr W69 (Or.inl (List.mem_of_getElem? (i := 1) rfl))
              have f77 : own_A Z h69 ai .long 16 (own_J (own_uJ f1 y (f1 j))) := by rw [← own_upJ]; exact own_A.set ⟨c69, Ar69, S69, M69, V69⟩ (own_ixJ hy) W69
              show own_Go p.tables e below _ (T69.setTop (mkF m 119 #[.val (.ref ob), .val (.long kk), .second, .val (.int (Int32.ofNat y)), .val (.int (15 : Int32)), .val (.int (Int32.ofNat j)), .val (.int v63)] []))
              refine own_st (S' := T69.setTop (mkF m 120 #[.val (.ref ob), .val (.long kk), .second, .val (.int (Int32.ofNat y)), .val (.int (15 : Int32)), .val (.int (Int32.ofNat j)), .val (.int v63)] [(.ref ob)])) (fun t k => XS.aloadN X69.here hx rfl (hb hby d8_119) rfl rfl k) ?_
              obtain ⟨T78, X78, e78, st78⟩ := getF X69 hx hZ hown (host := "") (Or.inl (hw _ (List.mem_of_getElem? (i := 12) rfl))) Via.refl e69 f72 (g := (mkF m 120 #[.val (.ref ob), .val (.long kk), .second, .val (.int (Int32.ofNat y)), .val (.int (15 : Int32)), .val (.int (Int32.ofNat j)), .val (.int v63)] [(.ref ob)])) rfl rfl (hb hby d8_120)
              refine own_st st78 ?_
              show own_Go p.tables e below _ (T78.setTop (mkF m 123 #[.val (.ref ob), .val (.long kk), .second, .val (.int (Int32.ofNat y)), .val (.int (15 : Int32)), .val (.int (Int32.ofNat j)), .val (.int v63)] [(.ref av)]))
              refine own_st (S' := T78.setTop (mkF m 124 #[.val (.ref ob), .val (.long kk), .second, .val (.int (Int32.ofNat y)), .val (.int (15 : Int32)), .val (.int (Int32.ofNat j)), .val (.int v63)] [(.int (Int32.ofNat y)), (.ref av)])) (fun t k => XS.iloadN X78.here hx rfl (hb hby d8_123) rfl k) ?_
              refine own_st (S' := T78.setTop (mkF m 125 #[.val (.ref ob), .val (.long kk), .second, .val (.int (Int32.ofNat y)), .val (.int (15 : Int32)), .val (.int (Int32.ofNat j)), .val (.int v63)] [(.ref ob), (.int (Int32.ofNat y)), (.ref av)])) (fun t k => XS.aloadN X78.here hx rfl (hb hby d8_124) rfl rfl k) ?_
              obtain ⟨T79, X79, e79, st79⟩ := getF X78 hx hZ hown (host := "") (Or.inl (hw _ (List.mem_of_getElem? (i := 12) rfl))) Via.refl e78 f72 (g := (mkF m 125 #[.val (.ref ob), .val (.long kk), .second, .val (.int (Int32.ofNat y)), .val (.int (15 : Int32)), .val (.int (Int32.ofNat j)), .val (.int v63)] [(.ref ob), (.int (Int32.ofNat y)), (.ref av)])) rfl rfl (hb hby d8_125)
              refine own_st st79 ?_
              show own_Go p.tables e below _ (T79.setTop (mkF m 128 #[.val (.ref ob), .val (.long kk), .second, .val (.int (Int32.ofNat y)), .val (.int (15 : Int32)), .val (.int (Int32.ofNat j)), .val (.int v63)] [(.ref av), (.int (Int32.ofNat y)), (.ref av)]))
              refine own_st (S' := T79.setTop (mkF m 130 #[.val (.ref ob), .val (.long kk), .second, .val (.int (Int32.ofNat y)), .val (.int (15 : Int32)), .val (.int (Int32.ofNat j)), .val (.int v63)] [(.int (Int32.ofNat j)), (.ref av), (.int (Int32.ofNat y)), (.ref av)])) (fun t k => XS.iload X79.here hx rfl (hb hby d8_128) rfl k) ?_
              have O80 := f76
              obtain ⟨c80, Ar80, S80, M80, V80⟩ := O80
              have at80 : c80.slots[((Int32.ofNat j)).toNatClampNeg]? = some (.long (g1 j)) := own_at S80 V80 (own_ixJ hj) rfl
              refine own_st (S' := T79.setTop (mkF m 131 #[.val (.ref ob), .val (.long kk), .second, .val (.int (Int32.ofNat y)), .val (.int (15 : Int32)), .val (.int (Int32.ofNat j)), .val (.int v63)] [(.long (g1 j)), (.int (Int32.ofNat y)), (.ref av)])) (fun t k => X79.laload hx (j := (Int32.ofNat j)) (v := (.long (g1 j))) (by rw [e79]; exact Ar80.1) (State.isArrayOf_alike hZ.alike Ar80.2.1) Ar80.2.2 (own_in S80 (own_ixJ hj)) at80 (g := (mkF m 130 #[.val (.ref ob), .val (.long kk), .second, .val (.int (Int32.ofNat y)), .val (.int (15 : Int32)), .val (.int (Int32.ofNat j)), .val (.int v63)] [(.int (Int32.ofNat j)), (.ref av), (.int (Int32.ofNat y)), (.ref av)])) rfl rfl (hb hby d8_130) _ k) ?_
              have O81 := f76
              obtain ⟨c81, Ar81, S81, M81, V81⟩ := O81
              obtain ⟨T81, h81, X81, e81, W81, st81⟩ := stJ X79 hx hZ e79 Ar81 (j := (Int32.ofNat y)) (own_in S81 (own_ixJ hy)) (g := (mkF m 131 #[.val (.ref ob), .val (.long kk), .second, .val (.int (Int32.ofNat y)), .val (.int (15 : Int32)), .val (.int (Int32.ofNat j)), .val (.int v63)] [(.long (g1 j)), (.int (Int32.ofNat y)), (.ref av)])) rfl rfl (hb hby d8_131)
              refine own_st st81 ?_
              have f82 : Exa Z h81 ob "com/example/gaithersburg/gaithersburg/IdMap" := f70.wr W81
              have f83 : Fld Z h81 ob "com/example/gaithersburg/gaithersburg/IdMap" "ids" "[J" (.ref ai) := f71.other W81 (Or.inl ne_ob_av)
              have f84 : Fld Z h81 ob "com/example/gaithersburg/gaithersburg/IdMap" "values" "[J" (.ref av) := f72.other W81 (Or.inl ne_ob_av)
              have f85 : Fld Z h81 ob "com/example/gaithersburg/gaithersburg/IdMap" "held" "I" (.int (w - (1 : Int32))) := f73.other W81 (Or.inl ne_ob_av)
              have f86 : Fld Z h81 ob "com/example/gaithersburg/gaithersburg/IdMap" "holdsFree" "Z" (.int zf) := f74.other W81 (Or.inl ne_ob_av)
              have f87 : Fld Z h81 ob "com/example/gaithersburg/gaithersburg/IdMap" "freeValue" "J" (.long u) := f75.other W81 (Or.inl ne_ob_av)
              have f88 : own_A Z h81 ai .long 16 (own_J (own_uJ f1 y (f1 j))) := f77.other W81 ne_ai_av
              have Z81 : n0 ≤ h81.size := Nat.le_trans Z69 (Keep.of_wr W81).1
              have N81 := Fr.snoc X81 N69 G_av
              have K81 : Keep h0 h81 [ob, ai, av] := K69.wr W81 (Or.inl (List.mem_of_getElem? (i := 2) rfl))
              have f89 : own_A Z h81 av .long 16 (own_J (own_uJ g1 y (g1 j))) := by rw [← own_upJ]; exact own_A.set ⟨c81, Ar81, S81, M81, V81⟩ (own_ixJ hy) W81
              show own_Go p.tables e below _ (T81.setTop (mkF m 132 #[.val (.ref ob), .val (.long kk), .second, .val (.int (Int32.ofNat y)), .val (.int (15 : Int32)), .val (.int (Int32.ofNat j)), .val (.int v63)] []))
              refine own_st (S' := T81.setTop (mkF m 134 #[.val (.ref ob), .val (.long kk), .second, .val (.int (Int32.ofNat y)), .val (.int (15 : Int32)), .val (.int (Int32.ofNat j)), .val (.int v63)] [(.int (Int32.ofNat j))])) (fun t k => XS.iload X81.here hx rfl (hb hby d8_132) rfl k) ?_
              refine own_st (S' := T81.setTop (mkF m 135 #[.val (.ref ob), .val (.long kk), .second, .val (.int (Int32.ofNat j)), .val (.int (15 : Int32)), .val (.int (Int32.ofNat j)), .val (.int v63)] [])) (fun t k => XS.istoreN X81.here hx rfl (hb hby d8_134) rfl (l' := #[.val (.ref ob), .val (.long kk), .second, .val (.int (Int32.ofNat j)), .val (.int (15 : Int32)), .val (.int (Int32.ofNat j)), .val (.int v63)]) rfl k) ?_
              refine own_st (S' := T81.setTop (mkF m 137 #[.val (.ref ob), .val (.long kk), .second, .val (.int (Int32.ofNat j)), .val (.int (15 : Int32)), .val (.int (Int32.ofNat j)), .val (.int v63)] [(.int (Int32.ofNat j))])) (fun t k => XS.iload X81.here hx rfl (hb hby d8_135) rfl k) ?_
              refine own_st (S' := T81.setTop (mkF m 138 #[.val (.ref ob), .val (.long kk), .second, .val (.int (Int32.ofNat j)), .val (.int (15 : Int32)), .val (.int (Int32.ofNat j)), .val (.int v63)] [(.int (1 : Int32)), (.int (Int32.ofNat j))])) (fun t k => XS.iconst X81.here hx rfl (hb hby d8_137) k) ?_
              refine own_st (S' := T81.setTop (mkF m 139 #[.val (.ref ob), .val (.long kk), .second, .val (.int (Int32.ofNat j)), .val (.int (15 : Int32)), .val (.int (Int32.ofNat j)), .val (.int v63)] [(.int ((Int32.ofNat j) + (1 : Int32)))])) (fun t k => XS.iadd X81.here hx rfl (hb hby d8_138) rfl k) ?_
              refine own_st (S' := T81.setTop (mkF m 141 #[.val (.ref ob), .val (.long kk), .second, .val (.int (Int32.ofNat j)), .val (.int (15 : Int32)), .val (.int (Int32.ofNat j)), .val (.int v63)] [(.int (15 : Int32)), (.int ((Int32.ofNat j) + (1 : Int32)))])) (fun t k => XS.iload X81.here hx rfl (hb hby d8_139) rfl k) ?_
              refine own_st (S' := T81.setTop (mkF m 142 #[.val (.ref ob), .val (.long kk), .second, .val (.int (Int32.ofNat j)), .val (.int (15 : Int32)), .val (.int (Int32.ofNat j)), .val (.int v63)] [(.int (((Int32.ofNat j) + (1 : Int32)) &&& (15 : Int32)))])) (fun t k => XS.iand X81.here hx rfl (hb hby d8_141) rfl k) ?_
              obtain ⟨v90, qv90⟩ : ∃ z : Int32, z = (((Int32.ofNat j) + (1 : Int32)) &&& (15 : Int32)) := ⟨_, rfl⟩
              show own_Go p.tables e below _ (T81.setTop (mkF m 142 #[.val (.ref ob), .val (.long kk), .second, .val (.int (Int32.ofNat j)), .val (.int (15 : Int32)), .val (.int (Int32.ofNat j)), .val (.int v63)] [(.int (((Int32.ofNat j) + (1 : Int32)) &&& (15 : Int32)))]))
              rw [← qv90]
              refine own_st (S' := T81.setTop (mkF m 144 #[.val (.ref ob), .val (.long kk), .second, .val (.int (Int32.ofNat j)), .val (.int (15 : Int32)), .val (.int v90), .val (.int v63)] [])) (fun t k => XS.istore X81.here hx rfl (hb hby d8_142) rfl (l' := #[.val (.ref ob), .val (.long kk), .second, .val (.int (Int32.ofNat j)), .val (.int (15 : Int32)), .val (.int v90), .val (.int v63)]) rfl k) ?_
              refine own_st (S' := T81.setTop (mkF m 60 #[.val (.ref ob), .val (.long kk), .second, .val (.int (Int32.ofNat j)), .val (.int (15 : Int32)), .val (.int v90), .val (.int v63)] [])) (fun t k => XS.goto X81.here hx rfl (pc0 := 144) (pc' := 60) rfl (hb hby d8_144) (by decide) (by decide) k) ?_
              rw [qv90, own_next' hj]
              exact ih _ _ _ _ _ _ _ X81 N81 (by rw [e81]; exact K81) (by rw [e81]; exact Z81) (by rw [e81]; exact f82) (by rw [e81]; exact f83) (by rw [e81]; exact f84) (by rw [e81]; exact f85) (by rw [e81]; exact f86) (by rw [e81]; exact f87) (by rw [e81]; exact f88) (by rw [e81]; exact f89) (hs.move hz) (Or.inr ⟨_, rfl⟩)
      rw [qv29, qv13, own_next' (own_pl_lt kk D)]
      obtain ⟨n, hs⟩ := own_Sh.start hG hE hD hk hc16
      exact loop n _ _ _ _ _ _ _ X27 N18 (by rw [e27]; exact K18) (by rw [e27]; exact Z18) (by rw [e27]; exact f19) (by rw [e27]; exact f20) (by rw [e27]; exact f21) (by rw [e27]; exact f26) (by rw [e27]; exact f22) (by rw [e27]; exact f23) (by rw [e27]; exact f24) (by rw [e27]; exact f25) hs (Or.inl rfl)
    · refine own_st (S' := T14.setTop (mkF m 32 #[.val (.ref ob), .val (.long kk), .second, .val (.int v13), .unset, .unset, .unset] [])) (fun t k => XS.ifNo X14.here hx rfl (hb hby d8_29) rfl ((if0 _ _).trans (feq (mt (lw_eq _ _).mp hc16)).1) k) ?_
      show own_Go p.tables e below _ (T14.setTop (mkF m 32 #[.val (.ref ob), .val (.long kk), .second, .val (.int v13), .unset, .unset, .unset] []))
      refine own_retV X14 hx hret hlk (hb hby d8_32) ?_ (by decide) (by decide)
      rw [e14]
      exact ⟨f, g, w, zf, u, rfl, N12, K0, E_ob, F_ob_ids, F_ob_values, F_ob_held, F_ob_holdsFree, F_ob_freeValue, A_ai, A_av, hE, (fun q => absurd q hc1), (fun _ => ⟨rfl, fun q => hc16 ((own_hasAt hG hc1 hD).mp q), fun q => absurd ((own_hasAt hG hc1 hD).mp q) hc16, fun _ => rfl⟩)⟩
theorem pd0_0 : parseMethodDescriptor "()V" = some ⟨[], none⟩ := by decide +kernel
theorem pd0_1 : parseMethodDescriptor "()I" = some ⟨[], some .int⟩ := by decide +kernel
theorem pd0_2 : parseMethodDescriptor "(JJ)V" = some ⟨[.long, .long], none⟩ := by decide +kernel
theorem pd0_3 : parseMethodDescriptor "(J)V" = some ⟨[.long], none⟩ := by decide +kernel
theorem pn0 : plainName "com/example/gaithersburg/gaithersburg/IdMapSizePinLaw" = true := by first | (simp [plainName, overriddenIn]; done) | decide +kernel
theorem ef0 (m : MethodId) (p0 : Int64) (p1 : Int64) (p2 : Int64) (p3 : Int64) (p4 : Int32) : entryFrame m #[(.long p0), (.long p1), (.long p2), (.long p3), (.int p4)] maxLocals = mkF m 0 #[.val (.long p0), .second, .val (.long p1), .second, .val (.long p2), .second, .val (.long p3), .second, .val (.int p4), .unset, .unset, .unset, .unset, .unset, .unset, .unset, .unset] [] := by first | (simp [entryFrame, mkF, argsToLocals, Value.category, maxLocals]; done) | rfl
def Q0 (n0 : Nat) (v : Option Value) (h : Heap) (L : List Loc) : Prop := v = some (.int 1) ∧ Fr n0 L
set_option maxRecDepth 65536 in
set_option maxHeartbeats 40000000 in
theorem rm0 (l : Launch) (Z : State) (a0 : Array Value) (hw : ∀ d ∈ tables_1, d.before a0 Z = true) (ws : List Jvm.Cond) (p0 : Int64) (p1 : Int64) (p2 : Int64) (p3 : Int64) (p4 : Int32) (h0 : Heap) (n0 : Nat) (Z0 : n0 ≤ h0.size)  :
    MetFree l x (head1 (Jvm.Cond.code x code maxLocals ret :: ws) room_1) (fun as' U => as' = #[(.long p0), (.long p1), (.long p2), (.long p3), (.int p4)] ∧ Z.Warmed39 U.vm ∧ U.heap = h0) (fun _ _ _ _ _ => True) (fun _ U o U' => ∃ v L, o = .returned v ∧ Q0 n0 v U'.heap L ∧ FrameEnd U o U' L room_1.cells room_1.slots) := by
  refine own_body (plainFor_of_name pn0) ?_
  intro p e s m below meth c s₁ hx hby hml hown0 hnm hret hlk hZ X0 e0
  have hown : s.vm.findClass "com/example/gaithersburg/gaithersburg/IdMapSizePinLaw" = some m.cls := hown0
  have N0 := Fr.nil n0
  rw [ef0]
  show own_Go p.tables e below _ (s₁.setTop (mkF m 0 #[.val (.long p0), .second, .val (.long p1), .second, .val (.long p2), .second, .val (.long p3), .second, .val (.int p4), .unset, .unset, .unset, .unset, .unset, .unset, .unset, .unset] []))
  refine own_st (S' := s₁.setTop (mkF m 2 #[.val (.long p0), .second, .val (.long p1), .second, .val (.long p2), .second, .val (.long p3), .second, .val (.int p4), .unset, .unset, .unset, .unset, .unset, .unset, .unset, .unset] [(.int p4)])) (fun t k => XS.iload X0.here hx rfl (hb hby at_0) rfl k) ?_
  refine own_st (S' := s₁.setTop (mkF m 3 #[.val (.long p0), .second, .val (.long p1), .second, .val (.long p2), .second, .val (.long p3), .second, .val (.int p4), .unset, .unset, .unset, .unset, .unset, .unset, .unset, .unset] [(.int (4 : Int32)), (.int p4)])) (fun t k => XS.iconst X0.here hx rfl (hb hby at_2) k) ?_
  refine own_st (S' := s₁.setTop (mkF m 4 #[.val (.long p0), .second, .val (.long p1), .second, .val (.long p2), .second, .val (.long p3), .second, .val (.int p4), .unset, .unset, .unset, .unset, .unset, .unset, .unset, .unset] [(.int (p4 &&& (4 : Int32)))])) (fun t k => XS.iand X0.here hx rfl (hb hby at_3) rfl k) ?_
  obtain ⟨v1, qv1⟩ : ∃ z : Int64, z = (if (p4 &&& (4 : Int32)) = (0 : Int32) then p0 else (0 : Int64)) := ⟨_, rfl⟩
  refine own_st (S' := s₁.setTop (mkF m 9 #[.val (.long v1), .second, .val (.long p1), .second, .val (.long p2), .second, .val (.long p3), .second, .val (.int p4), .unset, .unset, .unset, .unset, .unset, .unset, .unset, .unset] [])) (fun t k => ?_) ?_
  · show Steps p.tables e below (s₁.setTop (mkF m 4 #[.val (.long p0), .second, .val (.long p1), .second, .val (.long p2), .second, .val (.long p3), .second, .val (.int p4), .unset, .unset, .unset, .unset, .unset, .unset, .unset, .unset] [(.int (p4 &&& (4 : Int32)))])) _
    by_cases hc2 : (p4 &&& (4 : Int32)) = (0 : Int32)
    · rw [if_pos hc2] at qv1
      replace qv1 := Eq.symm qv1
      subst qv1
      refine XS.ifYes X0.here hx rfl (pc0 := 4) (pc' := 9) rfl (hb hby at_4) rfl ((if0 _ _).trans (teq hc2).1) (by decide) (by decide) ?_
      show Steps p.tables e below (s₁.setTop (mkF m 9 #[.val (.long p0), .second, .val (.long p1), .second, .val (.long p2), .second, .val (.long p3), .second, .val (.int p4), .unset, .unset, .unset, .unset, .unset, .unset, .unset, .unset] [])) _
      exact k
    · rw [if_neg hc2] at qv1
      replace qv1 := Eq.symm qv1
      subst qv1
      refine XS.ifNo X0.here hx rfl (hb hby at_4) rfl ((if0 _ _).trans (feq hc2).1) ?_
      show Steps p.tables e below (s₁.setTop (mkF m 7 #[.val (.long p0), .second, .val (.long p1), .second, .val (.long p2), .second, .val (.long p3), .second, .val (.int p4), .unset, .unset, .unset, .unset, .unset, .unset, .unset, .unset] [])) _
      refine XS.lconst X0.here hx rfl (hb hby at_7) ?_
      show Steps p.tables e below (s₁.setTop (mkF m 8 #[.val (.long p0), .second, .val (.long p1), .second, .val (.long p2), .second, .val (.long p3), .second, .val (.int p4), .unset, .unset, .unset, .unset, .unset, .unset, .unset, .unset] [(.long (0 : Int64))])) _
      refine XS.lstoreN X0.here hx rfl (hb hby at_8) rfl (l' := #[.val (.long (0 : Int64)), .second, .val (.long p1), .second, .val (.long p2), .second, .val (.long p3), .second, .val (.int p4), .unset, .unset, .unset, .unset, .unset, .unset, .unset, .unset]) rfl ?_
      show Steps p.tables e below (s₁.setTop (mkF m 9 #[.val (.long (0 : Int64)), .second, .val (.long p1), .second, .val (.long p2), .second, .val (.long p3), .second, .val (.int p4), .unset, .unset, .unset, .unset, .unset, .unset, .unset, .unset] [])) _
      exact k
  show own_Go p.tables e below _ (s₁.setTop (mkF m 9 #[.val (.long v1), .second, .val (.long p1), .second, .val (.long p2), .second, .val (.long p3), .second, .val (.int p4), .unset, .unset, .unset, .unset, .unset, .unset, .unset, .unset] []))
  refine own_st (S' := s₁.setTop (mkF m 11 #[.val (.long v1), .second, .val (.long p1), .second, .val (.long p2), .second, .val (.long p3), .second, .val (.int p4), .unset, .unset, .unset, .unset, .unset, .unset, .unset, .unset] [(.int p4)])) (fun t k => XS.iload X0.here hx rfl (hb hby at_9) rfl k) ?_
  refine own_st (S' := s₁.setTop (mkF m 13 #[.val (.long v1), .second, .val (.long p1), .second, .val (.long p2), .second, .val (.long p3), .second, .val (.int p4), .unset, .unset, .unset, .unset, .unset, .unset, .unset, .unset] [(.int (8 : Int32)), (.int p4)])) (fun t k => XS.bipush X0.here hx rfl (hb hby at_11) k) ?_
  refine own_st (S' := s₁.setTop (mkF m 14 #[.val (.long v1), .second, .val (.long p1), .second, .val (.long p2), .second, .val (.long p3), .second, .val (.int p4), .unset, .unset, .unset, .unset, .unset, .unset, .unset, .unset] [(.int (p4 &&& (8 : Int32)))])) (fun t k => XS.iand X0.here hx rfl (hb hby at_13) rfl k) ?_
  obtain ⟨v3, qv3⟩ : ∃ z : Int64, z = (if (p4 &&& (8 : Int32)) = (0 : Int32) then p2 else (0 : Int64)) := ⟨_, rfl⟩
  refine own_st (S' := s₁.setTop (mkF m 20 #[.val (.long v1), .second, .val (.long p1), .second, .val (.long v3), .second, .val (.long p3), .second, .val (.int p4), .unset, .unset, .unset, .unset, .unset, .unset, .unset, .unset] [])) (fun t k => ?_) ?_
  · show Steps p.tables e below (s₁.setTop (mkF m 14 #[.val (.long v1), .second, .val (.long p1), .second, .val (.long p2), .second, .val (.long p3), .second, .val (.int p4), .unset, .unset, .unset, .unset, .unset, .unset, .unset, .unset] [(.int (p4 &&& (8 : Int32)))])) _
    by_cases hc4 : (p4 &&& (8 : Int32)) = (0 : Int32)
    · rw [if_pos hc4] at qv3
      replace qv3 := Eq.symm qv3
      subst qv3
      refine XS.ifYes X0.here hx rfl (pc0 := 14) (pc' := 20) rfl (hb hby at_14) rfl ((if0 _ _).trans (teq hc4).1) (by decide) (by decide) ?_
      show Steps p.tables e below (s₁.setTop (mkF m 20 #[.val (.long v1), .second, .val (.long p1), .second, .val (.long p2), .second, .val (.long p3), .second, .val (.int p4), .unset, .unset, .unset, .unset, .unset, .unset, .unset, .unset] [])) _
      exact k
    · rw [if_neg hc4] at qv3
      replace qv3 := Eq.symm qv3
      subst qv3
      refine XS.ifNo X0.here hx rfl (hb hby at_14) rfl ((if0 _ _).trans (feq hc4).1) ?_
      show Steps p.tables e below (s₁.setTop (mkF m 17 #[.val (.long v1), .second, .val (.long p1), .second, .val (.long p2), .second, .val (.long p3), .second, .val (.int p4), .unset, .unset, .unset, .unset, .unset, .unset, .unset, .unset] [])) _
      refine XS.lconst X0.here hx rfl (hb hby at_17) ?_
      show Steps p.tables e below (s₁.setTop (mkF m 18 #[.val (.long v1), .second, .val (.long p1), .second, .val (.long p2), .second, .val (.long p3), .second, .val (.int p4), .unset, .unset, .unset, .unset, .unset, .unset, .unset, .unset] [(.long (0 : Int64))])) _
      refine XS.lstore X0.here hx rfl (hb hby at_18) rfl (l' := #[.val (.long v1), .second, .val (.long p1), .second, .val (.long (0 : Int64)), .second, .val (.long p3), .second, .val (.int p4), .unset, .unset, .unset, .unset, .unset, .unset, .unset, .unset]) rfl ?_
      show Steps p.tables e below (s₁.setTop (mkF m 20 #[.val (.long v1), .second, .val (.long p1), .second, .val (.long (0 : Int64)), .second, .val (.long p3), .second, .val (.int p4), .unset, .unset, .unset, .unset, .unset, .unset, .unset, .unset] [])) _
      exact k
  show own_Go p.tables e below _ (s₁.setTop (mkF m 20 #[.val (.long v1), .second, .val (.long p1), .second, .val (.long v3), .second, .val (.long p3), .second, .val (.int p4), .unset, .unset, .unset, .unset, .unset, .unset, .unset, .unset] []))
  refine own_st (S' := s₁.setTop (mkF m 22 #[.val (.long v1), .second, .val (.long p1), .second, .val (.long v3), .second, .val (.long p3), .second, .val (.int p4), .unset, .unset, .unset, .unset, .unset, .unset, .unset, .unset] [(.int p4)])) (fun t k => XS.iload X0.here hx rfl (hb hby at_20) rfl k) ?_
  refine own_st (S' := s₁.setTop (mkF m 23 #[.val (.long v1), .second, .val (.long p1), .second, .val (.long v3), .second, .val (.long p3), .second, .val (.int p4), .unset, .unset, .unset, .unset, .unset, .unset, .unset, .unset] [(.int (1 : Int32)), (.int p4)])) (fun t k => XS.iconst X0.here hx rfl (hb hby at_22) k) ?_
  refine own_st (S' := s₁.setTop (mkF m 24 #[.val (.long v1), .second, .val (.long p1), .second, .val (.long v3), .second, .val (.long p3), .second, .val (.int p4), .unset, .unset, .unset, .unset, .unset, .unset, .unset, .unset] [(.int (p4 &&& (1 : Int32)))])) (fun t k => XS.iand X0.here hx rfl (hb hby at_23) rfl k) ?_
  obtain ⟨v5, qv5⟩ : ∃ z : Int64, z = (if (p4 &&& (1 : Int32)) = (0 : Int32) then p1 else v1) := ⟨_, rfl⟩
  refine own_st (S' := s₁.setTop (mkF m 29 #[.val (.long v1), .second, .val (.long v5), .second, .val (.long v3), .second, .val (.long p3), .second, .val (.int p4), .unset, .unset, .unset, .unset, .unset, .unset, .unset, .unset] [])) (fun t k => ?_) ?_
  · show Steps p.tables e below (s₁.setTop (mkF m 24 #[.val (.long v1), .second, .val (.long p1), .second, .val (.long v3), .second, .val (.long p3), .second, .val (.int p4), .unset, .unset, .unset, .unset, .unset, .unset, .unset, .unset] [(.int (p4 &&& (1 : Int32)))])) _
    by_cases hc6 : (p4 &&& (1 : Int32)) = (0 : Int32)
    · rw [if_pos hc6] at qv5
      replace qv5 := Eq.symm qv5
      subst qv5
      refine XS.ifYes X0.here hx rfl (pc0 := 24) (pc' := 29) rfl (hb hby at_24) rfl ((if0 _ _).trans (teq hc6).1) (by decide) (by decide) ?_
      show Steps p.tables e below (s₁.setTop (mkF m 29 #[.val (.long v1), .second, .val (.long p1), .second, .val (.long v3), .second, .val (.long p3), .second, .val (.int p4), .unset, .unset, .unset, .unset, .unset, .unset, .unset, .unset] [])) _
      exact k
    · rw [if_neg hc6] at qv5
      replace qv5 := Eq.symm qv5
      subst qv5
      refine XS.ifNo X0.here hx rfl (hb hby at_24) rfl ((if0 _ _).trans (feq hc6).1) ?_
      show Steps p.tables e below (s₁.setTop (mkF m 27 #[.val (.long v1), .second, .val (.long p1), .second, .val (.long v3), .second, .val (.long p3), .second, .val (.int p4), .unset, .unset, .unset, .unset, .unset, .unset, .unset, .unset] [])) _
      refine XS.lloadN X0.here hx rfl (hb hby at_27) rfl ?_
      show Steps p.tables e below (s₁.setTop (mkF m 28 #[.val (.long v1), .second, .val (.long p1), .second, .val (.long v3), .second, .val (.long p3), .second, .val (.int p4), .unset, .unset, .unset, .unset, .unset, .unset, .unset, .unset] [(.long v1)])) _
      refine XS.lstoreN X0.here hx rfl (hb hby at_28) rfl (l' := #[.val (.long v1), .second, .val (.long v1), .second, .val (.long v3), .second, .val (.long p3), .second, .val (.int p4), .unset, .unset, .unset, .unset, .unset, .unset, .unset, .unset]) rfl ?_
      show Steps p.tables e below (s₁.setTop (mkF m 29 #[.val (.long v1), .second, .val (.long v1), .second, .val (.long v3), .second, .val (.long p3), .second, .val (.int p4), .unset, .unset, .unset, .unset, .unset, .unset, .unset, .unset] [])) _
      exact k
  show own_Go p.tables e below _ (s₁.setTop (mkF m 29 #[.val (.long v1), .second, .val (.long v5), .second, .val (.long v3), .second, .val (.long p3), .second, .val (.int p4), .unset, .unset, .unset, .unset, .unset, .unset, .unset, .unset] []))
  refine own_st (S' := s₁.setTop (mkF m 31 #[.val (.long v1), .second, .val (.long v5), .second, .val (.long v3), .second, .val (.long p3), .second, .val (.int p4), .unset, .unset, .unset, .unset, .unset, .unset, .unset, .unset] [(.int p4)])) (fun t k => XS.iload X0.here hx rfl (hb hby at_29) rfl k) ?_
  refine own_st (S' := s₁.setTop (mkF m 32 #[.val (.long v1), .second, .val (.long v5), .second, .val (.long v3), .second, .val (.long p3), .second, .val (.int p4), .unset, .unset, .unset, .unset, .unset, .unset, .unset, .unset] [(.int (2 : Int32)), (.int p4)])) (fun t k => XS.iconst X0.here hx rfl (hb hby at_31) k) ?_
  refine own_st (S' := s₁.setTop (mkF m 33 #[.val (.long v1), .second, .val (.long v5), .second, .val (.long v3), .second, .val (.long p3), .second, .val (.int p4), .unset, .unset, .unset, .unset, .unset, .unset, .unset, .unset] [(.int (p4 &&& (2 : Int32)))])) (fun t k => XS.iand X0.here hx rfl (hb hby at_32) rfl k) ?_
  obtain ⟨v7, qv7⟩ : ∃ z : Int64, z = (if (p4 &&& (2 : Int32)) = (0 : Int32) then v3 else v5) := ⟨_, rfl⟩
  refine own_st (S' := s₁.setTop (mkF m 39 #[.val (.long v1), .second, .val (.long v5), .second, .val (.long v7), .second, .val (.long p3), .second, .val (.int p4), .unset, .unset, .unset, .unset, .unset, .unset, .unset, .unset] [])) (fun t k => ?_) ?_
  · show Steps p.tables e below (s₁.setTop (mkF m 33 #[.val (.long v1), .second, .val (.long v5), .second, .val (.long v3), .second, .val (.long p3), .second, .val (.int p4), .unset, .unset, .unset, .unset, .unset, .unset, .unset, .unset] [(.int (p4 &&& (2 : Int32)))])) _
    by_cases hc8 : (p4 &&& (2 : Int32)) = (0 : Int32)
    · rw [if_pos hc8] at qv7
      replace qv7 := Eq.symm qv7
      subst qv7
      refine XS.ifYes X0.here hx rfl (pc0 := 33) (pc' := 39) rfl (hb hby at_33) rfl ((if0 _ _).trans (teq hc8).1) (by decide) (by decide) ?_
      show Steps p.tables e below (s₁.setTop (mkF m 39 #[.val (.long v1), .second, .val (.long v5), .second, .val (.long v3), .second, .val (.long p3), .second, .val (.int p4), .unset, .unset, .unset, .unset, .unset, .unset, .unset, .unset] [])) _
      exact k
    · rw [if_neg hc8] at qv7
      replace qv7 := Eq.symm qv7
      subst qv7
      refine XS.ifNo X0.here hx rfl (hb hby at_33) rfl ((if0 _ _).trans (feq hc8).1) ?_
      show Steps p.tables e below (s₁.setTop (mkF m 36 #[.val (.long v1), .second, .val (.long v5), .second, .val (.long v3), .second, .val (.long p3), .second, .val (.int p4), .unset, .unset, .unset, .unset, .unset, .unset, .unset, .unset] [])) _
      refine XS.lloadN X0.here hx rfl (hb hby at_36) rfl ?_
      show Steps p.tables e below (s₁.setTop (mkF m 37 #[.val (.long v1), .second, .val (.long v5), .second, .val (.long v3), .second, .val (.long p3), .second, .val (.int p4), .unset, .unset, .unset, .unset, .unset, .unset, .unset, .unset] [(.long v5)])) _
      refine XS.lstore X0.here hx rfl (hb hby at_37) rfl (l' := #[.val (.long v1), .second, .val (.long v5), .second, .val (.long v5), .second, .val (.long p3), .second, .val (.int p4), .unset, .unset, .unset, .unset, .unset, .unset, .unset, .unset]) rfl ?_
      show Steps p.tables e below (s₁.setTop (mkF m 39 #[.val (.long v1), .second, .val (.long v5), .second, .val (.long v5), .second, .val (.long p3), .second, .val (.int p4), .unset, .unset, .unset, .unset, .unset, .unset, .unset, .unset] [])) _
      exact k
  show own_Go p.tables e below _ (s₁.setTop (mkF m 39 #[.val (.long v1), .second, .val (.long v5), .second, .val (.long v7), .second, .val (.long p3), .second, .val (.int p4), .unset, .unset, .unset, .unset, .unset, .unset, .unset, .unset] []))
  refine own_st (S' := s₁.setTop (mkF m 41 #[.val (.long v1), .second, .val (.long v5), .second, .val (.long v7), .second, .val (.long p3), .second, .val (.int p4), .unset, .unset, .unset, .unset, .unset, .unset, .unset, .unset] [(.int p4)])) (fun t k => XS.iload X0.here hx rfl (hb hby at_39) rfl k) ?_
  refine own_st (S' := s₁.setTop (mkF m 42 #[.val (.long v1), .second, .val (.long v5), .second, .val (.long v7), .second, .val (.long p3), .second, .val (.int p4), .unset, .unset, .unset, .unset, .unset, .unset, .unset, .unset] [(.int (4 : Int32)), (.int p4)])) (fun t k => XS.iconst X0.here hx rfl (hb hby at_41) k) ?_
  refine own_st (S' := s₁.setTop (mkF m 43 #[.val (.long v1), .second, .val (.long v5), .second, .val (.long v7), .second, .val (.long p3), .second, .val (.int p4), .unset, .unset, .unset, .unset, .unset, .unset, .unset, .unset] [(.int ((p4.toUInt32 >>> ((4 : Int32) &&& 31).toUInt32).toInt32))])) (fun t k => XS.iushr X0.here hx rfl (hb hby at_42) rfl k) ?_
  refine own_st (S' := s₁.setTop (mkF m 44 #[.val (.long v1), .second, .val (.long v5), .second, .val (.long v7), .second, .val (.long p3), .second, .val (.int p4), .unset, .unset, .unset, .unset, .unset, .unset, .unset, .unset] [(.int (3 : Int32)), (.int ((p4.toUInt32 >>> ((4 : Int32) &&& 31).toUInt32).toInt32))])) (fun t k => XS.iconst X0.here hx rfl (hb hby at_43) k) ?_
  refine own_st (S' := s₁.setTop (mkF m 45 #[.val (.long v1), .second, .val (.long v5), .second, .val (.long v7), .second, .val (.long p3), .second, .val (.int p4), .unset, .unset, .unset, .unset, .unset, .unset, .unset, .unset] [(.int (((p4.toUInt32 >>> ((4 : Int32) &&& 31).toUInt32).toInt32) &&& (3 : Int32)))])) (fun t k => XS.iand X0.here hx rfl (hb hby at_44) rfl k) ?_
  obtain ⟨v9, qv9⟩ : ∃ z : Int32, z = (((p4.toUInt32 >>> ((4 : Int32) &&& 31).toUInt32).toInt32) &&& (3 : Int32)) := ⟨_, rfl⟩
  show own_Go p.tables e below _ (s₁.setTop (mkF m 45 #[.val (.long v1), .second, .val (.long v5), .second, .val (.long v7), .second, .val (.long p3), .second, .val (.int p4), .unset, .unset, .unset, .unset, .unset, .unset, .unset, .unset] [(.int (((p4.toUInt32 >>> ((4 : Int32) &&& 31).toUInt32).toInt32) &&& (3 : Int32)))]))
  rw [← qv9]
  refine own_st (S' := s₁.setTop (mkF m 47 #[.val (.long v1), .second, .val (.long v5), .second, .val (.long v7), .second, .val (.long p3), .second, .val (.int p4), .val (.int v9), .unset, .unset, .unset, .unset, .unset, .unset, .unset] [])) (fun t k => XS.istore X0.here hx rfl (hb hby at_45) rfl (l' := #[.val (.long v1), .second, .val (.long v5), .second, .val (.long v7), .second, .val (.long p3), .second, .val (.int p4), .val (.int v9), .unset, .unset, .unset, .unset, .unset, .unset, .unset]) rfl k) ?_
  refine own_st (S' := s₁.setTop (mkF m 49 #[.val (.long v1), .second, .val (.long v5), .second, .val (.long v7), .second, .val (.long p3), .second, .val (.int p4), .val (.int v9), .unset, .unset, .unset, .unset, .unset, .unset, .unset] [(.int v9)])) (fun t k => XS.iload X0.here hx rfl (hb hby at_47) rfl k) ?_
  obtain ⟨v10, qv10⟩ : ∃ z : Int64, z = (if v9 = (0 : Int32) then v1 else (if v9 = (1 : Int32) then v5 else (if v9 = (2 : Int32) then v7 else p3))) := ⟨_, rfl⟩
  refine own_st (S' := s₁.setTop (mkF m 79 #[.val (.long v1), .second, .val (.long v5), .second, .val (.long v7), .second, .val (.long p3), .second, .val (.int p4), .val (.int v9), .unset, .unset, .unset, .unset, .unset, .unset, .unset] [(.long v10)])) (fun t k => ?_) ?_
  · show Steps p.tables e below (s₁.setTop (mkF m 49 #[.val (.long v1), .second, .val (.long v5), .second, .val (.long v7), .second, .val (.long p3), .second, .val (.int p4), .val (.int v9), .unset, .unset, .unset, .unset, .unset, .unset, .unset] [(.int v9)])) _
    by_cases hc11 : v9 = (0 : Int32)
    · rw [if_pos hc11] at qv10
      replace qv10 := Eq.symm qv10
      subst qv10
      refine XS.ifNo X0.here hx rfl (hb hby at_49) rfl ((if0 _ _).trans (teq hc11).2) ?_
      show Steps p.tables e below (s₁.setTop (mkF m 52 #[.val (.long v1), .second, .val (.long v5), .second, .val (.long v7), .second, .val (.long p3), .second, .val (.int p4), .val (.int v9), .unset, .unset, .unset, .unset, .unset, .unset, .unset] [])) _
      refine XS.lloadN X0.here hx rfl (hb hby at_52) rfl ?_
      show Steps p.tables e below (s₁.setTop (mkF m 53 #[.val (.long v1), .second, .val (.long v5), .second, .val (.long v7), .second, .val (.long p3), .second, .val (.int p4), .val (.int v9), .unset, .unset, .unset, .unset, .unset, .unset, .unset] [(.long v1)])) _
      refine XS.goto X0.here hx rfl (pc0 := 53) (pc' := 79) rfl (hb hby at_53) (by decide) (by decide) ?_
      show Steps p.tables e below (s₁.setTop (mkF m 79 #[.val (.long v1), .second, .val (.long v5), .second, .val (.long v7), .second, .val (.long p3), .second, .val (.int p4), .val (.int v9), .unset, .unset, .unset, .unset, .unset, .unset, .unset] [(.long v1)])) _
      exact k
    · rw [if_neg hc11] at qv10
      refine XS.ifYes X0.here hx rfl (pc0 := 49) (pc' := 56) rfl (hb hby at_49) rfl ((if0 _ _).trans (feq hc11).2) (by decide) (by decide) ?_
      show Steps p.tables e below (s₁.setTop (mkF m 56 #[.val (.long v1), .second, .val (.long v5), .second, .val (.long v7), .second, .val (.long p3), .second, .val (.int p4), .val (.int v9), .unset, .unset, .unset, .unset, .unset, .unset, .unset] [])) _
      refine XS.iload X0.here hx rfl (hb hby at_56) rfl ?_
      show Steps p.tables e below (s₁.setTop (mkF m 58 #[.val (.long v1), .second, .val (.long v5), .second, .val (.long v7), .second, .val (.long p3), .second, .val (.int p4), .val (.int v9), .unset, .unset, .unset, .unset, .unset, .unset, .unset] [(.int v9)])) _
      refine XS.iconst X0.here hx rfl (hb hby at_58) ?_
      show Steps p.tables e below (s₁.setTop (mkF m 59 #[.val (.long v1), .second, .val (.long v5), .second, .val (.long v7), .second, .val (.long p3), .second, .val (.int p4), .val (.int v9), .unset, .unset, .unset, .unset, .unset, .unset, .unset] [(.int (1 : Int32)), (.int v9)])) _
      by_cases hc12 : v9 = (1 : Int32)
      · rw [if_pos hc12] at qv10
        replace qv10 := Eq.symm qv10
        subst qv10
        refine XS.icmpNo X0.here hx rfl (hb hby at_59) rfl (teq hc12).2 ?_
        show Steps p.tables e below (s₁.setTop (mkF m 62 #[.val (.long v1), .second, .val (.long v5), .second, .val (.long v7), .second, .val (.long p3), .second, .val (.int p4), .val (.int v9), .unset, .unset, .unset, .unset, .unset, .unset, .unset] [])) _
        refine XS.lloadN X0.here hx rfl (hb hby at_62) rfl ?_
        show Steps p.tables e below (s₁.setTop (mkF m 63 #[.val (.long v1), .second, .val (.long v5), .second, .val (.long v7), .second, .val (.long p3), .second, .val (.int p4), .val (.int v9), .unset, .unset, .unset, .unset, .unset, .unset, .unset] [(.long v5)])) _
        refine XS.goto X0.here hx rfl (pc0 := 63) (pc' := 79) rfl (hb hby at_63) (by decide) (by decide) ?_
        show Steps p.tables e below (s₁.setTop (mkF m 79 #[.val (.long v1), .second, .val (.long v5), .second, .val (.long v7), .second, .val (.long p3), .second, .val (.int p4), .val (.int v9), .unset, .unset, .unset, .unset, .unset, .unset, .unset] [(.long v5)])) _
        exact k
      · rw [if_neg hc12] at qv10
        refine XS.icmpYes X0.here hx rfl (pc0 := 59) (pc' := 66) rfl (hb hby at_59) rfl (feq hc12).2 (by decide) (by decide) ?_
        show Steps p.tables e below (s₁.setTop (mkF m 66 #[.val (.long v1), .second, .val (.long v5), .second, .val (.long v7), .second, .val (.long p3), .second, .val (.int p4), .val (.int v9), .unset, .unset, .unset, .unset, .unset, .unset, .unset] [])) _
        refine XS.iload X0.here hx rfl (hb hby at_66) rfl ?_
        show Steps p.tables e below (s₁.setTop (mkF m 68 #[.val (.long v1), .second, .val (.long v5), .second, .val (.long v7), .second, .val (.long p3), .second, .val (.int p4), .val (.int v9), .unset, .unset, .unset, .unset, .unset, .unset, .unset] [(.int v9)])) _
        refine XS.iconst X0.here hx rfl (hb hby at_68) ?_
        show Steps p.tables e below (s₁.setTop (mkF m 69 #[.val (.long v1), .second, .val (.long v5), .second, .val (.long v7), .second, .val (.long p3), .second, .val (.int p4), .val (.int v9), .unset, .unset, .unset, .unset, .unset, .unset, .unset] [(.int (2 : Int32)), (.int v9)])) _
        by_cases hc13 : v9 = (2 : Int32)
        · rw [if_pos hc13] at qv10
          replace qv10 := Eq.symm qv10
          subst qv10
          refine XS.icmpNo X0.here hx rfl (hb hby at_69) rfl (teq hc13).2 ?_
          show Steps p.tables e below (s₁.setTop (mkF m 72 #[.val (.long v1), .second, .val (.long v5), .second, .val (.long v7), .second, .val (.long p3), .second, .val (.int p4), .val (.int v9), .unset, .unset, .unset, .unset, .unset, .unset, .unset] [])) _
          refine XS.lload X0.here hx rfl (hb hby at_72) rfl ?_
          show Steps p.tables e below (s₁.setTop (mkF m 74 #[.val (.long v1), .second, .val (.long v5), .second, .val (.long v7), .second, .val (.long p3), .second, .val (.int p4), .val (.int v9), .unset, .unset, .unset, .unset, .unset, .unset, .unset] [(.long v7)])) _
          refine XS.goto X0.here hx rfl (pc0 := 74) (pc' := 79) rfl (hb hby at_74) (by decide) (by decide) ?_
          show Steps p.tables e below (s₁.setTop (mkF m 79 #[.val (.long v1), .second, .val (.long v5), .second, .val (.long v7), .second, .val (.long p3), .second, .val (.int p4), .val (.int v9), .unset, .unset, .unset, .unset, .unset, .unset, .unset] [(.long v7)])) _
          exact k
        · rw [if_neg hc13] at qv10
          replace qv10 := Eq.symm qv10
          subst qv10
          refine XS.icmpYes X0.here hx rfl (pc0 := 69) (pc' := 77) rfl (hb hby at_69) rfl (feq hc13).2 (by decide) (by decide) ?_
          show Steps p.tables e below (s₁.setTop (mkF m 77 #[.val (.long v1), .second, .val (.long v5), .second, .val (.long v7), .second, .val (.long p3), .second, .val (.int p4), .val (.int v9), .unset, .unset, .unset, .unset, .unset, .unset, .unset] [])) _
          refine XS.lload X0.here hx rfl (hb hby at_77) rfl ?_
          show Steps p.tables e below (s₁.setTop (mkF m 79 #[.val (.long v1), .second, .val (.long v5), .second, .val (.long v7), .second, .val (.long p3), .second, .val (.int p4), .val (.int v9), .unset, .unset, .unset, .unset, .unset, .unset, .unset] [(.long p3)])) _
          exact k
  show own_Go p.tables e below _ (s₁.setTop (mkF m 79 #[.val (.long v1), .second, .val (.long v5), .second, .val (.long v7), .second, .val (.long p3), .second, .val (.int p4), .val (.int v9), .unset, .unset, .unset, .unset, .unset, .unset, .unset] [(.long v10)]))
  refine own_st (S' := s₁.setTop (mkF m 81 #[.val (.long v1), .second, .val (.long v5), .second, .val (.long v7), .second, .val (.long p3), .second, .val (.int p4), .val (.int v9), .val (.long v10), .second, .unset, .unset, .unset, .unset, .unset] [])) (fun t k => XS.lstore X0.here hx rfl (hb hby at_79) rfl (l' := #[.val (.long v1), .second, .val (.long v5), .second, .val (.long v7), .second, .val (.long p3), .second, .val (.int p4), .val (.int v9), .val (.long v10), .second, .unset, .unset, .unset, .unset, .unset]) rfl k) ?_
  refine own_st (S' := s₁.setTop (mkF m 83 #[.val (.long v1), .second, .val (.long v5), .second, .val (.long v7), .second, .val (.long p3), .second, .val (.int p4), .val (.int v9), .val (.long v10), .second, .unset, .unset, .unset, .unset, .unset] [(.int p4)])) (fun t k => XS.iload X0.here hx rfl (hb hby at_81) rfl k) ?_
  refine own_st (S' := s₁.setTop (mkF m 85 #[.val (.long v1), .second, .val (.long v5), .second, .val (.long v7), .second, .val (.long p3), .second, .val (.int p4), .val (.int v9), .val (.long v10), .second, .unset, .unset, .unset, .unset, .unset] [(.int (6 : Int32)), (.int p4)])) (fun t k => XS.bipush X0.here hx rfl (hb hby at_83) k) ?_
  refine own_st (S' := s₁.setTop (mkF m 86 #[.val (.long v1), .second, .val (.long v5), .second, .val (.long v7), .second, .val (.long p3), .second, .val (.int p4), .val (.int v9), .val (.long v10), .second, .unset, .unset, .unset, .unset, .unset] [(.int ((p4.toUInt32 >>> ((6 : Int32) &&& 31).toUInt32).toInt32))])) (fun t k => XS.iushr X0.here hx rfl (hb hby at_85) rfl k) ?_
  refine own_st (S' := s₁.setTop (mkF m 87 #[.val (.long v1), .second, .val (.long v5), .second, .val (.long v7), .second, .val (.long p3), .second, .val (.int p4), .val (.int v9), .val (.long v10), .second, .unset, .unset, .unset, .unset, .unset] [(.int (1 : Int32)), (.int ((p4.toUInt32 >>> ((6 : Int32) &&& 31).toUInt32).toInt32))])) (fun t k => XS.iconst X0.here hx rfl (hb hby at_86) k) ?_
  refine own_st (S' := s₁.setTop (mkF m 88 #[.val (.long v1), .second, .val (.long v5), .second, .val (.long v7), .second, .val (.long p3), .second, .val (.int p4), .val (.int v9), .val (.long v10), .second, .unset, .unset, .unset, .unset, .unset] [(.int (((p4.toUInt32 >>> ((6 : Int32) &&& 31).toUInt32).toInt32) &&& (1 : Int32)))])) (fun t k => XS.iand X0.here hx rfl (hb hby at_87) rfl k) ?_
  obtain ⟨v14, qv14⟩ : ∃ z : Int32, z = (if (((p4.toUInt32 >>> ((6 : Int32) &&& 31).toUInt32).toInt32) &&& (1 : Int32)) = (0 : Int32) then (0 : Int32) else (1 : Int32)) := ⟨_, rfl⟩
  refine own_st (S' := s₁.setTop (mkF m 96 #[.val (.long v1), .second, .val (.long v5), .second, .val (.long v7), .second, .val (.long p3), .second, .val (.int p4), .val (.int v9), .val (.long v10), .second, .unset, .unset, .unset, .unset, .unset] [(.int v14)])) (fun t k => ?_) ?_
  · show Steps p.tables e below (s₁.setTop (mkF m 88 #[.val (.long v1), .second, .val (.long v5), .second, .val (.long v7), .second, .val (.long p3), .second, .val (.int p4), .val (.int v9), .val (.long v10), .second, .unset, .unset, .unset, .unset, .unset] [(.int (((p4.toUInt32 >>> ((6 : Int32) &&& 31).toUInt32).toInt32) &&& (1 : Int32)))])) _
    by_cases hc15 : (((p4.toUInt32 >>> ((6 : Int32) &&& 31).toUInt32).toInt32) &&& (1 : Int32)) = (0 : Int32)
    · rw [if_pos hc15] at qv14
      replace qv14 := Eq.symm qv14
      subst qv14
      refine XS.ifYes X0.here hx rfl (pc0 := 88) (pc' := 95) rfl (hb hby at_88) rfl ((if0 _ _).trans (teq hc15).1) (by decide) (by decide) ?_
      show Steps p.tables e below (s₁.setTop (mkF m 95 #[.val (.long v1), .second, .val (.long v5), .second, .val (.long v7), .second, .val (.long p3), .second, .val (.int p4), .val (.int v9), .val (.long v10), .second, .unset, .unset, .unset, .unset, .unset] [])) _
      refine XS.iconst X0.here hx rfl (hb hby at_95) ?_
      show Steps p.tables e below (s₁.setTop (mkF m 96 #[.val (.long v1), .second, .val (.long v5), .second, .val (.long v7), .second, .val (.long p3), .second, .val (.int p4), .val (.int v9), .val (.long v10), .second, .unset, .unset, .unset, .unset, .unset] [(.int (0 : Int32))])) _
      exact k
    · rw [if_neg hc15] at qv14
      replace qv14 := Eq.symm qv14
      subst qv14
      refine XS.ifNo X0.here hx rfl (hb hby at_88) rfl ((if0 _ _).trans (feq hc15).1) ?_
      show Steps p.tables e below (s₁.setTop (mkF m 91 #[.val (.long v1), .second, .val (.long v5), .second, .val (.long v7), .second, .val (.long p3), .second, .val (.int p4), .val (.int v9), .val (.long v10), .second, .unset, .unset, .unset, .unset, .unset] [])) _
      refine XS.iconst X0.here hx rfl (hb hby at_91) ?_
      show Steps p.tables e below (s₁.setTop (mkF m 92 #[.val (.long v1), .second, .val (.long v5), .second, .val (.long v7), .second, .val (.long p3), .second, .val (.int p4), .val (.int v9), .val (.long v10), .second, .unset, .unset, .unset, .unset, .unset] [(.int (1 : Int32))])) _
      refine XS.goto X0.here hx rfl (pc0 := 92) (pc' := 96) rfl (hb hby at_92) (by decide) (by decide) ?_
      show Steps p.tables e below (s₁.setTop (mkF m 96 #[.val (.long v1), .second, .val (.long v5), .second, .val (.long v7), .second, .val (.long p3), .second, .val (.int p4), .val (.int v9), .val (.long v10), .second, .unset, .unset, .unset, .unset, .unset] [(.int (1 : Int32))])) _
      exact k
  show own_Go p.tables e below _ (s₁.setTop (mkF m 96 #[.val (.long v1), .second, .val (.long v5), .second, .val (.long v7), .second, .val (.long p3), .second, .val (.int p4), .val (.int v9), .val (.long v10), .second, .unset, .unset, .unset, .unset, .unset] [(.int v14)]))
  refine own_st (S' := s₁.setTop (mkF m 98 #[.val (.long v1), .second, .val (.long v5), .second, .val (.long v7), .second, .val (.long p3), .second, .val (.int p4), .val (.int v9), .val (.long v10), .second, .val (.int v14), .unset, .unset, .unset, .unset] [])) (fun t k => XS.istore X0.here hx rfl (hb hby at_96) rfl (l' := #[.val (.long v1), .second, .val (.long v5), .second, .val (.long v7), .second, .val (.long p3), .second, .val (.int p4), .val (.int v9), .val (.long v10), .second, .val (.int v14), .unset, .unset, .unset, .unset]) rfl k) ?_
  refine own_st (S' := s₁.setTop (mkF m 100 #[.val (.long v1), .second, .val (.long v5), .second, .val (.long v7), .second, .val (.long p3), .second, .val (.int p4), .val (.int v9), .val (.long v10), .second, .val (.int v14), .unset, .unset, .unset, .unset] [(.int p4)])) (fun t k => XS.iload X0.here hx rfl (hb hby at_98) rfl k) ?_
  refine own_st (S' := s₁.setTop (mkF m 102 #[.val (.long v1), .second, .val (.long v5), .second, .val (.long v7), .second, .val (.long p3), .second, .val (.int p4), .val (.int v9), .val (.long v10), .second, .val (.int v14), .unset, .unset, .unset, .unset] [(.int (7 : Int32)), (.int p4)])) (fun t k => XS.bipush X0.here hx rfl (hb hby at_100) k) ?_
  refine own_st (S' := s₁.setTop (mkF m 103 #[.val (.long v1), .second, .val (.long v5), .second, .val (.long v7), .second, .val (.long p3), .second, .val (.int p4), .val (.int v9), .val (.long v10), .second, .val (.int v14), .unset, .unset, .unset, .unset] [(.int ((p4.toUInt32 >>> ((7 : Int32) &&& 31).toUInt32).toInt32))])) (fun t k => XS.iushr X0.here hx rfl (hb hby at_102) rfl k) ?_
  refine own_st (S' := s₁.setTop (mkF m 104 #[.val (.long v1), .second, .val (.long v5), .second, .val (.long v7), .second, .val (.long p3), .second, .val (.int p4), .val (.int v9), .val (.long v10), .second, .val (.int v14), .unset, .unset, .unset, .unset] [(.int (1 : Int32)), (.int ((p4.toUInt32 >>> ((7 : Int32) &&& 31).toUInt32).toInt32))])) (fun t k => XS.iconst X0.here hx rfl (hb hby at_103) k) ?_
  refine own_st (S' := s₁.setTop (mkF m 105 #[.val (.long v1), .second, .val (.long v5), .second, .val (.long v7), .second, .val (.long p3), .second, .val (.int p4), .val (.int v9), .val (.long v10), .second, .val (.int v14), .unset, .unset, .unset, .unset] [(.int (((p4.toUInt32 >>> ((7 : Int32) &&& 31).toUInt32).toInt32) &&& (1 : Int32)))])) (fun t k => XS.iand X0.here hx rfl (hb hby at_104) rfl k) ?_
  obtain ⟨v16, qv16⟩ : ∃ z : Int32, z = (if (((p4.toUInt32 >>> ((7 : Int32) &&& 31).toUInt32).toInt32) &&& (1 : Int32)) = (0 : Int32) then (0 : Int32) else (1 : Int32)) := ⟨_, rfl⟩
  refine own_st (S' := s₁.setTop (mkF m 113 #[.val (.long v1), .second, .val (.long v5), .second, .val (.long v7), .second, .val (.long p3), .second, .val (.int p4), .val (.int v9), .val (.long v10), .second, .val (.int v14), .unset, .unset, .unset, .unset] [(.int v16)])) (fun t k => ?_) ?_
  · show Steps p.tables e below (s₁.setTop (mkF m 105 #[.val (.long v1), .second, .val (.long v5), .second, .val (.long v7), .second, .val (.long p3), .second, .val (.int p4), .val (.int v9), .val (.long v10), .second, .val (.int v14), .unset, .unset, .unset, .unset] [(.int (((p4.toUInt32 >>> ((7 : Int32) &&& 31).toUInt32).toInt32) &&& (1 : Int32)))])) _
    by_cases hc17 : (((p4.toUInt32 >>> ((7 : Int32) &&& 31).toUInt32).toInt32) &&& (1 : Int32)) = (0 : Int32)
    · rw [if_pos hc17] at qv16
      replace qv16 := Eq.symm qv16
      subst qv16
      refine XS.ifYes X0.here hx rfl (pc0 := 105) (pc' := 112) rfl (hb hby at_105) rfl ((if0 _ _).trans (teq hc17).1) (by decide) (by decide) ?_
      show Steps p.tables e below (s₁.setTop (mkF m 112 #[.val (.long v1), .second, .val (.long v5), .second, .val (.long v7), .second, .val (.long p3), .second, .val (.int p4), .val (.int v9), .val (.long v10), .second, .val (.int v14), .unset, .unset, .unset, .unset] [])) _
      refine XS.iconst X0.here hx rfl (hb hby at_112) ?_
      show Steps p.tables e below (s₁.setTop (mkF m 113 #[.val (.long v1), .second, .val (.long v5), .second, .val (.long v7), .second, .val (.long p3), .second, .val (.int p4), .val (.int v9), .val (.long v10), .second, .val (.int v14), .unset, .unset, .unset, .unset] [(.int (0 : Int32))])) _
      exact k
    · rw [if_neg hc17] at qv16
      replace qv16 := Eq.symm qv16
      subst qv16
      refine XS.ifNo X0.here hx rfl (hb hby at_105) rfl ((if0 _ _).trans (feq hc17).1) ?_
      show Steps p.tables e below (s₁.setTop (mkF m 108 #[.val (.long v1), .second, .val (.long v5), .second, .val (.long v7), .second, .val (.long p3), .second, .val (.int p4), .val (.int v9), .val (.long v10), .second, .val (.int v14), .unset, .unset, .unset, .unset] [])) _
      refine XS.iconst X0.here hx rfl (hb hby at_108) ?_
      show Steps p.tables e below (s₁.setTop (mkF m 109 #[.val (.long v1), .second, .val (.long v5), .second, .val (.long v7), .second, .val (.long p3), .second, .val (.int p4), .val (.int v9), .val (.long v10), .second, .val (.int v14), .unset, .unset, .unset, .unset] [(.int (1 : Int32))])) _
      refine XS.goto X0.here hx rfl (pc0 := 109) (pc' := 113) rfl (hb hby at_109) (by decide) (by decide) ?_
      show Steps p.tables e below (s₁.setTop (mkF m 113 #[.val (.long v1), .second, .val (.long v5), .second, .val (.long v7), .second, .val (.long p3), .second, .val (.int p4), .val (.int v9), .val (.long v10), .second, .val (.int v14), .unset, .unset, .unset, .unset] [(.int (1 : Int32))])) _
      exact k
  show own_Go p.tables e below _ (s₁.setTop (mkF m 113 #[.val (.long v1), .second, .val (.long v5), .second, .val (.long v7), .second, .val (.long p3), .second, .val (.int p4), .val (.int v9), .val (.long v10), .second, .val (.int v14), .unset, .unset, .unset, .unset] [(.int v16)]))
  refine own_st (S' := s₁.setTop (mkF m 115 #[.val (.long v1), .second, .val (.long v5), .second, .val (.long v7), .second, .val (.long p3), .second, .val (.int p4), .val (.int v9), .val (.long v10), .second, .val (.int v14), .val (.int v16), .unset, .unset, .unset] [])) (fun t k => XS.istore X0.here hx rfl (hb hby at_113) rfl (l' := #[.val (.long v1), .second, .val (.long v5), .second, .val (.long v7), .second, .val (.long p3), .second, .val (.int p4), .val (.int v9), .val (.long v10), .second, .val (.int v14), .val (.int v16), .unset, .unset, .unset]) rfl k) ?_
  obtain ⟨T18, h18, X18, e18, E18, A18, D18, -, st18⟩ := newO X0 hx hZ hown (hw _ (List.mem_of_getElem? (i := 0) rfl)) (hw _ (List.mem_of_getElem? (i := 1) rfl)) (hw _ (List.mem_of_getElem? (i := 2) rfl)) e0 (g := (mkF m 115 #[.val (.long v1), .second, .val (.long v5), .second, .val (.long v7), .second, .val (.long p3), .second, .val (.int p4), .val (.int v9), .val (.long v10), .second, .val (.int v14), .val (.int v16), .unset, .unset, .unset] [])) rfl (hb hby at_115) (by decide) (by decide)
  obtain ⟨b18, g18⟩ : ∃ z, z = h0.size := ⟨_, rfl⟩
  rw [← g18] at A18 D18 st18
  have G_b18 : n0 ≤ b18 := Nat.le_trans Z0 (Nat.le_of_eq g18.symm)
  have Z18 : n0 ≤ h18.size := Nat.le_trans Z0 E18.1
  have f19 : Fld Z h18 b18 "com/example/gaithersburg/gaithersburg/IdMap" "ids" "[J" .null := D18 (Or.inl (hw _ (List.mem_of_getElem? (i := 11) rfl))) (ty := (.array .long)) (by decide)
  have f20 : Fld Z h18 b18 "com/example/gaithersburg/gaithersburg/IdMap" "values" "[J" .null := D18 (Or.inl (hw _ (List.mem_of_getElem? (i := 13) rfl))) (ty := (.array .long)) (by decide)
  have f21 : Fld Z h18 b18 "com/example/gaithersburg/gaithersburg/IdMap" "held" "I" (.int (0 : Int32)) := D18 (Or.inl (hw _ (List.mem_of_getElem? (i := 20) rfl))) (ty := .int) (by decide)
  have f22 : Fld Z h18 b18 "com/example/gaithersburg/gaithersburg/IdMap" "holdsFree" "Z" (.int (0 : Int32)) := D18 (Or.inl (hw _ (List.mem_of_getElem? (i := 22) rfl))) (ty := .boolean) (by decide)
  have f23 : Fld Z h18 b18 "com/example/gaithersburg/gaithersburg/IdMap" "freeValue" "J" (.long (0 : Int64)) := D18 (Or.inl (hw _ (List.mem_of_getElem? (i := 47) rfl))) (ty := .long) (by decide)
  refine own_st st18 ?_
  show own_Go p.tables e below _ (T18.setTop (mkF m 118 #[.val (.long v1), .second, .val (.long v5), .second, .val (.long v7), .second, .val (.long p3), .second, .val (.int p4), .val (.int v9), .val (.long v10), .second, .val (.int v14), .val (.int v16), .unset, .unset, .unset] [(.ref b18)]))
  refine own_st (S' := T18.setTop (mkF m 119 #[.val (.long v1), .second, .val (.long v5), .second, .val (.long v7), .second, .val (.long p3), .second, .val (.int p4), .val (.int v9), .val (.long v10), .second, .val (.int v14), .val (.int v16), .unset, .unset, .unset] [(.ref b18), (.ref b18)])) (fun t k => XS.dup X18.here hx rfl (hb hby at_118) rfl rfl k) ?_
  obtain ⟨_, _, ⟨T24, L24, k24, n24⟩, -, X24, ⟨Lc24, hQ24, l24, y24, z24⟩, st24⟩ := X18.specialBack hx (y := (⟨"com/example/gaithersburg/gaithersburg/IdMap", "<init>", "()V"⟩ : MethodName)) rfl hown (mvT hZ (hw _ (List.mem_of_getElem? (i := 3) rfl))) (mvT hZ (hw _ (List.mem_of_getElem? (i := 4) rfl))) (mvT hZ (hw _ (List.mem_of_getElem? (i := 5) rfl))) (by decide) (backOf (W := 1) (rm5 l Z a0 hw [] b18 h18 n0 Z18 A18 f19 f20 f21 f22 f23 G_b18) hZ (hw _ (List.mem_of_getElem? (i := 5) rfl)) (hw _ (List.mem_of_getElem? (i := 2) rfl)) (by decide) (by decide)) (g := (mkF m 119 #[.val (.long v1), .second, .val (.long v5), .second, .val (.long v7), .second, .val (.long p3), .second, .val (.int p4), .val (.int v9), .val (.long v10), .second, .val (.int v14), .val (.int v16), .unset, .unset, .unset] [(.ref b18), (.ref b18)])) rfl (by rw [hml]; rfl) (Steps.refl _) (a := b18) (argsL := []) (rest := [(.ref b18)]) (lenOf pd0_0 rfl) rfl (by show 2 * 0 + _ ≤ _; exact Nat.le_of_eq rfl) (hb hby at_119) (fun _ _ => ⟨rfl, e18, (by decide : 1 + 2 ≤ _), (by decide : 5 + 32 ≤ _)⟩)
  dsimp only [Pt.U, Pt.locs, Pt.cells, Pt.slots] at X24 l24 y24 z24 st24 hQ24
  rw [l24, y24, z24] at X24
  obtain ⟨ai24, av24, rfl, N24q, Kq24, sq_ai24, sq_av24, ne_ai24_av24, g0_24, g1_24, g2_24, g3_24, g4_24, g5_24, g6_24, g7_24⟩ := hQ24
  have G_ai24 : n0 ≤ ai24 := Nat.le_trans Z18 sq_ai24
  have ne_b18_ai24 : b18 ≠ ai24 := Nat.ne_of_lt (Nat.lt_of_lt_of_le A18.lt sq_ai24)
  have G_av24 : n0 ≤ av24 := Nat.le_trans Z18 sq_av24
  have ne_b18_av24 : b18 ≠ av24 := Nat.ne_of_lt (Nat.lt_of_lt_of_le A18.lt sq_av24)
  have f25 : Exa Z T24.heap b18 "com/example/gaithersburg/gaithersburg/IdMap" := A18.keep Kq24
  have Z24 : n0 ≤ T24.heap.size := Nat.le_trans Z18 Kq24.1
  have N24 := Fr.app N0 N24q
  refine own_tr st24 ?_
  show own_Go p.tables e below _ (T24.setTop (mkF m 122 #[.val (.long v1), .second, .val (.long v5), .second, .val (.long v7), .second, .val (.long p3), .second, .val (.int p4), .val (.int v9), .val (.long v10), .second, .val (.int v14), .val (.int v16), .unset, .unset, .unset] [(.ref b18)]))
  refine own_st (S' := T24.setTop (mkF m 124 #[.val (.long v1), .second, .val (.long v5), .second, .val (.long v7), .second, .val (.long p3), .second, .val (.int p4), .val (.int v9), .val (.long v10), .second, .val (.int v14), .val (.int v16), .val (.ref b18), .unset, .unset] [])) (fun t k => XS.astore X24.here hx rfl (hb hby at_122) rfl rfl (l' := #[.val (.long v1), .second, .val (.long v5), .second, .val (.long v7), .second, .val (.long p3), .second, .val (.int p4), .val (.int v9), .val (.long v10), .second, .val (.int v14), .val (.int v16), .val (.ref b18), .unset, .unset]) rfl k) ?_
  refine own_st (S' := T24.setTop (mkF m 126 #[.val (.long v1), .second, .val (.long v5), .second, .val (.long v7), .second, .val (.long p3), .second, .val (.int p4), .val (.int v9), .val (.long v10), .second, .val (.int v14), .val (.int v16), .val (.ref b18), .unset, .unset] [(.ref b18)])) (fun t k => XS.aload X24.here hx rfl (hb hby at_124) rfl rfl k) ?_
  obtain ⟨cq26, kq26, q26a, q26b, q26c⟩ := isOf hZ rfl g0_24
  obtain ⟨_, _, ⟨T26, L26, k26, n26⟩, -, X26, ⟨Lc26, hQ26, l26, y26, z26⟩, st26⟩ := X24.virtualBack hx (y := (⟨"com/example/gaithersburg/gaithersburg/IdMap", "size", "()I"⟩ : MethodName)) (z := (⟨"com/example/gaithersburg/gaithersburg/IdMap", "size", "()I"⟩ : MethodName)) hown (mvT hZ (hw _ (List.mem_of_getElem? (i := 14) rfl))) (mvT hZ (hw _ (List.mem_of_getElem? (i := 15) rfl))) (notFace_of_selects (args := #[]) (mvT hZ (hw _ (List.mem_of_getElem? (i := 17) rfl)))) (mvT hZ (hw _ (List.mem_of_getElem? (i := 17) rfl))) (mvT hZ (hw _ (List.mem_of_getElem? (i := 16) rfl))) (by decide) (backOf (W := 0) (rm6 l Z a0 hw [] b18 (0 : Int32) (0 : Int32) T24.heap n0 Z24 g3_24 g4_24) hZ (hw _ (List.mem_of_getElem? (i := 18) rfl)) (hw _ (List.mem_of_getElem? (i := 2) rfl)) (by decide) (by decide)) q26a q26c (g := (mkF m 126 #[.val (.long v1), .second, .val (.long v5), .second, .val (.long v7), .second, .val (.long p3), .second, .val (.int p4), .val (.int v9), .val (.long v10), .second, .val (.int v14), .val (.int v16), .val (.ref b18), .unset, .unset] [(.ref b18)])) rfl (by rw [hml]; rfl) (Steps.refl _) (argsL := []) (rest := []) (lenOf pd0_1 rfl) rfl (by show 2 * 0 + _ ≤ _; exact Nat.le_of_eq rfl) (hb hby at_126) (fun _ _ => ⟨rfl, rfl, (by decide : 3 + 0 ≤ _), (by decide : 37 + 0 ≤ _)⟩)
  dsimp only [Pt.U, Pt.locs, Pt.cells, Pt.slots] at X26 l26 y26 z26 st26 hQ26
  rw [l26, y26, z26] at X26
  obtain ⟨rfl, N26q, hh26⟩ := hQ26
  have N26 := Fr.app N24 N26q
  refine own_tr st26 ?_
  show own_Go p.tables e below _ (T26.setTop (mkF m 129 #[.val (.long v1), .second, .val (.long v5), .second, .val (.long v7), .second, .val (.long p3), .second, .val (.int p4), .val (.int v9), .val (.long v10), .second, .val (.int v14), .val (.int v16), .val (.ref b18), .unset, .unset] [(.int (own_sz (0 : Int32) (0 : Int32)))]))
  obtain ⟨v27, qv27⟩ : ∃ z : Int32, z = (own_sz (0 : Int32) (0 : Int32)) := ⟨_, rfl⟩
  rw [← qv27]
  have hc28 : v27 = (0 : Int32) := by rw [qv27]; rfl
  refine own_st (S' := T26.setTop (mkF m 134 #[.val (.long v1), .second, .val (.long v5), .second, .val (.long v7), .second, .val (.long p3), .second, .val (.int p4), .val (.int v9), .val (.long v10), .second, .val (.int v14), .val (.int v16), .val (.ref b18), .unset, .unset] [])) (fun t k => XS.ifYes X26.here hx rfl (pc0 := 129) (pc' := 134) rfl (hb hby at_129) rfl ((if0 _ _).trans (teq hc28).1) (by decide) (by decide) k) ?_
  show own_Go p.tables e below _ (T26.setTop (mkF m 134 #[.val (.long v1), .second, .val (.long v5), .second, .val (.long v7), .second, .val (.long p3), .second, .val (.int p4), .val (.int v9), .val (.long v10), .second, .val (.int v14), .val (.int v16), .val (.ref b18), .unset, .unset] []))
  refine own_st (S' := T26.setTop (mkF m 136 #[.val (.long v1), .second, .val (.long v5), .second, .val (.long v7), .second, .val (.long p3), .second, .val (.int p4), .val (.int v9), .val (.long v10), .second, .val (.int v14), .val (.int v16), .val (.ref b18), .unset, .unset] [(.ref b18)])) (fun t k => XS.aload X26.here hx rfl (hb hby at_134) rfl rfl k) ?_
  refine own_st (S' := T26.setTop (mkF m 137 #[.val (.long v1), .second, .val (.long v5), .second, .val (.long v7), .second, .val (.long p3), .second, .val (.int p4), .val (.int v9), .val (.long v10), .second, .val (.int v14), .val (.int v16), .val (.ref b18), .unset, .unset] [(.long v1), (.ref b18)])) (fun t k => XS.lloadN X26.here hx rfl (hb hby at_136) rfl k) ?_
  refine own_st (S' := T26.setTop (mkF m 138 #[.val (.long v1), .second, .val (.long v5), .second, .val (.long v7), .second, .val (.long p3), .second, .val (.int p4), .val (.int v9), .val (.long v10), .second, .val (.int v14), .val (.int v16), .val (.ref b18), .unset, .unset] [(.long (1 : Int64)), (.long v1), (.ref b18)])) (fun t k => XS.lconst X26.here hx rfl (hb hby at_137) k) ?_
  obtain ⟨cq29, kq29, q29a, q29b, q29c⟩ := isOf hZ hh26 g0_24
  obtain ⟨_, _, ⟨T29, L29, k29, n29⟩, -, X29, ⟨Lc29, hQ29, l29, y29, z29⟩, st29⟩ := X26.virtualBack hx (y := (⟨"com/example/gaithersburg/gaithersburg/IdMap", "put", "(JJ)V"⟩ : MethodName)) (z := (⟨"com/example/gaithersburg/gaithersburg/IdMap", "put", "(JJ)V"⟩ : MethodName)) hown (mvT hZ (hw _ (List.mem_of_getElem? (i := 23) rfl))) (mvT hZ (hw _ (List.mem_of_getElem? (i := 24) rfl))) (notFace_of_selects (args := #[]) (mvT hZ (hw _ (List.mem_of_getElem? (i := 26) rfl)))) (mvT hZ (hw _ (List.mem_of_getElem? (i := 26) rfl))) (mvT hZ (hw _ (List.mem_of_getElem? (i := 25) rfl))) (by decide) (backOf (W := 0) (rm7 l Z a0 hw [] b18 v1 (1 : Int64) ai24 av24 (0 : Int32) (0 : Int32) (0 : Int64) (fun _ => (0 : Int64)) (fun _ => (0 : Int64)) T24.heap n0 Z24 g0_24 g1_24 g2_24 g3_24 g4_24 g5_24 g6_24 g7_24 G_b18 G_ai24 G_av24 ne_b18_ai24 ne_b18_av24 ne_ai24_av24 (own_inv0.emp (by decide)) (own_inv0.bnd (by decide))) hZ (hw _ (List.mem_of_getElem? (i := 27) rfl)) (hw _ (List.mem_of_getElem? (i := 2) rfl)) (by decide) (by decide)) q29a q29c (g := (mkF m 138 #[.val (.long v1), .second, .val (.long v5), .second, .val (.long v7), .second, .val (.long p3), .second, .val (.int p4), .val (.int v9), .val (.long v10), .second, .val (.int v14), .val (.int v16), .val (.ref b18), .unset, .unset] [(.long (1 : Int64)), (.long v1), (.ref b18)])) rfl (by rw [hml]; rfl) (Steps.refl _) (argsL := [(.long v1), (.long (1 : Int64))]) (rest := []) (lenOf pd0_2 rfl) rfl (by show 2 * 0 + _ ≤ _; exact Nat.le_of_eq rfl) (hb hby at_138) (fun _ _ => ⟨rfl, hh26, (by decide : 3 + 0 ≤ _), (by decide : 37 + 0 ≤ _)⟩)
  dsimp only [Pt.U, Pt.locs, Pt.cells, Pt.slots] at X29 l29 y29 z29 st29 hQ29
  rw [l29, y29, z29] at X29
  obtain ⟨fo29, go29, wo29, zo29, uo29, rfl, N29q, Kq29, g0_29, g1_29, g2_29, g3_29, g4_29, g5_29, g6_29, g7_29, Rp29⟩ := hQ29
  have f30 : Exa Z T29.heap b18 "com/example/gaithersburg/gaithersburg/IdMap" := g0_24.keep Kq29
  have Z29 : n0 ≤ T29.heap.size := Nat.le_trans Z24 Kq29.1
  have N29 := Fr.app N26 N29q
  refine own_tr st29 ?_
  show own_Go p.tables e below _ (T29.setTop (mkF m 141 #[.val (.long v1), .second, .val (.long v5), .second, .val (.long v7), .second, .val (.long p3), .second, .val (.int p4), .val (.int v9), .val (.long v10), .second, .val (.int v14), .val (.int v16), .val (.ref b18), .unset, .unset] []))
  obtain ⟨P1, J1⟩ := own_J1 Rp29
  refine own_st (S' := T29.setTop (mkF m 143 #[.val (.long v1), .second, .val (.long v5), .second, .val (.long v7), .second, .val (.long p3), .second, .val (.int p4), .val (.int v9), .val (.long v10), .second, .val (.int v14), .val (.int v16), .val (.ref b18), .unset, .unset] [(.ref b18)])) (fun t k => XS.aload X29.here hx rfl (hb hby at_141) rfl rfl k) ?_
  refine own_st (S' := T29.setTop (mkF m 144 #[.val (.long v1), .second, .val (.long v5), .second, .val (.long v7), .second, .val (.long p3), .second, .val (.int p4), .val (.int v9), .val (.long v10), .second, .val (.int v14), .val (.int v16), .val (.ref b18), .unset, .unset] [(.long v5), (.ref b18)])) (fun t k => XS.lloadN X29.here hx rfl (hb hby at_143) rfl k) ?_
  refine own_st (S' := T29.setTop (mkF m 147 #[.val (.long v1), .second, .val (.long v5), .second, .val (.long v7), .second, .val (.long p3), .second, .val (.int p4), .val (.int v9), .val (.long v10), .second, .val (.int v14), .val (.int v16), .val (.ref b18), .unset, .unset] [(.long (2 : Int64)), (.long v5), (.ref b18)])) (fun t k => X29.ldc2Long hx hown (mvT hZ (hw _ (List.mem_of_getElem? (i := 44) rfl))) (g := (mkF m 144 #[.val (.long v1), .second, .val (.long v5), .second, .val (.long v7), .second, .val (.long p3), .second, .val (.int p4), .val (.int v9), .val (.long v10), .second, .val (.int v14), .val (.int v16), .val (.ref b18), .unset, .unset] [(.long v5), (.ref b18)])) rfl (hb hby at_144) _ k) ?_
  obtain ⟨cq31, kq31, q31a, q31b, q31c⟩ := isOf hZ rfl g0_29
  obtain ⟨_, _, ⟨T31, L31, k31, n31⟩, -, X31, ⟨Lc31, hQ31, l31, y31, z31⟩, st31⟩ := X29.virtualBack hx (y := (⟨"com/example/gaithersburg/gaithersburg/IdMap", "put", "(JJ)V"⟩ : MethodName)) (z := (⟨"com/example/gaithersburg/gaithersburg/IdMap", "put", "(JJ)V"⟩ : MethodName)) hown (mvT hZ (hw _ (List.mem_of_getElem? (i := 23) rfl))) (mvT hZ (hw _ (List.mem_of_getElem? (i := 24) rfl))) (notFace_of_selects (args := #[]) (mvT hZ (hw _ (List.mem_of_getElem? (i := 26) rfl)))) (mvT hZ (hw _ (List.mem_of_getElem? (i := 26) rfl))) (mvT hZ (hw _ (List.mem_of_getElem? (i := 25) rfl))) (by decide) (backOf (W := 0) (rm7 l Z a0 hw [] b18 v5 (2 : Int64) ai24 av24 wo29 zo29 uo29 fo29 go29 T29.heap n0 Z29 g0_29 g1_29 g2_29 g3_29 g4_29 g5_29 g6_29 g7_29 G_b18 G_ai24 G_av24 ne_b18_ai24 ne_b18_av24 ne_ai24_av24 (J1.emp (by simp)) (J1.bnd (by simp))) hZ (hw _ (List.mem_of_getElem? (i := 27) rfl)) (hw _ (List.mem_of_getElem? (i := 2) rfl)) (by decide) (by decide)) q31a q31c (g := (mkF m 147 #[.val (.long v1), .second, .val (.long v5), .second, .val (.long v7), .second, .val (.long p3), .second, .val (.int p4), .val (.int v9), .val (.long v10), .second, .val (.int v14), .val (.int v16), .val (.ref b18), .unset, .unset] [(.long (2 : Int64)), (.long v5), (.ref b18)])) rfl (by rw [hml]; rfl) (Steps.refl _) (argsL := [(.long v5), (.long (2 : Int64))]) (rest := []) (lenOf pd0_2 rfl) rfl (by show 2 * 0 + _ ≤ _; exact Nat.le_of_eq rfl) (hb hby at_147) (fun _ _ => ⟨rfl, rfl, (by decide : 3 + 0 ≤ _), (by decide : 37 + 0 ≤ _)⟩)
  dsimp only [Pt.U, Pt.locs, Pt.cells, Pt.slots] at X31 l31 y31 z31 st31 hQ31
  rw [l31, y31, z31] at X31
  obtain ⟨fo31, go31, wo31, zo31, uo31, rfl, N31q, Kq31, g0_31, g1_31, g2_31, g3_31, g4_31, g5_31, g6_31, g7_31, Rp31⟩ := hQ31
  have f32 : Exa Z T31.heap b18 "com/example/gaithersburg/gaithersburg/IdMap" := g0_29.keep Kq31
  have Z31 : n0 ≤ T31.heap.size := Nat.le_trans Z29 Kq31.1
  have N31 := Fr.app N29 N31q
  refine own_tr st31 ?_
  show own_Go p.tables e below _ (T31.setTop (mkF m 150 #[.val (.long v1), .second, .val (.long v5), .second, .val (.long v7), .second, .val (.long p3), .second, .val (.int p4), .val (.int v9), .val (.long v10), .second, .val (.int v14), .val (.int v16), .val (.ref b18), .unset, .unset] []))
  obtain ⟨P2, J2⟩ := own_J2 J1 Rp31
  refine own_st (S' := T31.setTop (mkF m 152 #[.val (.long v1), .second, .val (.long v5), .second, .val (.long v7), .second, .val (.long p3), .second, .val (.int p4), .val (.int v9), .val (.long v10), .second, .val (.int v14), .val (.int v16), .val (.ref b18), .unset, .unset] [(.ref b18)])) (fun t k => XS.aload X31.here hx rfl (hb hby at_150) rfl rfl k) ?_
  refine own_st (S' := T31.setTop (mkF m 154 #[.val (.long v1), .second, .val (.long v5), .second, .val (.long v7), .second, .val (.long p3), .second, .val (.int p4), .val (.int v9), .val (.long v10), .second, .val (.int v14), .val (.int v16), .val (.ref b18), .unset, .unset] [(.long v7), (.ref b18)])) (fun t k => XS.lload X31.here hx rfl (hb hby at_152) rfl k) ?_
  refine own_st (S' := T31.setTop (mkF m 157 #[.val (.long v1), .second, .val (.long v5), .second, .val (.long v7), .second, .val (.long p3), .second, .val (.int p4), .val (.int v9), .val (.long v10), .second, .val (.int v14), .val (.int v16), .val (.ref b18), .unset, .unset] [(.long (3 : Int64)), (.long v7), (.ref b18)])) (fun t k => X31.ldc2Long hx hown (mvT hZ (hw _ (List.mem_of_getElem? (i := 45) rfl))) (g := (mkF m 154 #[.val (.long v1), .second, .val (.long v5), .second, .val (.long v7), .second, .val (.long p3), .second, .val (.int p4), .val (.int v9), .val (.long v10), .second, .val (.int v14), .val (.int v16), .val (.ref b18), .unset, .unset] [(.long v7), (.ref b18)])) rfl (hb hby at_154) _ k) ?_
  obtain ⟨cq33, kq33, q33a, q33b, q33c⟩ := isOf hZ rfl g0_31
  obtain ⟨_, _, ⟨T33, L33, k33, n33⟩, -, X33, ⟨Lc33, hQ33, l33, y33, z33⟩, st33⟩ := X31.virtualBack hx (y := (⟨"com/example/gaithersburg/gaithersburg/IdMap", "put", "(JJ)V"⟩ : MethodName)) (z := (⟨"com/example/gaithersburg/gaithersburg/IdMap", "put", "(JJ)V"⟩ : MethodName)) hown (mvT hZ (hw _ (List.mem_of_getElem? (i := 23) rfl))) (mvT hZ (hw _ (List.mem_of_getElem? (i := 24) rfl))) (notFace_of_selects (args := #[]) (mvT hZ (hw _ (List.mem_of_getElem? (i := 26) rfl)))) (mvT hZ (hw _ (List.mem_of_getElem? (i := 26) rfl))) (mvT hZ (hw _ (List.mem_of_getElem? (i := 25) rfl))) (by decide) (backOf (W := 0) (rm7 l Z a0 hw [] b18 v7 (3 : Int64) ai24 av24 wo31 zo31 uo31 fo31 go31 T31.heap n0 Z31 g0_31 g1_31 g2_31 g3_31 g4_31 g5_31 g6_31 g7_31 G_b18 G_ai24 G_av24 ne_b18_ai24 ne_b18_av24 ne_ai24_av24 (J2.emp (by simp)) (J2.bnd (by simp))) hZ (hw _ (List.mem_of_getElem? (i := 27) rfl)) (hw _ (List.mem_of_getElem? (i := 2) rfl)) (by decide) (by decide)) q33a q33c (g := (mkF m 157 #[.val (.long v1), .second, .val (.long v5), .second, .val (.long v7), .second, .val (.long p3), .second, .val (.int p4), .val (.int v9), .val (.long v10), .second, .val (.int v14), .val (.int v16), .val (.ref b18), .unset, .unset] [(.long (3 : Int64)), (.long v7), (.ref b18)])) rfl (by rw [hml]; rfl) (Steps.refl _) (argsL := [(.long v7), (.long (3 : Int64))]) (rest := []) (lenOf pd0_2 rfl) rfl (by show 2 * 0 + _ ≤ _; exact Nat.le_of_eq rfl) (hb hby at_157) (fun _ _ => ⟨rfl, rfl, (by decide : 3 + 0 ≤ _), (by decide : 37 + 0 ≤ _)⟩)
  dsimp only [Pt.U, Pt.locs, Pt.cells, Pt.slots] at X33 l33 y33 z33 st33 hQ33
  rw [l33, y33, z33] at X33
  obtain ⟨fo33, go33, wo33, zo33, uo33, rfl, N33q, Kq33, g0_33, g1_33, g2_33, g3_33, g4_33, g5_33, g6_33, g7_33, Rp33⟩ := hQ33
  have f34 : Exa Z T33.heap b18 "com/example/gaithersburg/gaithersburg/IdMap" := g0_31.keep Kq33
  have Z33 : n0 ≤ T33.heap.size := Nat.le_trans Z31 Kq33.1
  have N33 := Fr.app N31 N33q
  refine own_tr st33 ?_
  show own_Go p.tables e below _ (T33.setTop (mkF m 160 #[.val (.long v1), .second, .val (.long v5), .second, .val (.long v7), .second, .val (.long p3), .second, .val (.int p4), .val (.int v9), .val (.long v10), .second, .val (.int v14), .val (.int v16), .val (.ref b18), .unset, .unset] []))
  obtain ⟨P3, J3⟩ := own_J3 J2 Rp33
  refine own_st (S' := T33.setTop (mkF m 161 #[.val (.long v1), .second, .val (.long v5), .second, .val (.long v7), .second, .val (.long p3), .second, .val (.int p4), .val (.int v9), .val (.long v10), .second, .val (.int v14), .val (.int v16), .val (.ref b18), .unset, .unset] [(.int (1 : Int32))])) (fun t k => XS.iconst X33.here hx rfl (hb hby at_160) k) ?_
  refine own_st (S' := T33.setTop (mkF m 162 #[.val (.long v1), .second, .val (.long v5), .second, .val (.long v7), .second, .val (.long p3), .second, .val (.int p4), .val (.int v9), .val (.long v10), .second, .val (.int v14), .val (.int v16), .val (.ref b18), .unset, .unset] [(.long v5), (.int (1 : Int32))])) (fun t k => XS.lloadN X33.here hx rfl (hb hby at_161) rfl k) ?_
  refine own_st (S' := T33.setTop (mkF m 163 #[.val (.long v1), .second, .val (.long v5), .second, .val (.long v7), .second, .val (.long p3), .second, .val (.int p4), .val (.int v9), .val (.long v10), .second, .val (.int v14), .val (.int v16), .val (.ref b18), .unset, .unset] [(.long v1), (.long v5), (.int (1 : Int32))])) (fun t k => XS.lloadN X33.here hx rfl (hb hby at_162) rfl k) ?_
  refine own_st (S' := T33.setTop (mkF m 164 #[.val (.long v1), .second, .val (.long v5), .second, .val (.long v7), .second, .val (.long p3), .second, .val (.int p4), .val (.int v9), .val (.long v10), .second, .val (.int v14), .val (.int v16), .val (.ref b18), .unset, .unset] [(.int (lcmpW v5 v1)), (.int (1 : Int32))])) (fun t k => XS.lcmp X33.here hx rfl (hb hby at_163) rfl k) ?_
  obtain ⟨v35, qv35⟩ : ∃ z : Int32, z = (if v5 = v1 then (0 : Int32) else (1 : Int32)) := ⟨_, rfl⟩
  refine own_st (S' := T33.setTop (mkF m 172 #[.val (.long v1), .second, .val (.long v5), .second, .val (.long v7), .second, .val (.long p3), .second, .val (.int p4), .val (.int v9), .val (.long v10), .second, .val (.int v14), .val (.int v16), .val (.ref b18), .unset, .unset] [(.int v35), (.int (1 : Int32))])) (fun t k => ?_) ?_
  · show Steps p.tables e below (T33.setTop (mkF m 164 #[.val (.long v1), .second, .val (.long v5), .second, .val (.long v7), .second, .val (.long p3), .second, .val (.int p4), .val (.int v9), .val (.long v10), .second, .val (.int v14), .val (.int v16), .val (.ref b18), .unset, .unset] [(.int (lcmpW v5 v1)), (.int (1 : Int32))])) _
    by_cases hc36 : v5 = v1
    · rw [if_pos hc36] at qv35
      replace qv35 := Eq.symm qv35
      subst qv35
      refine XS.ifYes X33.here hx rfl (pc0 := 164) (pc' := 171) rfl (hb hby at_164) rfl ((if0 _ _).trans (teq ((lw_eq _ _).mpr hc36)).1) (by decide) (by decide) ?_
      show Steps p.tables e below (T33.setTop (mkF m 171 #[.val (.long v1), .second, .val (.long v5), .second, .val (.long v7), .second, .val (.long p3), .second, .val (.int p4), .val (.int v9), .val (.long v10), .second, .val (.int v14), .val (.int v16), .val (.ref b18), .unset, .unset] [(.int (1 : Int32))])) _
      refine XS.iconst X33.here hx rfl (hb hby at_171) ?_
      show Steps p.tables e below (T33.setTop (mkF m 172 #[.val (.long v1), .second, .val (.long v5), .second, .val (.long v7), .second, .val (.long p3), .second, .val (.int p4), .val (.int v9), .val (.long v10), .second, .val (.int v14), .val (.int v16), .val (.ref b18), .unset, .unset] [(.int (0 : Int32)), (.int (1 : Int32))])) _
      exact k
    · rw [if_neg hc36] at qv35
      replace qv35 := Eq.symm qv35
      subst qv35
      refine XS.ifNo X33.here hx rfl (hb hby at_164) rfl ((if0 _ _).trans (feq (mt (lw_eq _ _).mp hc36)).1) ?_
      show Steps p.tables e below (T33.setTop (mkF m 167 #[.val (.long v1), .second, .val (.long v5), .second, .val (.long v7), .second, .val (.long p3), .second, .val (.int p4), .val (.int v9), .val (.long v10), .second, .val (.int v14), .val (.int v16), .val (.ref b18), .unset, .unset] [(.int (1 : Int32))])) _
      refine XS.iconst X33.here hx rfl (hb hby at_167) ?_
      show Steps p.tables e below (T33.setTop (mkF m 168 #[.val (.long v1), .second, .val (.long v5), .second, .val (.long v7), .second, .val (.long p3), .second, .val (.int p4), .val (.int v9), .val (.long v10), .second, .val (.int v14), .val (.int v16), .val (.ref b18), .unset, .unset] [(.int (1 : Int32)), (.int (1 : Int32))])) _
      refine XS.goto X33.here hx rfl (pc0 := 168) (pc' := 172) rfl (hb hby at_168) (by decide) (by decide) ?_
      show Steps p.tables e below (T33.setTop (mkF m 172 #[.val (.long v1), .second, .val (.long v5), .second, .val (.long v7), .second, .val (.long p3), .second, .val (.int p4), .val (.int v9), .val (.long v10), .second, .val (.int v14), .val (.int v16), .val (.ref b18), .unset, .unset] [(.int (1 : Int32)), (.int (1 : Int32))])) _
      exact k
  show own_Go p.tables e below _ (T33.setTop (mkF m 172 #[.val (.long v1), .second, .val (.long v5), .second, .val (.long v7), .second, .val (.long p3), .second, .val (.int p4), .val (.int v9), .val (.long v10), .second, .val (.int v14), .val (.int v16), .val (.ref b18), .unset, .unset] [(.int v35), (.int (1 : Int32))]))
  refine own_st (S' := T33.setTop (mkF m 173 #[.val (.long v1), .second, .val (.long v5), .second, .val (.long v7), .second, .val (.long p3), .second, .val (.int p4), .val (.int v9), .val (.long v10), .second, .val (.int v14), .val (.int v16), .val (.ref b18), .unset, .unset] [(.int ((1 : Int32) + v35))])) (fun t k => XS.iadd X33.here hx rfl (hb hby at_172) rfl k) ?_
  refine own_st (S' := T33.setTop (mkF m 175 #[.val (.long v1), .second, .val (.long v5), .second, .val (.long v7), .second, .val (.long p3), .second, .val (.int p4), .val (.int v9), .val (.long v10), .second, .val (.int v14), .val (.int v16), .val (.ref b18), .unset, .unset] [(.long v7), (.int ((1 : Int32) + v35))])) (fun t k => XS.lload X33.here hx rfl (hb hby at_173) rfl k) ?_
  refine own_st (S' := T33.setTop (mkF m 176 #[.val (.long v1), .second, .val (.long v5), .second, .val (.long v7), .second, .val (.long p3), .second, .val (.int p4), .val (.int v9), .val (.long v10), .second, .val (.int v14), .val (.int v16), .val (.ref b18), .unset, .unset] [(.long v1), (.long v7), (.int ((1 : Int32) + v35))])) (fun t k => XS.lloadN X33.here hx rfl (hb hby at_175) rfl k) ?_
  refine own_st (S' := T33.setTop (mkF m 177 #[.val (.long v1), .second, .val (.long v5), .second, .val (.long v7), .second, .val (.long p3), .second, .val (.int p4), .val (.int v9), .val (.long v10), .second, .val (.int v14), .val (.int v16), .val (.ref b18), .unset, .unset] [(.int (lcmpW v7 v1)), (.int ((1 : Int32) + v35))])) (fun t k => XS.lcmp X33.here hx rfl (hb hby at_176) rfl k) ?_
  obtain ⟨v37, qv37⟩ : ∃ z : Int32, z = (if v7 = v1 then (0 : Int32) else (if v7 = v5 then (0 : Int32) else (1 : Int32))) := ⟨_, rfl⟩
  refine own_st (S' := T33.setTop (mkF m 192 #[.val (.long v1), .second, .val (.long v5), .second, .val (.long v7), .second, .val (.long p3), .second, .val (.int p4), .val (.int v9), .val (.long v10), .second, .val (.int v14), .val (.int v16), .val (.ref b18), .unset, .unset] [(.int v37), (.int ((1 : Int32) + v35))])) (fun t k => ?_) ?_
  · show Steps p.tables e below (T33.setTop (mkF m 177 #[.val (.long v1), .second, .val (.long v5), .second, .val (.long v7), .second, .val (.long p3), .second, .val (.int p4), .val (.int v9), .val (.long v10), .second, .val (.int v14), .val (.int v16), .val (.ref b18), .unset, .unset] [(.int (lcmpW v7 v1)), (.int ((1 : Int32) + v35))])) _
    by_cases hc38 : v7 = v1
    · rw [if_pos hc38] at qv37
      replace qv37 := Eq.symm qv37
      subst qv37
      refine XS.ifYes X33.here hx rfl (pc0 := 177) (pc' := 191) rfl (hb hby at_177) rfl ((if0 _ _).trans (teq ((lw_eq _ _).mpr hc38)).1) (by decide) (by decide) ?_
      show Steps p.tables e below (T33.setTop (mkF m 191 #[.val (.long v1), .second, .val (.long v5), .second, .val (.long v7), .second, .val (.long p3), .second, .val (.int p4), .val (.int v9), .val (.long v10), .second, .val (.int v14), .val (.int v16), .val (.ref b18), .unset, .unset] [(.int ((1 : Int32) + v35))])) _
      refine XS.iconst X33.here hx rfl (hb hby at_191) ?_
      show Steps p.tables e below (T33.setTop (mkF m 192 #[.val (.long v1), .second, .val (.long v5), .second, .val (.long v7), .second, .val (.long p3), .second, .val (.int p4), .val (.int v9), .val (.long v10), .second, .val (.int v14), .val (.int v16), .val (.ref b18), .unset, .unset] [(.int (0 : Int32)), (.int ((1 : Int32) + v35))])) _
      exact k
    · rw [if_neg hc38] at qv37
      refine XS.ifNo X33.here hx rfl (hb hby at_177) rfl ((if0 _ _).trans (feq (mt (lw_eq _ _).mp hc38)).1) ?_
      show Steps p.tables e below (T33.setTop (mkF m 180 #[.val (.long v1), .second, .val (.long v5), .second, .val (.long v7), .second, .val (.long p3), .second, .val (.int p4), .val (.int v9), .val (.long v10), .second, .val (.int v14), .val (.int v16), .val (.ref b18), .unset, .unset] [(.int ((1 : Int32) + v35))])) _
      refine XS.lload X33.here hx rfl (hb hby at_180) rfl ?_
      show Steps p.tables e below (T33.setTop (mkF m 182 #[.val (.long v1), .second, .val (.long v5), .second, .val (.long v7), .second, .val (.long p3), .second, .val (.int p4), .val (.int v9), .val (.long v10), .second, .val (.int v14), .val (.int v16), .val (.ref b18), .unset, .unset] [(.long v7), (.int ((1 : Int32) + v35))])) _
      refine XS.lloadN X33.here hx rfl (hb hby at_182) rfl ?_
      show Steps p.tables e below (T33.setTop (mkF m 183 #[.val (.long v1), .second, .val (.long v5), .second, .val (.long v7), .second, .val (.long p3), .second, .val (.int p4), .val (.int v9), .val (.long v10), .second, .val (.int v14), .val (.int v16), .val (.ref b18), .unset, .unset] [(.long v5), (.long v7), (.int ((1 : Int32) + v35))])) _
      refine XS.lcmp X33.here hx rfl (hb hby at_183) rfl ?_
      show Steps p.tables e below (T33.setTop (mkF m 184 #[.val (.long v1), .second, .val (.long v5), .second, .val (.long v7), .second, .val (.long p3), .second, .val (.int p4), .val (.int v9), .val (.long v10), .second, .val (.int v14), .val (.int v16), .val (.ref b18), .unset, .unset] [(.int (lcmpW v7 v5)), (.int ((1 : Int32) + v35))])) _
      by_cases hc39 : v7 = v5
      · rw [if_pos hc39] at qv37
        replace qv37 := Eq.symm qv37
        subst qv37
        refine XS.ifYes X33.here hx rfl (pc0 := 184) (pc' := 191) rfl (hb hby at_184) rfl ((if0 _ _).trans (teq ((lw_eq _ _).mpr hc39)).1) (by decide) (by decide) ?_
        show Steps p.tables e below (T33.setTop (mkF m 191 #[.val (.long v1), .second, .val (.long v5), .second, .val (.long v7), .second, .val (.long p3), .second, .val (.int p4), .val (.int v9), .val (.long v10), .second, .val (.int v14), .val (.int v16), .val (.ref b18), .unset, .unset] [(.int ((1 : Int32) + v35))])) _
        refine XS.iconst X33.here hx rfl (hb hby at_191) ?_
        show Steps p.tables e below (T33.setTop (mkF m 192 #[.val (.long v1), .second, .val (.long v5), .second, .val (.long v7), .second, .val (.long p3), .second, .val (.int p4), .val (.int v9), .val (.long v10), .second, .val (.int v14), .val (.int v16), .val (.ref b18), .unset, .unset] [(.int (0 : Int32)), (.int ((1 : Int32) + v35))])) _
        exact k
      · rw [if_neg hc39] at qv37
        replace qv37 := Eq.symm qv37
        subst qv37
        refine XS.ifNo X33.here hx rfl (hb hby at_184) rfl ((if0 _ _).trans (feq (mt (lw_eq _ _).mp hc39)).1) ?_
        show Steps p.tables e below (T33.setTop (mkF m 187 #[.val (.long v1), .second, .val (.long v5), .second, .val (.long v7), .second, .val (.long p3), .second, .val (.int p4), .val (.int v9), .val (.long v10), .second, .val (.int v14), .val (.int v16), .val (.ref b18), .unset, .unset] [(.int ((1 : Int32) + v35))])) _
        refine XS.iconst X33.here hx rfl (hb hby at_187) ?_
        show Steps p.tables e below (T33.setTop (mkF m 188 #[.val (.long v1), .second, .val (.long v5), .second, .val (.long v7), .second, .val (.long p3), .second, .val (.int p4), .val (.int v9), .val (.long v10), .second, .val (.int v14), .val (.int v16), .val (.ref b18), .unset, .unset] [(.int (1 : Int32)), (.int ((1 : Int32) + v35))])) _
        refine XS.goto X33.here hx rfl (pc0 := 188) (pc' := 192) rfl (hb hby at_188) (by decide) (by decide) ?_
        show Steps p.tables e below (T33.setTop (mkF m 192 #[.val (.long v1), .second, .val (.long v5), .second, .val (.long v7), .second, .val (.long p3), .second, .val (.int p4), .val (.int v9), .val (.long v10), .second, .val (.int v14), .val (.int v16), .val (.ref b18), .unset, .unset] [(.int (1 : Int32)), (.int ((1 : Int32) + v35))])) _
        exact k
  show own_Go p.tables e below _ (T33.setTop (mkF m 192 #[.val (.long v1), .second, .val (.long v5), .second, .val (.long v7), .second, .val (.long p3), .second, .val (.int p4), .val (.int v9), .val (.long v10), .second, .val (.int v14), .val (.int v16), .val (.ref b18), .unset, .unset] [(.int v37), (.int ((1 : Int32) + v35))]))
  refine own_st (S' := T33.setTop (mkF m 193 #[.val (.long v1), .second, .val (.long v5), .second, .val (.long v7), .second, .val (.long p3), .second, .val (.int p4), .val (.int v9), .val (.long v10), .second, .val (.int v14), .val (.int v16), .val (.ref b18), .unset, .unset] [(.int (((1 : Int32) + v35) + v37))])) (fun t k => XS.iadd X33.here hx rfl (hb hby at_192) rfl k) ?_
  obtain ⟨v40, qv40⟩ : ∃ z : Int32, z = (((1 : Int32) + v35) + v37) := ⟨_, rfl⟩
  show own_Go p.tables e below _ (T33.setTop (mkF m 193 #[.val (.long v1), .second, .val (.long v5), .second, .val (.long v7), .second, .val (.long p3), .second, .val (.int p4), .val (.int v9), .val (.long v10), .second, .val (.int v14), .val (.int v16), .val (.ref b18), .unset, .unset] [(.int (((1 : Int32) + v35) + v37))]))
  rw [← qv40]
  refine own_st (S' := T33.setTop (mkF m 195 #[.val (.long v1), .second, .val (.long v5), .second, .val (.long v7), .second, .val (.long p3), .second, .val (.int p4), .val (.int v9), .val (.long v10), .second, .val (.int v14), .val (.int v16), .val (.ref b18), .val (.int v40), .unset] [])) (fun t k => XS.istore X33.here hx rfl (hb hby at_193) rfl (l' := #[.val (.long v1), .second, .val (.long v5), .second, .val (.long v7), .second, .val (.long p3), .second, .val (.int p4), .val (.int v9), .val (.long v10), .second, .val (.int v14), .val (.int v16), .val (.ref b18), .val (.int v40), .unset]) rfl k) ?_
  refine own_st (S' := T33.setTop (mkF m 197 #[.val (.long v1), .second, .val (.long v5), .second, .val (.long v7), .second, .val (.long p3), .second, .val (.int p4), .val (.int v9), .val (.long v10), .second, .val (.int v14), .val (.int v16), .val (.ref b18), .val (.int v40), .unset] [(.ref b18)])) (fun t k => XS.aload X33.here hx rfl (hb hby at_195) rfl rfl k) ?_
  obtain ⟨cq41, kq41, q41a, q41b, q41c⟩ := isOf hZ rfl g0_33
  obtain ⟨_, _, ⟨T41, L41, k41, n41⟩, -, X41, ⟨Lc41, hQ41, l41, y41, z41⟩, st41⟩ := X33.virtualBack hx (y := (⟨"com/example/gaithersburg/gaithersburg/IdMap", "size", "()I"⟩ : MethodName)) (z := (⟨"com/example/gaithersburg/gaithersburg/IdMap", "size", "()I"⟩ : MethodName)) hown (mvT hZ (hw _ (List.mem_of_getElem? (i := 14) rfl))) (mvT hZ (hw _ (List.mem_of_getElem? (i := 15) rfl))) (notFace_of_selects (args := #[]) (mvT hZ (hw _ (List.mem_of_getElem? (i := 17) rfl)))) (mvT hZ (hw _ (List.mem_of_getElem? (i := 17) rfl))) (mvT hZ (hw _ (List.mem_of_getElem? (i := 16) rfl))) (by decide) (backOf (W := 0) (rm6 l Z a0 hw [] b18 wo33 zo33 T33.heap n0 Z33 g3_33 g4_33) hZ (hw _ (List.mem_of_getElem? (i := 18) rfl)) (hw _ (List.mem_of_getElem? (i := 2) rfl)) (by decide) (by decide)) q41a q41c (g := (mkF m 197 #[.val (.long v1), .second, .val (.long v5), .second, .val (.long v7), .second, .val (.long p3), .second, .val (.int p4), .val (.int v9), .val (.long v10), .second, .val (.int v14), .val (.int v16), .val (.ref b18), .val (.int v40), .unset] [(.ref b18)])) rfl (by rw [hml]; rfl) (Steps.refl _) (argsL := []) (rest := []) (lenOf pd0_1 rfl) rfl (by show 2 * 0 + _ ≤ _; exact Nat.le_of_eq rfl) (hb hby at_197) (fun _ _ => ⟨rfl, rfl, (by decide : 3 + 0 ≤ _), (by decide : 37 + 0 ≤ _)⟩)
  dsimp only [Pt.U, Pt.locs, Pt.cells, Pt.slots] at X41 l41 y41 z41 st41 hQ41
  rw [l41, y41, z41] at X41
  obtain ⟨rfl, N41q, hh41⟩ := hQ41
  have N41 := Fr.app N33 N41q
  refine own_tr st41 ?_
  show own_Go p.tables e below _ (T41.setTop (mkF m 200 #[.val (.long v1), .second, .val (.long v5), .second, .val (.long v7), .second, .val (.long p3), .second, .val (.int p4), .val (.int v9), .val (.long v10), .second, .val (.int v14), .val (.int v16), .val (.ref b18), .val (.int v40), .unset] [(.int (own_sz wo33 zo33))]))
  obtain ⟨v42, qv42⟩ : ∃ z : Int32, z = (own_sz wo33 zo33) := ⟨_, rfl⟩
  rw [← qv42]
  refine own_st (S' := T41.setTop (mkF m 202 #[.val (.long v1), .second, .val (.long v5), .second, .val (.long v7), .second, .val (.long p3), .second, .val (.int p4), .val (.int v9), .val (.long v10), .second, .val (.int v14), .val (.int v16), .val (.ref b18), .val (.int v40), .unset] [(.int v40), (.int v42)])) (fun t k => XS.iload X41.here hx rfl (hb hby at_200) rfl k) ?_
  have hc43 : v42 = v40 := by rw [qv42, qv40, qv35, qv37]; exact J3.2.2.2.2.2.1
  refine own_st (S' := T41.setTop (mkF m 207 #[.val (.long v1), .second, .val (.long v5), .second, .val (.long v7), .second, .val (.long p3), .second, .val (.int p4), .val (.int v9), .val (.long v10), .second, .val (.int v14), .val (.int v16), .val (.ref b18), .val (.int v40), .unset] [])) (fun t k => XS.icmpYes X41.here hx rfl (pc0 := 202) (pc' := 207) rfl (hb hby at_202) rfl (teq hc43).1 (by decide) (by decide) k) ?_
  show own_Go p.tables e below _ (T41.setTop (mkF m 207 #[.val (.long v1), .second, .val (.long v5), .second, .val (.long v7), .second, .val (.long p3), .second, .val (.int p4), .val (.int v9), .val (.long v10), .second, .val (.int v14), .val (.int v16), .val (.ref b18), .val (.int v40), .unset] []))
  refine own_st (S' := T41.setTop (mkF m 209 #[.val (.long v1), .second, .val (.long v5), .second, .val (.long v7), .second, .val (.long p3), .second, .val (.int p4), .val (.int v9), .val (.long v10), .second, .val (.int v14), .val (.int v16), .val (.ref b18), .val (.int v40), .unset] [(.int v14)])) (fun t k => XS.iload X41.here hx rfl (hb hby at_207) rfl k) ?_
  by_cases hc44 : (((p4.toUInt32 >>> ((6 : Int32) &&& 31).toUInt32).toInt32) &&& (1 : Int32)) = (0 : Int32)
  · refine own_st (S' := T41.setTop (mkF m 292 #[.val (.long v1), .second, .val (.long v5), .second, .val (.long v7), .second, .val (.long p3), .second, .val (.int p4), .val (.int v9), .val (.long v10), .second, .val (.int v14), .val (.int v16), .val (.ref b18), .val (.int v40), .unset] [])) (fun t k => XS.ifYes X41.here hx rfl (pc0 := 209) (pc' := 292) rfl (hb hby at_209) rfl ((if0 _ _).trans (teq ((by rw [qv14, if_pos hc44] <;> decide) : v14 = (0 : Int32))).1) (by decide) (by decide) k) ?_
    show own_Go p.tables e below _ (T41.setTop (mkF m 292 #[.val (.long v1), .second, .val (.long v5), .second, .val (.long v7), .second, .val (.long p3), .second, .val (.int p4), .val (.int v9), .val (.long v10), .second, .val (.int v14), .val (.int v16), .val (.ref b18), .val (.int v40), .unset] []))
    refine own_st (S' := T41.setTop (mkF m 294 #[.val (.long v1), .second, .val (.long v5), .second, .val (.long v7), .second, .val (.long p3), .second, .val (.int p4), .val (.int v9), .val (.long v10), .second, .val (.int v14), .val (.int v16), .val (.ref b18), .val (.int v40), .unset] [(.ref b18)])) (fun t k => XS.aload X41.here hx rfl (hb hby at_292) rfl rfl k) ?_
    obtain ⟨cq45, kq45, q45a, q45b, q45c⟩ := isOf hZ hh41 g0_33
    obtain ⟨_, _, ⟨T45, L45, k45, n45⟩, -, X45, ⟨Lc45, hQ45, l45, y45, z45⟩, st45⟩ := X41.virtualBack hx (y := (⟨"com/example/gaithersburg/gaithersburg/IdMap", "size", "()I"⟩ : MethodName)) (z := (⟨"com/example/gaithersburg/gaithersburg/IdMap", "size", "()I"⟩ : MethodName)) hown (mvT hZ (hw _ (List.mem_of_getElem? (i := 14) rfl))) (mvT hZ (hw _ (List.mem_of_getElem? (i := 15) rfl))) (notFace_of_selects (args := #[]) (mvT hZ (hw _ (List.mem_of_getElem? (i := 17) rfl)))) (mvT hZ (hw _ (List.mem_of_getElem? (i := 17) rfl))) (mvT hZ (hw _ (List.mem_of_getElem? (i := 16) rfl))) (by decide) (backOf (W := 0) (rm6 l Z a0 hw [] b18 wo33 zo33 T33.heap n0 Z33 g3_33 g4_33) hZ (hw _ (List.mem_of_getElem? (i := 18) rfl)) (hw _ (List.mem_of_getElem? (i := 2) rfl)) (by decide) (by decide)) q45a q45c (g := (mkF m 294 #[.val (.long v1), .second, .val (.long v5), .second, .val (.long v7), .second, .val (.long p3), .second, .val (.int p4), .val (.int v9), .val (.long v10), .second, .val (.int v14), .val (.int v16), .val (.ref b18), .val (.int v40), .unset] [(.ref b18)])) rfl (by rw [hml]; rfl) (Steps.refl _) (argsL := []) (rest := []) (lenOf pd0_1 rfl) rfl (by show 2 * 0 + _ ≤ _; exact Nat.le_of_eq rfl) (hb hby at_294) (fun _ _ => ⟨rfl, hh41, (by decide : 3 + 0 ≤ _), (by decide : 37 + 0 ≤ _)⟩)
    dsimp only [Pt.U, Pt.locs, Pt.cells, Pt.slots] at X45 l45 y45 z45 st45 hQ45
    rw [l45, y45, z45] at X45
    obtain ⟨rfl, N45q, hh45⟩ := hQ45
    have N45 := Fr.app N41 N45q
    refine own_tr st45 ?_
    show own_Go p.tables e below _ (T45.setTop (mkF m 297 #[.val (.long v1), .second, .val (.long v5), .second, .val (.long v7), .second, .val (.long p3), .second, .val (.int p4), .val (.int v9), .val (.long v10), .second, .val (.int v14), .val (.int v16), .val (.ref b18), .val (.int v40), .unset] [(.int (own_sz wo33 zo33))]))
    obtain ⟨v46, qv46⟩ : ∃ z : Int32, z = (own_sz wo33 zo33) := ⟨_, rfl⟩
    rw [← qv46]
    refine own_st (S' := T45.setTop (mkF m 299 #[.val (.long v1), .second, .val (.long v5), .second, .val (.long v7), .second, .val (.long p3), .second, .val (.int p4), .val (.int v9), .val (.long v10), .second, .val (.int v14), .val (.int v16), .val (.ref b18), .val (.int v40), .unset] [(.int v40), (.int v46)])) (fun t k => XS.iload X45.here hx rfl (hb hby at_297) rfl k) ?_
    have hc47 : v46 = v40 := by rw [qv46, qv40, qv35, qv37]; exact J3.2.2.2.2.2.1
    refine own_st (S' := T45.setTop (mkF m 302 #[.val (.long v1), .second, .val (.long v5), .second, .val (.long v7), .second, .val (.long p3), .second, .val (.int p4), .val (.int v9), .val (.long v10), .second, .val (.int v14), .val (.int v16), .val (.ref b18), .val (.int v40), .unset] [])) (fun t k => XS.icmpNo X45.here hx rfl (hb hby at_299) rfl (teq hc47).2 k) ?_
    show own_Go p.tables e below _ (T45.setTop (mkF m 302 #[.val (.long v1), .second, .val (.long v5), .second, .val (.long v7), .second, .val (.long p3), .second, .val (.int p4), .val (.int v9), .val (.long v10), .second, .val (.int v14), .val (.int v16), .val (.ref b18), .val (.int v40), .unset] []))
    refine own_st (S' := T45.setTop (mkF m 303 #[.val (.long v1), .second, .val (.long v5), .second, .val (.long v7), .second, .val (.long p3), .second, .val (.int p4), .val (.int v9), .val (.long v10), .second, .val (.int v14), .val (.int v16), .val (.ref b18), .val (.int v40), .unset] [(.int (1 : Int32))])) (fun t k => XS.iconst X45.here hx rfl (hb hby at_302) k) ?_
    refine own_st (S' := T45.setTop (mkF m 307 #[.val (.long v1), .second, .val (.long v5), .second, .val (.long v7), .second, .val (.long p3), .second, .val (.int p4), .val (.int v9), .val (.long v10), .second, .val (.int v14), .val (.int v16), .val (.ref b18), .val (.int v40), .unset] [(.int (1 : Int32))])) (fun t k => XS.goto X45.here hx rfl (pc0 := 303) (pc' := 307) rfl (hb hby at_303) (by decide) (by decide) k) ?_
    refine own_retN X45 hx (t := .boolean) hret (by simp) hlk (hb hby at_307) ?_ (by decide) (by decide)
    rw [hh45]
    exact ⟨rfl, N45⟩
  · refine own_st (S' := T41.setTop (mkF m 212 #[.val (.long v1), .second, .val (.long v5), .second, .val (.long v7), .second, .val (.long p3), .second, .val (.int p4), .val (.int v9), .val (.long v10), .second, .val (.int v14), .val (.int v16), .val (.ref b18), .val (.int v40), .unset] [])) (fun t k => XS.ifNo X41.here hx rfl (hb hby at_209) rfl ((if0 _ _).trans (feq ((by rw [qv14, if_neg hc44] <;> decide) : ¬ (v14 = (0 : Int32)))).1) k) ?_
    show own_Go p.tables e below _ (T41.setTop (mkF m 212 #[.val (.long v1), .second, .val (.long v5), .second, .val (.long v7), .second, .val (.long p3), .second, .val (.int p4), .val (.int v9), .val (.long v10), .second, .val (.int v14), .val (.int v16), .val (.ref b18), .val (.int v40), .unset] []))
    refine own_st (S' := T41.setTop (mkF m 214 #[.val (.long v1), .second, .val (.long v5), .second, .val (.long v7), .second, .val (.long p3), .second, .val (.int p4), .val (.int v9), .val (.long v10), .second, .val (.int v14), .val (.int v16), .val (.ref b18), .val (.int v40), .unset] [(.ref b18)])) (fun t k => XS.aload X41.here hx rfl (hb hby at_212) rfl rfl k) ?_
    refine own_st (S' := T41.setTop (mkF m 216 #[.val (.long v1), .second, .val (.long v5), .second, .val (.long v7), .second, .val (.long p3), .second, .val (.int p4), .val (.int v9), .val (.long v10), .second, .val (.int v14), .val (.int v16), .val (.ref b18), .val (.int v40), .unset] [(.long v10), (.ref b18)])) (fun t k => XS.lload X41.here hx rfl (hb hby at_214) rfl k) ?_
    obtain ⟨cq48, kq48, q48a, q48b, q48c⟩ := isOf hZ hh41 g0_33
    obtain ⟨_, _, ⟨T48, L48, k48, n48⟩, -, X48, ⟨Lc48, hQ48, l48, y48, z48⟩, st48⟩ := X41.virtualBack hx (y := (⟨"com/example/gaithersburg/gaithersburg/IdMap", "remove", "(J)V"⟩ : MethodName)) (z := (⟨"com/example/gaithersburg/gaithersburg/IdMap", "remove", "(J)V"⟩ : MethodName)) hown (mvT hZ (hw _ (List.mem_of_getElem? (i := 48) rfl))) (mvT hZ (hw _ (List.mem_of_getElem? (i := 49) rfl))) (notFace_of_selects (args := #[]) (mvT hZ (hw _ (List.mem_of_getElem? (i := 51) rfl)))) (mvT hZ (hw _ (List.mem_of_getElem? (i := 51) rfl))) (mvT hZ (hw _ (List.mem_of_getElem? (i := 50) rfl))) (by decide) (backOf (W := 0) (rm8 l Z a0 hw [] b18 v10 ai24 av24 wo33 zo33 uo33 fo33 go33 T33.heap n0 Z33 g0_33 g1_33 g2_33 g3_33 g4_33 g5_33 g6_33 g7_33 G_b18 G_ai24 G_av24 ne_b18_ai24 ne_b18_av24 ne_ai24_av24 (J3.emp (by simp)) J3.1) hZ (hw _ (List.mem_of_getElem? (i := 52) rfl)) (hw _ (List.mem_of_getElem? (i := 2) rfl)) (by decide) (by decide)) q48a q48c (g := (mkF m 216 #[.val (.long v1), .second, .val (.long v5), .second, .val (.long v7), .second, .val (.long p3), .second, .val (.int p4), .val (.int v9), .val (.long v10), .second, .val (.int v14), .val (.int v16), .val (.ref b18), .val (.int v40), .unset] [(.long v10), (.ref b18)])) rfl (by rw [hml]; rfl) (Steps.refl _) (argsL := [(.long v10)]) (rest := []) (lenOf pd0_3 rfl) rfl (by show 2 * 0 + _ ≤ _; exact Nat.le_of_eq rfl) (hb hby at_216) (fun _ _ => ⟨rfl, hh41, (by decide : 3 + 0 ≤ _), (by decide : 37 + 0 ≤ _)⟩)
    dsimp only [Pt.U, Pt.locs, Pt.cells, Pt.slots] at X48 l48 y48 z48 st48 hQ48
    rw [l48, y48, z48] at X48
    obtain ⟨fo48, go48, wo48, zo48, uo48, rfl, N48q, Kq48, g0_48, g1_48, g2_48, g3_48, g4_48, g5_48, g6_48, g7_48, Rp48⟩ := hQ48
    have f49 : Exa Z T48.heap b18 "com/example/gaithersburg/gaithersburg/IdMap" := g0_33.keep Kq48
    have Z48 : n0 ≤ T48.heap.size := Nat.le_trans Z33 Kq48.1
    have N48 := Fr.app N41 N48q
    refine own_tr st48 ?_
    show own_Go p.tables e below _ (T48.setTop (mkF m 219 #[.val (.long v1), .second, .val (.long v5), .second, .val (.long v7), .second, .val (.long p3), .second, .val (.int p4), .val (.int v9), .val (.long v10), .second, .val (.int v14), .val (.int v16), .val (.ref b18), .val (.int v40), .unset] []))
    have M4 := own_remLaw J3 (by simp) Rp48
    refine own_st (S' := T48.setTop (mkF m 221 #[.val (.long v1), .second, .val (.long v5), .second, .val (.long v7), .second, .val (.long p3), .second, .val (.int p4), .val (.int v9), .val (.long v10), .second, .val (.int v14), .val (.int v16), .val (.ref b18), .val (.int v40), .unset] [(.long v10)])) (fun t k => XS.lload X48.here hx rfl (hb hby at_219) rfl k) ?_
    refine own_st (S' := T48.setTop (mkF m 222 #[.val (.long v1), .second, .val (.long v5), .second, .val (.long v7), .second, .val (.long p3), .second, .val (.int p4), .val (.int v9), .val (.long v10), .second, .val (.int v14), .val (.int v16), .val (.ref b18), .val (.int v40), .unset] [(.long v1), (.long v10)])) (fun t k => XS.lloadN X48.here hx rfl (hb hby at_221) rfl k) ?_
    refine own_st (S' := T48.setTop (mkF m 223 #[.val (.long v1), .second, .val (.long v5), .second, .val (.long v7), .second, .val (.long p3), .second, .val (.int p4), .val (.int v9), .val (.long v10), .second, .val (.int v14), .val (.int v16), .val (.ref b18), .val (.int v40), .unset] [(.int (lcmpW v10 v1))])) (fun t k => XS.lcmp X48.here hx rfl (hb hby at_222) rfl k) ?_
    obtain ⟨v50, qv50⟩ : ∃ z : Int32, z = (if v10 = v1 then (1 : Int32) else (if v10 = v5 then (1 : Int32) else (if v10 = v7 then (1 : Int32) else (0 : Int32)))) := ⟨_, rfl⟩
    refine own_st (S' := T48.setTop (mkF m 246 #[.val (.long v1), .second, .val (.long v5), .second, .val (.long v7), .second, .val (.long p3), .second, .val (.int p4), .val (.int v9), .val (.long v10), .second, .val (.int v14), .val (.int v16), .val (.ref b18), .val (.int v40), .unset] [(.int v50)])) (fun t k => ?_) ?_
    · show Steps p.tables e below (T48.setTop (mkF m 223 #[.val (.long v1), .second, .val (.long v5), .second, .val (.long v7), .second, .val (.long p3), .second, .val (.int p4), .val (.int v9), .val (.long v10), .second, .val (.int v14), .val (.int v16), .val (.ref b18), .val (.int v40), .unset] [(.int (lcmpW v10 v1))])) _
      by_cases hc51 : v10 = v1
      · rw [if_pos hc51] at qv50
        replace qv50 := Eq.symm qv50
        subst qv50
        refine XS.ifYes X48.here hx rfl (pc0 := 223) (pc' := 241) rfl (hb hby at_223) rfl ((if0 _ _).trans (teq ((lw_eq _ _).mpr hc51)).1) (by decide) (by decide) ?_
        show Steps p.tables e below (T48.setTop (mkF m 241 #[.val (.long v1), .second, .val (.long v5), .second, .val (.long v7), .second, .val (.long p3), .second, .val (.int p4), .val (.int v9), .val (.long v10), .second, .val (.int v14), .val (.int v16), .val (.ref b18), .val (.int v40), .unset] [])) _
        refine XS.iconst X48.here hx rfl (hb hby at_241) ?_
        show Steps p.tables e below (T48.setTop (mkF m 242 #[.val (.long v1), .second, .val (.long v5), .second, .val (.long v7), .second, .val (.long p3), .second, .val (.int p4), .val (.int v9), .val (.long v10), .second, .val (.int v14), .val (.int v16), .val (.ref b18), .val (.int v40), .unset] [(.int (1 : Int32))])) _
        refine XS.goto X48.here hx rfl (pc0 := 242) (pc' := 246) rfl (hb hby at_242) (by decide) (by decide) ?_
        show Steps p.tables e below (T48.setTop (mkF m 246 #[.val (.long v1), .second, .val (.long v5), .second, .val (.long v7), .second, .val (.long p3), .second, .val (.int p4), .val (.int v9), .val (.long v10), .second, .val (.int v14), .val (.int v16), .val (.ref b18), .val (.int v40), .unset] [(.int (1 : Int32))])) _
        exact k
      · rw [if_neg hc51] at qv50
        refine XS.ifNo X48.here hx rfl (hb hby at_223) rfl ((if0 _ _).trans (feq (mt (lw_eq _ _).mp hc51)).1) ?_
        show Steps p.tables e below (T48.setTop (mkF m 226 #[.val (.long v1), .second, .val (.long v5), .second, .val (.long v7), .second, .val (.long p3), .second, .val (.int p4), .val (.int v9), .val (.long v10), .second, .val (.int v14), .val (.int v16), .val (.ref b18), .val (.int v40), .unset] [])) _
        refine XS.lload X48.here hx rfl (hb hby at_226) rfl ?_
        show Steps p.tables e below (T48.setTop (mkF m 228 #[.val (.long v1), .second, .val (.long v5), .second, .val (.long v7), .second, .val (.long p3), .second, .val (.int p4), .val (.int v9), .val (.long v10), .second, .val (.int v14), .val (.int v16), .val (.ref b18), .val (.int v40), .unset] [(.long v10)])) _
        refine XS.lloadN X48.here hx rfl (hb hby at_228) rfl ?_
        show Steps p.tables e below (T48.setTop (mkF m 229 #[.val (.long v1), .second, .val (.long v5), .second, .val (.long v7), .second, .val (.long p3), .second, .val (.int p4), .val (.int v9), .val (.long v10), .second, .val (.int v14), .val (.int v16), .val (.ref b18), .val (.int v40), .unset] [(.long v5), (.long v10)])) _
        refine XS.lcmp X48.here hx rfl (hb hby at_229) rfl ?_
        show Steps p.tables e below (T48.setTop (mkF m 230 #[.val (.long v1), .second, .val (.long v5), .second, .val (.long v7), .second, .val (.long p3), .second, .val (.int p4), .val (.int v9), .val (.long v10), .second, .val (.int v14), .val (.int v16), .val (.ref b18), .val (.int v40), .unset] [(.int (lcmpW v10 v5))])) _
        by_cases hc52 : v10 = v5
        · rw [if_pos hc52] at qv50
          replace qv50 := Eq.symm qv50
          subst qv50
          refine XS.ifYes X48.here hx rfl (pc0 := 230) (pc' := 241) rfl (hb hby at_230) rfl ((if0 _ _).trans (teq ((lw_eq _ _).mpr hc52)).1) (by decide) (by decide) ?_
          show Steps p.tables e below (T48.setTop (mkF m 241 #[.val (.long v1), .second, .val (.long v5), .second, .val (.long v7), .second, .val (.long p3), .second, .val (.int p4), .val (.int v9), .val (.long v10), .second, .val (.int v14), .val (.int v16), .val (.ref b18), .val (.int v40), .unset] [])) _
          refine XS.iconst X48.here hx rfl (hb hby at_241) ?_
          show Steps p.tables e below (T48.setTop (mkF m 242 #[.val (.long v1), .second, .val (.long v5), .second, .val (.long v7), .second, .val (.long p3), .second, .val (.int p4), .val (.int v9), .val (.long v10), .second, .val (.int v14), .val (.int v16), .val (.ref b18), .val (.int v40), .unset] [(.int (1 : Int32))])) _
          refine XS.goto X48.here hx rfl (pc0 := 242) (pc' := 246) rfl (hb hby at_242) (by decide) (by decide) ?_
          show Steps p.tables e below (T48.setTop (mkF m 246 #[.val (.long v1), .second, .val (.long v5), .second, .val (.long v7), .second, .val (.long p3), .second, .val (.int p4), .val (.int v9), .val (.long v10), .second, .val (.int v14), .val (.int v16), .val (.ref b18), .val (.int v40), .unset] [(.int (1 : Int32))])) _
          exact k
        · rw [if_neg hc52] at qv50
          refine XS.ifNo X48.here hx rfl (hb hby at_230) rfl ((if0 _ _).trans (feq (mt (lw_eq _ _).mp hc52)).1) ?_
          show Steps p.tables e below (T48.setTop (mkF m 233 #[.val (.long v1), .second, .val (.long v5), .second, .val (.long v7), .second, .val (.long p3), .second, .val (.int p4), .val (.int v9), .val (.long v10), .second, .val (.int v14), .val (.int v16), .val (.ref b18), .val (.int v40), .unset] [])) _
          refine XS.lload X48.here hx rfl (hb hby at_233) rfl ?_
          show Steps p.tables e below (T48.setTop (mkF m 235 #[.val (.long v1), .second, .val (.long v5), .second, .val (.long v7), .second, .val (.long p3), .second, .val (.int p4), .val (.int v9), .val (.long v10), .second, .val (.int v14), .val (.int v16), .val (.ref b18), .val (.int v40), .unset] [(.long v10)])) _
          refine XS.lload X48.here hx rfl (hb hby at_235) rfl ?_
          show Steps p.tables e below (T48.setTop (mkF m 237 #[.val (.long v1), .second, .val (.long v5), .second, .val (.long v7), .second, .val (.long p3), .second, .val (.int p4), .val (.int v9), .val (.long v10), .second, .val (.int v14), .val (.int v16), .val (.ref b18), .val (.int v40), .unset] [(.long v7), (.long v10)])) _
          refine XS.lcmp X48.here hx rfl (hb hby at_237) rfl ?_
          show Steps p.tables e below (T48.setTop (mkF m 238 #[.val (.long v1), .second, .val (.long v5), .second, .val (.long v7), .second, .val (.long p3), .second, .val (.int p4), .val (.int v9), .val (.long v10), .second, .val (.int v14), .val (.int v16), .val (.ref b18), .val (.int v40), .unset] [(.int (lcmpW v10 v7))])) _
          by_cases hc53 : v10 = v7
          · rw [if_pos hc53] at qv50
            replace qv50 := Eq.symm qv50
            subst qv50
            refine XS.ifNo X48.here hx rfl (hb hby at_238) rfl ((if0 _ _).trans (teq ((lw_eq _ _).mpr hc53)).2) ?_
            show Steps p.tables e below (T48.setTop (mkF m 241 #[.val (.long v1), .second, .val (.long v5), .second, .val (.long v7), .second, .val (.long p3), .second, .val (.int p4), .val (.int v9), .val (.long v10), .second, .val (.int v14), .val (.int v16), .val (.ref b18), .val (.int v40), .unset] [])) _
            refine XS.iconst X48.here hx rfl (hb hby at_241) ?_
            show Steps p.tables e below (T48.setTop (mkF m 242 #[.val (.long v1), .second, .val (.long v5), .second, .val (.long v7), .second, .val (.long p3), .second, .val (.int p4), .val (.int v9), .val (.long v10), .second, .val (.int v14), .val (.int v16), .val (.ref b18), .val (.int v40), .unset] [(.int (1 : Int32))])) _
            refine XS.goto X48.here hx rfl (pc0 := 242) (pc' := 246) rfl (hb hby at_242) (by decide) (by decide) ?_
            show Steps p.tables e below (T48.setTop (mkF m 246 #[.val (.long v1), .second, .val (.long v5), .second, .val (.long v7), .second, .val (.long p3), .second, .val (.int p4), .val (.int v9), .val (.long v10), .second, .val (.int v14), .val (.int v16), .val (.ref b18), .val (.int v40), .unset] [(.int (1 : Int32))])) _
            exact k
          · rw [if_neg hc53] at qv50
            replace qv50 := Eq.symm qv50
            subst qv50
            refine XS.ifYes X48.here hx rfl (pc0 := 238) (pc' := 245) rfl (hb hby at_238) rfl ((if0 _ _).trans (feq (mt (lw_eq _ _).mp hc53)).2) (by decide) (by decide) ?_
            show Steps p.tables e below (T48.setTop (mkF m 245 #[.val (.long v1), .second, .val (.long v5), .second, .val (.long v7), .second, .val (.long p3), .second, .val (.int p4), .val (.int v9), .val (.long v10), .second, .val (.int v14), .val (.int v16), .val (.ref b18), .val (.int v40), .unset] [])) _
            refine XS.iconst X48.here hx rfl (hb hby at_245) ?_
            show Steps p.tables e below (T48.setTop (mkF m 246 #[.val (.long v1), .second, .val (.long v5), .second, .val (.long v7), .second, .val (.long p3), .second, .val (.int p4), .val (.int v9), .val (.long v10), .second, .val (.int v14), .val (.int v16), .val (.ref b18), .val (.int v40), .unset] [(.int (0 : Int32))])) _
            exact k
    show own_Go p.tables e below _ (T48.setTop (mkF m 246 #[.val (.long v1), .second, .val (.long v5), .second, .val (.long v7), .second, .val (.long p3), .second, .val (.int p4), .val (.int v9), .val (.long v10), .second, .val (.int v14), .val (.int v16), .val (.ref b18), .val (.int v40), .unset] [(.int v50)]))
    refine own_st (S' := T48.setTop (mkF m 248 #[.val (.long v1), .second, .val (.long v5), .second, .val (.long v7), .second, .val (.long p3), .second, .val (.int p4), .val (.int v9), .val (.long v10), .second, .val (.int v14), .val (.int v16), .val (.ref b18), .val (.int v40), .val (.int v50)] [])) (fun t k => XS.istore X48.here hx rfl (hb hby at_246) rfl (l' := #[.val (.long v1), .second, .val (.long v5), .second, .val (.long v7), .second, .val (.long p3), .second, .val (.int p4), .val (.int v9), .val (.long v10), .second, .val (.int v14), .val (.int v16), .val (.ref b18), .val (.int v40), .val (.int v50)]) rfl k) ?_
    refine own_st (S' := T48.setTop (mkF m 250 #[.val (.long v1), .second, .val (.long v5), .second, .val (.long v7), .second, .val (.long p3), .second, .val (.int p4), .val (.int v9), .val (.long v10), .second, .val (.int v14), .val (.int v16), .val (.ref b18), .val (.int v40), .val (.int v50)] [(.int v50)])) (fun t k => XS.iload X48.here hx rfl (hb hby at_248) rfl k) ?_
    obtain ⟨v54, qv54⟩ : ∃ z : Int32, z = (if v50 = (0 : Int32) then v40 else (v40 - (1 : Int32))) := ⟨_, rfl⟩
    refine own_st (S' := T48.setTop (mkF m 259 #[.val (.long v1), .second, .val (.long v5), .second, .val (.long v7), .second, .val (.long p3), .second, .val (.int p4), .val (.int v9), .val (.long v10), .second, .val (.int v14), .val (.int v16), .val (.ref b18), .val (.int v54), .val (.int v50)] [])) (fun t k => ?_) ?_
    · show Steps p.tables e below (T48.setTop (mkF m 250 #[.val (.long v1), .second, .val (.long v5), .second, .val (.long v7), .second, .val (.long p3), .second, .val (.int p4), .val (.int v9), .val (.long v10), .second, .val (.int v14), .val (.int v16), .val (.ref b18), .val (.int v40), .val (.int v50)] [(.int v50)])) _
      by_cases hc55 : v50 = (0 : Int32)
      · rw [if_pos hc55] at qv54
        replace qv54 := Eq.symm qv54
        subst qv54
        refine XS.ifYes X48.here hx rfl (pc0 := 250) (pc' := 259) rfl (hb hby at_250) rfl ((if0 _ _).trans (teq hc55).1) (by decide) (by decide) ?_
        show Steps p.tables e below (T48.setTop (mkF m 259 #[.val (.long v1), .second, .val (.long v5), .second, .val (.long v7), .second, .val (.long p3), .second, .val (.int p4), .val (.int v9), .val (.long v10), .second, .val (.int v14), .val (.int v16), .val (.ref b18), .val (.int v40), .val (.int v50)] [])) _
        exact k
      · rw [if_neg hc55] at qv54
        replace qv54 := Eq.symm qv54
        subst qv54
        refine XS.ifNo X48.here hx rfl (hb hby at_250) rfl ((if0 _ _).trans (feq hc55).1) ?_
        show Steps p.tables e below (T48.setTop (mkF m 253 #[.val (.long v1), .second, .val (.long v5), .second, .val (.long v7), .second, .val (.long p3), .second, .val (.int p4), .val (.int v9), .val (.long v10), .second, .val (.int v14), .val (.int v16), .val (.ref b18), .val (.int v40), .val (.int v50)] [])) _
        refine XS.iload X48.here hx rfl (hb hby at_253) rfl ?_
        show Steps p.tables e below (T48.setTop (mkF m 255 #[.val (.long v1), .second, .val (.long v5), .second, .val (.long v7), .second, .val (.long p3), .second, .val (.int p4), .val (.int v9), .val (.long v10), .second, .val (.int v14), .val (.int v16), .val (.ref b18), .val (.int v40), .val (.int v50)] [(.int v40)])) _
        refine XS.iconst X48.here hx rfl (hb hby at_255) ?_
        show Steps p.tables e below (T48.setTop (mkF m 256 #[.val (.long v1), .second, .val (.long v5), .second, .val (.long v7), .second, .val (.long p3), .second, .val (.int p4), .val (.int v9), .val (.long v10), .second, .val (.int v14), .val (.int v16), .val (.ref b18), .val (.int v40), .val (.int v50)] [(.int (1 : Int32)), (.int v40)])) _
        refine XS.isub X48.here hx rfl (hb hby at_256) rfl ?_
        show Steps p.tables e below (T48.setTop (mkF m 257 #[.val (.long v1), .second, .val (.long v5), .second, .val (.long v7), .second, .val (.long p3), .second, .val (.int p4), .val (.int v9), .val (.long v10), .second, .val (.int v14), .val (.int v16), .val (.ref b18), .val (.int v40), .val (.int v50)] [(.int (v40 - (1 : Int32)))])) _
        refine XS.istore X48.here hx rfl (hb hby at_257) rfl (l' := #[.val (.long v1), .second, .val (.long v5), .second, .val (.long v7), .second, .val (.long p3), .second, .val (.int p4), .val (.int v9), .val (.long v10), .second, .val (.int v14), .val (.int v16), .val (.ref b18), .val (.int (v40 - (1 : Int32))), .val (.int v50)]) rfl ?_
        show Steps p.tables e below (T48.setTop (mkF m 259 #[.val (.long v1), .second, .val (.long v5), .second, .val (.long v7), .second, .val (.long p3), .second, .val (.int p4), .val (.int v9), .val (.long v10), .second, .val (.int v14), .val (.int v16), .val (.ref b18), .val (.int (v40 - (1 : Int32))), .val (.int v50)] [])) _
        exact k
    show own_Go p.tables e below _ (T48.setTop (mkF m 259 #[.val (.long v1), .second, .val (.long v5), .second, .val (.long v7), .second, .val (.long p3), .second, .val (.int p4), .val (.int v9), .val (.long v10), .second, .val (.int v14), .val (.int v16), .val (.ref b18), .val (.int v54), .val (.int v50)] []))
    refine own_st (S' := T48.setTop (mkF m 261 #[.val (.long v1), .second, .val (.long v5), .second, .val (.long v7), .second, .val (.long p3), .second, .val (.int p4), .val (.int v9), .val (.long v10), .second, .val (.int v14), .val (.int v16), .val (.ref b18), .val (.int v54), .val (.int v50)] [(.ref b18)])) (fun t k => XS.aload X48.here hx rfl (hb hby at_259) rfl rfl k) ?_
    obtain ⟨cq56, kq56, q56a, q56b, q56c⟩ := isOf hZ rfl g0_48
    obtain ⟨_, _, ⟨T56, L56, k56, n56⟩, -, X56, ⟨Lc56, hQ56, l56, y56, z56⟩, st56⟩ := X48.virtualBack hx (y := (⟨"com/example/gaithersburg/gaithersburg/IdMap", "size", "()I"⟩ : MethodName)) (z := (⟨"com/example/gaithersburg/gaithersburg/IdMap", "size", "()I"⟩ : MethodName)) hown (mvT hZ (hw _ (List.mem_of_getElem? (i := 14) rfl))) (mvT hZ (hw _ (List.mem_of_getElem? (i := 15) rfl))) (notFace_of_selects (args := #[]) (mvT hZ (hw _ (List.mem_of_getElem? (i := 17) rfl)))) (mvT hZ (hw _ (List.mem_of_getElem? (i := 17) rfl))) (mvT hZ (hw _ (List.mem_of_getElem? (i := 16) rfl))) (by decide) (backOf (W := 0) (rm6 l Z a0 hw [] b18 wo48 zo48 T48.heap n0 Z48 g3_48 g4_48) hZ (hw _ (List.mem_of_getElem? (i := 18) rfl)) (hw _ (List.mem_of_getElem? (i := 2) rfl)) (by decide) (by decide)) q56a q56c (g := (mkF m 261 #[.val (.long v1), .second, .val (.long v5), .second, .val (.long v7), .second, .val (.long p3), .second, .val (.int p4), .val (.int v9), .val (.long v10), .second, .val (.int v14), .val (.int v16), .val (.ref b18), .val (.int v54), .val (.int v50)] [(.ref b18)])) rfl (by rw [hml]; rfl) (Steps.refl _) (argsL := []) (rest := []) (lenOf pd0_1 rfl) rfl (by show 2 * 0 + _ ≤ _; exact Nat.le_of_eq rfl) (hb hby at_261) (fun _ _ => ⟨rfl, rfl, (by decide : 3 + 0 ≤ _), (by decide : 37 + 0 ≤ _)⟩)
    dsimp only [Pt.U, Pt.locs, Pt.cells, Pt.slots] at X56 l56 y56 z56 st56 hQ56
    rw [l56, y56, z56] at X56
    obtain ⟨rfl, N56q, hh56⟩ := hQ56
    have N56 := Fr.app N48 N56q
    refine own_tr st56 ?_
    show own_Go p.tables e below _ (T56.setTop (mkF m 264 #[.val (.long v1), .second, .val (.long v5), .second, .val (.long v7), .second, .val (.long p3), .second, .val (.int p4), .val (.int v9), .val (.long v10), .second, .val (.int v14), .val (.int v16), .val (.ref b18), .val (.int v54), .val (.int v50)] [(.int (own_sz wo48 zo48))]))
    obtain ⟨v57, qv57⟩ : ∃ z : Int32, z = (own_sz wo48 zo48) := ⟨_, rfl⟩
    rw [← qv57]
    refine own_st (S' := T56.setTop (mkF m 266 #[.val (.long v1), .second, .val (.long v5), .second, .val (.long v7), .second, .val (.long p3), .second, .val (.int p4), .val (.int v9), .val (.long v10), .second, .val (.int v14), .val (.int v16), .val (.ref b18), .val (.int v54), .val (.int v50)] [(.int v54), (.int v57)])) (fun t k => XS.iload X56.here hx rfl (hb hby at_264) rfl k) ?_
    have hc58 : v57 = v54 := by rw [qv57, qv54, qv50, qv40, qv35, qv37]; exact own_in4 M4.2.2.1 M4.2.2.2.1
    refine own_st (S' := T56.setTop (mkF m 271 #[.val (.long v1), .second, .val (.long v5), .second, .val (.long v7), .second, .val (.long p3), .second, .val (.int p4), .val (.int v9), .val (.long v10), .second, .val (.int v14), .val (.int v16), .val (.ref b18), .val (.int v54), .val (.int v50)] [])) (fun t k => XS.icmpYes X56.here hx rfl (pc0 := 266) (pc' := 271) rfl (hb hby at_266) rfl (teq hc58).1 (by decide) (by decide) k) ?_
    show own_Go p.tables e below _ (T56.setTop (mkF m 271 #[.val (.long v1), .second, .val (.long v5), .second, .val (.long v7), .second, .val (.long p3), .second, .val (.int p4), .val (.int v9), .val (.long v10), .second, .val (.int v14), .val (.int v16), .val (.ref b18), .val (.int v54), .val (.int v50)] []))
    have hs4 : v57 = v54 := by assumption
    refine own_st (S' := T56.setTop (mkF m 273 #[.val (.long v1), .second, .val (.long v5), .second, .val (.long v7), .second, .val (.long p3), .second, .val (.int p4), .val (.int v9), .val (.long v10), .second, .val (.int v14), .val (.int v16), .val (.ref b18), .val (.int v54), .val (.int v50)] [(.int v16)])) (fun t k => XS.iload X56.here hx rfl (hb hby at_271) rfl k) ?_
    by_cases hc59 : (((p4.toUInt32 >>> ((7 : Int32) &&& 31).toUInt32).toInt32) &&& (1 : Int32)) = (0 : Int32)
    · refine own_st (S' := T56.setTop (mkF m 292 #[.val (.long v1), .second, .val (.long v5), .second, .val (.long v7), .second, .val (.long p3), .second, .val (.int p4), .val (.int v9), .val (.long v10), .second, .val (.int v14), .val (.int v16), .val (.ref b18), .val (.int v54), .val (.int v50)] [])) (fun t k => XS.ifYes X56.here hx rfl (pc0 := 273) (pc' := 292) rfl (hb hby at_273) rfl ((if0 _ _).trans (teq ((by rw [qv16, if_pos hc59] <;> decide) : v16 = (0 : Int32))).1) (by decide) (by decide) k) ?_
      show own_Go p.tables e below _ (T56.setTop (mkF m 292 #[.val (.long v1), .second, .val (.long v5), .second, .val (.long v7), .second, .val (.long p3), .second, .val (.int p4), .val (.int v9), .val (.long v10), .second, .val (.int v14), .val (.int v16), .val (.ref b18), .val (.int v54), .val (.int v50)] []))
      refine own_st (S' := T56.setTop (mkF m 294 #[.val (.long v1), .second, .val (.long v5), .second, .val (.long v7), .second, .val (.long p3), .second, .val (.int p4), .val (.int v9), .val (.long v10), .second, .val (.int v14), .val (.int v16), .val (.ref b18), .val (.int v54), .val (.int v50)] [(.ref b18)])) (fun t k => XS.aload X56.here hx rfl (hb hby at_292) rfl rfl k) ?_
      obtain ⟨cq60, kq60, q60a, q60b, q60c⟩ := isOf hZ hh56 g0_48
      obtain ⟨_, _, ⟨T60, L60, k60, n60⟩, -, X60, ⟨Lc60, hQ60, l60, y60, z60⟩, st60⟩ := X56.virtualBack hx (y := (⟨"com/example/gaithersburg/gaithersburg/IdMap", "size", "()I"⟩ : MethodName)) (z := (⟨"com/example/gaithersburg/gaithersburg/IdMap", "size", "()I"⟩ : MethodName)) hown (mvT hZ (hw _ (List.mem_of_getElem? (i := 14) rfl))) (mvT hZ (hw _ (List.mem_of_getElem? (i := 15) rfl))) (notFace_of_selects (args := #[]) (mvT hZ (hw _ (List.mem_of_getElem? (i := 17) rfl)))) (mvT hZ (hw _ (List.mem_of_getElem? (i := 17) rfl))) (mvT hZ (hw _ (List.mem_of_getElem? (i := 16) rfl))) (by decide) (backOf (W := 0) (rm6 l Z a0 hw [] b18 wo48 zo48 T48.heap n0 Z48 g3_48 g4_48) hZ (hw _ (List.mem_of_getElem? (i := 18) rfl)) (hw _ (List.mem_of_getElem? (i := 2) rfl)) (by decide) (by decide)) q60a q60c (g := (mkF m 294 #[.val (.long v1), .second, .val (.long v5), .second, .val (.long v7), .second, .val (.long p3), .second, .val (.int p4), .val (.int v9), .val (.long v10), .second, .val (.int v14), .val (.int v16), .val (.ref b18), .val (.int v54), .val (.int v50)] [(.ref b18)])) rfl (by rw [hml]; rfl) (Steps.refl _) (argsL := []) (rest := []) (lenOf pd0_1 rfl) rfl (by show 2 * 0 + _ ≤ _; exact Nat.le_of_eq rfl) (hb hby at_294) (fun _ _ => ⟨rfl, hh56, (by decide : 3 + 0 ≤ _), (by decide : 37 + 0 ≤ _)⟩)
      dsimp only [Pt.U, Pt.locs, Pt.cells, Pt.slots] at X60 l60 y60 z60 st60 hQ60
      rw [l60, y60, z60] at X60
      obtain ⟨rfl, N60q, hh60⟩ := hQ60
      have N60 := Fr.app N56 N60q
      refine own_tr st60 ?_
      show own_Go p.tables e below _ (T60.setTop (mkF m 297 #[.val (.long v1), .second, .val (.long v5), .second, .val (.long v7), .second, .val (.long p3), .second, .val (.int p4), .val (.int v9), .val (.long v10), .second, .val (.int v14), .val (.int v16), .val (.ref b18), .val (.int v54), .val (.int v50)] [(.int (own_sz wo48 zo48))]))
      obtain ⟨v61, qv61⟩ : ∃ z : Int32, z = (own_sz wo48 zo48) := ⟨_, rfl⟩
      rw [← qv61]
      refine own_st (S' := T60.setTop (mkF m 299 #[.val (.long v1), .second, .val (.long v5), .second, .val (.long v7), .second, .val (.long p3), .second, .val (.int p4), .val (.int v9), .val (.long v10), .second, .val (.int v14), .val (.int v16), .val (.ref b18), .val (.int v54), .val (.int v50)] [(.int v54), (.int v61)])) (fun t k => XS.iload X60.here hx rfl (hb hby at_297) rfl k) ?_
      have hc62 : v61 = v54 := by rw [qv61, qv54, qv50, qv40, qv35, qv37]; exact own_in4 M4.2.2.1 M4.2.2.2.1
      refine own_st (S' := T60.setTop (mkF m 302 #[.val (.long v1), .second, .val (.long v5), .second, .val (.long v7), .second, .val (.long p3), .second, .val (.int p4), .val (.int v9), .val (.long v10), .second, .val (.int v14), .val (.int v16), .val (.ref b18), .val (.int v54), .val (.int v50)] [])) (fun t k => XS.icmpNo X60.here hx rfl (hb hby at_299) rfl (teq hc62).2 k) ?_
      show own_Go p.tables e below _ (T60.setTop (mkF m 302 #[.val (.long v1), .second, .val (.long v5), .second, .val (.long v7), .second, .val (.long p3), .second, .val (.int p4), .val (.int v9), .val (.long v10), .second, .val (.int v14), .val (.int v16), .val (.ref b18), .val (.int v54), .val (.int v50)] []))
      refine own_st (S' := T60.setTop (mkF m 303 #[.val (.long v1), .second, .val (.long v5), .second, .val (.long v7), .second, .val (.long p3), .second, .val (.int p4), .val (.int v9), .val (.long v10), .second, .val (.int v14), .val (.int v16), .val (.ref b18), .val (.int v54), .val (.int v50)] [(.int (1 : Int32))])) (fun t k => XS.iconst X60.here hx rfl (hb hby at_302) k) ?_
      refine own_st (S' := T60.setTop (mkF m 307 #[.val (.long v1), .second, .val (.long v5), .second, .val (.long v7), .second, .val (.long p3), .second, .val (.int p4), .val (.int v9), .val (.long v10), .second, .val (.int v14), .val (.int v16), .val (.ref b18), .val (.int v54), .val (.int v50)] [(.int (1 : Int32))])) (fun t k => XS.goto X60.here hx rfl (pc0 := 303) (pc' := 307) rfl (hb hby at_303) (by decide) (by decide) k) ?_
      refine own_retN X60 hx (t := .boolean) hret (by simp) hlk (hb hby at_307) ?_ (by decide) (by decide)
      rw [hh60]
      exact ⟨rfl, N60⟩
    · refine own_st (S' := T56.setTop (mkF m 276 #[.val (.long v1), .second, .val (.long v5), .second, .val (.long v7), .second, .val (.long p3), .second, .val (.int p4), .val (.int v9), .val (.long v10), .second, .val (.int v14), .val (.int v16), .val (.ref b18), .val (.int v54), .val (.int v50)] [])) (fun t k => XS.ifNo X56.here hx rfl (hb hby at_273) rfl ((if0 _ _).trans (feq ((by rw [qv16, if_neg hc59] <;> decide) : ¬ (v16 = (0 : Int32)))).1) k) ?_
      show own_Go p.tables e below _ (T56.setTop (mkF m 276 #[.val (.long v1), .second, .val (.long v5), .second, .val (.long v7), .second, .val (.long p3), .second, .val (.int p4), .val (.int v9), .val (.long v10), .second, .val (.int v14), .val (.int v16), .val (.ref b18), .val (.int v54), .val (.int v50)] []))
      refine own_st (S' := T56.setTop (mkF m 278 #[.val (.long v1), .second, .val (.long v5), .second, .val (.long v7), .second, .val (.long p3), .second, .val (.int p4), .val (.int v9), .val (.long v10), .second, .val (.int v14), .val (.int v16), .val (.ref b18), .val (.int v54), .val (.int v50)] [(.ref b18)])) (fun t k => XS.aload X56.here hx rfl (hb hby at_276) rfl rfl k) ?_
      refine own_st (S' := T56.setTop (mkF m 280 #[.val (.long v1), .second, .val (.long v5), .second, .val (.long v7), .second, .val (.long p3), .second, .val (.int p4), .val (.int v9), .val (.long v10), .second, .val (.int v14), .val (.int v16), .val (.ref b18), .val (.int v54), .val (.int v50)] [(.long v10), (.ref b18)])) (fun t k => XS.lload X56.here hx rfl (hb hby at_278) rfl k) ?_
      refine own_st (S' := T56.setTop (mkF m 283 #[.val (.long v1), .second, .val (.long v5), .second, .val (.long v7), .second, .val (.long p3), .second, .val (.int p4), .val (.int v9), .val (.long v10), .second, .val (.int v14), .val (.int v16), .val (.ref b18), .val (.int v54), .val (.int v50)] [(.long (4 : Int64)), (.long v10), (.ref b18)])) (fun t k => X56.ldc2Long hx hown (mvT hZ (hw _ (List.mem_of_getElem? (i := 53) rfl))) (g := (mkF m 280 #[.val (.long v1), .second, .val (.long v5), .second, .val (.long v7), .second, .val (.long p3), .second, .val (.int p4), .val (.int v9), .val (.long v10), .second, .val (.int v14), .val (.int v16), .val (.ref b18), .val (.int v54), .val (.int v50)] [(.long v10), (.ref b18)])) rfl (hb hby at_280) _ k) ?_
      obtain ⟨cq63, kq63, q63a, q63b, q63c⟩ := isOf hZ hh56 g0_48
      obtain ⟨_, _, ⟨T63, L63, k63, n63⟩, -, X63, ⟨Lc63, hQ63, l63, y63, z63⟩, st63⟩ := X56.virtualBack hx (y := (⟨"com/example/gaithersburg/gaithersburg/IdMap", "put", "(JJ)V"⟩ : MethodName)) (z := (⟨"com/example/gaithersburg/gaithersburg/IdMap", "put", "(JJ)V"⟩ : MethodName)) hown (mvT hZ (hw _ (List.mem_of_getElem? (i := 23) rfl))) (mvT hZ (hw _ (List.mem_of_getElem? (i := 24) rfl))) (notFace_of_selects (args := #[]) (mvT hZ (hw _ (List.mem_of_getElem? (i := 26) rfl)))) (mvT hZ (hw _ (List.mem_of_getElem? (i := 26) rfl))) (mvT hZ (hw _ (List.mem_of_getElem? (i := 25) rfl))) (by decide) (backOf (W := 0) (rm7 l Z a0 hw [] b18 v10 (4 : Int64) ai24 av24 wo48 zo48 uo48 fo48 go48 T48.heap n0 Z48 g0_48 g1_48 g2_48 g3_48 g4_48 g5_48 g6_48 g7_48 G_b18 G_ai24 G_av24 ne_b18_ai24 ne_b18_av24 ne_ai24_av24 M4.1 M4.2.1) hZ (hw _ (List.mem_of_getElem? (i := 27) rfl)) (hw _ (List.mem_of_getElem? (i := 2) rfl)) (by decide) (by decide)) q63a q63c (g := (mkF m 283 #[.val (.long v1), .second, .val (.long v5), .second, .val (.long v7), .second, .val (.long p3), .second, .val (.int p4), .val (.int v9), .val (.long v10), .second, .val (.int v14), .val (.int v16), .val (.ref b18), .val (.int v54), .val (.int v50)] [(.long (4 : Int64)), (.long v10), (.ref b18)])) rfl (by rw [hml]; rfl) (Steps.refl _) (argsL := [(.long v10), (.long (4 : Int64))]) (rest := []) (lenOf pd0_2 rfl) rfl (by show 2 * 0 + _ ≤ _; exact Nat.le_of_eq rfl) (hb hby at_283) (fun _ _ => ⟨rfl, hh56, (by decide : 3 + 0 ≤ _), (by decide : 37 + 0 ≤ _)⟩)
      dsimp only [Pt.U, Pt.locs, Pt.cells, Pt.slots] at X63 l63 y63 z63 st63 hQ63
      rw [l63, y63, z63] at X63
      obtain ⟨fo63, go63, wo63, zo63, uo63, rfl, N63q, Kq63, g0_63, g1_63, g2_63, g3_63, g4_63, g5_63, g6_63, g7_63, Rp63⟩ := hQ63
      have f64 : Exa Z T63.heap b18 "com/example/gaithersburg/gaithersburg/IdMap" := g0_48.keep Kq63
      have Z63 : n0 ≤ T63.heap.size := Nat.le_trans Z48 Kq63.1
      have N63 := Fr.app N56 N63q
      refine own_tr st63 ?_
      show own_Go p.tables e below _ (T63.setTop (mkF m 286 #[.val (.long v1), .second, .val (.long v5), .second, .val (.long v7), .second, .val (.long p3), .second, .val (.int p4), .val (.int v9), .val (.long v10), .second, .val (.int v14), .val (.int v16), .val (.ref b18), .val (.int v54), .val (.int v50)] []))
      have M5 := own_put4 Rp63 M4.2.2.2.2.1 M4.2.2.2.2.2
      refine own_st (S' := T63.setTop (mkF m 288 #[.val (.long v1), .second, .val (.long v5), .second, .val (.long v7), .second, .val (.long p3), .second, .val (.int p4), .val (.int v9), .val (.long v10), .second, .val (.int v14), .val (.int v16), .val (.ref b18), .val (.int v54), .val (.int v50)] [(.int v54)])) (fun t k => XS.iload X63.here hx rfl (hb hby at_286) rfl k) ?_
      refine own_st (S' := T63.setTop (mkF m 289 #[.val (.long v1), .second, .val (.long v5), .second, .val (.long v7), .second, .val (.long p3), .second, .val (.int p4), .val (.int v9), .val (.long v10), .second, .val (.int v14), .val (.int v16), .val (.ref b18), .val (.int v54), .val (.int v50)] [(.int (1 : Int32)), (.int v54)])) (fun t k => XS.iconst X63.here hx rfl (hb hby at_288) k) ?_
      refine own_st (S' := T63.setTop (mkF m 290 #[.val (.long v1), .second, .val (.long v5), .second, .val (.long v7), .second, .val (.long p3), .second, .val (.int p4), .val (.int v9), .val (.long v10), .second, .val (.int v14), .val (.int v16), .val (.ref b18), .val (.int v54), .val (.int v50)] [(.int (v54 + (1 : Int32)))])) (fun t k => XS.iadd X63.here hx rfl (hb hby at_289) rfl k) ?_
      obtain ⟨v65, qv65⟩ : ∃ z : Int32, z = (v54 + (1 : Int32)) := ⟨_, rfl⟩
      show own_Go p.tables e below _ (T63.setTop (mkF m 290 #[.val (.long v1), .second, .val (.long v5), .second, .val (.long v7), .second, .val (.long p3), .second, .val (.int p4), .val (.int v9), .val (.long v10), .second, .val (.int v14), .val (.int v16), .val (.ref b18), .val (.int v54), .val (.int v50)] [(.int (v54 + (1 : Int32)))]))
      rw [← qv65]
      refine own_st (S' := T63.setTop (mkF m 292 #[.val (.long v1), .second, .val (.long v5), .second, .val (.long v7), .second, .val (.long p3), .second, .val (.int p4), .val (.int v9), .val (.long v10), .second, .val (.int v14), .val (.int v16), .val (.ref b18), .val (.int v65), .val (.int v50)] [])) (fun t k => XS.istore X63.here hx rfl (hb hby at_290) rfl (l' := #[.val (.long v1), .second, .val (.long v5), .second, .val (.long v7), .second, .val (.long p3), .second, .val (.int p4), .val (.int v9), .val (.long v10), .second, .val (.int v14), .val (.int v16), .val (.ref b18), .val (.int v65), .val (.int v50)]) rfl k) ?_
      refine own_st (S' := T63.setTop (mkF m 294 #[.val (.long v1), .second, .val (.long v5), .second, .val (.long v7), .second, .val (.long p3), .second, .val (.int p4), .val (.int v9), .val (.long v10), .second, .val (.int v14), .val (.int v16), .val (.ref b18), .val (.int v65), .val (.int v50)] [(.ref b18)])) (fun t k => XS.aload X63.here hx rfl (hb hby at_292) rfl rfl k) ?_
      obtain ⟨cq66, kq66, q66a, q66b, q66c⟩ := isOf hZ rfl g0_63
      obtain ⟨_, _, ⟨T66, L66, k66, n66⟩, -, X66, ⟨Lc66, hQ66, l66, y66, z66⟩, st66⟩ := X63.virtualBack hx (y := (⟨"com/example/gaithersburg/gaithersburg/IdMap", "size", "()I"⟩ : MethodName)) (z := (⟨"com/example/gaithersburg/gaithersburg/IdMap", "size", "()I"⟩ : MethodName)) hown (mvT hZ (hw _ (List.mem_of_getElem? (i := 14) rfl))) (mvT hZ (hw _ (List.mem_of_getElem? (i := 15) rfl))) (notFace_of_selects (args := #[]) (mvT hZ (hw _ (List.mem_of_getElem? (i := 17) rfl)))) (mvT hZ (hw _ (List.mem_of_getElem? (i := 17) rfl))) (mvT hZ (hw _ (List.mem_of_getElem? (i := 16) rfl))) (by decide) (backOf (W := 0) (rm6 l Z a0 hw [] b18 wo63 zo63 T63.heap n0 Z63 g3_63 g4_63) hZ (hw _ (List.mem_of_getElem? (i := 18) rfl)) (hw _ (List.mem_of_getElem? (i := 2) rfl)) (by decide) (by decide)) q66a q66c (g := (mkF m 294 #[.val (.long v1), .second, .val (.long v5), .second, .val (.long v7), .second, .val (.long p3), .second, .val (.int p4), .val (.int v9), .val (.long v10), .second, .val (.int v14), .val (.int v16), .val (.ref b18), .val (.int v65), .val (.int v50)] [(.ref b18)])) rfl (by rw [hml]; rfl) (Steps.refl _) (argsL := []) (rest := []) (lenOf pd0_1 rfl) rfl (by show 2 * 0 + _ ≤ _; exact Nat.le_of_eq rfl) (hb hby at_294) (fun _ _ => ⟨rfl, rfl, (by decide : 3 + 0 ≤ _), (by decide : 37 + 0 ≤ _)⟩)
      dsimp only [Pt.U, Pt.locs, Pt.cells, Pt.slots] at X66 l66 y66 z66 st66 hQ66
      rw [l66, y66, z66] at X66
      obtain ⟨rfl, N66q, hh66⟩ := hQ66
      have N66 := Fr.app N63 N66q
      refine own_tr st66 ?_
      show own_Go p.tables e below _ (T66.setTop (mkF m 297 #[.val (.long v1), .second, .val (.long v5), .second, .val (.long v7), .second, .val (.long p3), .second, .val (.int p4), .val (.int v9), .val (.long v10), .second, .val (.int v14), .val (.int v16), .val (.ref b18), .val (.int v65), .val (.int v50)] [(.int (own_sz wo63 zo63))]))
      obtain ⟨v67, qv67⟩ : ∃ z : Int32, z = (own_sz wo63 zo63) := ⟨_, rfl⟩
      rw [← qv67]
      refine own_st (S' := T66.setTop (mkF m 299 #[.val (.long v1), .second, .val (.long v5), .second, .val (.long v7), .second, .val (.long p3), .second, .val (.int p4), .val (.int v9), .val (.long v10), .second, .val (.int v14), .val (.int v16), .val (.ref b18), .val (.int v65), .val (.int v50)] [(.int v65), (.int v67)])) (fun t k => XS.iload X66.here hx rfl (hb hby at_297) rfl k) ?_
      have hc68 : v67 = v65 := by rw [qv67, qv65, M5, ← qv57]; exact congrArg (· + (1 : Int32)) hs4
      refine own_st (S' := T66.setTop (mkF m 302 #[.val (.long v1), .second, .val (.long v5), .second, .val (.long v7), .second, .val (.long p3), .second, .val (.int p4), .val (.int v9), .val (.long v10), .second, .val (.int v14), .val (.int v16), .val (.ref b18), .val (.int v65), .val (.int v50)] [])) (fun t k => XS.icmpNo X66.here hx rfl (hb hby at_299) rfl (teq hc68).2 k) ?_
      show own_Go p.tables e below _ (T66.setTop (mkF m 302 #[.val (.long v1), .second, .val (.long v5), .second, .val (.long v7), .second, .val (.long p3), .second, .val (.int p4), .val (.int v9), .val (.long v10), .second, .val (.int v14), .val (.int v16), .val (.ref b18), .val (.int v65), .val (.int v50)] []))
      refine own_st (S' := T66.setTop (mkF m 303 #[.val (.long v1), .second, .val (.long v5), .second, .val (.long v7), .second, .val (.long p3), .second, .val (.int p4), .val (.int v9), .val (.long v10), .second, .val (.int v14), .val (.int v16), .val (.ref b18), .val (.int v65), .val (.int v50)] [(.int (1 : Int32))])) (fun t k => XS.iconst X66.here hx rfl (hb hby at_302) k) ?_
      refine own_st (S' := T66.setTop (mkF m 307 #[.val (.long v1), .second, .val (.long v5), .second, .val (.long v7), .second, .val (.long p3), .second, .val (.int p4), .val (.int v9), .val (.long v10), .second, .val (.int v14), .val (.int v16), .val (.ref b18), .val (.int v65), .val (.int v50)] [(.int (1 : Int32))])) (fun t k => XS.goto X66.here hx rfl (pc0 := 303) (pc' := 307) rfl (hb hby at_303) (by decide) (by decide) k) ?_
      refine own_retN X66 hx (t := .boolean) hret (by simp) hlk (hb hby at_307) ?_ (by decide) (by decide)
      rw [hh66]
      exact ⟨rfl, N66⟩
set_option maxRecDepth 65536 in
set_option maxHeartbeats 40000000 in
theorem comes_1 {Post : Tables → Env → Array Value → State → Outcome → State → Prop} (hpost : ∀ tb e args s v u, (limb_1_1.after args s (.returned v) u = true ∧ limb_1_2.after args s (.returned v) u = true ∧ True) → FrameEnd s (.returned v) u (Jvm.fieldLocs frame_1_writes args s ++ Jvm.arrayLocs frame_1_arrays args s ++ Jvm.staticLocs frame_1_statics s) 16 192 → Post tb e args s (.returned v) u) :
    ArmFor flags0 classFile x code maxLocals ret World_1 tables_1 room_1 Calls_1 rest_1 Pre_1 Post := by
  intro l hfl _ _ p e ha hc hk s m args below hf hA hF happ hP
  obtain ⟨hcalls, hrest, hpre⟩ := hP
  obtain ⟨-, -, -, hnamed, -, -, -, hat⟩ := (Spec.applies_iff hf).mp happ
  obtain ⟨hg, hn⟩ := and_e (Cond.before_iff.mp (show (Jvm.Cond.and given_1 narrow_1).before args s = true from hpre))
  obtain ⟨c0, d0⟩ := and_e hg
  obtain ⟨c1, d1⟩ := and_e d0
  obtain ⟨c2, d2⟩ := and_e d1
  obtain ⟨c3, d3⟩ := and_e d2
  obtain ⟨c4, d4⟩ := and_e d3
  obtain ⟨w0, w1, w2, w3, w4, rfl⟩ : ∃ w0 w1 w2 w3 w4 : Value, args = #[w0, w1, w2, w3, w4] := by
    have hs : args.size = 5 := by simpa [Cond.value, given_1] using c0
    obtain ⟨L⟩ := args
    match L, hs with
    | [w0, w1, w2, w3, w4], _ => exact ⟨w0, w1, w2, w3, w4, rfl⟩
  have hw := fun d (hd : d ∈ tables_1) => atoms_spec (ws := Jvm.Cond.code x code maxLocals ret :: tables_1) hat d (List.mem_cons_of_mem _ hd)
  have hfit : Fit s := fun {y c} hc i hi => by
    obtain ⟨ha, rfl⟩ := Array.getElem?_eq_some_iff.mp hc
    have q := List.all_eq_true.mp ((Array.all_eq_true_iff_forall_mem.mp hF) _ (Array.getElem_mem ha)) i (List.mem_range.mpr hi)
    simpa [Array.getElem?_eq_getElem hi] using q
  obtain ⟨i0, ei0⟩ := isL_v c1
  obtain rfl : w0 = (.long i0) := Option.some.inj ei0
  obtain ⟨i1, ei1⟩ := isL_v c2
  obtain rfl : w1 = (.long i1) := Option.some.inj ei1
  obtain ⟨i2, ei2⟩ := isL_v c3
  obtain rfl : w2 = (.long i2) := Option.some.inj ei2
  obtain ⟨i3, ei3⟩ := isL_v c4
  obtain rfl : w3 = (.long i3) := Option.some.inj ei3
  obtain ⟨i4, ei4⟩ := is_v d4
  obtain rfl : w4 = (.int i4) := Option.some.inj ei4
  obtain ⟨n, o, h1, h2, h3, _, L, rfl, ⟨rfl, N⟩, hq⟩ := rm0 l s _ hw tables_1 i0 i1 i2 i3 i4  s.heap s.heap.size (Nat.le_refl _)  p e ha hc hk s m _ below hf ((Spec.applies_iff_loose hf).mp happ).1 ⟨rfl, State.Warmed39.refl s, rfl⟩ trivial
  refine ⟨n, _, h1, h2, h3, hpost _ _ _ _ _ _ ⟨Cond.after_iff.mpr rfl, Cond.after_iff.mpr (eq_i res_at (Term.int_eval (1)) rfl), trivial⟩ ⟨hq.1, hq.2.1, (hq.2.2.sift fun y hy => Or.inr (N y hy)).mono (by decide) (by decide)⟩⟩
theorem main_1_1 : Claimed_1_1 := comes_1 fun _ _ _ _ _ _ h hF => ⟨h.1, hF⟩
theorem main_1_2 : Claimed_1_2 := comes_1 fun _ _ _ _ _ _ h hF => ⟨h.2.1, hF⟩
end Jvm.Pilot.@@N@@
namespace Jvm.Pilot.@@N@@
open Jvm Jvm.ClassFile Sem Op Lib Jvm.Free Jvm.Stand Jvm.Pilot.@@N@@.Jvm.D
/-! MADE BY PROGRAM (witnessworld.py) out of the Statement's table words and the real class files: 17 classes; the members and pool entries that the words name. The judged class is class 1, her method 1. -/
namespace start1
open Jvm.ClassFile
def u (s : String) : CpInfo := .utf8 (stringToUtf16 s)
/-- a pool by its gaps: so many unusable entries, then the entry; so many at the end -/
def gap : Nat → List CpInfo → List CpInfo
  | 0, r => r
  | n + 1, r => .unusable :: gap n r
def poolList (es : List (Nat × CpInfo)) (last : Nat) : List CpInfo := es.foldr (fun e r => gap e.1 (e.2 :: r)) (gap last [])
def pool (es : List (Nat × CpInfo)) (last : Nat) : Array CpInfo := ⟨poolList es last⟩
def fileOf (pool : Array CpInfo) (this : Nat) (attrs : Array Attribute := #[]) (ms : Array MethodInfo := #[]) (fl : Nat := 33) (sup : Nat := 0) (ifs : Array Nat := #[]) (fds : Array FieldInfo := #[]) : ClassFile where
  minorVersion := 0
  majorVersion := 65
  constantPool := pool
  accessFlags := fl
  thisClass := this
  superClass := sup
  interfaces := ifs
  fields := fds
  methods := ms
  attributes := attrs
def plain (name : String) (sup : Option ClassId) : Class where
  name := name
  kind := .ordinary
  loader := none
  accessFlags := 33
  super := sup
  interfaces := #[]
  cf := none
  fields := #[]
  methods := #[]
  instanceTypes := #[]
  staticTypes := #[]
  resolved := #[]
  callSites := []
  init := .initialized
  statics := none
  mirror := none

def pool0 : Array CpInfo := pool [(5, u "<init>"), (0, u "()V"), (1, .class_ 10), (1, u "java/lang/Object")] 113

def k0c0 : Code := { maxStack := 0, maxLocals := 1, code := object_method_1_code, exceptionTable := #[], attributes := #[] }
def k0m0 : Method := { name := "<init>", desc := "()V", sig := { parameters := [], returnType := none }, accessFlags := 1, code := some k0c0 }
/-- java/lang/Object -/
def k0 : Class := { plain "java/lang/Object" none with
  accessFlags := 33
  interfaces := #[]
  cf := some (fileOf pool0 8 #[] #[{ accessFlags := 1, nameIndex := 5, descriptorIndex := 6, attributes := #[] }] 33 0 #[] #[])
  fields := #[]
  methods := #[k0m0]
  instanceTypes := #[]
  staticTypes := #[]
  resolved := Array.replicate 124 none
  statics := none }

def pool1 : Array CpInfo := pool [(2, .class_ 4), (0, .nameAndType 5 6), (0, u "java/lang/Object"), (0, u "<init>"), (0, u "()V"), (0, .class_ 8), (0, u "com/example/gaithersburg/gaithersburg/IdMap"), (0, .methodref 7 3), (0, .methodref 7 11), (0, .nameAndType 12 13), (0, u "size"), (0, u "()I"), (0, .methodref 7 15), (0, .nameAndType 16 17), (0, u "put"), (0, u "(JJ)V"), (0, .long 2), (1, .long 3), (1, .methodref 7 23), (0, .nameAndType 24 25), (0, u "remove"), (0, u "(J)V"), (0, .long 4), (1, .class_ 29), (0, u "com/example/gaithersburg/gaithersburg/IdMapSizePinLaw"), (2, u "law"), (0, u "(JJJJI)Z")] 3

def k1m0 : Method := { name := "<init>", desc := "()V", sig := { parameters := [], returnType := none }, accessFlags := 1, code := none }
def k1c1 : Code := { maxStack := 5, maxLocals := 17, code := code, exceptionTable := #[], attributes := #[] }
def k1m1 : Method := { name := "law", desc := "(JJJJI)Z", sig := { parameters := [.long, .long, .long, .long, .int], returnType := some .boolean }, accessFlags := 9, code := some k1c1 }
/-- com/example/gaithersburg/gaithersburg/IdMapSizePinLaw -/
def k1 : Class := { plain "com/example/gaithersburg/gaithersburg/IdMapSizePinLaw" (some 0) with
  accessFlags := 49
  interfaces := #[]
  cf := some (fileOf pool1 28 #[] #[{ accessFlags := 1, nameIndex := 5, descriptorIndex := 6, attributes := #[] }, { accessFlags := 9, nameIndex := 32, descriptorIndex := 33, attributes := #[] }] 49 2 #[] #[])
  fields := #[]
  methods := #[k1m0, k1m1]
  instanceTypes := #[]
  staticTypes := #[]
  resolved := Array.replicate 37 none
  statics := none }

def pool2 : Array CpInfo := pool [(1, .methodref 2 3), (0, .class_ 4), (0, .nameAndType 5 6), (0, u "java/lang/Object"), (0, u "<init>"), (0, u "()V"), (0, .fieldref 8 9), (0, .class_ 10), (0, .nameAndType 11 12), (0, u "com/example/gaithersburg/gaithersburg/IdMap"), (0, u "ids"), (0, u "[J"), (0, .fieldref 8 14), (0, .nameAndType 15 12), (0, u "values"), (0, .fieldref 8 17), (0, .nameAndType 18 19), (0, u "holdsFree"), (0, u "Z"), (0, .fieldref 8 21), (0, .nameAndType 22 23), (0, u "freeValue"), (0, u "J"), (0, .methodref 8 25), (0, .nameAndType 26 27), (0, u "slotOf"), (0, u "([JJ)I"), (0, .fieldref 8 29), (0, .nameAndType 30 31), (0, u "held"), (0, u "I"), (3, .methodref 8 36), (0, .nameAndType 37 27), (0, u "firstSlot"), (0, .long 11400714819323198485), (1, .methodref 41 42), (0, .class_ 43), (0, .nameAndType 44 45), (0, u "java/lang/Long"), (0, u "numberOfLeadingZeros"), (0, u "(J)I"), (0, u "SPREAD"), (1, u "FREE"), (4, u "put"), (0, u "(JJ)V"), (3, u "size"), (0, u "()I"), (2, u "remove"), (0, u "(J)V")] 3

def k2c0 : Code := { maxStack := 2, maxLocals := 1, code := prog_15_method_1_code, exceptionTable := #[], attributes := #[] }
def k2m0 : Method := { name := "<init>", desc := "()V", sig := { parameters := [], returnType := none }, accessFlags := 0, code := some k2c0 }
def k2c1 : Code := { maxStack := 4, maxLocals := 6, code := prog_15_method_2_code, exceptionTable := #[], attributes := #[] }
def k2m1 : Method := { name := "put", desc := "(JJ)V", sig := { parameters := [.long, .long], returnType := none }, accessFlags := 0, code := some k2c1 }
def k2c2 : Code := { maxStack := 2, maxLocals := 1, code := prog_15_method_4_code, exceptionTable := #[], attributes := #[] }
def k2m2 : Method := { name := "size", desc := "()I", sig := { parameters := [], returnType := some .int }, accessFlags := 0, code := some k2c2 }
def k2c3 : Code := { maxStack := 4, maxLocals := 7, code := prog_15_method_6_code, exceptionTable := #[], attributes := #[] }
def k2m3 : Method := { name := "remove", desc := "(J)V", sig := { parameters := [.long], returnType := none }, accessFlags := 0, code := some k2c3 }
def k2c4 : Code := { maxStack := 4, maxLocals := 5, code := prog_15_method_8_code, exceptionTable := #[], attributes := #[] }
def k2m4 : Method := { name := "slotOf", desc := "([JJ)I", sig := { parameters := [(.array .long), .long], returnType := some .int }, accessFlags := 10, code := some k2c4 }
def k2c5 : Code := { maxStack := 4, maxLocals := 3, code := prog_15_method_9_code, exceptionTable := #[], attributes := #[] }
def k2m5 : Method := { name := "firstSlot", desc := "([JJ)I", sig := { parameters := [(.array .long), .long], returnType := some .int }, accessFlags := 10, code := some k2c5 }
/-- com/example/gaithersburg/gaithersburg/IdMap -/
def k2 : Class := { plain "com/example/gaithersburg/gaithersburg/IdMap" (some 0) with
  accessFlags := 32
  interfaces := #[]
  cf := some (fileOf pool2 8 #[] #[{ accessFlags := 0, nameIndex := 5, descriptorIndex := 6, attributes := #[] }, { accessFlags := 0, nameIndex := 53, descriptorIndex := 54, attributes := #[] }, { accessFlags := 0, nameIndex := 58, descriptorIndex := 59, attributes := #[] }, { accessFlags := 0, nameIndex := 62, descriptorIndex := 63, attributes := #[] }, { accessFlags := 10, nameIndex := 26, descriptorIndex := 27, attributes := #[] }, { accessFlags := 10, nameIndex := 37, descriptorIndex := 27, attributes := #[] }] 32 2 #[] #[{ accessFlags := 26, nameIndex := 46, descriptorIndex := 23, attributes := #[] }, { accessFlags := 26, nameIndex := 48, descriptorIndex := 23, attributes := #[] }, { accessFlags := 2, nameIndex := 11, descriptorIndex := 12, attributes := #[] }, { accessFlags := 2, nameIndex := 15, descriptorIndex := 12, attributes := #[] }, { accessFlags := 2, nameIndex := 30, descriptorIndex := 31, attributes := #[] }, { accessFlags := 2, nameIndex := 18, descriptorIndex := 19, attributes := #[] }, { accessFlags := 2, nameIndex := 22, descriptorIndex := 23, attributes := #[] }])
  fields := #[{ name := "SPREAD", type := .long, accessFlags := 26, slot := 0, constantValue := 0 }, { name := "FREE", type := .long, accessFlags := 26, slot := 1, constantValue := 0 }, { name := "ids", type := (.array .long), accessFlags := 2, slot := 0, constantValue := 0 }, { name := "values", type := (.array .long), accessFlags := 2, slot := 1, constantValue := 0 }, { name := "held", type := .int, accessFlags := 2, slot := 2, constantValue := 0 }, { name := "holdsFree", type := .boolean, accessFlags := 2, slot := 3, constantValue := 0 }, { name := "freeValue", type := .long, accessFlags := 2, slot := 4, constantValue := 0 }]
  methods := #[k2m0, k2m1, k2m2, k2m3, k2m4, k2m5]
  instanceTypes := #[(.array .long), (.array .long), .int, .boolean, .long]
  staticTypes := #[.long, .long]
  resolved := Array.replicate 67 none
  statics := none }

def pool3 : Array CpInfo := pool [(1, .class_ 2), (0, u "java/io/Serializable"), (0, .class_ 4), (0, u "java/lang/Object")] 2

/-- java/io/Serializable -/
def k3 : Class := { plain "java/io/Serializable" (some 0) with
  accessFlags := 1537
  interfaces := #[]
  cf := some (fileOf pool3 1 #[] #[] 1537 3 #[] #[])
  fields := #[]
  methods := #[]
  instanceTypes := #[]
  staticTypes := #[]
  resolved := Array.replicate 7 none
  statics := none }

def pool4 : Array CpInfo := pool [(2, .class_ 4), (1, u "java/lang/Object"), (0, u "<init>"), (0, u "()V"), (1, .class_ 10), (1, u "java/lang/Number"), (2, .class_ 14), (0, u "java/io/Serializable"), (0, u "serialVersionUID"), (0, u "J")] 20

def k4m0 : Method := { name := "<init>", desc := "()V", sig := { parameters := [], returnType := none }, accessFlags := 1, code := none }
/-- java/lang/Number -/
def k4 : Class := { plain "java/lang/Number" (some 0) with
  accessFlags := 1057
  interfaces := #[3]
  cf := some (fileOf pool4 8 #[] #[{ accessFlags := 1, nameIndex := 5, descriptorIndex := 6, attributes := #[] }] 1057 2 #[13] #[{ accessFlags := 26, nameIndex := 15, descriptorIndex := 16, attributes := #[] }])
  fields := #[{ name := "serialVersionUID", type := .long, accessFlags := 26, slot := 0, constantValue := 0 }]
  methods := #[k4m0]
  instanceTypes := #[]
  staticTypes := #[.long]
  resolved := Array.replicate 37 none
  statics := none }

def pool5 : Array CpInfo := pool [(1, .class_ 2), (0, u "java/lang/Comparable"), (0, .class_ 4), (0, u "java/lang/Object")] 7

/-- java/lang/Comparable -/
def k5 : Class := { plain "java/lang/Comparable" (some 0) with
  accessFlags := 1537
  interfaces := #[]
  cf := some (fileOf pool5 1 #[] #[] 1537 3 #[] #[])
  fields := #[]
  methods := #[]
  instanceTypes := #[]
  staticTypes := #[]
  resolved := Array.replicate 12 none
  statics := none }

def pool6 : Array CpInfo := pool [(1, .class_ 2), (0, u "java/lang/constant/Constable"), (0, .class_ 4), (0, u "java/lang/Object")] 6

/-- java/lang/constant/Constable -/
def k6 : Class := { plain "java/lang/constant/Constable" (some 0) with
  accessFlags := 1537
  interfaces := #[]
  cf := some (fileOf pool6 1 #[] #[] 1537 3 #[] #[])
  fields := #[]
  methods := #[]
  instanceTypes := #[]
  staticTypes := #[]
  resolved := Array.replicate 11 none
  statics := none }

def pool7 : Array CpInfo := pool [(1, .class_ 2), (0, u "java/lang/constant/ConstantDesc"), (0, .class_ 4), (0, u "java/lang/Object")] 32

/-- java/lang/constant/ConstantDesc -/
def k7 : Class := { plain "java/lang/constant/ConstantDesc" (some 0) with
  accessFlags := 1537
  interfaces := #[]
  cf := some (fileOf pool7 1 #[] #[] 1537 3 #[] #[])
  fields := #[]
  methods := #[]
  instanceTypes := #[]
  staticTypes := #[]
  resolved := Array.replicate 37 none
  statics := none }

def pool8 : Array CpInfo := pool [(1, .class_ 2), (0, u "java/lang/Long"), (15, .class_ 20), (1, u "java/lang/Integer"), (79, u "numberOfLeadingZeros"), (0, u "(J)I"), (133, .class_ 237), (1, u "java/lang/Long$LongCache"), (33, .class_ 272), (0, u "java/lang/Number"), (2, u "value"), (0, u "J"), (31, .methodref 18 309), (0, .nameAndType 100 310), (0, u "(I)I"), (50, u "TYPE"), (0, u "Ljava/lang/Class;"), (0, .class_ 364), (0, u "java/lang/Comparable"), (0, .class_ 366), (0, u "java/lang/constant/Constable"), (0, .class_ 368), (0, u "java/lang/constant/ConstantDesc"), (0, u "MIN_VALUE"), (1, u "MAX_VALUE"), (4, u "SIZE"), (0, u "I"), (1, u "BYTES"), (1, u "serialVersionUID")] 142

def k8c0 : Code := { maxStack := 3, maxLocals := 3, code := jdk_35_method_48_code, exceptionTable := #[], attributes := #[] }
def k8m0 : Method := { name := "numberOfLeadingZeros", desc := "(J)I", sig := { parameters := [.long], returnType := some .int }, accessFlags := 9, code := some k8c0 }
/-- java/lang/Long -/
def k8 : Class := { plain "java/lang/Long" (some 4) with
  accessFlags := 49
  interfaces := #[5, 6, 7]
  cf := some (fileOf pool8 1 #[.nestMembers #[235]] #[{ accessFlags := 9, nameIndex := 100, descriptorIndex := 101, attributes := #[] }] 49 271 #[363, 365, 367] #[{ accessFlags := 25, nameIndex := 369, descriptorIndex := 276, attributes := #[] }, { accessFlags := 25, nameIndex := 371, descriptorIndex := 276, attributes := #[] }, { accessFlags := 25, nameIndex := 361, descriptorIndex := 362, attributes := #[] }, { accessFlags := 18, nameIndex := 275, descriptorIndex := 276, attributes := #[] }, { accessFlags := 25, nameIndex := 376, descriptorIndex := 377, attributes := #[] }, { accessFlags := 25, nameIndex := 379, descriptorIndex := 377, attributes := #[] }, { accessFlags := 26, nameIndex := 381, descriptorIndex := 276, attributes := #[] }])
  fields := #[{ name := "MIN_VALUE", type := .long, accessFlags := 25, slot := 0, constantValue := 0 }, { name := "MAX_VALUE", type := .long, accessFlags := 25, slot := 1, constantValue := 0 }, { name := "TYPE", type := (.object "java/lang/Class"), accessFlags := 25, slot := 2, constantValue := 0 }, { name := "value", type := .long, accessFlags := 18, slot := 0, constantValue := 0 }, { name := "SIZE", type := .int, accessFlags := 25, slot := 3, constantValue := 0 }, { name := "BYTES", type := .int, accessFlags := 25, slot := 4, constantValue := 0 }, { name := "serialVersionUID", type := .long, accessFlags := 26, slot := 5, constantValue := 0 }]
  methods := #[k8m0]
  instanceTypes := #[.long]
  staticTypes := #[.long, .long, (.object "java/lang/Class"), .int, .int, .long]
  resolved := Array.replicate 524 none
  statics := none }

def pool9 : Array CpInfo := pool [(1, .class_ 2), (0, u "java/lang/Integer"), (16, u "digits"), (0, u "[C"), (32, u "numberOfLeadingZeros"), (0, u "(I)I"), (30, u "DigitOnes"), (0, u "[B"), (2, u "DigitTens"), (99, .class_ 190), (0, u "java/lang/Integer$IntegerCache"), (3, u "I"), (8, .class_ 204), (0, u "java/lang/Number"), (2, u "value"), (56, .integer 65536), (37, u "TYPE"), (0, u "Ljava/lang/Class;"), (0, .class_ 305), (0, u "java/lang/Comparable"), (0, .class_ 307), (0, u "java/lang/constant/Constable"), (0, .class_ 309), (0, u "java/lang/constant/ConstantDesc"), (0, u "MIN_VALUE"), (1, u "MAX_VALUE"), (3, u "SIZE"), (1, u "BYTES"), (1, u "serialVersionUID"), (0, u "J")] 131

def k9c0 : Code := { maxStack := 3, maxLocals := 2, code := jdk_33_method_47_code, exceptionTable := #[], attributes := #[] }
def k9m0 : Method := { name := "numberOfLeadingZeros", desc := "(I)I", sig := { parameters := [.int], returnType := some .int }, accessFlags := 9, code := some k9c0 }
/-- java/lang/Integer -/
def k9 : Class := { plain "java/lang/Integer" (some 4) with
  accessFlags := 49
  interfaces := #[5, 6, 7]
  cf := some (fileOf pool9 1 #[.nestMembers #[189]] #[{ accessFlags := 9, nameIndex := 53, descriptorIndex := 54, attributes := #[] }] 49 203 #[304, 306, 308] #[{ accessFlags := 25, nameIndex := 310, descriptorIndex := 194, attributes := #[] }, { accessFlags := 25, nameIndex := 312, descriptorIndex := 194, attributes := #[] }, { accessFlags := 25, nameIndex := 302, descriptorIndex := 303, attributes := #[] }, { accessFlags := 24, nameIndex := 19, descriptorIndex := 20, attributes := #[] }, { accessFlags := 24, nameIndex := 89, descriptorIndex := 86, attributes := #[] }, { accessFlags := 24, nameIndex := 85, descriptorIndex := 86, attributes := #[] }, { accessFlags := 18, nameIndex := 207, descriptorIndex := 194, attributes := #[] }, { accessFlags := 25, nameIndex := 316, descriptorIndex := 194, attributes := #[] }, { accessFlags := 25, nameIndex := 318, descriptorIndex := 194, attributes := #[] }, { accessFlags := 26, nameIndex := 320, descriptorIndex := 321, attributes := #[] }])
  fields := #[{ name := "MIN_VALUE", type := .int, accessFlags := 25, slot := 0, constantValue := 0 }, { name := "MAX_VALUE", type := .int, accessFlags := 25, slot := 1, constantValue := 0 }, { name := "TYPE", type := (.object "java/lang/Class"), accessFlags := 25, slot := 2, constantValue := 0 }, { name := "digits", type := (.array .char), accessFlags := 24, slot := 3, constantValue := 0 }, { name := "DigitTens", type := (.array .byte), accessFlags := 24, slot := 4, constantValue := 0 }, { name := "DigitOnes", type := (.array .byte), accessFlags := 24, slot := 5, constantValue := 0 }, { name := "value", type := .int, accessFlags := 18, slot := 0, constantValue := 0 }, { name := "SIZE", type := .int, accessFlags := 25, slot := 6, constantValue := 0 }, { name := "BYTES", type := .int, accessFlags := 25, slot := 7, constantValue := 0 }, { name := "serialVersionUID", type := .long, accessFlags := 26, slot := 8, constantValue := 0 }]
  methods := #[k9m0]
  instanceTypes := #[.int]
  staticTypes := #[.int, .int, (.object "java/lang/Class"), (.array .char), (.array .byte), (.array .byte), .int, .int, .long]
  resolved := Array.replicate 453 none
  statics := none }

def pool10 : Array CpInfo := pool [(1, u "java/lang/Cloneable"), (0, .class_ 1), (0, u "java/lang/Object"), (0, .class_ 3)] 3

/-- java/lang/Cloneable -/
def k10 : Class := { plain "java/lang/Cloneable" (some 0) with
  accessFlags := 1537
  interfaces := #[]
  cf := some (fileOf pool10 2 #[] #[] 1537 4 #[] #[])
  fields := #[]
  methods := #[]
  instanceTypes := #[]
  staticTypes := #[]
  resolved := Array.replicate 8 none
  statics := none }

/-- the primitive byte -/
def k11 : Class := { plain "byte" none with kind := .primitive 'B', accessFlags := 0x411 }
/-- [B -/
def k12 : Class := { plain "[B" (some 0) with kind := .array 11 .byte, interfaces := #[10, 3], accessFlags := 1041 }

/-- the primitive int -/
def k13 : Class := { plain "int" none with kind := .primitive 'I', accessFlags := 0x411 }
/-- [I -/
def k14 : Class := { plain "[I" (some 0) with kind := .array 13 .int, interfaces := #[10, 3], accessFlags := 1041 }

/-- the primitive long -/
def k15 : Class := { plain "long" none with kind := .primitive 'J', accessFlags := 0x411 }
/-- [J -/
def k16 : Class := { plain "[J" (some 0) with kind := .array 15 .long, interfaces := #[10, 3], accessFlags := 1041 }

def heap : Heap := #[]
def classes : Array Class := #[k0, k1, k2, k3, k4, k5, k6, k7, k8, k9, k10, k11, k12, k13, k14, k15, k16]
def interned : List (Array UInt16 × Addr) := []
def slotsUsed : Nat := 0
def theMethod : MethodId := ⟨1, 1⟩
def args0 : Array Value := #[.long 5, .long 7, .long 5, .long 0, .int 3]
def aboutOver (below : List Frame) : State where
  vm := { classes := classes, interned := interned.toArray }
  heap := heap
  slotsUsed := slotsUsed
  threads := #[{ frames := .invoking theMethod args0 :: below }]
def below0 : List Frame := [.native { method := ⟨0, 0⟩, args := #[] }]
def about1 : State := aboutOver below0
def p0 : Program := .bare "" "" ""
def e0 : Env := launch0.env 0 0 0
theorem w_frames : about1.frames = Frame.invoking theMethod args0 :: below0 := rfl
set_option maxRecDepth 65536 in
theorem w_args : argsFit about1.vm theMethod args0 = true := by decide +kernel
set_option maxRecDepth 65536 in
theorem w_heap : heapFits about1 = true := by decide +kernel
set_option maxRecDepth 65536 in
theorem w_runnable : about1.curStatus? = some .runnable := by decide +kernel
set_option maxRecDepth 65536 in
theorem w_alone : about1.alone = true := by decide +kernel
set_option maxRecDepth 65536 in
theorem w_named : about1.methodNamed? x = some theMethod := by decide +kernel
set_option maxRecDepth 65536 in
theorem w_hears : about1.hears theMethod below0 = true := by decide +kernel
set_option maxRecDepth 65536 in
theorem w_ripe : about1.ripe theMethod args0 below0 = true := by decide +kernel
theorem w_running : about1.status = .running := rfl
set_option maxRecDepth 65536 in
theorem w_room : about1.hasRoom e0.platform room_1 = true :=
  launch0.hasRoom_least _ room_1 (by decide +kernel) (by decide +kernel) (by decide +kernel) (by decide +kernel) (by decide +kernel) (by decide +kernel)
theorem allAtoms_all (ts : List Jvm.Cond) (a : Array Jvm.Value) (st : Jvm.State) : (allAtoms ts).before a st = ts.all (fun c => c.before a st) := by
  induction ts with
  | nil => rfl
  | cons c t ih =>
    show (Jvm.Cond.and c (allAtoms t)).before a st = _
    rw [Jvm.Cond.before_and, ih, List.all_cons]
def words1 : List Jvm.Cond := Jvm.Cond.code x code maxLocals ret :: tables_1
/-- a 'code' word, met by the world's own term for the bytes: nothing is compared byte by byte -/
theorem code_word {y : MethodName} {bytes : ByteArray} {mx : Nat} {rt : Option FieldType} {a : Array Value} {s : State} {m : MethodId} {meth : Method} {c : Code} (h1 : s.methodNamed? y = some m) (h2 : s.vm.method? m = some meth) (h3 : meth.code = some c) (h4 : c.code = bytes)
    (h5 : (c.maxLocals == mx && c.exceptionTable.isEmpty && decide (c.maxStack ≤ mostOperands) && decide (meth.sig.returnType = rt) && !meth.locks && decide (parseMethodDescriptor y.desc = some meth.sig)) = true) : (Jvm.Cond.code y bytes mx rt).before a s = true := by
  simp only [Bool.and_eq_true, beq_iff_eq, Bool.not_eq_true', decide_eq_true_eq] at h5
  obtain ⟨⟨⟨⟨⟨g1, g2⟩, g3⟩, g4⟩, g5⟩, g6⟩ := h5
  simp [Cond.before, Cond.holds, Cond.value, h1, h2, h3, h4, g1, g2, g3, g4, g5, g6]
def isCode : Jvm.Cond → Bool
  | .code _ _ _ _ => true
  | _ => false
theorem all_split {L : List Jvm.Cond} {P : Jvm.Cond → Bool} (h1 : L.all (fun c => isCode c || P c) = true) (h2 : ∀ c ∈ L.filter isCode, P c = true) : L.all P = true := by
  refine List.all_eq_true.mpr fun c hc => ?_
  have h := List.all_eq_true.mp h1 c hc
  rcases Bool.eq_false_or_eq_true (isCode c) with hi | hi
  · exact h2 c (List.mem_filter.mpr ⟨hc, hi⟩)
  · simpa [hi] using h
set_option maxRecDepth 65536 in
theorem w_c0 : (Jvm.Cond.code x code maxLocals ret).before args0 about1 = true := code_word (m := ⟨1, 1⟩) (meth := k1m1) (c := k1c1) (by decide +kernel) rfl rfl rfl (by decide +kernel)
set_option maxRecDepth 65536 in
theorem w_c1 : (Jvm.Cond.code ({ cls := "com/example/gaithersburg/gaithersburg/IdMap", name := "<init>", desc := "()V" } : Jvm.MethodName) prog_15_method_1_code (1 : Nat) (Option.none : Option Jvm.ClassFile.FieldType)).before args0 about1 = true := code_word (m := ⟨2, 0⟩) (meth := k2m0) (c := k2c0) (by decide +kernel) rfl rfl rfl (by decide +kernel)
set_option maxRecDepth 65536 in
theorem w_c2 : (Jvm.Cond.code ({ cls := "java/lang/Object", name := "<init>", desc := "()V" } : Jvm.MethodName) object_method_1_code (1 : Nat) (Option.none : Option Jvm.ClassFile.FieldType)).before args0 about1 = true := code_word (m := ⟨0, 0⟩) (meth := k0m0) (c := k0c0) (by decide +kernel) rfl rfl rfl (by decide +kernel)
set_option maxRecDepth 65536 in
theorem w_c3 : (Jvm.Cond.code ({ cls := "com/example/gaithersburg/gaithersburg/IdMap", name := "size", desc := "()I" } : Jvm.MethodName) prog_15_method_4_code (1 : Nat) (Option.some Jvm.ClassFile.FieldType.int)).before args0 about1 = true := code_word (m := ⟨2, 2⟩) (meth := k2m2) (c := k2c2) (by decide +kernel) rfl rfl rfl (by decide +kernel)
set_option maxRecDepth 65536 in
theorem w_c4 : (Jvm.Cond.code ({ cls := "com/example/gaithersburg/gaithersburg/IdMap", name := "put", desc := "(JJ)V" } : Jvm.MethodName) prog_15_method_2_code (6 : Nat) (Option.none : Option Jvm.ClassFile.FieldType)).before args0 about1 = true := code_word (m := ⟨2, 1⟩) (meth := k2m1) (c := k2c1) (by decide +kernel) rfl rfl rfl (by decide +kernel)
set_option maxRecDepth 65536 in
theorem w_c5 : (Jvm.Cond.code ({ cls := "com/example/gaithersburg/gaithersburg/IdMap", name := "slotOf", desc := "([JJ)I" } : Jvm.MethodName) prog_15_method_8_code (5 : Nat) (Option.some Jvm.ClassFile.FieldType.int)).before args0 about1 = true := code_word (m := ⟨2, 4⟩) (meth := k2m4) (c := k2c4) (by decide +kernel) rfl rfl rfl (by decide +kernel)
set_option maxRecDepth 65536 in
theorem w_c6 : (Jvm.Cond.code ({ cls := "com/example/gaithersburg/gaithersburg/IdMap", name := "firstSlot", desc := "([JJ)I" } : Jvm.MethodName) prog_15_method_9_code (3 : Nat) (Option.some Jvm.ClassFile.FieldType.int)).before args0 about1 = true := code_word (m := ⟨2, 5⟩) (meth := k2m5) (c := k2c5) (by decide +kernel) rfl rfl rfl (by decide +kernel)
set_option maxRecDepth 65536 in
theorem w_c7 : (Jvm.Cond.code ({ cls := "java/lang/Long", name := "numberOfLeadingZeros", desc := "(J)I" } : Jvm.MethodName) jdk_35_method_48_code (3 : Nat) (Option.some Jvm.ClassFile.FieldType.int)).before args0 about1 = true := code_word (m := ⟨8, 0⟩) (meth := k8m0) (c := k8c0) (by decide +kernel) rfl rfl rfl (by decide +kernel)
set_option maxRecDepth 65536 in
theorem w_c8 : (Jvm.Cond.code ({ cls := "java/lang/Integer", name := "numberOfLeadingZeros", desc := "(I)I" } : Jvm.MethodName) jdk_33_method_47_code (2 : Nat) (Option.some Jvm.ClassFile.FieldType.int)).before args0 about1 = true := code_word (m := ⟨9, 0⟩) (meth := k9m0) (c := k9c0) (by decide +kernel) rfl rfl rfl (by decide +kernel)
set_option maxRecDepth 65536 in
theorem w_c9 : (Jvm.Cond.code ({ cls := "com/example/gaithersburg/gaithersburg/IdMap", name := "remove", desc := "(J)V" } : Jvm.MethodName) prog_15_method_6_code (7 : Nat) (Option.none : Option Jvm.ClassFile.FieldType)).before args0 about1 = true := code_word (m := ⟨2, 3⟩) (meth := k2m3) (c := k2c3) (by decide +kernel) rfl rfl rfl (by decide +kernel)
def codes1 : List Jvm.Cond := [Jvm.Cond.code x code maxLocals ret, Jvm.Cond.code ({ cls := "com/example/gaithersburg/gaithersburg/IdMap", name := "<init>", desc := "()V" } : Jvm.MethodName) prog_15_method_1_code (1 : Nat) (Option.none : Option Jvm.ClassFile.FieldType), Jvm.Cond.code ({ cls := "java/lang/Object", name := "<init>", desc := "()V" } : Jvm.MethodName) object_method_1_code (1 : Nat) (Option.none : Option Jvm.ClassFile.FieldType), Jvm.Cond.code ({ cls := "com/example/gaithersburg/gaithersburg/IdMap", name := "size", desc := "()I" } : Jvm.MethodName) prog_15_method_4_code (1 : Nat) (Option.some Jvm.ClassFile.FieldType.int), Jvm.Cond.code ({ cls := "com/example/gaithersburg/gaithersburg/IdMap", name := "put", desc := "(JJ)V" } : Jvm.MethodName) prog_15_method_2_code (6 : Nat) (Option.none : Option Jvm.ClassFile.FieldType), Jvm.Cond.code ({ cls := "com/example/gaithersburg/gaithersburg/IdMap", name := "slotOf", desc := "([JJ)I" } : Jvm.MethodName) prog_15_method_8_code (5 : Nat) (Option.some Jvm.ClassFile.FieldType.int), Jvm.Cond.code ({ cls := "com/example/gaithersburg/gaithersburg/IdMap", name := "firstSlot", desc := "([JJ)I" } : Jvm.MethodName) prog_15_method_9_code (3 : Nat) (Option.some Jvm.ClassFile.FieldType.int), Jvm.Cond.code ({ cls := "java/lang/Long", name := "numberOfLeadingZeros", desc := "(J)I" } : Jvm.MethodName) jdk_35_method_48_code (3 : Nat) (Option.some Jvm.ClassFile.FieldType.int), Jvm.Cond.code ({ cls := "java/lang/Integer", name := "numberOfLeadingZeros", desc := "(I)I" } : Jvm.MethodName) jdk_33_method_47_code (2 : Nat) (Option.some Jvm.ClassFile.FieldType.int), Jvm.Cond.code ({ cls := "com/example/gaithersburg/gaithersburg/IdMap", name := "remove", desc := "(J)V" } : Jvm.MethodName) prog_15_method_6_code (7 : Nat) (Option.none : Option Jvm.ClassFile.FieldType)]
set_option maxRecDepth 65536 in
theorem codes_eq : words1.filter isCode = codes1 := rfl
theorem w_codes : ∀ c ∈ words1.filter isCode, c.before args0 about1 = true := by
  rw [codes_eq]
  intro c hc
  simp only [codes1, List.mem_cons, List.not_mem_nil, or_false] at hc
  rcases hc with rfl | rfl | rfl | rfl | rfl | rfl | rfl | rfl | rfl | rfl
  · exact w_c0
  · exact w_c1
  · exact w_c2
  · exact w_c3
  · exact w_c4
  · exact w_c5
  · exact w_c6
  · exact w_c7
  · exact w_c8
  · exact w_c9
set_option maxRecDepth 65536 in
theorem w_t1 : (words1.take 24).all (fun c => isCode c || c.before args0 about1) = true := by decide +kernel
set_option maxRecDepth 65536 in
theorem w_t2 : ((words1.drop 24).take 24).all (fun c => isCode c || c.before args0 about1) = true := by decide +kernel
set_option maxRecDepth 65536 in
theorem w_t3 : ((words1.drop 24).drop 24).all (fun c => isCode c || c.before args0 about1) = true := by decide +kernel
theorem w_tables : (allAtoms (Jvm.Cond.code x code maxLocals ret :: tables_1)).before args0 about1 = true := by
  rw [allAtoms_all]
  show words1.all (fun c => c.before args0 about1) = true
  refine all_split ?_ w_codes
  rw [← List.take_append_drop 24 words1, List.all_append, w_t1, ← List.take_append_drop 24 (words1.drop 24), List.all_append, w_t2, w_t3]
  rfl
set_option maxRecDepth 65536 in
theorem w_case : (Jvm.Cond.and given_1 narrow_1).before args0 about1 = true := by decide +kernel
theorem w_applies : (headSpec (Jvm.Cond.code x code maxLocals ret :: tables_1) room_1).applies x e0.platform about1 = true :=
  (Spec.applies_iff w_frames).mpr ⟨w_running, w_runnable, w_alone, w_named, w_hears, w_ripe, w_room, w_tables⟩
theorem atStart : AtStart classFile x code maxLocals ret World_1 tables_1 room_1 Calls_1 rest_1 Pre_1 launch0 p0 e0 about1 theMethod args0 below0 :=
  ⟨lists_1, trivial, launch0.admits_env _ _ _, launch0.least_env, fairChoices_fair.cas, fairChoices_fair.clock, w_frames, w_args, w_heap, w_applies, trivial, trivial, w_case⟩
end start1
theorem witness_1 : WitnessClaimed_1 := ⟨start1.p0, start1.e0, start1.about1, start1.theMethod, start1.args0, start1.below0, start1.atStart⟩
end Jvm.Pilot.@@N@@
