import JvmDerived
import JvmDerived.Pilot.@@N@@Statement
import JvmDerived.Pilot.@@N@@Code
set_option linter.unusedVariables false
set_option linter.unusedSimpArgs false
namespace Jvm.Pilot.@@N@@
open Jvm Jvm.ClassFile Sem Op Lib Jvm.Free Jvm.Stand Jvm.LawKit Jvm.RoadKit Bundle Jvm.Pilot.@@N@@.Jvm.D
section Own
variable {p : Program} {l : Launch} {e : Env} {R : Room} {s : State} {m : MethodId} {args : Array Value} {below : List Frame} {meth : Method} {c : Code} {T : State} {locs : List Loc} {cells slots : Nat} {Q : Option Value → Heap → List Loc → Prop} {k n : Nat}
/-- from this state the body comes to an end that meets Φ -/
def own_Go (tb : Tables) (e : Env) (below : List Frame) (Φ : Outcome → State → Prop) (S : State) : Prop :=
  ∃ U o, Steps tb e below S U ∧ U.status = .running ∧ Ended U below o ∧ Φ o U
/-- it returned; what it leaves meets Q; nothing else moved -/
def own_F (s : State) (Q : Option Value → Heap → List Loc → Prop) (k n : Nat) (o : Outcome) (U : State) : Prop := ∃ v L, o = .returned v ∧ Q v U.heap L ∧ FrameEnd s o U L k n
theorem own_st {tb : Tables} {Φ : Outcome → State → Prop} {S S' : State} (h : ∀ t, Steps tb e below S' t → Steps tb e below S t) (g : own_Go tb e below Φ S') : own_Go tb e below Φ S := by
  obtain ⟨U, o, h1, r⟩ := g
  exact ⟨U, o, h _ h1, r⟩
theorem own_tr {tb : Tables} {Φ : Outcome → State → Prop} {S S' : State} (h : Steps tb e below S S') (g : own_Go tb e below Φ S') : own_Go tb e below Φ S := by
  obtain ⟨U, o, h1, r⟩ := g
  exact ⟨U, o, h.trans h1, r⟩
theorem own_end (X : Stand p l e R s m args below meth c T locs cells slots) (v : Option Value) (hv : meth.sig.returnType = none → v = none) (hlk : meth.locks = false) (hq : Q v T.heap locs) (hk : cells ≤ k) (hn : slots ≤ n) {S : State}
    (hs : ∀ fs, (∀ (f : JFrame) (acts : List Action), f.method = m → f.locked = none → f.entered = [] → (doReturn e (T.setTop f) acts v).1 = T.setFrames fs) → Steps p.tables e below S (T.setFrames fs)) : own_Go p.tables e below (own_F s Q k n) S := by
  obtain ⟨fs, hr, hrun, hended, hW, hsame⟩ := X.leave (v := v) hv hlk
  exact ⟨_, _, hs fs hr, hrun, hended, v, locs, rfl, hq, ⟨_, rfl⟩, hW, hsame.mono hk hn⟩
theorem own_retN (X : Stand p l e R s m args below meth c T locs cells slots) (hx : p.tables.exec = Jvm.exec) {pc : Nat} {Ls : Array Slot} {z : Int32} {t : FieldType} {rest : List Value} (hret : meth.sig.returnType = some t) (ht : t = .boolean ∨ t = .byte ∨ t = .char ∨ t = .short) (hlk : meth.locks = false)
    (hd : decode c.code pc = .ok (.ireturn, 1)) (hq : Q (some (.int (nar t z))) T.heap locs) (hk : cells ≤ k) (hn : slots ≤ n) : own_Go p.tables e below (own_F s Q k n) (T.setTop (mkF m pc Ls (.int z :: rest))) :=
  own_end X _ (fun h => by rw [hret] at h; cases h) hlk hq hk hn fun fs hr => retN X hx hret ht hd hr
theorem own_retI (X : Stand p l e R s m args below meth c T locs cells slots) (hx : p.tables.exec = Jvm.exec) {pc : Nat} {Ls : Array Slot} {z : Int32} {rest : List Value} (hret : meth.sig.returnType = some .int) (hlk : meth.locks = false)
    (hd : decode c.code pc = .ok (.ireturn, 1)) (hq : Q (some (.int z)) T.heap locs) (hk : cells ≤ k) (hn : slots ≤ n) : own_Go p.tables e below (own_F s Q k n) (T.setTop (mkF m pc Ls (.int z :: rest))) :=
  own_end X _ (fun h => by rw [hret] at h; cases h) hlk hq hk hn fun fs hr => retOut X hx hret rfl (Or.inl ⟨rfl, Or.inl rfl, z, rfl⟩) hd hr
theorem own_retL (X : Stand p l e R s m args below meth c T locs cells slots) (hx : p.tables.exec = Jvm.exec) {pc : Nat} {Ls : Array Slot} {z : Int64} {rest : List Value} (hret : meth.sig.returnType = some .long) (hlk : meth.locks = false)
    (hd : decode c.code pc = .ok (.lreturn, 1)) (hq : Q (some (.long z)) T.heap locs) (hk : cells ≤ k) (hn : slots ≤ n) : own_Go p.tables e below (own_F s Q k n) (T.setTop (mkF m pc Ls (.long z :: rest))) :=
  own_end X _ (fun h => by rw [hret] at h; cases h) hlk hq hk hn fun fs hr => retOut X hx hret rfl (Or.inr (Or.inl ⟨rfl, rfl, z, rfl⟩)) hd hr
theorem own_retA (X : Stand p l e R s m args below meth c T locs cells slots) (hx : p.tables.exec = Jvm.exec) {pc : Nat} {Ls : Array Slot} {w : Value} {t : FieldType} {rest : List Value} (hret : meth.sig.returnType = some t) (ht : t.isReference = true) (hw : w.isRef = true) (hnw : narrow t w = w) (hlk : meth.locks = false)
    (hd : decode c.code pc = .ok (.areturn, 1)) (hq : Q (some w) T.heap locs) (hk : cells ≤ k) (hn : slots ≤ n) : own_Go p.tables e below (own_F s Q k n) (T.setTop (mkF m pc Ls (w :: rest))) :=
  own_end X _ (fun h => by rw [hret] at h; cases h) hlk hq hk hn fun fs hr => retOut X hx hret hnw (Or.inr (Or.inr (Or.inr (Or.inr ⟨rfl, ht, hw⟩)))) hd hr
theorem own_retD (X : Stand p l e R s m args below meth c T locs cells slots) (hx : p.tables.exec = Jvm.exec) {pc : Nat} {Ls : Array Slot} {z : UInt64} {rest : List Value} (hret : meth.sig.returnType = some .double) (hlk : meth.locks = false)
    (hd : decode c.code pc = .ok (.dreturn, 1)) (hq : Q (some (.double z)) T.heap locs) (hk : cells ≤ k) (hn : slots ≤ n) : own_Go p.tables e below (own_F s Q k n) (T.setTop (mkF m pc Ls (.double z :: rest))) :=
  own_end X _ (fun h => by rw [hret] at h; cases h) hlk hq hk hn fun fs hr => retOut X hx hret rfl (Or.inr (Or.inr (Or.inl ⟨rfl, rfl, z, rfl⟩))) hd hr
theorem own_retV (X : Stand p l e R s m args below meth c T locs cells slots) (hx : p.tables.exec = Jvm.exec) {pc : Nat} {Ls : Array Slot} (hret : meth.sig.returnType = none) (hlk : meth.locks = false)
    (hd : decode c.code pc = .ok (.return_, 1)) (hq : Q none T.heap locs) (hk : cells ≤ k) (hn : slots ≤ n) : own_Go p.tables e below (own_F s Q k n) (T.setTop (mkF m pc Ls [])) :=
  own_end X _ (fun _ => rfl) hlk hq hk hn fun fs hr => X.returnOut hx hret hd hr
theorem own_body {y : MethodName} {cd : ByteArray} {mx : Nat} {rt : Option FieldType} {ws : List Jvm.Cond} {rm : Room} {Z : State} {h0 : Heap} {as : Array Value} (hp : plainFor y = true)
    (go : ∀ (p : Program) (e : Env) (s : State) (m : MethodId) (below : List Frame) (meth : Method) (c : Code) (s₁ : State), p.tables.exec = Jvm.exec → c.code = cd → c.maxLocals = mx → s.vm.findClass y.cls = some m.cls → meth.name = y.name → meth.sig.returnType = rt → meth.locks = false → Z.Warmed39 s.vm →
      Stand p l e rm s m as below meth c s₁ [] 0 0 → s₁.heap = h0 → own_Go p.tables e below (own_F s Q rm.cells rm.slots) (s₁.setTop (entryFrame m as mx))) :
    MetFree l y (head1 (Jvm.Cond.code y cd mx rt :: ws) rm) (fun a U => a = as ∧ Z.Warmed39 U.vm ∧ U.heap = h0) (fun _ _ _ _ _ => True) (fun _ U o U' => ∃ v L, o = .returned v ∧ Q v U'.heap L ∧ FrameEnd U o U' L rm.cells rm.slots) := by
  refine MetFree.of_bodySF hp hisR ?_
  intro p e s m args below meth c s₁ Bd hml0 hP hK
  obtain ⟨rfl, hZ, hh⟩ := hP
  exact go p e s m below meth c s₁ Bd.exec Bd.bytes hml0 (findClass_of_methodNamed Bd.named) (name_of_methodNamed Bd.named Bd.method).1 Bd.returns Bd.notSynchronized hZ (Stand.of_body Bd) (by rw [← hh, Bd.state]; rfl)
end Own
theorem own_narb {P : Prop} [Decidable P] : nar .boolean (if P then (1 : Int32) else (0 : Int32)) = if P then (1 : Int32) else (0 : Int32) := by split <;> rfl
/-- an array by its length and what each place holds -/
def own_A (Z : State) (h : Heap) (a : Addr) (ty : FieldType) (n : Nat) (f : Nat → Value) : Prop := ∃ c : Cell, Arr Z h a c ty ∧ c.slots.size = n ∧ n < 2 ^ 31 ∧ ∀ j, j < n → c.slots[j]? = some (f j)
def own_up (f : Nat → Value) (i : Nat) (v : Value) : Nat → Value := fun j => if j = i then v else f j
def own_Ix (j : Int32) (i n : Nat) : Prop := ¬ j < 0 ∧ j.toNatClampNeg = i ∧ i < n
section Arrs
variable {Z : State} {h h' : Heap} {a b : Addr} {ty : FieldType} {n i : Nat} {f : Nat → Value} {v : Value} {sl : Nat} {ws : List Addr} {c : Cell} {j z : Int32}
theorem own_A.lt (F : own_A Z h a ty n f) : a < h.size := by obtain ⟨c, A, -⟩ := F; exact A.lt
theorem own_A.ext (F : own_A Z h a ty n f) (E : Ext h h') : own_A Z h' a ty n f := by obtain ⟨c, A, r⟩ := F; exact ⟨c, A.ext E, r⟩
theorem own_A.other (F : own_A Z h b ty n f) (W : Wr h h' a sl v) (q : b ≠ a) : own_A Z h' b ty n f := by obtain ⟨c, A, r⟩ := F; exact ⟨c, A.other W q, r⟩
theorem own_A.keep (F : own_A Z h a ty n f) (K : Keep h h' ws) (q : a ∉ ws) : own_A Z h' a ty n f := by obtain ⟨c, A, r⟩ := F; exact ⟨c, ⟨K.2.1 a c A.1 q, A.2⟩, r⟩
theorem own_clamp (z : Int32) : z.toNatClampNeg < 2 ^ 31 := by
  have := Int32.toInt_lt z
  simp only [Int32.toNatClampNeg]; omega
theorem own_A.new {k : ClassId} (A : Arr Z h a (newA k ty z) ty) (hz : z.toNatClampNeg = n) : own_A Z h a ty n (fun _ => defaultValue ty) := by
  refine ⟨_, A, by rw [sz_new, hz], by rw [← hz]; exact own_clamp z, fun j hj => ?_⟩
  simp [newA, hz, hj]
theorem own_ix (h1 : ¬ j < 0) (h2 : j.toNatClampNeg = i) (h3 : i < n) : own_Ix j i n := ⟨h1, h2, h3⟩
theorem own_in (S : c.slots.size = n) (h : own_Ix j i n) : ¬ (j < 0 ∨ c.slots.size ≤ j.toNatClampNeg) := by
  obtain ⟨h1, h2, h3⟩ := h
  rw [S, h2]
  exact fun q => q.elim h1 (fun r => absurd h3 (Nat.not_lt.mpr r))
theorem own_at (S : c.slots.size = n) (V : ∀ j, j < n → c.slots[j]? = some (f j)) (h : own_Ix j i n) (hv : f i = v) : c.slots[j.toNatClampNeg]? = some v := by
  obtain ⟨h1, h2, h3⟩ := h
  rw [h2, V i h3, hv]
theorem own_A.set (F : own_A Z h a ty n f) (hj : own_Ix j i n) (W : Wr h h' a j.toNatClampNeg v) : own_A Z h' a ty n (own_up f i v) := by
  obtain ⟨c, A, S, M, V⟩ := F
  obtain ⟨h1, h2, h3⟩ := hj
  rw [h2] at W
  refine ⟨c.setSlot i v, A.same W, by rw [sz_set]; exact S, M, fun j' hj' => ?_⟩
  show (c.slots.setIfInBounds i v)[j']? = _
  unfold own_up
  by_cases e : j' = i
  · subst e; rw [if_pos rfl]; simp [S, hj']
  · rw [if_neg e, Array.getElem?_setIfInBounds_ne (Ne.symm e)]; exact V j' hj'
theorem own_A.cong {g : Nat → Value} (F : own_A Z h a ty n f) (q : ∀ j, j < n → f j = g j) : own_A Z h a ty n g := by
  obtain ⟨c, A, S, M, V⟩ := F
  exact ⟨c, A, S, M, fun j hj => by rw [V j hj, q j hj]⟩
end Arrs
/-- a short array's values by a list -/
def own_V (vs : List Value) : Nat → Value := fun j => vs.getD j .null
theorem own_selP {Z s : State} {a0 args : Array Value} {y : MethodName} {n : Nat} (hZ : Z.Warmed39 s.vm) (wi : (Jvm.Cond.instantiable y.cls n).before a0 Z = true) (wp : (Jvm.Cond.privateMethod y).before a0 Z = true) (wm : (Jvm.Cond.instanceMethod y).before a0 Z = true)
    (hy : y.cls ≠ "java/lang/invoke/MethodHandle" ∧ y.cls ≠ "java/lang/invoke/VarHandle") : (Jvm.Cond.selects y.cls y y).before args s = true := by
  have w : (Jvm.Cond.instantiable y.cls n).before args s = true := mvT hZ wi
  obtain ⟨c, k, h1, h2, -, h4, -⟩ := Cond.instantiable_spec w
  exact selects_self_of_private h1 h2 (Bool.or_eq_false_iff.mp h4).1 (Cond.privateMethod_at (mvP hZ wp (args := #[]))) (mvT hZ wm) hy
section OwnW
variable {p : Program} {l : Launch} {e : Env} {R : Room} {s : State} {vm0 : Vm} {k0 : Nat} {m : MethodId} {args : Array Value} {below : List Frame} {meth : Method} {c : Code} {T : State} {locs : List Loc} {cells slots : Nat} {Q : Option Value → Heap → List Loc → Prop} {k n : Nat}
/-- as own_F, of a body that may load String constants -/
def own_FW (s : State) (Q : Option Value → Heap → List Loc → Prop) (k n : Nat) (o : Outcome) (U : State) : Prop := ∃ v L, o = .returned v ∧ Q v U.heap L ∧ ReturnedEndW s o U L k n
theorem own_endW (X : Stand p l e R (s.setVm vm0) m args below meth c T locs cells slots) (hS : s.Since vm0 k0) (hk0 : k0 ≤ T.heap.size) (v : Option Value) (hv : meth.sig.returnType = none → v = none) (hlk : meth.locks = false) (hq : Q v T.heap locs) (hk : cells ≤ k) (hn : slots ≤ n) {S : State}
    (hs : ∀ fs, (∀ (f : JFrame) (acts : List Action), f.method = m → f.locked = none → f.entered = [] → (doReturn e (T.setTop f) acts v).1 = T.setFrames fs) → Steps p.tables e below S (T.setFrames fs)) : own_Go p.tables e below (own_FW s Q k n) S := by
  obtain ⟨fs, hr, hrun, hended, hW, hsame⟩ := X.leave (v := v) hv hlk
  obtain ⟨h1, h2, h3⟩ := hS.ended (U := T.setFrames fs) hW hk0 hsame
  exact ⟨_, _, hs fs hr, hrun, hended, v, locs, rfl, hq, ⟨_, rfl⟩, h1, h2, h3.mono hk hn⟩
theorem own_retNW (X : Stand p l e R (s.setVm vm0) m args below meth c T locs cells slots) (hS : s.Since vm0 k0) (hk0 : k0 ≤ T.heap.size) (hx : p.tables.exec = Jvm.exec) {pc : Nat} {Ls : Array Slot} {z : Int32} {t : FieldType} {rest : List Value} (hret : meth.sig.returnType = some t) (ht : t = .boolean ∨ t = .byte ∨ t = .char ∨ t = .short) (hlk : meth.locks = false)
    (hd : decode c.code pc = .ok (.ireturn, 1)) (hq : Q (some (.int (nar t z))) T.heap locs) (hk : cells ≤ k) (hn : slots ≤ n) : own_Go p.tables e below (own_FW s Q k n) (T.setTop (mkF m pc Ls (.int z :: rest))) :=
  own_endW X hS hk0 _ (fun h => by rw [hret] at h; cases h) hlk hq hk hn fun fs hr => retN X hx hret ht hd hr
theorem own_retVW (X : Stand p l e R (s.setVm vm0) m args below meth c T locs cells slots) (hS : s.Since vm0 k0) (hk0 : k0 ≤ T.heap.size) (hx : p.tables.exec = Jvm.exec) {pc : Nat} {Ls : Array Slot} (hret : meth.sig.returnType = none) (hlk : meth.locks = false)
    (hd : decode c.code pc = .ok (.return_, 1)) (hq : Q none T.heap locs) (hk : cells ≤ k) (hn : slots ≤ n) : own_Go p.tables e below (own_FW s Q k n) (T.setTop (mkF m pc Ls [])) :=
  own_endW X hS hk0 _ (fun _ => rfl) hlk hq hk hn fun fs hr => X.returnOut hx hret hd hr
theorem own_bodyW {y : MethodName} {cd : ByteArray} {mx : Nat} {rt : Option FieldType} {ws : List Jvm.Cond} {rm : Room} {Z : State} {h0 : Heap} {as : Array Value} (hp : plainFor y = true)
    (go : ∀ (p : Program) (e : Env) (s : State) (m : MethodId) (below : List Frame) (meth : Method) (c : Code) (s₁ : State), p.tables.exec = Jvm.exec → c.code = cd → c.maxLocals = mx → s.vm.findClass y.cls = some m.cls → meth.name = y.name → meth.sig.returnType = rt → meth.locks = false → Z.Warmed39 s.vm →
      Stand p l e rm s m as below meth c s₁ [] 0 0 → s₁.heap = h0 → own_Go p.tables e below (own_FW s Q rm.cells rm.slots) (s₁.setTop (entryFrame m as mx))) :
    MetFree l y (head1 (Jvm.Cond.code y cd mx rt :: ws) rm) (fun a U => a = as ∧ Z.Warmed39 U.vm ∧ U.heap = h0) (fun _ _ _ _ _ => True) (fun _ U o U' => ∃ v L, o = .returned v ∧ Q v U'.heap L ∧ ReturnedEndW U o U' L rm.cells rm.slots) := by
  refine MetFree.of_bodySF hp hisR ?_
  intro p e s m args below meth c s₁ Bd hml0 hP hK
  obtain ⟨rfl, hZ, hh⟩ := hP
  exact go p e s m below meth c s₁ Bd.exec Bd.bytes hml0 (findClass_of_methodNamed Bd.named) (name_of_methodNamed Bd.named Bd.method).1 Bd.returns Bd.notSynchronized hZ (Stand.of_body Bd) (by rw [← hh, Bd.state]; rfl)
/-- as own_bodyW, from the case's own start -/
theorem own_bodyZ {y : MethodName} {cd : ByteArray} {mx : Nat} {rt : Option FieldType} {ws : List Jvm.Cond} {rm : Room} {Z : State} {as : Array Value} (hp : plainFor y = true)
    (go : ∀ (p : Program) (e : Env) (m : MethodId) (below : List Frame) (meth : Method) (c : Code) (s₁ : State), p.tables.exec = Jvm.exec → c.code = cd → c.maxLocals = mx → Z.vm.findClass y.cls = some m.cls → meth.name = y.name → meth.sig.returnType = rt → meth.locks = false →
      Stand p l e rm Z m as below meth c s₁ [] 0 0 → s₁.heap = Z.heap → own_Go p.tables e below (own_FW Z Q rm.cells rm.slots) (s₁.setTop (entryFrame m as mx))) :
    MetFree l y (head1 (Jvm.Cond.code y cd mx rt :: ws) rm) (fun a U => a = as ∧ U = Z) (fun _ _ _ _ _ => True) (fun _ U o U' => ∃ v L, o = .returned v ∧ Q v U'.heap L ∧ ReturnedEndW U o U' L rm.cells rm.slots) := by
  refine MetFree.of_bodySF hp hisR ?_
  intro p e s m args below meth c s₁ Bd hml0 hP hK
  obtain ⟨rfl, rfl⟩ := hP
  exact go p e m below meth c s₁ Bd.exec Bd.bytes hml0 (findClass_of_methodNamed Bd.named) (name_of_methodNamed Bd.named Bd.method).1 Bd.returns Bd.notSynchronized (Stand.of_body Bd) (by rw [Bd.state]; rfl)
end OwnW

abbrev qU : Slot := .unset
abbrev qZ : Slot := .second
abbrev qI (x : Int32) : Slot := .val (.int x)
abbrev qN (x : Nat) : Slot := .val (.int (Int32.ofNat x))
abbrev qA (x : Addr) : Slot := .val (.ref x)
abbrev qL (x : Int64) : Slot := .val (.long x)
abbrev qD (x : UInt64) : Slot := .val (.double x)
abbrev qV (x : Nat) : Value := .int (Int32.ofNat x)
theorem own_hw {Z : State} {a0 : Array Value} (hw : ∀ d ∈ tables_1, d.before a0 Z = true) {i : Nat} {d : Jvm.Cond} (h : tables_1[i]? = some d) : d.before a0 Z = true := hw _ (List.mem_of_getElem? h)
theorem own_dupx2 {tb : Tables} [Ours tb] {e : Env} {below : List Frame} {T target : State} {m : MethodId} {c : Code} {g : JFrame} (h : At T m c below) (hx : tb.exec = Jvm.exec) (hg : g.method = m) {x y z : Value} {rest : List Value} (hd : decode c.code g.pc = .ok (.dup_x2, 1)) (hs : g.stack = x :: y :: z :: rest)
    (h1 : x.category = 1) (h2 : y.category = 1) (h3 : z.category = 1) (hr : Steps tb e below (T.setTop { g with pc := g.pc + 1, stack := x :: y :: z :: x :: rest }) target) : Steps tb e below (T.setTop g) target := by
  subst hg
  jvm_step h [h.top, hx, hd, hs, h1, h2, h3, dup_x2.wp_sem]
  exact hr
/-- a weight's class -/
def own_wc (d : UInt64) : Int32 := (((d.toInt64).toUInt64 >>> ((48 : Int32) &&& 0x3f).toInt64.toUInt64).toInt64).toInt32
def own_I (f : Nat → Int32) : Nat → Value := fun j => .int (f j)
def own_uI (f : Nat → Int32) (i : Nat) (v : Int32) : Nat → Int32 := fun j => if j = i then v else f j
theorem own_upI (f : Nat → Int32) (i : Nat) (v : Int32) : own_up (own_I f) i (.int v) = own_I (own_uI f i v) := by
  funext j; unfold own_up own_I own_uI; split <;> rfl
def own_D (f : Nat → UInt64) : Nat → Value := fun j => .double (f j)
def own_uD (f : Nat → UInt64) (i : Nat) (v : UInt64) : Nat → UInt64 := fun j => if j = i then v else f j
theorem own_upD (f : Nat → UInt64) (i : Nat) (v : UInt64) : own_up (own_D f) i (.double v) = own_D (own_uD f i v) := by
  funext j; unfold own_up own_D own_uD; split <;> rfl
theorem own_toI {i : Nat} (h : i < 2 ^ 31) : (Int32.ofNat i).toInt = i := Int32.toInt_ofNat_of_lt (by omega)
theorem own_ixN {i n : Nat} (h : i < n) (hn : n < 2 ^ 31) : own_Ix (Int32.ofNat i) i n := by
  have e := own_toI (i := i) (by omega)
  refine ⟨fun q => ?_, ?_, h⟩
  · have := Int32.lt_iff_toInt_lt.mp q
    rw [e] at this
    have z : (0 : Int32).toInt = 0 := rfl
    omega
  · show (Int32.ofNat i).toInt.toNat = i
    rw [e]; rfl
theorem own_ltN {i n : Nat} (hi : i < 2 ^ 31) (hn : n < 2 ^ 31) : Int32.ofNat i < Int32.ofNat n ↔ i < n := by
  rw [Int32.lt_iff_toInt_lt, own_toI hi, own_toI hn]; omega
theorem own_incN {i : Nat} (hi : i + 1 < 2 ^ 31) : Int32.ofNat i + 1 = Int32.ofNat (i + 1) := by
  apply Int32.toInt_inj.mp
  have e := c_iadd (Int32.ofNat i) 1
  have r := rng32 (Int32.ofNat i + 1)
  have z : (1 : Int32).toInt = 1 := rfl
  rw [own_toI (by omega)] at e
  rw [own_toI hi]
  omega
/-- the first i places zero -/
def own_fz (f : Nat → Int32) (i : Nat) : Nat → Int32 := fun j => if j < i then 0 else f j
theorem own_fz0 (f : Nat → Int32) : own_fz f 0 = f := by funext j; unfold own_fz; rw [if_neg (by omega)]
theorem own_fzS (f : Nat → Int32) (i : Nat) : own_uI (own_fz f i) i 0 = own_fz f (i + 1) := by
  funext j; unfold own_uI own_fz
  by_cases h : j = i
  · rw [if_pos h, if_pos (by omega)]
  · rw [if_neg h]
    by_cases q : j < i
    · rw [if_pos q, if_pos (by omega)]
    · rw [if_neg q, if_neg (by omega)]
def own_ci (f f' : Nat → Int32) (i j k : Nat) : Nat → Int32 := fun q => if j ≤ q ∧ q < j + k then f (i + (q - j)) else f' q
def own_cd (f f' : Nat → UInt64) (i j k : Nat) : Nat → UInt64 := fun q => if j ≤ q ∧ q < j + k then f (i + (q - j)) else f' q
def own_z : Nat → Int32 := fun _ => 0
theorem own_fz_uI (i : Nat) (v : Int32) (n : Nat) (h : i < n) : own_fz (own_uI own_z i v) n = own_z := by
  funext j; unfold own_fz own_uI own_z
  split
  · rfl
  · rw [if_neg (by omega)]
theorem own_ci0 (f f' : Nat → Int32) (i j : Nat) : own_ci f f' i j 0 = f' := by funext q; unfold own_ci; rw [if_neg (by omega)]
theorem own_cd0 (f f' : Nat → UInt64) (i j : Nat) : own_cd f f' i j 0 = f' := by funext q; unfold own_cd; rw [if_neg (by omega)]
theorem own_mx0 {c : Int32} {k : Nat} (h : c = Int32.ofNat k) (hk : k < 2 ^ 31) : (if (0 : Int32) < c then c else (0 : Int32)) = Int32.ofNat k := by
  subst h
  have e := own_ltN (i := 0) (n := k) (by decide) hk
  by_cases q : (0 : Int32) < Int32.ofNat k
  · rw [if_pos q]
  · rw [if_neg q]
    have : ¬ 0 < k := fun z => q (e.mpr z)
    have : k = 0 := by omega
    rw [this]; rfl
theorem own_mxN {i k : Nat} (hi : i < 2 ^ 31) (hk : k < 2 ^ 31) : (if Int32.ofNat i < Int32.ofNat k then Int32.ofNat k else Int32.ofNat i) = Int32.ofNat (max i k) := by
  by_cases q : i < k
  · rw [if_pos ((own_ltN hi hk).mpr q), Nat.max_eq_right (by omega)]
  · rw [if_neg (fun z => q ((own_ltN hi hk).mp z)), Nat.max_eq_left (by omega)]
theorem own_miN {i k : Nat} (hi : i < 2 ^ 31) (hk : k < 2 ^ 31) : (if Int32.ofNat k < Int32.ofNat i then Int32.ofNat k else Int32.ofNat i) = Int32.ofNat (min i k) := by
  by_cases q : k < i
  · rw [if_pos ((own_ltN hk hi).mpr q), Nat.min_eq_right (by omega)]
  · rw [if_neg (fun z => q ((own_ltN hk hi).mp z)), Nat.min_eq_left (by omega)]
theorem own_subN {i k : Nat} (hi : i < 2 ^ 31) (h : k ≤ i) : Int32.ofNat i - Int32.ofNat k = Int32.ofNat (i - k) := by
  apply Int32.toInt_inj.mp
  have e := c_isub (Int32.ofNat i) (Int32.ofNat k)
  have r := rng32 (Int32.ofNat i - Int32.ofNat k)
  rw [own_toI hi, own_toI (by omega)] at e
  rw [own_toI (by omega)]
  omega
theorem own_addN {i k : Nat} (h : i + k < 2 ^ 31) : Int32.ofNat i + Int32.ofNat k = Int32.ofNat (i + k) := by
  apply Int32.toInt_inj.mp
  have e := c_iadd (Int32.ofNat i) (Int32.ofNat k)
  have r := rng32 (Int32.ofNat i + Int32.ofNat k)
  rw [own_toI (by omega), own_toI (by omega)] at e
  rw [own_toI h]
  omega
theorem own_ci1 (f f' : Nat → Int32) (j : Nat) (h : f 0 = f' j) : own_ci f f' 0 j 1 = f' := by
  funext q; unfold own_ci
  by_cases c : j ≤ q ∧ q < j + 1
  · rw [if_pos c]; have : q = j := by omega
    subst this; simp [h]
  · rw [if_neg c]
theorem own_cd1 (f f' : Nat → UInt64) (j : Nat) (h : f 0 = f' j) : own_cd f f' 0 j 1 = f' := by
  funext q; unfold own_cd
  by_cases c : j ≤ q ∧ q < j + 1
  · rw [if_pos c]; have : q = j := by omega
    subst this; simp [h]
  · rw [if_neg c]
theorem own_pl1 : own_fz (own_uI (own_uI (own_uI own_z 1 1) 1 1) 0 1) 2 = own_z := by
  funext j; unfold own_fz own_uI own_z
  split
  · rfl
  · rw [if_neg (by omega), if_neg (by omega), if_neg (by omega)]
section OwnCopy
variable {p : Program} {l : Launch} {e : Env} {R : Room} {s : State} {m : MethodId} {args : Array Value} {below : List Frame} {meth : Method} {c : Code} {T : State} {locs : List Loc} {cells slots : Nat} {Z : State} {h h' : Heap} {a b : Addr}
theorem own_A.arv {ty : FieldType} {n : Nat} {f : Nat → Value} (F : own_A Z h a ty n f) (hf : ∀ j, fits ty (f j) = true) : ∃ k, Arv Z h a k ty (Int32.ofNat n) ((List.range n).map f) (f n) := by
  obtain ⟨cl, A, S, M, V⟩ := F
  have e := own_toI (i := n) M
  have q : ∀ i, i < n → ((List.range n).map f).getD i (f n) = f i := fun i hi => by simp [List.getD_eq_getElem?_getD, hi]
  refine ⟨cl.cls, cl, A, rfl, ?_, ?_, fun i hi => ?_, fun i hi => ?_⟩
  · rw [S]; show n = (Int32.ofNat n).toInt.toNat; rw [e]; rfl
  · intro z; have := Int32.lt_iff_toInt_lt.mp z; rw [e] at this; have z0 : (0 : Int32).toInt = 0 := rfl; omega
  · rw [q i (by omega)]; exact V i (by omega)
  · rw [q i (by omega)]; exact hf i
theorem own_A.ofArv {ty : FieldType} {n : Nat} {k : ClassId} {vs : List Value} {d : Value} (hn : n < 2 ^ 31) (F : Arv Z h a k ty (Int32.ofNat n) vs d) : own_A Z h a ty n (fun j => vs.getD j d) := by
  obtain ⟨cl, A, -, S, -, H, -⟩ := F
  have e := own_toI (i := n) hn
  have sz : cl.slots.size = n := by rw [S]; show (Int32.ofNat n).toInt.toNat = n; rw [e]; rfl
  exact ⟨cl, A, sz, hn, fun j hj => H j (by omega)⟩
/-- System.arraycopy of a primitive array -/
theorem own_cp (X : Stand p l e R s m args below meth c T locs cells slots) (hx : p.tables.exec = Jvm.exec) (hZ : Z.Warmed39 s.vm) {a0 : Array Value} {own : String} {index : Nat} (hown : s.vm.findClass own = some m.cls)
    (w1 : (Cond.methodLink own index Jvm.Stand.acN).before a0 Z = true) (w2 : (Cond.native Jvm.Stand.acN).before a0 Z = true) (w3 : (Cond.static Jvm.Stand.acN).before a0 Z = true) (w4 : (Cond.initialized "java/lang/System").before a0 Z = true) (eT : T.heap = h)
    {ty : FieldType} (hty : refKind ty = false) {n n' i j k : Nat} {f f' : Nat → Value} (A : own_A Z h a ty n f) (B : own_A Z h b ty n' f') (hf : ∀ j, fits ty (f j) = true) (hf' : ∀ j, fits ty (f' j) = true) {sp dp nn : Int32} (e1 : sp = Int32.ofNat i) (e2 : dp = Int32.ofNat j) (e3 : nn = Int32.ofNat k) (h4 : i + k ≤ n) (h5 : j + k ≤ n') {n0 : Nat} (N : Fr n0 locs) (ge : n0 ≤ b)
    {g : JFrame} (hg : g.method = m) (hsize : g.locals.size = c.maxLocals) {rest : List Value} (hs : g.stack = .int nn :: .int dp :: .ref b :: .int sp :: .ref a :: rest) (hd : decode c.code g.pc = .ok (.invokestatic index, 3))
    (hfr : 1 ≤ R.frames) {W : Nat} (hW : 2 * g.monitorRoom + (rest.map fun v => v.category).sum ≤ W) (hlo : W + (nativeFrameWords "java/lang/System" "arraycopy" 5 + 11) ≤ R.locals) :
    ∃ T' h' L, Stand p l e R s m args below meth c T' L cells slots ∧ T'.heap = h' ∧ Fr n0 L ∧ Keep h h' [b] ∧ own_A Z h' b ty n' (fun q => if j ≤ q ∧ q < j + k then f (i + (q - j)) else f' q) ∧
      ∀ target, Steps p.tables e below (T'.setTop { g with pc := g.pc + 3, stack := rest }) target → Steps p.tables e below (T.setTop g) target := by
  have M : n < 2 ^ 31 := by obtain ⟨_, _, _, M, _⟩ := A; exact M
  have M' : n' < 2 ^ 31 := by obtain ⟨_, _, _, M, _⟩ := B; exact M
  obtain ⟨ka, A'⟩ := A.arv hf
  obtain ⟨kb, B'⟩ := B.arv hf'
  have nat : ∀ {x : Nat}, x < 2 ^ 31 → (Int32.ofNat x).toNatClampNeg = x := fun {x} q => by show (Int32.ofNat x).toInt.toNat = x; rw [own_toI q]; rfl
  have neg : ∀ {x : Nat}, x < 2 ^ 31 → ¬ Int32.ofNat x < 0 := fun {x} q z => by have := Int32.lt_iff_toInt_lt.mp z; rw [own_toI q] at this; have z0 : (0 : Int32).toInt = 0 := rfl; omega
  subst e1 e2 e3
  obtain ⟨T', h', L, X', eT', N', K', A2, st⟩ := cpA X hx hZ hown w1 w2 w3 w4 eT A' B' (us := (List.range k).map fun q => f (i + q)) (Or.inl ⟨rfl, hty⟩) (neg (by omega)) (neg (by omega)) (neg (by omega)) (by rw [nat (by omega), nat (by omega), nat M]; exact h4) (by rw [nat (by omega), nat (by omega), nat M']; exact h5)
    (by rw [nat (by omega), nat (by omega)]; refine List.map_congr_left fun q hq => ?_; have := List.mem_range.mp hq; simp [List.getD_eq_getElem?_getD, show i + q < n by omega]) (by rw [nat (by omega), nat (by omega)]; simpa using h5) N ge hg hsize hs hd hfr hW hlo
  refine ⟨T', h', L, X', eT', N', K', (own_A.ofArv M' A2).cong fun q hq => ?_, st⟩
  rw [nat (by omega), nat (by omega)]
  simp only [List.getD_eq_getElem?_getD]
  by_cases c1 : q < j
  · rw [if_neg (by omega)]
    rw [List.getElem?_append_left (by simp; omega), List.getElem?_append_left (by simp; omega)]
    simp [List.getElem?_take, c1, hq]
  · by_cases c2 : q < j + k
    · rw [if_pos ⟨by omega, c2⟩]
      rw [List.getElem?_append_left (by simp; omega), List.getElem?_append_right (by simp; omega)]
      simp [show min j n' = j by omega, show q - j < k by omega]
    · rw [if_neg (by omega)]
      rw [List.getElem?_append_right (by simp; omega)]
      simp [show min j n' = j by omega]
      rw [show j + k + (q - (j + k)) = q by omega]
      simp [hq]
end OwnCopy
/-- a static call inside a nest -/
theorem own_callSN {p : Program} {l : Launch} {e : Env} {R : Room} {s : State} {m : MethodId} {args : Array Value} {below : List Frame} {meth : Method} {c : Code} {T : State} {locs : List Loc} {cells slots : Nat} (X : Stand p l e R s m args below meth c T locs cells slots) (hx : p.tables.exec = Jvm.exec) {own host : String} {index : Nat} {y : MethodName} {bytes : ByteArray} {maxL : Nat} {ret : Option FieldType}
    (hown : s.vm.findClass own = some m.cls) (w1 : (Cond.methodLinkNest own index y host).before args s = true) (w2 : (Cond.static y).before args s = true) (w3 : (Cond.initialized y.cls).before args s = true) (w4 : (Cond.code y bytes maxL ret).before args s = true) (hy : y.cls ≠ "java/lang/invoke/MethodHandle" ∧ y.cls ≠ "java/lang/invoke/VarHandle")
    {W : Nat} {Pre : Pt → Array Value → Prop} {Post : Pt → Array Value → Option Value → Pt → Prop} (hK : Back l R p e below s args y 3 W Pre Post) {g : JFrame} (hg : g.method = m) (hsize : g.locals.size = c.maxLocals) {argsL rest : List Value} (hlen : ∀ sig, parseMethodDescriptor y.desc = some sig → argsL.length = sig.parameters.length)
    (hst : g.stack = argsL.reverse ++ rest) (hW : 2 * g.monitorRoom + (rest.map fun v => v.category).sum ≤ W) (hd : decode c.code g.pc = .ok (.invokestatic index, 3)) (hpre : ∀ vm₁, s.WarmedH vm₁ → Pre ⟨T.setVm vm₁, locs, cells, slots⟩ argsL.toArray) :
    ∃ (v : Option Value) (vm₁ : Vm) (B : Pt), s.WarmedH vm₁ ∧ Stand p l e R s m args below meth c B.U B.locs B.cells B.slots ∧ Post ⟨T.setVm vm₁, locs, cells, slots⟩ argsL.toArray v B ∧
      ∀ target, Steps p.tables e below (B.U.setTop { g with pc := g.pc + 3, stack := v.toList ++ rest }) target → Steps p.tables e below (T.setTop g) target := by
  obtain ⟨mk, n1⟩ := Cond.code_named w4
  obtain ⟨x, cM, n2, -, -, -, -, -, -, n3⟩ := Cond.code_spec n1 w4
  obtain ⟨k, n4, -⟩ := className_of_methodNamed n1
  obtain ⟨vm1, X1, go⟩ := X.invokestaticNest hx hown w1 n1 n2 (Cond.static_spec n1 n2 w2) n4 (Cond.initialized_spec (findClass_of_methodNamed n1) n4 w3) hy (g := g) hg (argsL := argsL) (rest := rest) (hlen _ n3) hst hd
  obtain ⟨v, B, X2, q, go2⟩ := hK m meth c ⟨T.setVm vm1, locs, cells, slots⟩ { g with stack := rest } (.invokestatic index) mk argsL.toArray X1 hg hsize hd hW (X1.named n1) (hpre vm1 X1.warmed)
  exact ⟨v, vm1, B, X1.warmed, X2, q, fun target h => go _ fun acts => by rw [doInvoke_state]; exact go2.trans h⟩
theorem mvMN {Z s : State} {a0 args : Array Value} {own host : String} {index : Nat} {y : MethodName} (hZ : Z.Warmed39 s.vm) (w : (Cond.methodLinkNest own index y host).before a0 Z = true) : (Cond.methodLinkNest own index y host).before args s = true := (Cond.methodLinkNest_wide hZ w :)
section OwnPage
variable {Z : State} {h h' : Heap}
def own_u (P : Nat) : Nat := if P < 2 then 64 else 2
theorem own_u_le (P : Nat) : own_u P ≤ 64 := by unfold own_u; split <;> omega
def own_N (f : Nat → Nat) : Nat → Value := fun j => .int (Int32.ofNat (f j))
def own_uN (f : Nat → Nat) (i v : Nat) : Nat → Nat := fun j => if j = i then v else f j
theorem own_upN (f : Nat → Nat) (i v : Nat) : own_up (own_N f) i (.int (Int32.ofNat v)) = own_N (own_uN f i v) := by
  funext j; unfold own_up own_N own_uN; split <;> rfl
def own_zN : Nat → Nat := fun _ => 0
def own_zD : Nat → UInt64 := fun _ => 0
def own_Rf (g : Nat → Addr) : Nat → Value := fun P => .ref (g P)
def own_s2 {α : Type} (F : Nat → Nat → α) (P i : Nat) (v : α) : Nat → Nat → α := fun Q j => if Q = P ∧ j = i then v else F Q j
def own_f2 {α : Type} (F : Nat → Nat → α) (P : Nat) (f : Nat → α) : Nat → Nat → α := fun Q => if Q = P then f else F Q
theorem own_f2_self {α : Type} (F : Nat → Nat → α) (P : Nat) : own_f2 F P (F P) = F := by
  funext Q; unfold own_f2; split
  · next e => rw [e]
  · rfl
theorem own_f2_at {α : Type} (F : Nat → Nat → α) (P : Nat) (f : Nat → α) : own_f2 F P f P = f := if_pos rfl
theorem own_f2_ne {α : Type} (F : Nat → Nat → α) {P Q : Nat} (f : Nat → α) (h : ¬ Q = P) : own_f2 F P f Q = F Q := if_neg h
theorem own_f2_uI (F : Nat → Nat → Int32) (P i : Nat) (v : Int32) : own_f2 F P (own_uI (F P) i v) = own_s2 F P i v := by
  funext Q j; unfold own_f2 own_s2 own_uI
  by_cases e : Q = P
  · rw [if_pos e]; subst e
    by_cases q : j = i
    · rw [if_pos q, if_pos ⟨rfl, q⟩]
    · rw [if_neg q, if_neg (fun z => q z.2)]
  · rw [if_neg e, if_neg (fun z => e z.1)]
theorem own_f2_uD (F : Nat → Nat → UInt64) (P i : Nat) (v : UInt64) : own_f2 F P (own_uD (F P) i v) = own_s2 F P i v := by
  funext Q j; unfold own_f2 own_s2 own_uD
  by_cases e : Q = P
  · rw [if_pos e]; subst e
    by_cases q : j = i
    · rw [if_pos q, if_pos ⟨rfl, q⟩]
    · rw [if_neg q, if_neg (fun z => q z.2)]
  · rw [if_neg e, if_neg (fun z => e z.1)]
theorem own_s2_comm {α : Type} (F : Nat → Nat → α) {P i Q j : Nat} (v w : α) (h : ¬ (P = Q ∧ i = j)) : own_s2 (own_s2 F P i v) Q j w = own_s2 (own_s2 F Q j w) P i v := by
  funext R k; unfold own_s2
  by_cases e : R = Q ∧ k = j
  · rw [if_pos e, if_neg (fun z => h ⟨z.1.symm.trans e.1, z.2.symm.trans e.2⟩), if_pos e]
  · rw [if_neg e]
    by_cases q : R = P ∧ k = i
    · rw [if_pos q, if_pos q]
    · rw [if_neg q, if_neg q, if_neg e]
theorem own_s2_same {α : Type} (F : Nat → Nat → α) (P i : Nat) (v : α) : own_s2 F P i v P i = v := if_pos ⟨rfl, rfl⟩
theorem own_s2_ne {α : Type} (F : Nat → Nat → α) {P i Q j : Nat} (v : α) (h : ¬ (Q = P ∧ j = i)) : own_s2 F P i v Q j = F Q j := if_neg h
/-- one page -/
def own_Pg (Z : State) (h : Heap) (ad : Nat → Nat → Addr) (sN : Nat → Nat → Nat) (tF : Nat → Nat → Int32) (wF : Nat → Nat → UInt64) (P : Nat) : Prop :=
  Exa Z h (ad 0 P) "kithrank/Graph$Page" ∧ Exa Z h (ad 1 P) "[I" ∧ Exa Z h (ad 2 P) "[I" ∧ Exa Z h (ad 3 P) "[D" ∧
  Fld Z h (ad 0 P) "kithrank/Graph$Page" "start" "[I" (.ref (ad 1 P)) ∧ Fld Z h (ad 0 P) "kithrank/Graph$Page" "target" "[I" (.ref (ad 2 P)) ∧ Fld Z h (ad 0 P) "kithrank/Graph$Page" "weight" "[D" (.ref (ad 3 P)) ∧ Fld Z h (ad 0 P) "kithrank/Graph$Page" "apart" "[Lkithrank/Graph$OwnEdges;" .null ∧
  own_A Z h (ad 1 P) .int (own_u P + 1) (own_N (sN P)) ∧ own_A Z h (ad 2 P) .int (sN P (own_u P)) (own_I (tF P)) ∧ own_A Z h (ad 3 P) .double (sN P (own_u P)) (own_D (wF P))
def own_P (Z : State) (h : Heap) (np : Nat) (ad : Nat → Nat → Addr) (sN : Nat → Nat → Nat) (tF : Nat → Nat → Int32) (wF : Nat → Nat → UInt64) : Prop := ∀ P, P < np → own_Pg Z h ad sN tF wF P
def own_W (n0 np : Nat) (ad : Nat → Nat → Addr) : Prop := (∀ i P, i < 4 → P < np → n0 ≤ ad i P) ∧ ∀ i j P Q, i < 4 → j < 4 → P < np → Q < np → ad i P = ad j Q → i = j ∧ P = Q
def own_Nm (np : Nat) (ad : Nat → Nat → Addr) (x : Addr) : Prop := ∀ i P, i < 4 → P < np → x ≠ ad i P
variable {n0 np : Nat} {ad : Nat → Nat → Addr} {sN : Nat → Nat → Nat} {tF : Nat → Nat → Int32} {wF : Nat → Nat → UInt64} {ws : List Addr} {P : Nat}
theorem own_nm0 : ∀ x ∈ ([] : List Addr), own_Nm np ad x := fun _ q => nomatch q
theorem own_nmS {x : Addr} (h : own_Nm np ad x) (r : ∀ y ∈ ws, own_Nm np ad y) : ∀ y ∈ x :: ws, own_Nm np ad y := fun y q => by
  rcases List.mem_cons.mp q with e | e
  · rw [e]; exact h
  · exact r y e
theorem own_P.keep (F : own_P Z h np ad sN tF wF) (K : Keep h h' ws) (q : ∀ x ∈ ws, own_Nm np ad x) : own_P Z h' np ad sN tF wF := fun P hP => by
  obtain ⟨a0, a1, a2, a3, b0, b1, b2, b3, c1, c2, c3⟩ := F P hP
  have nn : ∀ i, i < 4 → ad i P ∉ ws := fun i hi z => q _ z i P hi hP rfl
  exact ⟨a0.keep K, a1.keep K, a2.keep K, a3.keep K, b0.keep K (nn 0 (by decide)), b1.keep K (nn 0 (by decide)), b2.keep K (nn 0 (by decide)), b3.keep K (nn 0 (by decide)), c1.keep K (nn 1 (by decide)), c2.keep K (nn 2 (by decide)), c3.keep K (nn 3 (by decide))⟩
theorem own_P.ext (F : own_P Z h np ad sN tF wF) (E : Ext h h') : own_P Z h' np ad sN tF wF := F.keep ((Keep.refl h []).ext E) own_nm0
theorem own_P.other {a : Addr} {sl : Nat} {v : Value} (F : own_P Z h np ad sN tF wF) (W : Wr h h' a sl v) (q : own_Nm np ad a) : own_P Z h' np ad sN tF wF := F.keep (Keep.of_wr W) (own_nmS q own_nm0)
theorem own_P.lt (F : own_P Z h np ad sN tF wF) {i : Nat} (hi : i < 4) (hP : P < np) : ad i P < h.size := by
  obtain ⟨a0, a1, a2, a3, -⟩ := F P hP
  match i, hi with
  | 0, _ => exact a0.lt
  | 1, _ => exact a1.lt
  | 2, _ => exact a2.lt
  | 3, _ => exact a3.lt
theorem own_P.nm (F : own_P Z h np ad sN tF wF) {x : Addr} (q : h.size ≤ x) : own_Nm np ad x := fun i P hi hP => Nat.ne_of_gt (Nat.lt_of_lt_of_le (F.lt hi hP) q)
theorem own_P.keepTW (F : own_P Z h np ad sN tF wF) (D : own_W n0 np ad) (hP : P < np) (K : Keep h h' ws) (q : ∀ x ∈ ws, x = ad 2 P ∨ x = ad 3 P ∨ own_Nm np ad x) {f : Nat → Int32} {f' : Nat → UInt64}
    (A : own_A Z h' (ad 2 P) .int (sN P (own_u P)) (own_I f)) (B : own_A Z h' (ad 3 P) .double (sN P (own_u P)) (own_D f')) : own_P Z h' np ad sN (own_f2 tF P f) (own_f2 wF P f') := fun Q hQ => by
  obtain ⟨a0, a1, a2, a3, b0, b1, b2, b3, c1, c2, c3⟩ := F Q hQ
  have nn : ∀ i, i < 4 → (i = 2 → Q ≠ P) → (i = 3 → Q ≠ P) → ad i Q ∉ ws := fun i hi r2 r3 z => by
    rcases q _ z with e | e | e
    · obtain ⟨e1, e2⟩ := D.2 i 2 Q P hi (by decide) hQ hP e; exact r2 e1 e2
    · obtain ⟨e1, e2⟩ := D.2 i 3 Q P hi (by decide) hQ hP e; exact r3 e1 e2
    · exact e i Q hi hQ rfl
  have n0' := nn 0 (by decide) (fun e => absurd e (by decide)) (fun e => absurd e (by decide))
  have n1' := nn 1 (by decide) (fun e => absurd e (by decide)) (fun e => absurd e (by decide))
  by_cases e : Q = P
  · subst e
    exact ⟨a0.keep K, a1.keep K, a2.keep K, a3.keep K, b0.keep K n0', b1.keep K n0', b2.keep K n0', b3.keep K n0', c1.keep K n1', by rw [own_f2_at]; exact A, by rw [own_f2_at]; exact B⟩
  · exact ⟨a0.keep K, a1.keep K, a2.keep K, a3.keep K, b0.keep K n0', b1.keep K n0', b2.keep K n0', b3.keep K n0', c1.keep K n1', by rw [own_f2_ne _ _ e]; exact c2.keep K (nn 2 (by decide) (fun _ => e) (fun _ => e)), by rw [own_f2_ne _ _ e]; exact c3.keep K (nn 3 (by decide) (fun _ => e) (fun _ => e))⟩
theorem own_P.setT (F : own_P Z h np ad sN tF wF) (D : own_W n0 np ad) (hP : P < np) {j v : Int32} {i : Nat} (hj : own_Ix j i (sN P (own_u P))) (W : Wr h h' (ad 2 P) j.toNatClampNeg (.int v)) : own_P Z h' np ad sN (own_s2 tF P i v) wF := by
  obtain ⟨a0, a1, a2, a3, b0, b1, b2, b3, c1, c2, c3⟩ := F P hP
  have r := F.keepTW D hP (Keep.of_wr W) (fun x hx => Or.inl (List.mem_singleton.mp hx)) (f := own_uI (tF P) i v) (f' := wF P) (by rw [← own_upI]; exact c2.set hj W) (c3.other W (fun e => by have := (D.2 3 2 P P (by decide) (by decide) hP hP e).1; omega))
  rw [own_f2_uI, own_f2_self] at r
  exact r
theorem own_P.setW (F : own_P Z h np ad sN tF wF) (D : own_W n0 np ad) (hP : P < np) {j : Int32} {v : UInt64} {i : Nat} (hj : own_Ix j i (sN P (own_u P))) (W : Wr h h' (ad 3 P) j.toNatClampNeg (.double v)) : own_P Z h' np ad sN tF (own_s2 wF P i v) := by
  obtain ⟨a0, a1, a2, a3, b0, b1, b2, b3, c1, c2, c3⟩ := F P hP
  have r := F.keepTW D hP (Keep.of_wr W) (fun x hx => Or.inr (Or.inl (List.mem_singleton.mp hx))) (f := tF P) (f' := own_uD (wF P) i v) (c2.other W (fun e => by have := (D.2 2 3 P P (by decide) (by decide) hP hP e).1; omega)) (by rw [← own_upD]; exact c3.set hj W)
  rw [own_f2_uD, own_f2_self] at r
  exact r
/-- the addresses with one page more -/
def own_adS (ad : Nat → Nat → Addr) (np : Nat) (g s t w : Addr) : Nat → Nat → Addr := fun i P => if P = np then (match i with | 0 => g | 1 => s | 2 => t | _ => w) else ad i P
theorem own_P.nil (ad : Nat → Nat → Addr) (sN : Nat → Nat → Nat) (tF : Nat → Nat → Int32) (wF : Nat → Nat → UInt64) : own_P Z h 0 ad sN tF wF := fun P hP => absurd hP (Nat.not_lt_zero P)
theorem own_W.nil (ad : Nat → Nat → Addr) : own_W n0 0 ad := ⟨fun _ P _ hP => absurd hP (Nat.not_lt_zero P), fun _ _ P _ _ _ hP => absurd hP (Nat.not_lt_zero P)⟩
theorem own_Nm.nil (ad : Nat → Nat → Addr) (x : Addr) : own_Nm 0 ad x := fun _ P _ hP => absurd hP (Nat.not_lt_zero P)
theorem own_Nm.snoc {x g s t w : Addr} (F : own_Nm np ad x) (h0 : x ≠ g) (h1 : x ≠ s) (h2 : x ≠ t) (h3 : x ≠ w) : own_Nm (np + 1) (own_adS ad np g s t w) x := fun i P hi hP => by
  unfold own_adS
  by_cases e : P = np
  · rw [if_pos e]
    match i, hi with
    | 0, _ => exact h0
    | 1, _ => exact h1
    | 2, _ => exact h2
    | 3, _ => exact h3
  · rw [if_neg e]; exact F i P hi (by omega)
theorem own_P.snoc {g s t w : Addr} (F : own_P Z h np ad sN tF wF) (a0 : Exa Z h g "kithrank/Graph$Page") (a1 : Exa Z h s "[I") (a2 : Exa Z h t "[I") (a3 : Exa Z h w "[D")
    (b0 : Fld Z h g "kithrank/Graph$Page" "start" "[I" (.ref s)) (b1 : Fld Z h g "kithrank/Graph$Page" "target" "[I" (.ref t)) (b2 : Fld Z h g "kithrank/Graph$Page" "weight" "[D" (.ref w)) (b3 : Fld Z h g "kithrank/Graph$Page" "apart" "[Lkithrank/Graph$OwnEdges;" .null)
    (c1 : own_A Z h s .int (own_u np + 1) (own_N (sN np))) (c2 : own_A Z h t .int (sN np (own_u np)) (own_I (tF np))) (c3 : own_A Z h w .double (sN np (own_u np)) (own_D (wF np))) : own_P Z h (np + 1) (own_adS ad np g s t w) sN tF wF := fun P hP => by
  by_cases e : P = np
  · subst e
    unfold own_Pg own_adS
    simp only [if_pos]
    exact ⟨a0, a1, a2, a3, b0, b1, b2, b3, c1, c2, c3⟩
  · have r := F P (by omega)
    unfold own_Pg own_adS
    simp only [if_neg e]
    exact r
theorem own_W.snoc {g s t w : Addr} (F : own_W n0 np ad) (g0 : n0 ≤ g) (g1 : n0 ≤ s) (g2 : n0 ≤ t) (g3 : n0 ≤ w) (m0 : own_Nm np ad g) (m1 : own_Nm np ad s) (m2 : own_Nm np ad t) (m3 : own_Nm np ad w)
    (d1 : g ≠ s) (d2 : g ≠ t) (d3 : g ≠ w) (d4 : s ≠ t) (d5 : s ≠ w) (d6 : t ≠ w) : own_W n0 (np + 1) (own_adS ad np g s t w) := by
  refine ⟨fun i P hi hP => ?_, fun i j P Q hi hj hP hQ => ?_⟩
  · unfold own_adS
    by_cases e : P = np
    · rw [if_pos e]
      match i, hi with
      | 0, _ => exact g0
      | 1, _ => exact g1
      | 2, _ => exact g2
      | 3, _ => exact g3
    · rw [if_neg e]; exact F.1 i P hi (by omega)
  · unfold own_adS
    by_cases e : P = np
    · by_cases f : Q = np
      · rw [if_pos e, if_pos f]
        intro q
        refine ⟨?_, e.trans f.symm⟩
        match i, hi, j, hj with
        | 0, _, 0, _ => rfl
        | 1, _, 1, _ => rfl
        | 2, _, 2, _ => rfl
        | 3, _, 3, _ => rfl
        | 0, _, 1, _ => exact absurd q d1
        | 0, _, 2, _ => exact absurd q d2
        | 0, _, 3, _ => exact absurd q d3
        | 1, _, 2, _ => exact absurd q d4
        | 1, _, 3, _ => exact absurd q d5
        | 2, _, 3, _ => exact absurd q d6
        | 1, _, 0, _ => exact absurd q.symm d1
        | 2, _, 0, _ => exact absurd q.symm d2
        | 3, _, 0, _ => exact absurd q.symm d3
        | 2, _, 1, _ => exact absurd q.symm d4
        | 3, _, 1, _ => exact absurd q.symm d5
        | 3, _, 2, _ => exact absurd q.symm d6
      · rw [if_pos e, if_neg f]
        intro q
        exfalso
        match i, hi with
        | 0, _ => exact m0 j Q hj (by omega) q
        | 1, _ => exact m1 j Q hj (by omega) q
        | 2, _ => exact m2 j Q hj (by omega) q
        | 3, _ => exact m3 j Q hj (by omega) q
    · by_cases f : Q = np
      · rw [if_neg e, if_pos f]
        intro q
        exfalso
        match j, hj with
        | 0, _ => exact m0 i P hi (by omega) q.symm
        | 1, _ => exact m1 i P hi (by omega) q.symm
        | 2, _ => exact m2 i P hi (by omega) q.symm
        | 3, _ => exact m3 i P hi (by omega) q.symm
      · rw [if_neg e, if_neg f]; exact F.2 i j P Q hi hj (by omega) (by omega)
theorem own_mem6 (ad : Nat → Nat → Addr) {i P : Nat} (hi : i = 2 ∨ i = 3) (hP : P < 3) : ad i P ∈ [ad 2 0, ad 3 0, ad 2 1, ad 3 1, ad 2 2, ad 3 2] := by
  match P, hP with
  | 0, _ => rcases hi with rfl | rfl <;> simp
  | 1, _ => rcases hi with rfl | rfl <;> simp
  | 2, _ => rcases hi with rfl | rfl <;> simp
/-- an array class over a class -/
def own_Ov (Z : State) (k : ClassId) (C : String) : Prop := Ovr Z k C ∨ ∃ ty, OvrA Z k ty C
theorem own_Ov.of {k : ClassId} {C : String} (O : Ovr Z k C) : own_Ov Z k C := Or.inl O
theorem own_Ov.ofA {k : ClassId} {ty : FieldType} {C : String} (O : OvrA Z k ty C) : own_Ov Z k C := Or.inr ⟨ty, O⟩
def own_R (Z : State) (h : Heap) (a : Addr) (ty : FieldType) (C : String) (n : Nat) (f : Nat → Value) : Prop := ∃ c : Cell, Arr Z h a c ty ∧ c.slots.size = n ∧ n < 2 ^ 31 ∧ (∀ j, j < n → c.slots[j]? = some (f j)) ∧ own_Ov Z c.cls C
variable {a b y : Addr} {ty : FieldType} {n i : Nat} {f : Nat → Value} {v : Value} {sl : Nat} {C : String} {j z : Int32}
theorem own_R.toA (F : own_R Z h a ty C n f) : own_A Z h a ty n f := by obtain ⟨c, A, S, M, V, -⟩ := F; exact ⟨c, A, S, M, V⟩
theorem own_R.lt (F : own_R Z h a ty C n f) : a < h.size := by obtain ⟨c, A, -⟩ := F; exact A.lt
theorem own_R.ext (F : own_R Z h a ty C n f) (E : Ext h h') : own_R Z h' a ty C n f := by obtain ⟨c, A, r⟩ := F; exact ⟨c, A.ext E, r⟩
theorem own_R.other (F : own_R Z h b ty C n f) (W : Wr h h' a sl v) (q : b ≠ a) : own_R Z h' b ty C n f := by obtain ⟨c, A, r⟩ := F; exact ⟨c, A.other W q, r⟩
theorem own_R.keep (F : own_R Z h a ty C n f) (K : Keep h h' ws) (q : a ∉ ws) : own_R Z h' a ty C n f := by obtain ⟨c, A, r⟩ := F; exact ⟨c, ⟨K.2.1 a c A.1 q, A.2⟩, r⟩
theorem own_R.new {k : ClassId} (A : Arr Z h a (newA k ty z) ty) (O : own_Ov Z k C) (hz : z.toNatClampNeg = n) : own_R Z h a ty C n (fun _ => defaultValue ty) := by
  refine ⟨_, A, by rw [sz_new, hz], by rw [← hz]; exact own_clamp z, fun j hj => ?_, O⟩
  simp [newA, hz, hj]
theorem own_R.cong {g : Nat → Value} (F : own_R Z h a ty C n f) (q : ∀ j, j < n → f j = g j) : own_R Z h a ty C n g := by
  obtain ⟨c, A, S, M, V, O⟩ := F
  exact ⟨c, A, S, M, fun j hj => by rw [V j hj, q j hj], O⟩
theorem own_R.set (F : own_R Z h a ty C n f) (hj : own_Ix j i n) (W : Wr h h' a j.toNatClampNeg v) : own_R Z h' a ty C n (own_up f i v) := by
  obtain ⟨c, A, S, M, V, O⟩ := F
  obtain ⟨h1, h2, h3⟩ := hj
  rw [h2] at W
  refine ⟨c.setSlot i v, A.same W, by rw [sz_set]; exact S, M, fun j' hj' => ?_, O⟩
  show (c.slots.setIfInBounds i v)[j']? = _
  unfold own_up
  by_cases e : j' = i
  · subst e; rw [if_pos rfl]; simp [S, hj']
  · rw [if_neg e, Array.getElem?_setIfInBounds_ne (Ne.symm e)]; exact V j' hj'
theorem own_R.sto (F : own_R Z h a ty C n f) (I : Ins Z h y C true) : Sto Z h a (.ref y) := by
  obtain ⟨cl, A, S, M, V, O | ⟨t, O⟩⟩ := F
  · exact Sto.of A O I
  · exact Sto.ofVA A rfl O I
end OwnPage
/-- a private method called inside a nest: by invokevirtualNest, the class from the word 'instantiable' -/
theorem own_privNest {p : Program} {l : Launch} {e : Env} {R : Room} {s : State} {m : MethodId} {args : Array Value} {below : List Frame} {meth : Method} {c : Code} {T : State} {locs : List Loc} {cells slots : Nat} (X : Stand p l e R s m args below meth c T locs cells slots) (hx : p.tables.exec = Jvm.exec)
    {own host : String} {index nS : Nat} {y : MethodName} {bytes : ByteArray} {maxL : Nat} {ret : Option FieldType} (hown : s.vm.findClass own = some m.cls) (w1 : (Cond.methodLinkNest own index y host).before args s = true) (w2 : (Cond.instanceMethod y).before args s = true) (w3 : (Cond.instantiable y.cls nS).before args s = true)
    (w5 : s.PrivateAt y) (w4 : (Cond.code y bytes maxL ret).before args s = true) (hy : y.cls ≠ "java/lang/invoke/MethodHandle" ∧ y.cls ≠ "java/lang/invoke/VarHandle") {W : Nat} {Pre : Pt → Array Value → Prop} {Post : Pt → Array Value → Option Value → Pt → Prop} (hK : Back l R p e below s args y 3 W Pre Post)
    {g : JFrame} (hg : g.method = m) (hsize : g.locals.size = c.maxLocals) {a : Addr} {cl : Cell} (hc : T.heap[a]? = some cl) (ho : ∀ q, cl.vm ≠ .statics q) {argsL rest : List Value} (hlen : ∀ sig, parseMethodDescriptor y.desc = some sig → argsL.length = sig.parameters.length)
    (hst : g.stack = argsL.reverse ++ .ref a :: rest) (hW : 2 * g.monitorRoom + (rest.map fun v => v.category).sum ≤ W) (hd : decode c.code g.pc = .ok (.invokevirtual index, 3)) (hpre : ∀ vm₁, s.WarmedH vm₁ → Pre ⟨T.setVm vm₁, locs, cells, slots⟩ (.ref a :: argsL).toArray) :
    ∃ (v : Option Value) (vm₁ : Vm) (U : Pt), s.WarmedH vm₁ ∧ Stand p l e R s m args below meth c U.U U.locs U.cells U.slots ∧ Post ⟨T.setVm vm₁, locs, cells, slots⟩ (.ref a :: argsL).toArray v U ∧ Steps p.tables e below (T.setTop g) (U.U.setTop { g with pc := g.pc + 3, stack := v.toList ++ rest }) := by
  obtain ⟨cy, ky, i1, i2, -, i4, -⟩ := Cond.instantiable_spec w3
  obtain ⟨mk, mt, n1, n2, n3, n4⟩ := Cond.instanceMethod_spec w2
  obtain ⟨mt2, cM, n5, -, -, -, -, -, -, n6⟩ := Cond.code_spec n1 w4
  cases n2.symm.trans n5
  cases i1.symm.trans (findClass_of_methodNamed n1)
  have ni := (Bool.or_eq_false_iff.mp i4).1
  obtain ⟨vm1, X1, go⟩ := X.invokevirtualNest hx hown w1 n1 n2 n3 i2 ni hy hc ho (selectMethod_private n2 (w5 mk mt n1 n2)) n2 n4 i2 ni (g := g) hg (argsL := argsL) (rest := rest) (hlen _ n6) hst hd
  obtain ⟨v, U, X2, q, go2⟩ := hK m meth c ⟨T.setVm vm1, locs, cells, slots⟩ { g with stack := rest } (.invokevirtual index) mk (.ref a :: argsL).toArray X1 hg hsize hd hW (X1.named n1) (hpre vm1 X1.warmed)
  exact ⟨v, vm1, U, X1.warmed, X2, q, go _ fun acts => by rw [doInvoke_state]; exact go2⟩
section OwnSort
theorem own_shr {x : Int32} {u q : Nat} (h : x = Int32.ofNat u) (hu : u < 130) (hq : q = u / 64) : ((x.toUInt32 >>> ((6 : Int32) &&& 31).toUInt32).toInt32) = Int32.ofNat q := by
  subst h; subst hq
  exact (by decide +kernel : ∀ u : Fin 130, (((Int32.ofNat u.1).toUInt32 >>> ((6 : Int32) &&& 31).toUInt32).toInt32) = Int32.ofNat (u.1 / 64)) ⟨u, hu⟩
theorem own_and63 {x : Int32} {u q : Nat} (h : x = Int32.ofNat u) (hu : u < 130) (hq : q = u % 64) : x &&& (63 : Int32) = Int32.ofNat q := by
  subst h; subst hq
  exact (by decide +kernel : ∀ u : Fin 130, Int32.ofNat u.1 &&& (63 : Int32) = Int32.ofNat (u.1 % 64)) ⟨u, hu⟩
theorem own_iu {u p q : Nat} (hu : u < 130) (hp : p = u / 64) (hq : q = u % 64) : p < 3 ∧ q < own_u p := by
  refine ⟨by omega, ?_⟩
  unfold own_u; split <;> omega
theorem own_natN {i : Nat} (h : i < 2 ^ 31) : (Int32.ofNat i).toNatClampNeg = i := by show (Int32.ofNat i).toInt.toNat = i; rw [own_toI h]; rfl
theorem own_nnN {i : Nat} (h : i < 2 ^ 31 - 1) : ¬ Int32.ofNat i < 0 := (own_ixN (i := i) (n := i + 1) (by omega) (by omega)).1
def own_pc (a1 a2 : Nat) : Nat → Nat := fun j => (if j = a1 + 1 then 1 else 0) + (if j = a2 + 1 then 1 else 0)
def own_cu (a1 a2 : Nat) : Nat → Nat := fun j => (if a1 + 1 ≤ j then 1 else 0) + (if a2 + 1 ≤ j then 1 else 0)
def own_pi (a1 a2 i : Nat) : Nat → Nat := fun j => if j < i then own_cu a1 a2 j else own_pc a1 a2 j
theorem own_pc_of (a1 a2 : Nat) : own_uN (own_uN own_zN (a1 + 1) (0 + 1)) (a2 + 1) (own_uN own_zN (a1 + 1) (0 + 1) (a2 + 1) + 1) = own_pi a1 a2 1 := by
  funext j; unfold own_uN own_zN own_pi own_cu own_pc
  by_cases h0 : j < 1
  · rw [if_pos h0, if_neg (by omega), if_neg (by omega), if_neg (by omega), if_neg (by omega)]
  · rw [if_neg h0]
    by_cases h1 : j = a2 + 1
    · rw [if_pos h1, if_pos h1]
      by_cases h2 : a2 + 1 = a1 + 1
      · rw [if_pos h2, if_pos (by omega)]
      · rw [if_neg h2, if_neg (by omega)]
    · rw [if_neg h1, if_neg h1]; rfl
theorem own_pi_le (a1 a2 i j : Nat) : own_pi a1 a2 i j ≤ 2 := by
  unfold own_pi own_cu own_pc; repeat' split
  all_goals omega
theorem own_uNz_le (a b : Nat) : own_uN own_zN (a + 1) (0 + 1) b ≤ 1 := by unfold own_uN own_zN; split <;> omega
theorem own_piS {a1 a2 i : Nat} (h : 1 ≤ i) : own_uN (own_pi a1 a2 i) i (own_pi a1 a2 i i + own_pi a1 a2 i (i - 1)) = own_pi a1 a2 (i + 1) := by
  funext j; unfold own_uN own_pi own_cu own_pc
  by_cases h1 : j = i
  · rw [if_pos h1, if_neg (Nat.lt_irrefl i), if_pos (show i - 1 < i by omega), if_pos (show j < i + 1 by omega)]
    subst h1
    repeat' split
    all_goals omega
  · rw [if_neg h1]
    by_cases h2 : j < i
    · rw [if_pos h2, if_pos (show j < i + 1 by omega)]
    · rw [if_neg h2, if_neg (show ¬ j < i + 1 by omega)]
variable {k1 k2 a1 a2 d t1 t2 i : Nat}
theorem own_cu1 (ha1 : a1 + k1 = max k1 k2) (ha2 : a2 + k2 = max k1 k2) (ht1 : t1 = if k1 < k2 then 1 else 0) (hi : a1 < i) : own_pi a1 a2 i a1 = t1 := by
  unfold own_pi own_cu
  rw [if_pos hi]
  by_cases q : k1 < k2
  · rw [if_pos q] at ht1; rw [if_neg (by omega), if_pos (by omega)]; omega
  · rw [if_neg q] at ht1; rw [if_neg (by omega), if_neg (by omega)]; omega
theorem own_cu2 (ha1 : a1 + k1 = max k1 k2) (ha2 : a2 + k2 = max k1 k2) (ht1 : t1 = if k1 < k2 then 1 else 0) (ht2 : t1 + t2 = 1) (hi : a2 < i) : own_uN (own_pi a1 a2 i) a1 (t1 + 1) a2 = t2 := by
  unfold own_uN own_pi own_cu
  by_cases e : a2 = a1
  · rw [if_pos e]
    rw [if_neg (by omega)] at ht1
    omega
  · rw [if_neg e, if_pos hi]
    by_cases q : k1 < k2
    · rw [if_pos q] at ht1; rw [if_neg (by omega), if_neg (by omega)]; omega
    · rw [if_neg q] at ht1; rw [if_pos (by omega), if_neg (by omega)]; omega
theorem own_fzP (hi : i = d + 2) (h1 : a1 ≤ d) (h2 : a2 ≤ d) (u1 u2 : Nat) : own_fz (fun j => Int32.ofNat (own_uN (own_uN (own_pi a1 a2 i) a1 u1) a2 u2 j)) (d + 2) = own_z := by
  funext j; unfold own_fz own_z
  by_cases q : j < d + 2
  · rw [if_pos q]
  · rw [if_neg q]
    show Int32.ofNat (own_uN (own_uN (own_pi a1 a2 i) a1 u1) a2 u2 j) = 0
    unfold own_uN own_pi own_pc
    rw [if_neg (show ¬ j = a2 by omega), if_neg (show ¬ j = a1 by omega), if_neg (show ¬ j < i by omega), if_neg (show ¬ j = a1 + 1 by omega), if_neg (show ¬ j = a2 + 1 by omega)]
    rfl
def own_sw {α : Type} (f : Nat → α) (x t : Nat) : Nat → α := fun q => if q = x then (if t = 1 then f (x + 1) else f x) else if q = x + 1 then (if t = 1 then f x else f (x + 1)) else f q
theorem own_swI (f1 f : Nat → Int32) (x : Nat) (h : t1 + t2 = 1) : own_ci (own_uI (own_uI f1 t1 (f x)) t2 (f (x + 1))) f 0 x 2 = own_sw f x t1 := by
  funext q; unfold own_ci own_uI own_sw
  by_cases c : x ≤ q ∧ q < x + 2
  · rw [if_pos c]
    by_cases e : q = x
    · rw [if_pos e, show 0 + (q - x) = 0 by omega]
      by_cases t : t1 = 1
      · rw [if_pos t, if_pos (show 0 = t2 by omega)]
      · rw [if_neg t, if_neg (show ¬ 0 = t2 by omega), if_pos (show 0 = t1 by omega)]
    · rw [if_neg e, if_pos (show q = x + 1 by omega), show 0 + (q - x) = 1 by omega]
      by_cases t : t1 = 1
      · rw [if_pos t, if_neg (show ¬ 1 = t2 by omega), if_pos (show 1 = t1 by omega)]
      · rw [if_neg t, if_pos (show 1 = t2 by omega)]
  · rw [if_neg c, if_neg (show ¬ q = x by omega), if_neg (show ¬ q = x + 1 by omega)]
theorem own_swD (f1 f : Nat → UInt64) (x : Nat) (h : t1 + t2 = 1) : own_cd (own_uD (own_uD f1 t1 (f x)) t2 (f (x + 1))) f 0 x 2 = own_sw f x t1 := by
  funext q; unfold own_cd own_uD own_sw
  by_cases c : x ≤ q ∧ q < x + 2
  · rw [if_pos c]
    by_cases e : q = x
    · rw [if_pos e, show 0 + (q - x) = 0 by omega]
      by_cases t : t1 = 1
      · rw [if_pos t, if_pos (show 0 = t2 by omega)]
      · rw [if_neg t, if_neg (show ¬ 0 = t2 by omega), if_pos (show 0 = t1 by omega)]
    · rw [if_neg e, if_pos (show q = x + 1 by omega), show 0 + (q - x) = 1 by omega]
      by_cases t : t1 = 1
      · rw [if_pos t, if_neg (show ¬ 1 = t2 by omega), if_pos (show 1 = t1 by omega)]
      · rw [if_neg t, if_pos (show 1 = t2 by omega)]
  · rw [if_neg c, if_neg (show ¬ q = x by omega), if_neg (show ¬ q = x + 1 by omega)]
/-- where the i-th user of a page starts -/
def own_S (dg : Nat → Nat) (P : Nat) : Nat → Nat
  | 0 => 0
  | i + 1 => own_S dg P i + dg (64 * P + i)
def own_zT : Nat → Nat → Int32 := fun _ _ => 0
def own_zW : Nat → Nat → UInt64 := fun _ _ => 0
def own_nxf (dg : Nat → Nat) (k : Nat) : Nat → Nat := fun u => if u < k then own_S dg (u / 64) (u % 64) else 0
def own_nx0 (dg : Nat → Nat) : Nat → Nat := fun u => own_S dg (u / 64) (u % 64)
def own_stf (dg : Nat → Nat) (P k : Nat) : Nat → Nat := fun j => if j ≤ k then own_S dg P j else 0
theorem own_stf_le {dg : Nat → Nat} {P k j : Nat} (h : j ≤ k) : own_stf dg P k j = own_S dg P j := if_pos h
theorem own_stfU (dg : Nat → Nat) (P i : Nat) : own_uN (own_stf dg P i) (i + 1) (own_S dg P (i + 1)) = own_stf dg P (i + 1) := by
  funext j; unfold own_uN own_stf
  by_cases e : j = i + 1
  · rw [if_pos e, if_pos (by omega), e]
  · rw [if_neg e]
    by_cases q : j ≤ i
    · rw [if_pos q, if_pos (by omega)]
    · rw [if_neg q, if_neg (by omega)]
theorem own_nxfU (dg : Nat → Nat) {P i k : Nat} (hi : i < 64) (hk : k = 64 * P + i) : own_uN (own_nxf dg k) k (own_stf dg P i i) = own_nxf dg (k + 1) := by
  funext j; unfold own_uN own_nxf
  by_cases e : j = k
  · rw [if_pos e, if_pos (by omega), own_stf_le (Nat.le_refl i), e, hk, show (64 * P + i) / 64 = P by omega, show (64 * P + i) % 64 = i by omega]
  · rw [if_neg e]
    by_cases q : j < k
    · rw [if_pos q, if_pos (by omega)]
    · rw [if_neg q, if_neg (by omega)]
end OwnSort
section OwnLaw
theorem own_hkW {sN : Nat → Nat → Nat} {wF : Nat → Nat → UInt64} {pA x t : Nat} (hk : ∀ P j, P < 3 → j < sN P (own_u P) → ∃ k, k ≤ 16368 ∧ own_wc (wF P j) = Int32.ofNat k) (hA : pA < 3) (hx : x + 1 < sN pA (own_u pA)) (P j : Nat) (hP : P < 3) (hj : j < sN P (own_u P)) : ∃ k, k ≤ 16368 ∧ own_wc (own_f2 wF pA (own_sw (wF pA) x t) P j) = Int32.ofNat k := by
  unfold own_f2
  by_cases e : P = pA
  · rw [if_pos e]
    unfold own_sw
    subst e
    split
    · split
      · exact hk P (x + 1) hP hx
      · exact hk P x hP (by omega)
    · split
      · split
        · exact hk P x hP (by omega)
        · exact hk P (x + 1) hP hx
      · exact hk P j hP hj
  · rw [if_neg e]; exact hk P j hP hj
theorem own_S_mono (dg : Nat → Nat) (P : Nat) {i j : Nat} (h : i ≤ j) : own_S dg P i ≤ own_S dg P j := by
  induction h with
  | refl => exact Nat.le_refl _
  | step _ ih => exact Nat.le_trans ih (Nat.le_add_right _ _)
theorem own_S_up (f : Nat → Nat) (k v P : Nat) : ∀ i, own_S (own_uN f k v) P i ≤ own_S f P i + (if 64 * P ≤ k ∧ k < 64 * P + i then v else 0)
  | 0 => Nat.zero_le _
  | i + 1 => by
    have ih := own_S_up f k v P i
    show own_S (own_uN f k v) P i + own_uN f k v (64 * P + i) ≤ own_S f P i + f (64 * P + i) + _
    by_cases e : 64 * P + i = k
    · rw [if_neg (by omega)] at ih
      rw [if_pos (by omega), show own_uN f k v (64 * P + i) = v from if_pos e]
      omega
    · rw [show own_uN f k v (64 * P + i) = f (64 * P + i) from if_neg e]
      by_cases q : 64 * P ≤ k ∧ k < 64 * P + i
      · rw [if_pos q] at ih; rw [if_pos (by omega)]; omega
      · rw [if_neg q] at ih; rw [if_neg (by omega)]; omega
theorem own_S_z (P : Nat) : ∀ i, own_S own_zN P i = 0
  | 0 => rfl
  | i + 1 => own_S_z P i
theorem own_hS {A B C : Nat} {dg : Nat → Nat} (q : dg = own_uN (own_uN (own_uN own_zN A 2) B 1) C 1) (P i : Nat) (_ : P < 3) (_ : i ≤ 64) : own_S dg P i ≤ 4 := by
  have h1 := own_S_up own_zN A 2 P i
  have h2 := own_S_up (own_uN own_zN A 2) B 1 P i
  have h3 := own_S_up (own_uN (own_uN own_zN A 2) B 1) C 1 P i
  rw [own_S_z] at h1
  rw [← q] at h3
  have l1 : (if 64 * P ≤ A ∧ A < 64 * P + i then 2 else 0) ≤ 2 := by split <;> omega
  have l2 : (if 64 * P ≤ B ∧ B < 64 * P + i then 1 else 0) ≤ 1 := by split <;> omega
  have l3 : (if 64 * P ≤ C ∧ C < 64 * P + i then 1 else 0) ≤ 1 := by split <;> omega
  omega
variable {A B C : Nat} {dg : Nat → Nat}
theorem own_dgA (q : dg = own_uN (own_uN (own_uN own_zN A 2) B 1) C 1) (h1 : B ≠ A) (h2 : C ≠ A) : dg A = 2 := by subst q; unfold own_uN; rw [if_neg (Ne.symm h2), if_neg (Ne.symm h1), if_pos rfl]
theorem own_dgB (q : dg = own_uN (own_uN (own_uN own_zN A 2) B 1) C 1) (h1 : C ≠ B) : dg B = 1 := by subst q; unfold own_uN; rw [if_neg (Ne.symm h1), if_pos rfl]
theorem own_dgC (q : dg = own_uN (own_uN (own_uN own_zN A 2) B 1) C 1) : dg C = 1 := by subst q; unfold own_uN; rw [if_pos rfl]
theorem own_dgO (q : dg = own_uN (own_uN (own_uN own_zN A 2) B 1) C 1) {u : Nat} (h : u ≠ A) : dg u = 0 ∨ dg u = 1 := by
  subst q; unfold own_uN own_zN
  rw [if_neg h]
  repeat' split
  all_goals omega
theorem own_Sn {u p i : Nat} (hp : p = u / 64) (hi : i = u % 64) : own_S dg p (i + 1) = own_S dg p i + dg u := by
  show own_S dg p i + dg (64 * p + i) = _
  rw [show 64 * p + i = u by omega]
theorem own_sep {u v p i j : Nat} (hu : p = u / 64) (hi : i = u % 64) (hv : p = v / 64) (hj : j = v % 64) (h : u ≠ v) : own_S dg p i + dg u ≤ own_S dg p j ∨ own_S dg p j + dg v ≤ own_S dg p i := by
  rw [← own_Sn hu hi, ← own_Sn hv hj]
  rcases Nat.lt_or_ge i j with q | q
  · exact Or.inl (own_S_mono dg p q)
  · exact Or.inr (own_S_mono dg p (by omega))
theorem own_read {α : Type} {F T2 : Nat → Nat → α} {pA pB pC sA sB sC : Nat} {v1 v2 v3 v4 : α} (hB : ¬ (pB = pA ∧ (sB = sA ∨ sB = sA + 1))) (hC : ¬ (pC = pA ∧ (sC = sA ∨ sC = sA + 1))) (hBC : ¬ (pB = pC ∧ sB = sC))
    (hT : T2 = own_s2 (own_s2 (own_s2 (own_s2 F pA sA v1) pB sB v2) pA (sA + 1) v3) pC sC v4) : T2 pA sA = v1 ∧ T2 pA (sA + 1) = v3 ∧ T2 pB sB = v2 ∧ T2 pC sC = v4 := by
  subst hT
  refine ⟨?_, ?_, ?_, own_s2_same _ _ _ _⟩
  · rw [own_s2_ne _ _ (by omega), own_s2_ne _ _ (by omega), own_s2_ne _ _ (by omega), own_s2_same]
  · rw [own_s2_ne _ _ (by omega), own_s2_same]
  · rw [own_s2_ne _ _ (by omega), own_s2_ne _ _ (by omega), own_s2_same]
theorem own_readS {α : Type} (T : Nat → Nat → α) {pA pB sA sB : Nat} (t : Nat) : own_f2 T pA (own_sw (T pA) sA t) pA sA = (if t = 1 then T pA (sA + 1) else T pA sA) ∧ own_f2 T pA (own_sw (T pA) sA t) pA (sA + 1) = (if t = 1 then T pA sA else T pA (sA + 1)) ∧
    (¬ (pB = pA ∧ (sB = sA ∨ sB = sA + 1)) → own_f2 T pA (own_sw (T pA) sA t) pB sB = T pB sB) := by
  unfold own_f2 own_sw
  refine ⟨by rw [if_pos rfl, if_pos rfl], by rw [if_pos rfl, if_neg (by omega), if_pos rfl], fun h => ?_⟩
  by_cases e : pB = pA
  · rw [if_pos e, if_neg (by omega), if_neg (by omega), e]
  · rw [if_neg e]
theorem own_uN_comm (f : Nat → Nat) {a b : Nat} (v w : Nat) (h : a ≠ b) : own_uN (own_uN f a v) b w = own_uN (own_uN f b w) a v := by
  funext j; unfold own_uN
  by_cases e : j = b
  · rw [if_pos e, if_neg (by omega), if_pos e]
  · rw [if_neg e]
    by_cases q : j = a
    · rw [if_pos q, if_pos q]
    · rw [if_neg q, if_neg q, if_neg e]
theorem own_ofI {v : Int32} {n : Nat} (h : v.toInt = n) : v = Int32.ofNat n := by
  have r := rng32 v
  exact Int32.toInt_inj.mp (by rw [h, own_toI (by omega)])
theorem own_abc {x y z va vd1 vd2 vd vb vc : Int32} (q1 : va = ((x &&& (2147483647 : Int32)) % (130 : Int32))) (q2 : vd1 = ((1 : Int32) + ((y &&& (2147483647 : Int32)) % (129 : Int32)))) (q3 : vd2 = ((1 : Int32) + ((z &&& (2147483647 : Int32)) % (128 : Int32))))
    (q4 : vd = (if vd2 < vd1 then vd2 else (vd2 + (1 : Int32)))) (q5 : vb = ((va + vd1) % (130 : Int32))) (q6 : vc = ((va + vd) % (130 : Int32))) :
    ∃ A B C : Nat, A < 130 ∧ B < 130 ∧ C < 130 ∧ B ≠ A ∧ C ≠ A ∧ C ≠ B ∧ va = Int32.ofNat A ∧ vb = Int32.ofNat B ∧ vc = Int32.ofNat C := by
  have m1 := c_mask x (2147483647 : Int32) 31 (by decide) (by decide)
  have m2 := c_mask y (2147483647 : Int32) 31 (by decide) (by decide)
  have m3 := c_mask z (2147483647 : Int32) 31 (by decide) (by decide)
  have r1 := (c_irem (x &&& (2147483647 : Int32)) (130 : Int32) 130 rfl).1 (by rw [m1]; omega)
  have r2 := (c_irem (y &&& (2147483647 : Int32)) (129 : Int32) 129 rfl).1 (by rw [m2]; omega)
  have r3 := (c_irem (z &&& (2147483647 : Int32)) (128 : Int32) 128 rfl).1 (by rw [m3]; omega)
  have o : (1 : Int32).toInt = 1 := rfl
  have s2 := c_iadd (1 : Int32) ((y &&& (2147483647 : Int32)) % (129 : Int32))
  have s3 := c_iadd (1 : Int32) ((z &&& (2147483647 : Int32)) % (128 : Int32))
  have b2 := rng32 ((1 : Int32) + ((y &&& (2147483647 : Int32)) % (129 : Int32)))
  have b3 := rng32 ((1 : Int32) + ((z &&& (2147483647 : Int32)) % (128 : Int32)))
  rw [o, r2, ← q2] at s2
  rw [← q2] at b2
  rw [o, r3, ← q3] at s3
  rw [← q3] at b3
  rw [← q1] at r1
  have ha : 0 ≤ va.toInt ∧ va.toInt < 130 := by omega
  have hd1 : 1 ≤ vd1.toInt ∧ vd1.toInt ≤ 129 := by omega
  have hd2 : 1 ≤ vd2.toInt ∧ vd2.toInt ≤ 128 := by omega
  clear r1 r2 r3 s2 s3 b2 b3 m1 m2 m3
  have hd : 1 ≤ vd.toInt ∧ vd.toInt ≤ 129 ∧ vd.toInt ≠ vd1.toInt := by
    by_cases c : vd2 < vd1
    · rw [if_pos c] at q4
      have := Int32.lt_iff_toInt_lt.mp c
      rw [q4]; omega
    · rw [if_neg c] at q4
      have c2 : ¬ vd2.toInt < vd1.toInt := fun t => c (Int32.lt_iff_toInt_lt.mpr t)
      have s := c_iadd vd2 (1 : Int32)
      have b := rng32 (vd2 + (1 : Int32))
      rw [o, ← q4] at s
      rw [← q4] at b
      omega
  have t1 := c_iadd va vd1
  have u1 := rng32 (va + vd1)
  have t2 := c_iadd va vd
  have u2 := rng32 (va + vd)
  have e1 : (va + vd1).toInt = va.toInt + vd1.toInt := by omega
  have e2 : (va + vd).toInt = va.toInt + vd.toInt := by omega
  have r5 := (c_irem (va + vd1) (130 : Int32) 130 rfl).1 (by omega)
  have r6 := (c_irem (va + vd) (130 : Int32) 130 rfl).1 (by omega)
  rw [← q5, e1] at r5
  rw [← q6, e2] at r6
  clear t1 t2 u1 u2 q5 q6 q4
  refine ⟨va.toInt.toNat, vb.toInt.toNat, vc.toInt.toNat, by omega, by omega, by omega, by omega, by omega, by omega, own_ofI (by omega), own_ofI (by omega), own_ofI (by omega)⟩
theorem own_kk {x v : Int32} (q : v = ((1 : Int32) + (x &&& (63 : Int32)))) : ∃ K : Nat, 1 ≤ K ∧ K ≤ 64 ∧ v = Int32.ofNat K := by
  have m := c_mask x (63 : Int32) 6 (by decide) (by decide)
  have s := c_iadd (1 : Int32) (x &&& (63 : Int32))
  have b := rng32 ((1 : Int32) + (x &&& (63 : Int32)))
  have o : (1 : Int32).toInt = 1 := rfl
  rw [o, m, ← q] at s
  rw [← q] at b
  exact ⟨v.toInt.toNat, by omega, by omega, own_ofI (by omega)⟩
def own_w (k : Nat) : UInt64 := FP.ddiv (FP.i2d (Int32.ofNat k)) (4634204016564240384 : UInt64)
/-- the class of k / 64 -/
def own_cl (k : Nat) : Nat := (1017 + Nat.log2 k) * 16 + (k * 16 / 2 ^ Nat.log2 k - 16)
def own_key (k : Nat) : Int32 := if Int32.ofNat k < (32 : Int32) then Int32.ofNat k else (Int32.ofNat k &&& (-2 : Int32))
theorem own_wt : ∀ k : Fin 65, 1 ≤ k.1 → (own_wc (own_w k.1) = Int32.ofNat (own_cl k.1) ∧ own_cl k.1 ≤ 16368) ∧ own_w k.1 &&& 0x7fffffffffffffff ≤ 0x7ff0000000000000 ∧ cmpValue (FP.dcmp (own_w k.1) (own_w k.1)) .l = 0 := by decide +kernel
theorem own_clk : ∀ j k : Fin 65, 1 ≤ j.1 → 1 ≤ k.1 → (own_key j.1 < own_key k.1 ↔ own_cl j.1 < own_cl k.1) := by decide +kernel
theorem own_w1 {K : Nat} (h1 : 1 ≤ K) (h2 : K ≤ 64) : own_wc (own_w K) = Int32.ofNat (own_cl K) ∧ own_cl K ≤ 16368 := (own_wt ⟨K, by omega⟩ h1).1
theorem own_w2 {K : Nat} (h1 : 1 ≤ K) (h2 : K ≤ 64) : Jvm.Free.Fl.NoNaN64 (own_w K) := (own_wt ⟨K, by omega⟩ h1).2.1
theorem own_w3 {K : Nat} (h1 : 1 ≤ K) (h2 : K ≤ 64) : cmpValue (FP.dcmp (own_w K) (own_w K)) .l = 0 := (own_wt ⟨K, by omega⟩ h1).2.2
theorem own_w4 {K L : Nat} (h1 : 1 ≤ K) (h2 : K ≤ 64) (h3 : 1 ≤ L) (h4 : L ≤ 64) : own_key K < own_key L ↔ own_cl K < own_cl L := own_clk ⟨K, by omega⟩ ⟨L, by omega⟩ h1 h3
theorem own_hk2 {pA pB pC sA sB sC K L : Nat} {W2 : Nat → Nat → UInt64} (h1 : 1 ≤ K) (h2 : K ≤ 64) (h3 : 1 ≤ L) (h4 : L ≤ 64) (hT : W2 = own_s2 (own_s2 (own_s2 (own_s2 own_zW pA sA (own_w K)) pB sB (own_w K)) pA (sA + 1) (own_w L)) pC sC (own_w L)) (P j : Nat) : ∃ k, k ≤ 16368 ∧ own_wc (W2 P j) = Int32.ofNat k := by
  have a := own_w1 h1 h2
  have b := own_w1 h3 h4
  subst hT
  unfold own_s2
  repeat' split
  · exact ⟨_, b.2, b.1⟩
  · exact ⟨_, b.2, b.1⟩
  · exact ⟨_, a.2, a.1⟩
  · exact ⟨_, a.2, a.1⟩
  · exact ⟨0, by decide, by show own_wc 0 = Int32.ofNat 0; decide +kernel⟩
theorem own_dist (q : dg = own_uN (own_uN (own_uN own_zN A 2) B 1) C 1) (hBA : B ≠ A) (hCA : C ≠ A) (hCB : C ≠ B) {pA iA sA pB iB sB pC iC sC : Nat} (hpA : pA = A / 64) (hiA : iA = A % 64) (hsA : sA = own_S dg pA iA) (hpB : pB = B / 64) (hiB : iB = B % 64) (hsB : sB = own_S dg pB iB) (hpC : pC = C / 64) (hiC : iC = C % 64) (hsC : sC = own_S dg pC iC) :
    ¬ (pB = pA ∧ (sB = sA ∨ sB = sA + 1)) ∧ ¬ (pC = pA ∧ (sC = sA ∨ sC = sA + 1)) ∧ ¬ (pB = pC ∧ sB = sC) := by
  have a := own_dgA q hBA hCA
  have b := own_dgB q hCB
  have c := own_dgC q
  refine ⟨fun z => ?_, fun z => ?_, fun z => ?_⟩
  · obtain ⟨z1, z2⟩ := z
    have e := own_sep (dg := dg) hpA hiA (show pA = B / 64 by omega) hiB (Ne.symm hBA)
    rw [z1] at hsB
    rw [a, b, ← hsA, ← hsB] at e
    omega
  · obtain ⟨z1, z2⟩ := z
    have e := own_sep (dg := dg) hpA hiA (show pA = C / 64 by omega) hiC (Ne.symm hCA)
    rw [z1] at hsC
    rw [a, c, ← hsA, ← hsC] at e
    omega
  · obtain ⟨z1, z2⟩ := z
    have e := own_sep (dg := dg) hpB hiB (show pB = C / 64 by omega) hiC (Ne.symm hCB)
    rw [← z1] at hsC
    rw [b, c, ← hsB, ← hsC] at e
    omega
theorem own_hd1 (q : dg = own_uN (own_uN (own_uN own_zN A 2) B 1) C 1) {pA iA : Nat} (hpA : pA = A / 64) (hiA : iA = A % 64) (P i : Nat) (hi : i < own_u P) (h : ¬ (P = pA ∧ i = iA)) : own_S dg P (i + 1) = own_S dg P i ∨ own_S dg P (i + 1) = own_S dg P i + 1 := by
  have u := own_u_le P
  show own_S dg P i + dg (64 * P + i) = _ ∨ own_S dg P i + dg (64 * P + i) = _
  rcases own_dgO q (u := 64 * P + i) (by omega) with e | e <;> rw [e]
  · exact Or.inl rfl
  · exact Or.inr rfl
end OwnLaw

theorem d1_0 : decode jdk_29_method_69_code 0 = .ok (.iload_n 0, 1) := by decide +kernel
theorem d1_1 : decode jdk_29_method_69_code 1 = .ok (.iload_n 1, 1) := by decide +kernel
theorem d1_2 : decode jdk_29_method_69_code 2 = .ok (.if_icmp .gt 7, 3) := by decide +kernel
theorem d1_5 : decode jdk_29_method_69_code 5 = .ok (.iload_n 0, 1) := by decide +kernel
theorem d1_6 : decode jdk_29_method_69_code 6 = .ok (.goto 4, 3) := by decide +kernel
theorem d1_9 : decode jdk_29_method_69_code 9 = .ok (.iload_n 1, 1) := by decide +kernel
theorem d1_10 : decode jdk_29_method_69_code 10 = .ok (.ireturn, 1) := by decide +kernel
theorem ef1 (m : MethodId) (q1 : Int32) (q2 : Int32) : entryFrame m #[(.int q1), (.int q2)] 2 = mkF m 0 #[.val (.int q1), .val (.int q2)] [] := by first | (simp [entryFrame, mkF, argsToLocals, Value.category]; done) | rfl
def Q1 (Z : State) (q1 : Int32) (q2 : Int32) (h0 : Heap) (n0 : Nat) (v : Option Value) (h : Heap) (L : List Loc) : Prop := v = some (.int (if q2 < q1 then q2 else q1)) ∧ Fr n0 L ∧ h = h0
set_option maxRecDepth 65536 in
set_option maxHeartbeats 40000000 in
theorem rm1 (l : Launch) (Z : State) (a0 : Array Value) (hw : ∀ d ∈ tables_1, d.before a0 Z = true) (ws : List Jvm.Cond) (q1 : Int32) (q2 : Int32) (h0 : Heap) (n0 : Nat) (Z0 : n0 ≤ h0.size)  :
    MetFree l (⟨"java/lang/Math", "min", "(II)I"⟩ : MethodName) (head1 (Jvm.Cond.code (⟨"java/lang/Math", "min", "(II)I"⟩ : MethodName) jdk_29_method_69_code 2 (some .int) :: ws) ({ frames := 0, cells := 0, slots := 0, locals := 0 } : Room)) (fun as' U => as' = #[(.int q1), (.int q2)] ∧ Z.Warmed39 U.vm ∧ U.heap = h0) (fun _ _ _ _ _ => True) (fun _ U o U' => ∃ v L, o = .returned v ∧ Q1 Z q1 q2 h0 n0 v U'.heap L ∧ FrameEnd U o U' L ({ frames := 0, cells := 0, slots := 0, locals := 0 } : Room).cells ({ frames := 0, cells := 0, slots := 0, locals := 0 } : Room).slots) := by
  refine own_body (Jvm.Free.JP.mathPlain rfl (by decide +kernel)) ?_
  intro p e s m below meth c s₁ hx hby hml hown0 hnm hret hlk hZ X0 e0
  have hown : s.vm.findClass "java/lang/Math" = some m.cls := hown0
  have N0 := Fr.nil n0
  rw [ef1]
  refine own_st (S' := s₁.setTop (mkF m 2 #[qI q1, qI q2] [(.int q2), (.int q1)])) (fun t k => XS.iloadN X0.here hx rfl (hb hby d1_0) rfl (XS.iloadN X0.here hx rfl (hb hby d1_1) rfl k)) ?_
  obtain ⟨v1, qv1⟩ : ∃ z : Int32, z = (if q2 < q1 then q2 else q1) := ⟨_, rfl⟩
  refine own_st (S' := s₁.setTop (mkF m 10 #[qI q1, qI q2] [(.int v1)])) (fun t k => ?_) ?_
  · show Steps p.tables e below (s₁.setTop (mkF m 2 #[qI q1, qI q2] [(.int q2), (.int q1)])) _
    by_cases hc2 : q2 < q1
    · rw [if_pos hc2] at qv1
      replace qv1 := Eq.symm qv1
      subst qv1
      refine XS.icmpYes X0.here hx rfl (pc0 := 2) (pc' := 9) rfl (hb hby d1_2) rfl (tlt hc2).2.2.1 (by decide) (by decide) ?_
      show Steps p.tables e below (s₁.setTop (mkF m 9 #[qI q1, qI q2] [])) _
      refine XS.iloadN X0.here hx rfl (hb hby d1_9) rfl ?_
      show Steps p.tables e below (s₁.setTop (mkF m 10 #[qI q1, qI q2] [(.int q2)])) _
      exact k
    · rw [if_neg hc2] at qv1
      replace qv1 := Eq.symm qv1
      subst qv1
      refine XS.icmpNo X0.here hx rfl (hb hby d1_2) rfl (flt hc2).2.2.1 ?_
      show Steps p.tables e below (s₁.setTop (mkF m 5 #[qI q1, qI q2] [])) _
      refine XS.iloadN X0.here hx rfl (hb hby d1_5) rfl ?_
      show Steps p.tables e below (s₁.setTop (mkF m 6 #[qI q1, qI q2] [(.int q1)])) _
      refine XS.goto X0.here hx rfl (pc0 := 6) (pc' := 10) rfl (hb hby d1_6) (by decide) (by decide) ?_
      show Steps p.tables e below (s₁.setTop (mkF m 10 #[qI q1, qI q2] [(.int q1)])) _
      exact k
  show own_Go p.tables e below _ (s₁.setTop (mkF m 10 #[qI q1, qI q2] [(.int v1)]))
  refine own_retI X0 hx hret hlk (hb hby d1_10) ?_ (by decide) (by decide)
  rw [e0]
  refine ⟨?_, N0, rfl⟩
  subst_vars
  rfl
theorem d2_0 : decode jdk_29_method_65_code 0 = .ok (.iload_n 0, 1) := by decide +kernel
theorem d2_1 : decode jdk_29_method_65_code 1 = .ok (.iload_n 1, 1) := by decide +kernel
theorem d2_2 : decode jdk_29_method_65_code 2 = .ok (.if_icmp .lt 7, 3) := by decide +kernel
theorem d2_5 : decode jdk_29_method_65_code 5 = .ok (.iload_n 0, 1) := by decide +kernel
theorem d2_6 : decode jdk_29_method_65_code 6 = .ok (.goto 4, 3) := by decide +kernel
theorem d2_9 : decode jdk_29_method_65_code 9 = .ok (.iload_n 1, 1) := by decide +kernel
theorem d2_10 : decode jdk_29_method_65_code 10 = .ok (.ireturn, 1) := by decide +kernel
theorem ef2 (m : MethodId) (q1 : Int32) (q2 : Int32) : entryFrame m #[(.int q1), (.int q2)] 2 = mkF m 0 #[.val (.int q1), .val (.int q2)] [] := by first | (simp [entryFrame, mkF, argsToLocals, Value.category]; done) | rfl
def Q2 (Z : State) (q1 : Int32) (q2 : Int32) (h0 : Heap) (n0 : Nat) (v : Option Value) (h : Heap) (L : List Loc) : Prop := v = some (.int (if q1 < q2 then q2 else q1)) ∧ Fr n0 L ∧ h = h0
set_option maxRecDepth 65536 in
set_option maxHeartbeats 40000000 in
theorem rm2 (l : Launch) (Z : State) (a0 : Array Value) (hw : ∀ d ∈ tables_1, d.before a0 Z = true) (ws : List Jvm.Cond) (q1 : Int32) (q2 : Int32) (h0 : Heap) (n0 : Nat) (Z0 : n0 ≤ h0.size)  :
    MetFree l (⟨"java/lang/Math", "max", "(II)I"⟩ : MethodName) (head1 (Jvm.Cond.code (⟨"java/lang/Math", "max", "(II)I"⟩ : MethodName) jdk_29_method_65_code 2 (some .int) :: ws) ({ frames := 0, cells := 0, slots := 0, locals := 0 } : Room)) (fun as' U => as' = #[(.int q1), (.int q2)] ∧ Z.Warmed39 U.vm ∧ U.heap = h0) (fun _ _ _ _ _ => True) (fun _ U o U' => ∃ v L, o = .returned v ∧ Q2 Z q1 q2 h0 n0 v U'.heap L ∧ FrameEnd U o U' L ({ frames := 0, cells := 0, slots := 0, locals := 0 } : Room).cells ({ frames := 0, cells := 0, slots := 0, locals := 0 } : Room).slots) := by
  refine own_body (Jvm.Free.JP.mathPlain rfl (by decide +kernel)) ?_
  intro p e s m below meth c s₁ hx hby hml hown0 hnm hret hlk hZ X0 e0
  have hown : s.vm.findClass "java/lang/Math" = some m.cls := hown0
  have N0 := Fr.nil n0
  rw [ef2]
  refine own_st (S' := s₁.setTop (mkF m 2 #[qI q1, qI q2] [(.int q2), (.int q1)])) (fun t k => XS.iloadN X0.here hx rfl (hb hby d2_0) rfl (XS.iloadN X0.here hx rfl (hb hby d2_1) rfl k)) ?_
  obtain ⟨v1, qv1⟩ : ∃ z : Int32, z = (if q1 < q2 then q2 else q1) := ⟨_, rfl⟩
  refine own_st (S' := s₁.setTop (mkF m 10 #[qI q1, qI q2] [(.int v1)])) (fun t k => ?_) ?_
  · show Steps p.tables e below (s₁.setTop (mkF m 2 #[qI q1, qI q2] [(.int q2), (.int q1)])) _
    by_cases hc2 : q1 < q2
    · rw [if_pos hc2] at qv1
      replace qv1 := Eq.symm qv1
      subst qv1
      refine XS.icmpYes X0.here hx rfl (pc0 := 2) (pc' := 9) rfl (hb hby d2_2) rfl (tlt hc2).1 (by decide) (by decide) ?_
      show Steps p.tables e below (s₁.setTop (mkF m 9 #[qI q1, qI q2] [])) _
      refine XS.iloadN X0.here hx rfl (hb hby d2_9) rfl ?_
      show Steps p.tables e below (s₁.setTop (mkF m 10 #[qI q1, qI q2] [(.int q2)])) _
      exact k
    · rw [if_neg hc2] at qv1
      replace qv1 := Eq.symm qv1
      subst qv1
      refine XS.icmpNo X0.here hx rfl (hb hby d2_2) rfl (flt hc2).1 ?_
      show Steps p.tables e below (s₁.setTop (mkF m 5 #[qI q1, qI q2] [])) _
      refine XS.iloadN X0.here hx rfl (hb hby d2_5) rfl ?_
      show Steps p.tables e below (s₁.setTop (mkF m 6 #[qI q1, qI q2] [(.int q1)])) _
      refine XS.goto X0.here hx rfl (pc0 := 6) (pc' := 10) rfl (hb hby d2_6) (by decide) (by decide) ?_
      show Steps p.tables e below (s₁.setTop (mkF m 10 #[qI q1, qI q2] [(.int q1)])) _
      exact k
  show own_Go p.tables e below _ (s₁.setTop (mkF m 10 #[qI q1, qI q2] [(.int v1)]))
  refine own_retI X0 hx hret hlk (hb hby d2_10) ?_ (by decide) (by decide)
  rw [e0]
  refine ⟨?_, N0, rfl⟩
  subst_vars
  rfl
theorem d3_0 : decode method_2_code 0 = .ok (.iload_n 0, 1) := by decide +kernel
theorem d3_1 : decode method_2_code 1 = .ok (.bipush 32, 2) := by decide +kernel
theorem d3_3 : decode method_2_code 3 = .ok (.if_icmp .ge 7, 3) := by decide +kernel
theorem d3_6 : decode method_2_code 6 = .ok (.iload_n 0, 1) := by decide +kernel
theorem d3_7 : decode method_2_code 7 = .ok (.goto 7, 3) := by decide +kernel
theorem d3_10 : decode method_2_code 10 = .ok (.iload_n 0, 1) := by decide +kernel
theorem d3_11 : decode method_2_code 11 = .ok (.bipush (-2), 2) := by decide +kernel
theorem d3_13 : decode method_2_code 13 = .ok (.iand, 1) := by decide +kernel
theorem d3_14 : decode method_2_code 14 = .ok (.ireturn, 1) := by decide +kernel
theorem pn3 : plainName "kithrank/BuilderAddPinLaw" = true := by first | (simp [plainName, overriddenIn]; done) | decide +kernel
theorem ef3 (m : MethodId) (q1 : Int32) : entryFrame m #[(.int q1)] 1 = mkF m 0 #[.val (.int q1)] [] := by first | (simp [entryFrame, mkF, argsToLocals, Value.category]; done) | rfl
def Q3 (Z : State) (q1 : Int32) (h0 : Heap) (n0 : Nat) (v : Option Value) (h : Heap) (L : List Loc) : Prop := v = some (.int (if q1 < (32 : Int32) then q1 else (q1 &&& (-2 : Int32)))) ∧ Fr n0 L ∧ h = h0
set_option maxRecDepth 65536 in
set_option maxHeartbeats 40000000 in
theorem rm3 (l : Launch) (Z : State) (a0 : Array Value) (hw : ∀ d ∈ tables_1, d.before a0 Z = true) (ws : List Jvm.Cond) (q1 : Int32) (h0 : Heap) (n0 : Nat) (Z0 : n0 ≤ h0.size)  :
    MetFree l (⟨"kithrank/BuilderAddPinLaw", "key", "(I)I"⟩ : MethodName) (head1 (Jvm.Cond.code (⟨"kithrank/BuilderAddPinLaw", "key", "(I)I"⟩ : MethodName) method_2_code 1 (some .int) :: ws) ({ frames := 0, cells := 0, slots := 0, locals := 0 } : Room)) (fun as' U => as' = #[(.int q1)] ∧ Z.Warmed39 U.vm ∧ U.heap = h0) (fun _ _ _ _ _ => True) (fun _ U o U' => ∃ v L, o = .returned v ∧ Q3 Z q1 h0 n0 v U'.heap L ∧ FrameEnd U o U' L ({ frames := 0, cells := 0, slots := 0, locals := 0 } : Room).cells ({ frames := 0, cells := 0, slots := 0, locals := 0 } : Room).slots) := by
  refine own_body (plainFor_of_name pn3) ?_
  intro p e s m below meth c s₁ hx hby hml hown0 hnm hret hlk hZ X0 e0
  have hown : s.vm.findClass "kithrank/BuilderAddPinLaw" = some m.cls := hown0
  have N0 := Fr.nil n0
  rw [ef3]
  refine own_st (S' := s₁.setTop (mkF m 3 #[qI q1] [(.int (32 : Int32)), (.int q1)])) (fun t k => XS.iloadN X0.here hx rfl (hb hby d3_0) rfl (XS.bipush X0.here hx rfl (hb hby d3_1) k)) ?_
  obtain ⟨v1, qv1⟩ : ∃ z : Int32, z = (if q1 < (32 : Int32) then q1 else (q1 &&& (-2 : Int32))) := ⟨_, rfl⟩
  refine own_st (S' := s₁.setTop (mkF m 14 #[qI q1] [(.int v1)])) (fun t k => ?_) ?_
  · show Steps p.tables e below (s₁.setTop (mkF m 3 #[qI q1] [(.int (32 : Int32)), (.int q1)])) _
    by_cases hc2 : q1 < (32 : Int32)
    · rw [if_pos hc2] at qv1
      replace qv1 := Eq.symm qv1
      subst qv1
      refine XS.icmpNo X0.here hx rfl (hb hby d3_3) rfl (tlt hc2).2.1 ?_
      show Steps p.tables e below (s₁.setTop (mkF m 6 #[qI q1] [])) _
      refine XS.iloadN X0.here hx rfl (hb hby d3_6) rfl ?_
      show Steps p.tables e below (s₁.setTop (mkF m 7 #[qI q1] [(.int q1)])) _
      refine XS.goto X0.here hx rfl (pc0 := 7) (pc' := 14) rfl (hb hby d3_7) (by decide) (by decide) ?_
      show Steps p.tables e below (s₁.setTop (mkF m 14 #[qI q1] [(.int q1)])) _
      exact k
    · rw [if_neg hc2] at qv1
      replace qv1 := Eq.symm qv1
      subst qv1
      refine XS.icmpYes X0.here hx rfl (pc0 := 3) (pc' := 10) rfl (hb hby d3_3) rfl (flt hc2).2.1 (by decide) (by decide) ?_
      show Steps p.tables e below (s₁.setTop (mkF m 10 #[qI q1] [])) _
      refine XS.iloadN X0.here hx rfl (hb hby d3_10) rfl ?_
      show Steps p.tables e below (s₁.setTop (mkF m 11 #[qI q1] [(.int q1)])) _
      refine XS.bipush X0.here hx rfl (hb hby d3_11) ?_
      show Steps p.tables e below (s₁.setTop (mkF m 13 #[qI q1] [(.int (-2 : Int32)), (.int q1)])) _
      refine XS.iand X0.here hx rfl (hb hby d3_13) rfl ?_
      show Steps p.tables e below (s₁.setTop (mkF m 14 #[qI q1] [(.int (q1 &&& (-2 : Int32)))])) _
      exact k
  show own_Go p.tables e below _ (s₁.setTop (mkF m 14 #[qI q1] [(.int v1)]))
  refine own_retI X0 hx hret hlk (hb hby d3_14) ?_ (by decide) (by decide)
  rw [e0]
  refine ⟨?_, N0, rfl⟩
  subst_vars
  rfl
theorem d4_0 : decode prog_62_method_6_code 0 = .ok (.dload_n 0, 1) := by decide +kernel
theorem d4_1 : decode prog_62_method_6_code 1 = .ok (.invokestatic 89, 3) := by decide +kernel
theorem d4_4 : decode prog_62_method_6_code 4 = .ok (.bipush 48, 2) := by decide +kernel
theorem d4_6 : decode prog_62_method_6_code 6 = .ok (.lushr, 1) := by decide +kernel
theorem d4_7 : decode prog_62_method_6_code 7 = .ok (.l2i, 1) := by decide +kernel
theorem d4_8 : decode prog_62_method_6_code 8 = .ok (.ireturn, 1) := by decide +kernel
theorem pn4 : plainName "kithrank/Graph" = true := by first | (simp [plainName, overriddenIn]; done) | decide +kernel
theorem ef4 (m : MethodId) (d : UInt64) : entryFrame m #[(.double d)] 2 = mkF m 0 #[.val (.double d), .second] [] := by first | (simp [entryFrame, mkF, argsToLocals, Value.category]; done) | rfl
def Q4 (Z : State) (d : UInt64) (h0 : Heap) (n0 : Nat) (v : Option Value) (h : Heap) (L : List Loc) : Prop := v = some (.int (own_wc d)) ∧ Fr n0 L ∧ h = h0
set_option maxRecDepth 65536 in
set_option maxHeartbeats 40000000 in
theorem rm4 (l : Launch) (Z : State) (a0 : Array Value) (hw : ∀ d ∈ tables_1, d.before a0 Z = true) (ws : List Jvm.Cond) (d : UInt64) (h0 : Heap) (n0 : Nat) (Z0 : n0 ≤ h0.size)  :
    MetFree l (⟨"kithrank/Graph", "weightClass", "(D)I"⟩ : MethodName) (head1 (Jvm.Cond.code (⟨"kithrank/Graph", "weightClass", "(D)I"⟩ : MethodName) prog_62_method_6_code 2 (some .int) :: ws) ({ frames := 1, cells := 0, slots := 0, locals := 15 } : Room)) (fun as' U => as' = #[(.double d)] ∧ Z.Warmed39 U.vm ∧ U.heap = h0) (fun _ _ _ _ _ => True) (fun _ U o U' => ∃ v L, o = .returned v ∧ Q4 Z d h0 n0 v U'.heap L ∧ FrameEnd U o U' L ({ frames := 1, cells := 0, slots := 0, locals := 15 } : Room).cells ({ frames := 1, cells := 0, slots := 0, locals := 15 } : Room).slots) := by
  refine own_body (plainFor_of_name pn4) ?_
  intro p e s m below meth c s₁ hx hby hml hown0 hnm hret hlk hZ X0 e0
  have hown : s.vm.findClass "kithrank/Graph" = some m.cls := hown0
  have N0 := Fr.nil n0
  rw [ef4]
  refine own_st (S' := s₁.setTop (mkF m 1 #[qD d, qZ] [(.double d)])) (fun t k => XS.dloadN X0.here hx rfl (hb hby d4_0) rfl k) ?_
  obtain ⟨vm1, X1, st1⟩ := X0.doubleToRawLongBits hx hown (mvT hZ (own_hw hw (i := 89) rfl)) (mvT hZ (own_hw hw (i := 92) rfl)) (mvT hZ (own_hw hw (i := 90) rfl)) (mvT hZ (own_hw hw (i := 91) rfl)) (g := (mkF m 1 #[qD d, qZ] [(.double d)])) rfl (by rw [hml]; rfl) (b := d) (rest := []) rfl (hb hby d4_1) (by decide) (by show 2 * 0 + 0 + (nativeFrameWords "java/lang/Double" "doubleToRawLongBits" 2 + 11) ≤ _; decide)
  have e1 : (s₁.setVm vm1).heap = h0 := e0
  refine own_st st1 ?_
  refine own_st (S' := (s₁.setVm vm1).setTop (mkF m 8 #[qD d, qZ] [(.int ((d.toInt64.toUInt64 >>> ((48 : Int32) &&& 0x3f).toInt64.toUInt64).toInt64).toInt32)])) (fun t k => XS.bipush X1.here hx rfl (hb hby d4_4) (XS.lushr X1.here hx rfl (hb hby d4_6) rfl (XS.l2i X1.here hx rfl (hb hby d4_7) rfl k))) ?_
  refine own_retI X1 hx hret hlk (hb hby d4_8) ?_ (by decide) (by decide)
  rw [e1]
  exact ⟨rfl, N0, rfl⟩
theorem d5_0 : decode jdk_65_method_30_code 0 = .ok (.iload_n 1, 1) := by decide +kernel
theorem d5_1 : decode jdk_65_method_30_code 1 = .ok (.iload_n 2, 1) := by decide +kernel
theorem d5_2 : decode jdk_65_method_30_code 2 = .ok (.if_icmp .le 44, 3) := by decide +kernel
theorem d5_46 : decode jdk_65_method_30_code 46 = .ok (.iload_n 1, 1) := by decide +kernel
theorem d5_47 : decode jdk_65_method_30_code 47 = .ok (.ifCond .ge 12, 3) := by decide +kernel
theorem d5_59 : decode jdk_65_method_30_code 59 = .ok (.iload_n 2, 1) := by decide +kernel
theorem d5_60 : decode jdk_65_method_30_code 60 = .ok (.iload_n 0, 1) := by decide +kernel
theorem d5_61 : decode jdk_65_method_30_code 61 = .ok (.if_icmp .le 12, 3) := by decide +kernel
theorem d5_73 : decode jdk_65_method_30_code 73 = .ok (.return_, 1) := by decide +kernel
theorem pn5 : plainName "java/util/Arrays" = true := by first | (simp [plainName, overriddenIn]; done) | decide +kernel
theorem ef5 (m : MethodId) (q1 : Int32) (q2 : Int32) (q3 : Int32) : entryFrame m #[(.int q1), (.int q2), (.int q3)] 3 = mkF m 0 #[.val (.int q1), .val (.int q2), .val (.int q3)] [] := by first | (simp [entryFrame, mkF, argsToLocals, Value.category]; done) | rfl
def Q5 (Z : State) (q1 : Int32) (q2 : Int32) (q3 : Int32) (h0 : Heap) (n0 : Nat) (v : Option Value) (h : Heap) (L : List Loc) : Prop := v = none ∧ Fr n0 L ∧ h = h0
set_option maxRecDepth 65536 in
set_option maxHeartbeats 40000000 in
theorem rm5 (l : Launch) (Z : State) (a0 : Array Value) (hw : ∀ d ∈ tables_1, d.before a0 Z = true) (ws : List Jvm.Cond) (q1 : Int32) (q2 : Int32) (q3 : Int32) (h0 : Heap) (n0 : Nat) (Z0 : n0 ≤ h0.size) (h1 : ¬ q3 < q2) (h2 : ¬ q2 < (0 : Int32)) (h3 : ¬ q1 < q3) :
    MetFree l (⟨"java/util/Arrays", "rangeCheck", "(III)V"⟩ : MethodName) (head1 (Jvm.Cond.code (⟨"java/util/Arrays", "rangeCheck", "(III)V"⟩ : MethodName) jdk_65_method_30_code 3 none :: ws) ({ frames := 0, cells := 0, slots := 0, locals := 0 } : Room)) (fun as' U => as' = #[(.int q1), (.int q2), (.int q3)] ∧ Z.Warmed39 U.vm ∧ U.heap = h0) (fun _ _ _ _ _ => True) (fun _ U o U' => ∃ v L, o = .returned v ∧ Q5 Z q1 q2 q3 h0 n0 v U'.heap L ∧ FrameEnd U o U' L ({ frames := 0, cells := 0, slots := 0, locals := 0 } : Room).cells ({ frames := 0, cells := 0, slots := 0, locals := 0 } : Room).slots) := by
  refine own_body (plainFor_of_name pn5) ?_
  intro p e s m below meth c s₁ hx hby hml hown0 hnm hret hlk hZ X0 e0
  have hown : s.vm.findClass "java/util/Arrays" = some m.cls := hown0
  have N0 := Fr.nil n0
  rw [ef5]
  have hc1 : ¬ (q3 < q2) := h1
  have hc2 : ¬ (q2 < (0 : Int32)) := h2
  have hc3 : ¬ (q1 < q3) := h3
  refine own_st (S' := s₁.setTop (mkF m 73 #[qI q1, qI q2, qI q3] [])) (fun t k => XS.iloadN X0.here hx rfl (hb hby d5_0) rfl (XS.iloadN X0.here hx rfl (hb hby d5_1) rfl (XS.icmpYes X0.here hx rfl (pc0 := 2) (pc' := 46) rfl (hb hby d5_2) rfl (flt hc1).2.2.2 (by decide) (by decide) (XS.iloadN X0.here hx rfl (hb hby d5_46) rfl (XS.ifYes X0.here hx rfl (pc0 := 47) (pc' := 59) rfl (hb hby d5_47) rfl ((if0 _ _).trans (flt hc2).2.1) (by decide) (by decide) (XS.iloadN X0.here hx rfl (hb hby d5_59) rfl (XS.iloadN X0.here hx rfl (hb hby d5_60) rfl (XS.icmpYes X0.here hx rfl (pc0 := 61) (pc' := 73) rfl (hb hby d5_61) rfl (flt hc3).2.2.2 (by decide) (by decide) k)))))))) ?_
  refine own_retV X0 hx hret hlk (hb hby d5_73) ?_ (by decide) (by decide)
  rw [e0]
  exact ⟨rfl, N0, rfl⟩
theorem d6_0 : decode jdk_65_method_104_code 0 = .ok (.aload_n 0, 1) := by decide +kernel
theorem d6_1 : decode jdk_65_method_104_code 1 = .ok (.arraylength, 1) := by decide +kernel
theorem d6_2 : decode jdk_65_method_104_code 2 = .ok (.iload_n 1, 1) := by decide +kernel
theorem d6_3 : decode jdk_65_method_104_code 3 = .ok (.iload_n 2, 1) := by decide +kernel
theorem d6_4 : decode jdk_65_method_104_code 4 = .ok (.invokestatic 13, 3) := by decide +kernel
theorem d6_7 : decode jdk_65_method_104_code 7 = .ok (.iload_n 1, 1) := by decide +kernel
theorem d6_8 : decode jdk_65_method_104_code 8 = .ok (.istore 4, 2) := by decide +kernel
theorem d6_10 : decode jdk_65_method_104_code 10 = .ok (.iload 4, 2) := by decide +kernel
theorem d6_12 : decode jdk_65_method_104_code 12 = .ok (.iload_n 2, 1) := by decide +kernel
theorem d6_13 : decode jdk_65_method_104_code 13 = .ok (.if_icmp .ge 14, 3) := by decide +kernel
theorem d6_16 : decode jdk_65_method_104_code 16 = .ok (.aload_n 0, 1) := by decide +kernel
theorem d6_17 : decode jdk_65_method_104_code 17 = .ok (.iload 4, 2) := by decide +kernel
theorem d6_19 : decode jdk_65_method_104_code 19 = .ok (.iload_n 3, 1) := by decide +kernel
theorem d6_20 : decode jdk_65_method_104_code 20 = .ok (.iastore, 1) := by decide +kernel
theorem d6_21 : decode jdk_65_method_104_code 21 = .ok (.iinc 4 1, 3) := by decide +kernel
theorem d6_24 : decode jdk_65_method_104_code 24 = .ok (.goto (-14), 3) := by decide +kernel
theorem d6_27 : decode jdk_65_method_104_code 27 = .ok (.return_, 1) := by decide +kernel
theorem pd6_0 : parseMethodDescriptor "(III)V" = some ⟨[.int, .int, .int], none⟩ := by decide +kernel
theorem pn6 : plainName "java/util/Arrays" = true := by first | (simp [plainName, overriddenIn]; done) | decide +kernel
theorem ef6 (m : MethodId) (a : Addr) (t1 : Int32) : entryFrame m #[(.ref a), (.int (0 : Int32)), (.int t1), (.int (0 : Int32))] 5 = mkF m 0 #[.val (.ref a), .val (.int (0 : Int32)), .val (.int t1), .val (.int (0 : Int32)), .unset] [] := by first | (simp [entryFrame, mkF, argsToLocals, Value.category]; done) | rfl
def Q6 (Z : State) (a : Addr) (t1 : Int32) (f : Nat → Int32) (nn : Nat) (h0 : Heap) (n0 : Nat) (v : Option Value) (h : Heap) (L : List Loc) : Prop := v = none ∧ Fr n0 L ∧ Keep h0 h [a] ∧ own_A Z h a .int 16370 (own_I (own_fz f nn))
set_option maxRecDepth 65536 in
set_option maxHeartbeats 40000000 in
theorem rm6 (l : Launch) (Z : State) (a0 : Array Value) (hw : ∀ d ∈ tables_1, d.before a0 Z = true) (ws : List Jvm.Cond) (a : Addr) (t1 : Int32) (f : Nat → Int32) (nn : Nat) (h0 : Heap) (n0 : Nat) (Z0 : n0 ≤ h0.size) (A_a : own_A Z h0 a .int 16370 (own_I f)) (G_a : n0 ≤ a) (ht : t1 = Int32.ofNat nn) (hn : nn ≤ 16370) :
    MetFree l (⟨"java/util/Arrays", "fill", "([IIII)V"⟩ : MethodName) (head1 (Jvm.Cond.code (⟨"java/util/Arrays", "fill", "([IIII)V"⟩ : MethodName) jdk_65_method_104_code 5 none :: ws) ({ frames := 1, cells := 0, slots := 0, locals := 14 } : Room)) (fun as' U => as' = #[(.ref a), (.int (0 : Int32)), (.int t1), (.int (0 : Int32))] ∧ Z.Warmed39 U.vm ∧ U.heap = h0) (fun _ _ _ _ _ => True) (fun _ U o U' => ∃ v L, o = .returned v ∧ Q6 Z a t1 f nn h0 n0 v U'.heap L ∧ FrameEnd U o U' L ({ frames := 1, cells := 0, slots := 0, locals := 14 } : Room).cells ({ frames := 1, cells := 0, slots := 0, locals := 14 } : Room).slots) := by
  refine own_body (plainFor_of_name pn6) ?_
  intro p e s m below meth c s₁ hx hby hml hown0 hnm hret hlk hZ X0 e0
  have hown : s.vm.findClass "java/util/Arrays" = some m.cls := hown0
  have N0 := Fr.nil n0
  rw [ef6]
  have K0 : Keep h0 h0 [a] := Keep.refl h0 [a]
  have O1 := A_a
  obtain ⟨c1, Ar1, S1, M1, V1⟩ := O1
  have ln1 : c1.slots.size.toInt32 = (16370 : Int32) := by rw [S1]; try (first | rfl | decide | exact rfl)
  refine own_st (S' := s₁.setTop (mkF m 4 #[qA a, qI (0 : Int32), qI t1, qI (0 : Int32), qU] [(.int t1), (.int (0 : Int32)), (.int (16370 : Int32))])) (fun t k => XS.aloadN X0.here hx rfl (hb hby d6_0) rfl rfl (X0.arraylength hx (by rw [e0]; exact Ar1.1) (State.isArrayOf_alike hZ.alike Ar1.2.1) (g := (mkF m 1 #[qA a, qI (0 : Int32), qI t1, qI (0 : Int32), qU] [(.ref a)])) rfl rfl (hb hby d6_1) _ (by rw [ln1]; exact (XS.iloadN X0.here hx rfl (hb hby d6_2) rfl (XS.iloadN X0.here hx rfl (hb hby d6_3) rfl k))))) ?_
  obtain ⟨_, _, ⟨T2, L2, k2, n2⟩, -, X2, ⟨Lc2, hQ2, l2, y2, z2⟩, st2⟩ := Jvm.LawKit.callS X0 hx (y := (⟨"java/util/Arrays", "rangeCheck", "(III)V"⟩ : MethodName)) hown (mvT hZ (own_hw hw (i := 103) rfl)) (mvT hZ (own_hw hw (i := 104) rfl)) (mvT hZ (own_hw hw (i := 101) rfl)) (mvT hZ (own_hw hw (i := 105) rfl)) (by decide) (backOf (W := 0) (rm5 l Z a0 hw [] (16370 : Int32) (0 : Int32) t1 h0 n0 Z0 (by rw [ht]; exact fun q => by have := Int32.lt_iff_toInt_lt.mp q; rw [own_toI (by omega)] at this; have z : (0 : Int32).toInt = 0 := rfl; omega) (by decide) (by rw [ht]; exact fun q => by have := Int32.lt_iff_toInt_lt.mp q; rw [own_toI (by omega)] at this; have z : (16370 : Int32).toInt = 16370 := rfl; omega)) hZ (own_hw hw (i := 105) rfl) (own_hw hw (i := 101) rfl) (by decide) (by decide)) (g := (mkF m 4 #[qA a, qI (0 : Int32), qI t1, qI (0 : Int32), qU] [(.int t1), (.int (0 : Int32)), (.int (16370 : Int32))])) rfl (by rw [hml]; rfl) (argsL := [(.int (16370 : Int32)), (.int (0 : Int32)), (.int t1)]) (rest := []) (lenOf pd6_0 rfl) rfl (by show 2 * 0 + _ ≤ _; exact Nat.le_of_eq rfl) (hb hby d6_4) (fun _ _ => ⟨rfl, e0, (by decide : 0 + 0 ≤ _), (by decide : 0 + 0 ≤ _)⟩)
  dsimp only [Pt.U, Pt.locs, Pt.cells, Pt.slots] at X2 l2 y2 z2 st2 hQ2
  rw [l2, y2, z2] at X2
  obtain ⟨rfl, N2q, hh2⟩ := hQ2
  have N2 := Fr.app N0 N2q
  refine own_st st2 ?_
  refine own_st (S' := T2.setTop (mkF m 10 #[qA a, qI (0 : Int32), qI t1, qI (0 : Int32), qI (0 : Int32)] [])) (fun t k => XS.iloadN X2.here hx rfl (hb hby d6_7) rfl (XS.istore X2.here hx rfl (hb hby d6_8) rfl (l' := #[qA a, qI (0 : Int32), qI t1, qI (0 : Int32), qI (0 : Int32)]) rfl k)) ?_
  have loop : ∀ (n : Nat) (T : State) (L : List Loc) (i : Nat), Stand p l e ({ frames := 1, cells := 0, slots := 0, locals := 14 } : Room) s m #[(.ref a), (.int (0 : Int32)), (.int t1), (.int (0 : Int32))] below meth c T L 0 0 → Fr n0 L → Keep h0 T.heap [a] →  n0 ≤ T.heap.size → own_A Z T.heap a .int 16370 (own_I (own_fz f i)) → (i + n = nn) →  own_Go p.tables e below (own_F s (Q6 Z a t1 f nn h0 n0) 0 0) (T.setTop (mkF m 10 #[qA a, qI (0 : Int32), qI t1, qI (0 : Int32), qN i] [])) := by
    intro n
    induction n with
    | zero =>
      intro T L i X N K Zz lf0 hi
      have hi' : i = nn := by omega
      rw [hi'] at lf0 ⊢
      have hc3 : ¬ ((Int32.ofNat nn) < t1) := by rw [ht, own_ltN (by omega) (by omega)]; omega
      refine own_st (S' := T.setTop (mkF m 27 #[qA a, qI (0 : Int32), qI t1, qI (0 : Int32), qN nn] [])) (fun t k => XS.iload X.here hx rfl (hb hby d6_10) rfl (XS.iloadN X.here hx rfl (hb hby d6_12) rfl (XS.icmpYes X.here hx rfl (pc0 := 13) (pc' := 27) rfl (hb hby d6_13) rfl (flt hc3).2.1 (by decide) (by decide) k))) ?_
      refine own_retV X hx hret hlk (hb hby d6_27) ?_ (by decide) (by decide)
      exact ⟨rfl, N, K, lf0⟩
    | succ n ih =>
      intro T L i X N K Zz lf0 hi
      have hc4 : (Int32.ofNat i) < t1 := by rw [ht, own_ltN (by omega) (by omega)]; omega
      refine own_st (S' := T.setTop (mkF m 20 #[qA a, qI (0 : Int32), qI t1, qI (0 : Int32), qN i] [(.int (0 : Int32)), qV i, (.ref a)])) (fun t k => XS.iload X.here hx rfl (hb hby d6_10) rfl (XS.iloadN X.here hx rfl (hb hby d6_12) rfl (XS.icmpNo X.here hx rfl (hb hby d6_13) rfl (tlt hc4).2.1 (XS.aloadN X.here hx rfl (hb hby d6_16) rfl rfl (XS.iload X.here hx rfl (hb hby d6_17) rfl (XS.iloadN X.here hx rfl (hb hby d6_19) rfl k)))))) ?_
      have O5 := lf0
      obtain ⟨c5, Ar5, S5, M5, V5⟩ := O5
      obtain ⟨T5, h5, X5, e5, W5, st5⟩ := stI X hx hZ rfl Ar5 (j := (Int32.ofNat i)) (own_in S5 (own_ixN (by omega) (by decide))) (g := (mkF m 20 #[qA a, qI (0 : Int32), qI t1, qI (0 : Int32), qN i] [(.int (0 : Int32)), qV i, (.ref a)])) rfl rfl (hb hby d6_20)
      refine own_st st5 ?_
      have Z5 : n0 ≤ h5.size := Nat.le_trans Zz (Keep.of_wr W5).1
      have N5 := Fr.snoc X5 N G_a
      have K5 : Keep h0 h5 [a] := K.wr W5 (Or.inl (List.mem_of_getElem? (i := 0) rfl))
      have f6 : own_A Z h5 a .int 16370 (own_I (own_uI (own_fz f i) i (0 : Int32))) := by rw [← own_upI]; exact own_A.set ⟨c5, Ar5, S5, M5, V5⟩ (own_ixN (by omega) (by decide)) W5
      refine own_st (S' := T5.setTop (mkF m 10 #[qA a, qI (0 : Int32), qI t1, qI (0 : Int32), qI ((Int32.ofNat i) + (1 : Int32))] [])) (fun t k => XS.iinc X5.here hx rfl (hb hby d6_21) rfl (l' := #[qA a, qI (0 : Int32), qI t1, qI (0 : Int32), qI ((Int32.ofNat i) + (1 : Int32))]) rfl (XS.goto X5.here hx rfl (pc0 := 24) (pc' := 10) rfl (hb hby d6_24) (by decide) (by decide) k)) ?_
      rw [own_incN (by omega)]
      exact ih _ _ (i + 1) X5 N5 (by rw [e5]; exact K5) (by rw [e5]; exact Z5) (by rw [e5]; exact (by rw [← own_fzS]; exact f6)) (by omega)
  exact loop nn _ _ 0 X2 N2 (by rw [hh2]; exact K0) (by rw [hh2]; exact Z0) (by rw [hh2]; exact (by rw [own_fz0]; exact A_a)) (Nat.zero_add nn)
theorem d7_0 : decode prog_64_method_2_code 0 = .ok (.iconst 0, 1) := by decide +kernel
theorem d7_1 : decode prog_64_method_2_code 1 = .ok (.istore 5, 2) := by decide +kernel
theorem d7_3 : decode prog_64_method_2_code 3 = .ok (.iload_n 3, 1) := by decide +kernel
theorem d7_4 : decode prog_64_method_2_code 4 = .ok (.istore 6, 2) := by decide +kernel
theorem d7_6 : decode prog_64_method_2_code 6 = .ok (.iload 6, 2) := by decide +kernel
theorem d7_8 : decode prog_64_method_2_code 8 = .ok (.iload 4, 2) := by decide +kernel
theorem d7_10 : decode prog_64_method_2_code 10 = .ok (.if_icmp .ge 23, 3) := by decide +kernel
theorem d7_33 : decode prog_64_method_2_code 33 = .ok (.iload 5, 2) := by decide +kernel
theorem d7_35 : decode prog_64_method_2_code 35 = .ok (.istore 6, 2) := by decide +kernel
theorem d7_37 : decode prog_64_method_2_code 37 = .ok (.iload_n 3, 1) := by decide +kernel
theorem d7_38 : decode prog_64_method_2_code 38 = .ok (.istore 7, 2) := by decide +kernel
theorem d7_40 : decode prog_64_method_2_code 40 = .ok (.iload 7, 2) := by decide +kernel
theorem d7_42 : decode prog_64_method_2_code 42 = .ok (.iload 4, 2) := by decide +kernel
theorem d7_44 : decode prog_64_method_2_code 44 = .ok (.if_icmp .ge 43, 3) := by decide +kernel
theorem d7_87 : decode prog_64_method_2_code 87 = .ok (.iconst 1, 1) := by decide +kernel
theorem d7_88 : decode prog_64_method_2_code 88 = .ok (.istore 7, 2) := by decide +kernel
theorem d7_90 : decode prog_64_method_2_code 90 = .ok (.iload 7, 2) := by decide +kernel
theorem d7_92 : decode prog_64_method_2_code 92 = .ok (.iload 5, 2) := by decide +kernel
theorem d7_94 : decode prog_64_method_2_code 94 = .ok (.iload 6, 2) := by decide +kernel
theorem d7_96 : decode prog_64_method_2_code 96 = .ok (.isub, 1) := by decide +kernel
theorem d7_97 : decode prog_64_method_2_code 97 = .ok (.iconst 1, 1) := by decide +kernel
theorem d7_98 : decode prog_64_method_2_code 98 = .ok (.iadd, 1) := by decide +kernel
theorem d7_99 : decode prog_64_method_2_code 99 = .ok (.if_icmp .gt 28, 3) := by decide +kernel
theorem d7_102 : decode prog_64_method_2_code 102 = .ok (.aload_n 0, 1) := by decide +kernel
theorem d7_103 : decode prog_64_method_2_code 103 = .ok (.getfield 13, 3) := by decide +kernel
theorem d7_106 : decode prog_64_method_2_code 106 = .ok (.iload 7, 2) := by decide +kernel
theorem d7_108 : decode prog_64_method_2_code 108 = .ok (.dup2, 1) := by decide +kernel
theorem d7_109 : decode prog_64_method_2_code 109 = .ok (.iaload, 1) := by decide +kernel
theorem d7_110 : decode prog_64_method_2_code 110 = .ok (.aload_n 0, 1) := by decide +kernel
theorem d7_111 : decode prog_64_method_2_code 111 = .ok (.getfield 13, 3) := by decide +kernel
theorem d7_114 : decode prog_64_method_2_code 114 = .ok (.iload 7, 2) := by decide +kernel
theorem d7_116 : decode prog_64_method_2_code 116 = .ok (.iconst 1, 1) := by decide +kernel
theorem d7_117 : decode prog_64_method_2_code 117 = .ok (.isub, 1) := by decide +kernel
theorem d7_118 : decode prog_64_method_2_code 118 = .ok (.iaload, 1) := by decide +kernel
theorem d7_119 : decode prog_64_method_2_code 119 = .ok (.iadd, 1) := by decide +kernel
theorem d7_120 : decode prog_64_method_2_code 120 = .ok (.iastore, 1) := by decide +kernel
theorem d7_121 : decode prog_64_method_2_code 121 = .ok (.iinc 7 1, 3) := by decide +kernel
theorem d7_124 : decode prog_64_method_2_code 124 = .ok (.goto (-34), 3) := by decide +kernel
theorem d7_127 : decode prog_64_method_2_code 127 = .ok (.iload_n 3, 1) := by decide +kernel
theorem d7_128 : decode prog_64_method_2_code 128 = .ok (.istore 7, 2) := by decide +kernel
theorem d7_130 : decode prog_64_method_2_code 130 = .ok (.iload 7, 2) := by decide +kernel
theorem d7_132 : decode prog_64_method_2_code 132 = .ok (.iload 4, 2) := by decide +kernel
theorem d7_134 : decode prog_64_method_2_code 134 = .ok (.if_icmp .ge 53, 3) := by decide +kernel
theorem d7_187 : decode prog_64_method_2_code 187 = .ok (.aload_n 0, 1) := by decide +kernel
theorem d7_188 : decode prog_64_method_2_code 188 = .ok (.getfield 19, 3) := by decide +kernel
theorem d7_191 : decode prog_64_method_2_code 191 = .ok (.iconst 0, 1) := by decide +kernel
theorem d7_192 : decode prog_64_method_2_code 192 = .ok (.aload_n 1, 1) := by decide +kernel
theorem d7_193 : decode prog_64_method_2_code 193 = .ok (.iload_n 3, 1) := by decide +kernel
theorem d7_194 : decode prog_64_method_2_code 194 = .ok (.iload 4, 2) := by decide +kernel
theorem d7_196 : decode prog_64_method_2_code 196 = .ok (.iload_n 3, 1) := by decide +kernel
theorem d7_197 : decode prog_64_method_2_code 197 = .ok (.isub, 1) := by decide +kernel
theorem d7_198 : decode prog_64_method_2_code 198 = .ok (.invokestatic 39, 3) := by decide +kernel
theorem d7_201 : decode prog_64_method_2_code 201 = .ok (.aload_n 0, 1) := by decide +kernel
theorem d7_202 : decode prog_64_method_2_code 202 = .ok (.getfield 22, 3) := by decide +kernel
theorem d7_205 : decode prog_64_method_2_code 205 = .ok (.iconst 0, 1) := by decide +kernel
theorem d7_206 : decode prog_64_method_2_code 206 = .ok (.aload_n 2, 1) := by decide +kernel
theorem d7_207 : decode prog_64_method_2_code 207 = .ok (.iload_n 3, 1) := by decide +kernel
theorem d7_208 : decode prog_64_method_2_code 208 = .ok (.iload 4, 2) := by decide +kernel
theorem d7_210 : decode prog_64_method_2_code 210 = .ok (.iload_n 3, 1) := by decide +kernel
theorem d7_211 : decode prog_64_method_2_code 211 = .ok (.isub, 1) := by decide +kernel
theorem d7_212 : decode prog_64_method_2_code 212 = .ok (.invokestatic 39, 3) := by decide +kernel
theorem d7_215 : decode prog_64_method_2_code 215 = .ok (.aload_n 0, 1) := by decide +kernel
theorem d7_216 : decode prog_64_method_2_code 216 = .ok (.getfield 13, 3) := by decide +kernel
theorem d7_219 : decode prog_64_method_2_code 219 = .ok (.iconst 0, 1) := by decide +kernel
theorem d7_220 : decode prog_64_method_2_code 220 = .ok (.iload 5, 2) := by decide +kernel
theorem d7_222 : decode prog_64_method_2_code 222 = .ok (.iload 6, 2) := by decide +kernel
theorem d7_224 : decode prog_64_method_2_code 224 = .ok (.isub, 1) := by decide +kernel
theorem d7_225 : decode prog_64_method_2_code 225 = .ok (.iconst 2, 1) := by decide +kernel
theorem d7_226 : decode prog_64_method_2_code 226 = .ok (.iadd, 1) := by decide +kernel
theorem d7_227 : decode prog_64_method_2_code 227 = .ok (.iconst 0, 1) := by decide +kernel
theorem d7_228 : decode prog_64_method_2_code 228 = .ok (.invokestatic 45, 3) := by decide +kernel
theorem d7_231 : decode prog_64_method_2_code 231 = .ok (.return_, 1) := by decide +kernel
theorem pd7_0 : parseMethodDescriptor "([IIII)V" = some ⟨[(.array .int), .int, .int, .int], none⟩ := by decide +kernel
theorem pn7 : plainName "kithrank/Graph$ClassSort" = true := by first | (simp [plainName, overriddenIn]; done) | decide +kernel
theorem ef7 (m : MethodId) (ob : Addr) (tg : Addr) (wt : Addr) (x1 : Int32) (x2 : Int32) : entryFrame m #[(.ref ob), (.ref tg), (.ref wt), (.int x1), (.int x2)] 9 = mkF m 0 #[.val (.ref ob), .val (.ref tg), .val (.ref wt), .val (.int x1), .val (.int x2), .unset, .unset, .unset, .unset] [] := by first | (simp [entryFrame, mkF, argsToLocals, Value.category]; done) | rfl
def Q7 (Z : State) (ob : Addr) (tg : Addr) (wt : Addr) (x1 : Int32) (x2 : Int32) (pl : Addr) (sT : Addr) (sW : Addr) (nt : Nat) (f1 : Nat → Int32) (f2 : Nat → UInt64) (f3 : Nat → Int32) (f4 : Nat → UInt64) (x : Nat) (h0 : Heap) (n0 : Nat) (v : Option Value) (h : Heap) (L : List Loc) : Prop := v = none ∧ Fr n0 L ∧ Keep h0 h [pl, tg, wt] ∧ own_A Z h pl .int 16370 (own_I own_z) ∧ own_A Z h tg .int nt (own_I f3) ∧ own_A Z h wt .double nt (own_D f4)
set_option maxRecDepth 65536 in
set_option maxHeartbeats 40000000 in
theorem rm7 (l : Launch) (Z : State) (a0 : Array Value) (hw : ∀ d ∈ tables_1, d.before a0 Z = true) (ws : List Jvm.Cond) (ob : Addr) (tg : Addr) (wt : Addr) (x1 : Int32) (x2 : Int32) (pl : Addr) (sT : Addr) (sW : Addr) (nt : Nat) (f1 : Nat → Int32) (f2 : Nat → UInt64) (f3 : Nat → Int32) (f4 : Nat → UInt64) (x : Nat) (h0 : Heap) (n0 : Nat) (Z0 : n0 ≤ h0.size) (E_ob : Exa Z h0 ob "kithrank/Graph$ClassSort") (F_ob_place : Fld Z h0 ob "kithrank/Graph$ClassSort" "place" "[I" (.ref pl)) (F_ob_sortedTarget : Fld Z h0 ob "kithrank/Graph$ClassSort" "sortedTarget" "[I" (.ref sT)) (F_ob_sortedWeight : Fld Z h0 ob "kithrank/Graph$ClassSort" "sortedWeight" "[D" (.ref sW)) (A_pl : own_A Z h0 pl .int 16370 (own_I own_z)) (A_sT : own_A Z h0 sT .int 2 (own_I f1)) (A_sW : own_A Z h0 sW .double 2 (own_D f2)) (A_tg : own_A Z h0 tg .int nt (own_I f3)) (A_wt : own_A Z h0 wt .double nt (own_D f4)) (G_pl : n0 ≤ pl) (G_sT : n0 ≤ sT) (G_sW : n0 ≤ sW) (G_tg : n0 ≤ tg) (G_wt : n0 ≤ wt) (ne_ob_pl : ob ≠ pl) (ne_ob_sT : ob ≠ sT) (ne_ob_sW : ob ≠ sW) (ne_ob_tg : ob ≠ tg) (ne_ob_wt : ob ≠ wt) (ne_pl_sT : pl ≠ sT) (ne_pl_sW : pl ≠ sW) (ne_pl_tg : pl ≠ tg) (ne_pl_wt : pl ≠ wt) (ne_sT_sW : sT ≠ sW) (ne_sT_tg : sT ≠ tg) (ne_sT_wt : sT ≠ wt) (ne_sW_tg : sW ≠ tg) (ne_sW_wt : sW ≠ wt) (ne_tg_wt : tg ≠ wt) (h1 : x1 = Int32.ofNat x) (h2 : x2 = Int32.ofNat x) (hN : x ≤ nt) :
    MetFree l (⟨"kithrank/Graph$ClassSort", "sort", "([I[DII)V"⟩ : MethodName) (head1 (Jvm.Cond.code (⟨"kithrank/Graph$ClassSort", "sort", "([I[DII)V"⟩ : MethodName) prog_64_method_2_code 9 none :: ws) ({ frames := 2, cells := 0, slots := 0, locals := 30 } : Room)) (fun as' U => as' = #[(.ref ob), (.ref tg), (.ref wt), (.int x1), (.int x2)] ∧ Z.Warmed39 U.vm ∧ U.heap = h0) (fun _ _ _ _ _ => True) (fun _ U o U' => ∃ v L, o = .returned v ∧ Q7 Z ob tg wt x1 x2 pl sT sW nt f1 f2 f3 f4 x h0 n0 v U'.heap L ∧ FrameEnd U o U' L ({ frames := 2, cells := 0, slots := 0, locals := 30 } : Room).cells ({ frames := 2, cells := 0, slots := 0, locals := 30 } : Room).slots) := by
  refine own_body (plainFor_of_name pn7) ?_
  intro p e s m below meth c s₁ hx hby hml hown0 hnm hret hlk hZ X0 e0
  have hown : s.vm.findClass "kithrank/Graph$ClassSort" = some m.cls := hown0
  have N0 := Fr.nil n0
  rw [ef7]
  have K0 : Keep h0 h0 [pl, tg, wt] := Keep.refl h0 [pl, tg, wt]
  have hc1 : ¬ (x1 < x2) := by rw [h1, h2]; exact Int32.lt_irrefl
  refine own_st (S' := s₁.setTop (mkF m 35 #[qA ob, qA tg, qA wt, qI x1, qI x2, qI (0 : Int32), qI x1, qU, qU] [(.int (0 : Int32))])) (fun t k => XS.iconst X0.here hx rfl (hb hby d7_0) (XS.istore X0.here hx rfl (hb hby d7_1) rfl (l' := #[qA ob, qA tg, qA wt, qI x1, qI x2, qI (0 : Int32), qU, qU, qU]) rfl (XS.iloadN X0.here hx rfl (hb hby d7_3) rfl (XS.istore X0.here hx rfl (hb hby d7_4) rfl (l' := #[qA ob, qA tg, qA wt, qI x1, qI x2, qI (0 : Int32), qI x1, qU, qU]) rfl (XS.iload X0.here hx rfl (hb hby d7_6) rfl (XS.iload X0.here hx rfl (hb hby d7_8) rfl (XS.icmpYes X0.here hx rfl (pc0 := 10) (pc' := 33) rfl (hb hby d7_10) rfl (flt hc1).2.1 (by decide) (by decide) (XS.iload X0.here hx rfl (hb hby d7_33) rfl k)))))))) ?_
  have hc2 : ¬ (x1 < x2) := by rw [h1, h2]; exact Int32.lt_irrefl
  refine own_st (S' := s₁.setTop (mkF m 90 #[qA ob, qA tg, qA wt, qI x1, qI x2, qI (0 : Int32), qI (0 : Int32), qI (1 : Int32), qU] [])) (fun t k => XS.istore X0.here hx rfl (hb hby d7_35) rfl (l' := #[qA ob, qA tg, qA wt, qI x1, qI x2, qI (0 : Int32), qI (0 : Int32), qU, qU]) rfl (XS.iloadN X0.here hx rfl (hb hby d7_37) rfl (XS.istore X0.here hx rfl (hb hby d7_38) rfl (l' := #[qA ob, qA tg, qA wt, qI x1, qI x2, qI (0 : Int32), qI (0 : Int32), qI x1, qU]) rfl (XS.iload X0.here hx rfl (hb hby d7_40) rfl (XS.iload X0.here hx rfl (hb hby d7_42) rfl (XS.icmpYes X0.here hx rfl (pc0 := 44) (pc' := 87) rfl (hb hby d7_44) rfl (flt hc2).2.1 (by decide) (by decide) (XS.iconst X0.here hx rfl (hb hby d7_87) (XS.istore X0.here hx rfl (hb hby d7_88) rfl (l' := #[qA ob, qA tg, qA wt, qI x1, qI x2, qI (0 : Int32), qI (0 : Int32), qI (1 : Int32), qU]) rfl k)))))))) ?_
  refine own_st (S' := s₁.setTop (mkF m 103 #[qA ob, qA tg, qA wt, qI x1, qI x2, qI (0 : Int32), qI (0 : Int32), qI (1 : Int32), qU] [(.ref ob)])) (fun t k => XS.iload X0.here hx rfl (hb hby d7_90) rfl (XS.iload X0.here hx rfl (hb hby d7_92) rfl (XS.iload X0.here hx rfl (hb hby d7_94) rfl (XS.isub X0.here hx rfl (hb hby d7_96) rfl (XS.iconst X0.here hx rfl (hb hby d7_97) (XS.iadd X0.here hx rfl (hb hby d7_98) rfl (XS.icmpNo X0.here hx rfl (hb hby d7_99) rfl (flt (by decide)).2.2.1 (XS.aloadN X0.here hx rfl (hb hby d7_102) rfl rfl k)))))))) ?_
  obtain ⟨T3, X3, e3, st3⟩ := getF X0 hx hZ hown (host := "") (Or.inl (own_hw hw (i := 75) rfl)) Via.refl e0 F_ob_place (g := (mkF m 103 #[qA ob, qA tg, qA wt, qI x1, qI x2, qI (0 : Int32), qI (0 : Int32), qI (1 : Int32), qU] [(.ref ob)])) rfl rfl (hb hby d7_103)
  refine own_st st3 ?_
  have O4 := A_pl
  obtain ⟨c4, Ar4, S4, M4, V4⟩ := O4
  have at4 : c4.slots[((1 : Int32)).toNatClampNeg]? = some (.int (0 : Int32)) := own_at S4 V4 (own_ix (j := (1 : Int32)) (i := 1) (n := 16370) (by decide) (by decide) (by decide)) rfl
  refine own_st (S' := T3.setTop (mkF m 111 #[qA ob, qA tg, qA wt, qI x1, qI x2, qI (0 : Int32), qI (0 : Int32), qI (1 : Int32), qU] [(.ref ob), (.int (0 : Int32)), (.int (1 : Int32)), (.ref pl)])) (fun t k => XS.iload X3.here hx rfl (hb hby d7_106) rfl (Jvm.Free.XT.dup2 X3.here hx rfl (hb hby d7_108) rfl rfl rfl (X3.iaload hx (j := (1 : Int32)) (v := (.int (0 : Int32))) (by rw [e3]; exact Ar4.1) (State.isArrayOf_alike hZ.alike Ar4.2.1) Ar4.2.2 (own_in S4 (own_ix (j := (1 : Int32)) (i := 1) (n := 16370) (by decide) (by decide) (by decide))) at4 (g := (mkF m 109 #[qA ob, qA tg, qA wt, qI x1, qI x2, qI (0 : Int32), qI (0 : Int32), qI (1 : Int32), qU] [(.int (1 : Int32)), (.ref pl), (.int (1 : Int32)), (.ref pl)])) rfl rfl (hb hby d7_109) _ (XS.aloadN X3.here hx rfl (hb hby d7_110) rfl rfl k)))) ?_
  obtain ⟨T5, X5, e5, st5⟩ := getF X3 hx hZ hown (host := "") (Or.inl (own_hw hw (i := 75) rfl)) Via.refl e3 F_ob_place (g := (mkF m 111 #[qA ob, qA tg, qA wt, qI x1, qI x2, qI (0 : Int32), qI (0 : Int32), qI (1 : Int32), qU] [(.ref ob), (.int (0 : Int32)), (.int (1 : Int32)), (.ref pl)])) rfl rfl (hb hby d7_111)
  refine own_st st5 ?_
  have O6 := A_pl
  obtain ⟨c6, Ar6, S6, M6, V6⟩ := O6
  have at6 : c6.slots[((0 : Int32)).toNatClampNeg]? = some (.int (0 : Int32)) := own_at S6 V6 (own_ix (j := (0 : Int32)) (i := 0) (n := 16370) (by decide) (by decide) (by decide)) rfl
  refine own_st (S' := T5.setTop (mkF m 120 #[qA ob, qA tg, qA wt, qI x1, qI x2, qI (0 : Int32), qI (0 : Int32), qI (1 : Int32), qU] [(.int (0 : Int32)), (.int (1 : Int32)), (.ref pl)])) (fun t k => XS.iload X5.here hx rfl (hb hby d7_114) rfl (XS.iconst X5.here hx rfl (hb hby d7_116) (XS.isub X5.here hx rfl (hb hby d7_117) rfl (X5.iaload hx (j := (0 : Int32)) (v := (.int (0 : Int32))) (by rw [e5]; exact Ar6.1) (State.isArrayOf_alike hZ.alike Ar6.2.1) Ar6.2.2 (own_in S6 (own_ix (j := (0 : Int32)) (i := 0) (n := 16370) (by decide) (by decide) (by decide))) at6 (g := (mkF m 118 #[qA ob, qA tg, qA wt, qI x1, qI x2, qI (0 : Int32), qI (0 : Int32), qI (1 : Int32), qU] [(.int (0 : Int32)), (.ref pl), (.int (0 : Int32)), (.int (1 : Int32)), (.ref pl)])) rfl rfl (hb hby d7_118) _ (XS.iadd X5.here hx rfl (hb hby d7_119) rfl k))))) ?_
  have O7 := A_pl
  obtain ⟨c7, Ar7, S7, M7, V7⟩ := O7
  obtain ⟨T7, h7, X7, e7, W7, st7⟩ := stI X5 hx hZ e5 Ar7 (j := (1 : Int32)) (own_in S7 (own_ix (j := (1 : Int32)) (i := 1) (n := 16370) (by decide) (by decide) (by decide))) (g := (mkF m 120 #[qA ob, qA tg, qA wt, qI x1, qI x2, qI (0 : Int32), qI (0 : Int32), qI (1 : Int32), qU] [(.int (0 : Int32)), (.int (1 : Int32)), (.ref pl)])) rfl rfl (hb hby d7_120)
  refine own_st st7 ?_
  have f8 := E_ob.wr W7
  have f9 := F_ob_place.other W7 (Or.inl ne_ob_pl)
  have f10 := F_ob_sortedTarget.other W7 (Or.inl ne_ob_pl)
  have f11 := F_ob_sortedWeight.other W7 (Or.inl ne_ob_pl)
  have f12 := A_sT.other W7 (Ne.symm ne_pl_sT)
  have f13 := A_sW.other W7 (Ne.symm ne_pl_sW)
  have f14 := A_tg.other W7 (Ne.symm ne_pl_tg)
  have f15 := A_wt.other W7 (Ne.symm ne_pl_wt)
  have Z7 : n0 ≤ h7.size := Nat.le_trans Z0 (Keep.of_wr W7).1
  have N7 := Fr.snoc X7 N0 G_pl
  have K7 : Keep h0 h7 [pl, tg, wt] := K0.wr W7 (Or.inl (List.mem_of_getElem? (i := 0) rfl))
  have f16 : own_A Z h7 pl .int 16370 (own_I (own_uI own_z 1 (0 : Int32))) := by rw [← own_upI]; exact own_A.set ⟨c7, Ar7, S7, M7, V7⟩ (own_ix (j := (1 : Int32)) (i := 1) (n := 16370) (by decide) (by decide) (by decide)) W7
  refine own_st (S' := T7.setTop (mkF m 99 #[qA ob, qA tg, qA wt, qI x1, qI x2, qI (0 : Int32), qI (0 : Int32), qI (2 : Int32), qU] [(.int (1 : Int32)), (.int (2 : Int32))])) (fun t k => XS.iinc X7.here hx rfl (hb hby d7_121) rfl (l' := #[qA ob, qA tg, qA wt, qI x1, qI x2, qI (0 : Int32), qI (0 : Int32), qI (2 : Int32), qU]) rfl (XS.goto X7.here hx rfl (pc0 := 124) (pc' := 90) rfl (hb hby d7_124) (by decide) (by decide) (XS.iload X7.here hx rfl (hb hby d7_90) rfl (XS.iload X7.here hx rfl (hb hby d7_92) rfl (XS.iload X7.here hx rfl (hb hby d7_94) rfl (XS.isub X7.here hx rfl (hb hby d7_96) rfl (XS.iconst X7.here hx rfl (hb hby d7_97) (XS.iadd X7.here hx rfl (hb hby d7_98) rfl k)))))))) ?_
  have hc17 : ¬ (x1 < x2) := by rw [h1, h2]; exact Int32.lt_irrefl
  refine own_st (S' := T7.setTop (mkF m 188 #[qA ob, qA tg, qA wt, qI x1, qI x2, qI (0 : Int32), qI (0 : Int32), qI x1, qU] [(.ref ob)])) (fun t k => XS.icmpYes X7.here hx rfl (pc0 := 99) (pc' := 127) rfl (hb hby d7_99) rfl (tlt (by decide)).2.2.1 (by decide) (by decide) (XS.iloadN X7.here hx rfl (hb hby d7_127) rfl (XS.istore X7.here hx rfl (hb hby d7_128) rfl (l' := #[qA ob, qA tg, qA wt, qI x1, qI x2, qI (0 : Int32), qI (0 : Int32), qI x1, qU]) rfl (XS.iload X7.here hx rfl (hb hby d7_130) rfl (XS.iload X7.here hx rfl (hb hby d7_132) rfl (XS.icmpYes X7.here hx rfl (pc0 := 134) (pc' := 187) rfl (hb hby d7_134) rfl (flt hc17).2.1 (by decide) (by decide) (XS.aloadN X7.here hx rfl (hb hby d7_187) rfl rfl k))))))) ?_
  obtain ⟨T18, X18, e18, st18⟩ := getF X7 hx hZ hown (host := "") (Or.inl (own_hw hw (i := 77) rfl)) Via.refl e7 f10 (g := (mkF m 188 #[qA ob, qA tg, qA wt, qI x1, qI x2, qI (0 : Int32), qI (0 : Int32), qI x1, qU] [(.ref ob)])) rfl rfl (hb hby d7_188)
  refine own_st st18 ?_
  refine own_st (S' := T18.setTop (mkF m 198 #[qA ob, qA tg, qA wt, qI x1, qI x2, qI (0 : Int32), qI (0 : Int32), qI x1, qU] [(.int (x2 - x1)), (.int x1), (.ref tg), (.int (0 : Int32)), (.ref sT)])) (fun t k => XS.iconst X18.here hx rfl (hb hby d7_191) (XS.aloadN X18.here hx rfl (hb hby d7_192) rfl rfl (XS.iloadN X18.here hx rfl (hb hby d7_193) rfl (XS.iload X18.here hx rfl (hb hby d7_194) rfl (XS.iloadN X18.here hx rfl (hb hby d7_196) rfl (XS.isub X18.here hx rfl (hb hby d7_197) rfl k)))))) ?_
  obtain ⟨T19, h19, L19, X19, e19, N19, Kq19, A19, st19⟩ := own_cp X18 hx hZ hown (own_hw hw (i := 95) rfl) (own_hw hw (i := 98) rfl) (own_hw hw (i := 96) rfl) (own_hw hw (i := 97) rfl) e18 (hty := rfl) f12 f14 (fun _ => rfl) (fun _ => rfl) (i := 0) (j := x) (k := 0) rfl h1 (by rw [h1, h2]; exact Int32.sub_self _) (by omega) (by omega) N7 G_tg (g := (mkF m 198 #[qA ob, qA tg, qA wt, qI x1, qI x2, qI (0 : Int32), qI (0 : Int32), qI x1, qU] [(.int (x2 - x1)), (.int x1), (.ref tg), (.int (0 : Int32)), (.ref sT)])) rfl (by rw [hml]; rfl) (rest := []) rfl (hb hby d7_198) (by decide) (W := 0) (by show 2 * 0 + _ ≤ _; exact Nat.le_of_eq rfl) (by decide)
  have f20 := f8.keep Kq19
  have f21 := f9.keep Kq19 (ninS ne_ob_tg nin0)
  have f22 := f10.keep Kq19 (ninS ne_ob_tg nin0)
  have f23 := f11.keep Kq19 (ninS ne_ob_tg nin0)
  have f24 := f16.keep Kq19 (ninS ne_pl_tg nin0)
  have f25 := f12.keep Kq19 (ninS ne_sT_tg nin0)
  have f26 := f13.keep Kq19 (ninS ne_sW_tg nin0)
  have f27 := f15.keep Kq19 (ninS (Ne.symm ne_tg_wt) nin0)
  have f28 : own_A Z h19 tg .int nt (own_I (own_ci f1 f3 0 x 0)) := A19.cong (fun q _ => by unfold own_I own_ci; split <;> rfl)
  have Z19 : n0 ≤ h19.size := Nat.le_trans Z7 Kq19.1
  have K19 : Keep h0 h19 [pl, tg, wt] := K7.trans Kq19 (allS (Or.inl (List.mem_of_getElem? (i := 1) rfl)) all0)
  refine own_st st19 ?_
  refine own_st (S' := T19.setTop (mkF m 202 #[qA ob, qA tg, qA wt, qI x1, qI x2, qI (0 : Int32), qI (0 : Int32), qI x1, qU] [(.ref ob)])) (fun t k => XS.aloadN X19.here hx rfl (hb hby d7_201) rfl rfl k) ?_
  obtain ⟨T29, X29, e29, st29⟩ := getF X19 hx hZ hown (host := "") (Or.inl (own_hw hw (i := 79) rfl)) Via.refl e19 f23 (g := (mkF m 202 #[qA ob, qA tg, qA wt, qI x1, qI x2, qI (0 : Int32), qI (0 : Int32), qI x1, qU] [(.ref ob)])) rfl rfl (hb hby d7_202)
  refine own_st st29 ?_
  refine own_st (S' := T29.setTop (mkF m 212 #[qA ob, qA tg, qA wt, qI x1, qI x2, qI (0 : Int32), qI (0 : Int32), qI x1, qU] [(.int (x2 - x1)), (.int x1), (.ref wt), (.int (0 : Int32)), (.ref sW)])) (fun t k => XS.iconst X29.here hx rfl (hb hby d7_205) (XS.aloadN X29.here hx rfl (hb hby d7_206) rfl rfl (XS.iloadN X29.here hx rfl (hb hby d7_207) rfl (XS.iload X29.here hx rfl (hb hby d7_208) rfl (XS.iloadN X29.here hx rfl (hb hby d7_210) rfl (XS.isub X29.here hx rfl (hb hby d7_211) rfl k)))))) ?_
  obtain ⟨T30, h30, L30, X30, e30, N30, Kq30, A30, st30⟩ := own_cp X29 hx hZ hown (own_hw hw (i := 95) rfl) (own_hw hw (i := 98) rfl) (own_hw hw (i := 96) rfl) (own_hw hw (i := 97) rfl) e29 (hty := rfl) f26 f27 (fun _ => rfl) (fun _ => rfl) (i := 0) (j := x) (k := 0) rfl h1 (by rw [h1, h2]; exact Int32.sub_self _) (by omega) (by omega) N19 G_wt (g := (mkF m 212 #[qA ob, qA tg, qA wt, qI x1, qI x2, qI (0 : Int32), qI (0 : Int32), qI x1, qU] [(.int (x2 - x1)), (.int x1), (.ref wt), (.int (0 : Int32)), (.ref sW)])) rfl (by rw [hml]; rfl) (rest := []) rfl (hb hby d7_212) (by decide) (W := 0) (by show 2 * 0 + _ ≤ _; exact Nat.le_of_eq rfl) (by decide)
  have f31 := f20.keep Kq30
  have f32 := f21.keep Kq30 (ninS ne_ob_wt nin0)
  have f33 := f22.keep Kq30 (ninS ne_ob_wt nin0)
  have f34 := f23.keep Kq30 (ninS ne_ob_wt nin0)
  have f35 := f24.keep Kq30 (ninS ne_pl_wt nin0)
  have f36 := f25.keep Kq30 (ninS ne_sT_wt nin0)
  have f37 := f26.keep Kq30 (ninS ne_sW_wt nin0)
  have f38 := f28.keep Kq30 (ninS ne_tg_wt nin0)
  have f39 : own_A Z h30 wt .double nt (own_D (own_cd f2 f4 0 x 0)) := A30.cong (fun q _ => by unfold own_D own_cd; split <;> rfl)
  have Z30 : n0 ≤ h30.size := Nat.le_trans Z19 Kq30.1
  have K30 : Keep h0 h30 [pl, tg, wt] := K19.trans Kq30 (allS (Or.inl (List.mem_of_getElem? (i := 2) rfl)) all0)
  refine own_st st30 ?_
  refine own_st (S' := T30.setTop (mkF m 216 #[qA ob, qA tg, qA wt, qI x1, qI x2, qI (0 : Int32), qI (0 : Int32), qI x1, qU] [(.ref ob)])) (fun t k => XS.aloadN X30.here hx rfl (hb hby d7_215) rfl rfl k) ?_
  obtain ⟨T40, X40, e40, st40⟩ := getF X30 hx hZ hown (host := "") (Or.inl (own_hw hw (i := 75) rfl)) Via.refl e30 f32 (g := (mkF m 216 #[qA ob, qA tg, qA wt, qI x1, qI x2, qI (0 : Int32), qI (0 : Int32), qI x1, qU] [(.ref ob)])) rfl rfl (hb hby d7_216)
  refine own_st st40 ?_
  refine own_st (S' := T40.setTop (mkF m 228 #[qA ob, qA tg, qA wt, qI x1, qI x2, qI (0 : Int32), qI (0 : Int32), qI x1, qU] [(.int (0 : Int32)), (.int (2 : Int32)), (.int (0 : Int32)), (.ref pl)])) (fun t k => XS.iconst X40.here hx rfl (hb hby d7_219) (XS.iload X40.here hx rfl (hb hby d7_220) rfl (XS.iload X40.here hx rfl (hb hby d7_222) rfl (XS.isub X40.here hx rfl (hb hby d7_224) rfl (XS.iconst X40.here hx rfl (hb hby d7_225) (XS.iadd X40.here hx rfl (hb hby d7_226) rfl (XS.iconst X40.here hx rfl (hb hby d7_227) k))))))) ?_
  obtain ⟨_, _, ⟨T41, L41, k41, n41⟩, -, X41, ⟨Lc41, hQ41, l41, y41, z41⟩, st41⟩ := Jvm.LawKit.callS X40 hx (y := (⟨"java/util/Arrays", "fill", "([IIII)V"⟩ : MethodName)) hown (mvT hZ (own_hw hw (i := 99) rfl)) (mvT hZ (own_hw hw (i := 100) rfl)) (mvT hZ (own_hw hw (i := 101) rfl)) (mvT hZ (own_hw hw (i := 102) rfl)) (by decide) (backOf (W := 0) (rm6 l Z a0 hw [] pl (2 : Int32) (own_uI own_z 1 (0 : Int32)) 2 h30 n0 Z30 f35 G_pl rfl (by decide)) hZ (own_hw hw (i := 102) rfl) (own_hw hw (i := 101) rfl) (by decide) (by decide)) (g := (mkF m 228 #[qA ob, qA tg, qA wt, qI x1, qI x2, qI (0 : Int32), qI (0 : Int32), qI x1, qU] [(.int (0 : Int32)), (.int (2 : Int32)), (.int (0 : Int32)), (.ref pl)])) rfl (by rw [hml]; rfl) (argsL := [(.ref pl), (.int (0 : Int32)), (.int (2 : Int32)), (.int (0 : Int32))]) (rest := []) (lenOf pd7_0 rfl) rfl (by show 2 * 0 + _ ≤ _; exact Nat.le_of_eq rfl) (hb hby d7_228) (fun _ _ => ⟨rfl, e40, (by decide : 0 + 0 ≤ _), (by decide : 0 + 0 ≤ _)⟩)
  dsimp only [Pt.U, Pt.locs, Pt.cells, Pt.slots] at X41 l41 y41 z41 st41 hQ41
  rw [l41, y41, z41] at X41
  obtain ⟨rfl, N41q, Kq41, g0_41⟩ := hQ41
  have f42 := f31.keep Kq41
  have f43 := f32.keep Kq41 (ninS ne_ob_pl nin0)
  have f44 := f33.keep Kq41 (ninS ne_ob_pl nin0)
  have f45 := f34.keep Kq41 (ninS ne_ob_pl nin0)
  have f46 := f36.keep Kq41 (ninS (Ne.symm ne_pl_sT) nin0)
  have f47 := f37.keep Kq41 (ninS (Ne.symm ne_pl_sW) nin0)
  have f48 := f38.keep Kq41 (ninS (Ne.symm ne_pl_tg) nin0)
  have f49 := f39.keep Kq41 (ninS (Ne.symm ne_pl_wt) nin0)
  have Z41 : n0 ≤ T41.heap.size := Nat.le_trans Z30 Kq41.1
  have K41 : Keep h0 T41.heap [pl, tg, wt] := K30.trans Kq41 (allS (Or.inl (List.mem_of_getElem? (i := 0) rfl)) all0)
  have N41 := Fr.app N30 N41q
  refine own_st st41 ?_
  show own_Go p.tables e below _ (T41.setTop (mkF m 231 #[qA ob, qA tg, qA wt, qI x1, qI x2, qI (0 : Int32), qI (0 : Int32), qI x1, qU] []))
  have f50 : own_A Z T41.heap pl .int 16370 (own_I own_z) := by have q := g0_41; rw [own_fz_uI _ _ _ (by decide)] at q; exact q
  have f51 : own_A Z T41.heap tg .int nt (own_I f3) := by have q := f48; rw [own_ci0] at q; exact q
  have f52 : own_A Z T41.heap wt .double nt (own_D f4) := by have q := f49; rw [own_cd0] at q; exact q
  refine own_retV X41 hx hret hlk (hb hby d7_231) ?_ (by decide) (by decide)
  exact ⟨rfl, N41, K41, f50, f51, f52⟩
theorem d8_13 : decode prog_64_method_2_code 13 = .ok (.iload 5, 2) := by decide +kernel
theorem d8_15 : decode prog_64_method_2_code 15 = .ok (.aload_n 2, 1) := by decide +kernel
theorem d8_16 : decode prog_64_method_2_code 16 = .ok (.iload 6, 2) := by decide +kernel
theorem d8_18 : decode prog_64_method_2_code 18 = .ok (.daload, 1) := by decide +kernel
theorem d8_19 : decode prog_64_method_2_code 19 = .ok (.invokestatic 26, 3) := by decide +kernel
theorem d8_22 : decode prog_64_method_2_code 22 = .ok (.invokestatic 30, 3) := by decide +kernel
theorem d8_25 : decode prog_64_method_2_code 25 = .ok (.istore 5, 2) := by decide +kernel
theorem d8_27 : decode prog_64_method_2_code 27 = .ok (.iinc 6 1, 3) := by decide +kernel
theorem d8_30 : decode prog_64_method_2_code 30 = .ok (.goto (-24), 3) := by decide +kernel
theorem d8_47 : decode prog_64_method_2_code 47 = .ok (.aload_n 2, 1) := by decide +kernel
theorem d8_48 : decode prog_64_method_2_code 48 = .ok (.iload 7, 2) := by decide +kernel
theorem d8_50 : decode prog_64_method_2_code 50 = .ok (.daload, 1) := by decide +kernel
theorem d8_51 : decode prog_64_method_2_code 51 = .ok (.invokestatic 26, 3) := by decide +kernel
theorem d8_54 : decode prog_64_method_2_code 54 = .ok (.istore 8, 2) := by decide +kernel
theorem d8_56 : decode prog_64_method_2_code 56 = .ok (.iload 6, 2) := by decide +kernel
theorem d8_58 : decode prog_64_method_2_code 58 = .ok (.iload 8, 2) := by decide +kernel
theorem d8_60 : decode prog_64_method_2_code 60 = .ok (.invokestatic 36, 3) := by decide +kernel
theorem d8_63 : decode prog_64_method_2_code 63 = .ok (.istore 6, 2) := by decide +kernel
theorem d8_65 : decode prog_64_method_2_code 65 = .ok (.aload_n 0, 1) := by decide +kernel
theorem d8_66 : decode prog_64_method_2_code 66 = .ok (.getfield 13, 3) := by decide +kernel
theorem d8_69 : decode prog_64_method_2_code 69 = .ok (.iload 5, 2) := by decide +kernel
theorem d8_71 : decode prog_64_method_2_code 71 = .ok (.iload 8, 2) := by decide +kernel
theorem d8_73 : decode prog_64_method_2_code 73 = .ok (.isub, 1) := by decide +kernel
theorem d8_74 : decode prog_64_method_2_code 74 = .ok (.iconst 1, 1) := by decide +kernel
theorem d8_75 : decode prog_64_method_2_code 75 = .ok (.iadd, 1) := by decide +kernel
theorem d8_76 : decode prog_64_method_2_code 76 = .ok (.dup2, 1) := by decide +kernel
theorem d8_77 : decode prog_64_method_2_code 77 = .ok (.iaload, 1) := by decide +kernel
theorem d8_78 : decode prog_64_method_2_code 78 = .ok (.iconst 1, 1) := by decide +kernel
theorem d8_79 : decode prog_64_method_2_code 79 = .ok (.iadd, 1) := by decide +kernel
theorem d8_80 : decode prog_64_method_2_code 80 = .ok (.iastore, 1) := by decide +kernel
theorem d8_81 : decode prog_64_method_2_code 81 = .ok (.iinc 7 1, 3) := by decide +kernel
theorem d8_84 : decode prog_64_method_2_code 84 = .ok (.goto (-44), 3) := by decide +kernel
theorem d8_137 : decode prog_64_method_2_code 137 = .ok (.aload_n 0, 1) := by decide +kernel
theorem d8_138 : decode prog_64_method_2_code 138 = .ok (.getfield 13, 3) := by decide +kernel
theorem d8_141 : decode prog_64_method_2_code 141 = .ok (.iload 5, 2) := by decide +kernel
theorem d8_143 : decode prog_64_method_2_code 143 = .ok (.aload_n 2, 1) := by decide +kernel
theorem d8_144 : decode prog_64_method_2_code 144 = .ok (.iload 7, 2) := by decide +kernel
theorem d8_146 : decode prog_64_method_2_code 146 = .ok (.daload, 1) := by decide +kernel
theorem d8_147 : decode prog_64_method_2_code 147 = .ok (.invokestatic 26, 3) := by decide +kernel
theorem d8_150 : decode prog_64_method_2_code 150 = .ok (.isub, 1) := by decide +kernel
theorem d8_151 : decode prog_64_method_2_code 151 = .ok (.dup2, 1) := by decide +kernel
theorem d8_152 : decode prog_64_method_2_code 152 = .ok (.iaload, 1) := by decide +kernel
theorem d8_153 : decode prog_64_method_2_code 153 = .ok (.dup_x2, 1) := by decide +kernel
theorem d8_154 : decode prog_64_method_2_code 154 = .ok (.iconst 1, 1) := by decide +kernel
theorem d8_155 : decode prog_64_method_2_code 155 = .ok (.iadd, 1) := by decide +kernel
theorem d8_156 : decode prog_64_method_2_code 156 = .ok (.iastore, 1) := by decide +kernel
theorem d8_157 : decode prog_64_method_2_code 157 = .ok (.istore 8, 2) := by decide +kernel
theorem d8_159 : decode prog_64_method_2_code 159 = .ok (.aload_n 0, 1) := by decide +kernel
theorem d8_160 : decode prog_64_method_2_code 160 = .ok (.getfield 19, 3) := by decide +kernel
theorem d8_163 : decode prog_64_method_2_code 163 = .ok (.iload 8, 2) := by decide +kernel
theorem d8_165 : decode prog_64_method_2_code 165 = .ok (.aload_n 1, 1) := by decide +kernel
theorem d8_166 : decode prog_64_method_2_code 166 = .ok (.iload 7, 2) := by decide +kernel
theorem d8_168 : decode prog_64_method_2_code 168 = .ok (.iaload, 1) := by decide +kernel
theorem d8_169 : decode prog_64_method_2_code 169 = .ok (.iastore, 1) := by decide +kernel
theorem d8_170 : decode prog_64_method_2_code 170 = .ok (.aload_n 0, 1) := by decide +kernel
theorem d8_171 : decode prog_64_method_2_code 171 = .ok (.getfield 22, 3) := by decide +kernel
theorem d8_174 : decode prog_64_method_2_code 174 = .ok (.iload 8, 2) := by decide +kernel
theorem d8_176 : decode prog_64_method_2_code 176 = .ok (.aload_n 2, 1) := by decide +kernel
theorem d8_177 : decode prog_64_method_2_code 177 = .ok (.iload 7, 2) := by decide +kernel
theorem d8_179 : decode prog_64_method_2_code 179 = .ok (.daload, 1) := by decide +kernel
theorem d8_180 : decode prog_64_method_2_code 180 = .ok (.dastore, 1) := by decide +kernel
theorem d8_181 : decode prog_64_method_2_code 181 = .ok (.iinc 7 1, 3) := by decide +kernel
theorem d8_184 : decode prog_64_method_2_code 184 = .ok (.goto (-54), 3) := by decide +kernel
theorem pd8_0 : parseMethodDescriptor "(D)I" = some ⟨[.double], some .int⟩ := by decide +kernel
theorem pd8_1 : parseMethodDescriptor "(II)I" = some ⟨[.int, .int], some .int⟩ := by decide +kernel
theorem pd8_2 : parseMethodDescriptor "([IIII)V" = some ⟨[(.array .int), .int, .int, .int], none⟩ := by decide +kernel
theorem pn8 : plainName "kithrank/Graph$ClassSort" = true := by first | (simp [plainName, overriddenIn]; done) | decide +kernel
theorem ef8 (m : MethodId) (ob : Addr) (tg : Addr) (wt : Addr) (x1 : Int32) (x2 : Int32) : entryFrame m #[(.ref ob), (.ref tg), (.ref wt), (.int x1), (.int x2)] 9 = mkF m 0 #[.val (.ref ob), .val (.ref tg), .val (.ref wt), .val (.int x1), .val (.int x2), .unset, .unset, .unset, .unset] [] := by first | (simp [entryFrame, mkF, argsToLocals, Value.category]; done) | rfl
def Q8 (Z : State) (ob : Addr) (tg : Addr) (wt : Addr) (x1 : Int32) (x2 : Int32) (pl : Addr) (sT : Addr) (sW : Addr) (nt : Nat) (f1 : Nat → Int32) (f2 : Nat → UInt64) (f3 : Nat → Int32) (f4 : Nat → UInt64) (x : Nat) (k1 : Nat) (h0 : Heap) (n0 : Nat) (v : Option Value) (h : Heap) (L : List Loc) : Prop := v = none ∧ Fr n0 L ∧ Keep h0 h [pl, sT, sW, tg, wt] ∧ own_A Z h pl .int 16370 (own_I own_z) ∧ own_A Z h sT .int 2 (own_I (own_uI f1 0 (f3 x))) ∧ own_A Z h sW .double 2 (own_D (own_uD f2 0 (f4 x))) ∧ own_A Z h tg .int nt (own_I f3) ∧ own_A Z h wt .double nt (own_D f4)
set_option maxRecDepth 65536 in
set_option maxHeartbeats 40000000 in
theorem rm8 (l : Launch) (Z : State) (a0 : Array Value) (hw : ∀ d ∈ tables_1, d.before a0 Z = true) (ws : List Jvm.Cond) (ob : Addr) (tg : Addr) (wt : Addr) (x1 : Int32) (x2 : Int32) (pl : Addr) (sT : Addr) (sW : Addr) (nt : Nat) (f1 : Nat → Int32) (f2 : Nat → UInt64) (f3 : Nat → Int32) (f4 : Nat → UInt64) (x : Nat) (k1 : Nat) (h0 : Heap) (n0 : Nat) (Z0 : n0 ≤ h0.size) (E_ob : Exa Z h0 ob "kithrank/Graph$ClassSort") (F_ob_place : Fld Z h0 ob "kithrank/Graph$ClassSort" "place" "[I" (.ref pl)) (F_ob_sortedTarget : Fld Z h0 ob "kithrank/Graph$ClassSort" "sortedTarget" "[I" (.ref sT)) (F_ob_sortedWeight : Fld Z h0 ob "kithrank/Graph$ClassSort" "sortedWeight" "[D" (.ref sW)) (A_pl : own_A Z h0 pl .int 16370 (own_I own_z)) (A_sT : own_A Z h0 sT .int 2 (own_I f1)) (A_sW : own_A Z h0 sW .double 2 (own_D f2)) (A_tg : own_A Z h0 tg .int nt (own_I f3)) (A_wt : own_A Z h0 wt .double nt (own_D f4)) (G_pl : n0 ≤ pl) (G_sT : n0 ≤ sT) (G_sW : n0 ≤ sW) (G_tg : n0 ≤ tg) (G_wt : n0 ≤ wt) (ne_ob_pl : ob ≠ pl) (ne_ob_sT : ob ≠ sT) (ne_ob_sW : ob ≠ sW) (ne_ob_tg : ob ≠ tg) (ne_ob_wt : ob ≠ wt) (ne_pl_sT : pl ≠ sT) (ne_pl_sW : pl ≠ sW) (ne_pl_tg : pl ≠ tg) (ne_pl_wt : pl ≠ wt) (ne_sT_sW : sT ≠ sW) (ne_sT_tg : sT ≠ tg) (ne_sT_wt : sT ≠ wt) (ne_sW_tg : sW ≠ tg) (ne_sW_wt : sW ≠ wt) (ne_tg_wt : tg ≠ wt) (h1 : x1 = Int32.ofNat x) (h2 : x2 = Int32.ofNat (x + 1)) (hN : x + 1 ≤ nt) (hM : nt < 2 ^ 30) (hc : own_wc (f4 x) = Int32.ofNat k1) (hk : k1 ≤ 16368) :
    MetFree l (⟨"kithrank/Graph$ClassSort", "sort", "([I[DII)V"⟩ : MethodName) (head1 (Jvm.Cond.code (⟨"kithrank/Graph$ClassSort", "sort", "([I[DII)V"⟩ : MethodName) prog_64_method_2_code 9 none :: ws) ({ frames := 2, cells := 0, slots := 0, locals := 30 } : Room)) (fun as' U => as' = #[(.ref ob), (.ref tg), (.ref wt), (.int x1), (.int x2)] ∧ Z.Warmed39 U.vm ∧ U.heap = h0) (fun _ _ _ _ _ => True) (fun _ U o U' => ∃ v L, o = .returned v ∧ Q8 Z ob tg wt x1 x2 pl sT sW nt f1 f2 f3 f4 x k1 h0 n0 v U'.heap L ∧ FrameEnd U o U' L ({ frames := 2, cells := 0, slots := 0, locals := 30 } : Room).cells ({ frames := 2, cells := 0, slots := 0, locals := 30 } : Room).slots) := by
  refine own_body (plainFor_of_name pn8) ?_
  intro p e s m below meth c s₁ hx hby hml hown0 hnm hret hlk hZ X0 e0
  have hown : s.vm.findClass "kithrank/Graph$ClassSort" = some m.cls := hown0
  have N0 := Fr.nil n0
  rw [ef8]
  have K0 : Keep h0 h0 [pl, sT, sW, tg, wt] := Keep.refl h0 [pl, sT, sW, tg, wt]
  have hc1 : x1 < x2 := by rw [h1, h2, own_ltN (by omega) (by omega)]; omega
  refine own_st (S' := s₁.setTop (mkF m 15 #[qA ob, qA tg, qA wt, qI x1, qI x2, qI (0 : Int32), qI x1, qU, qU] [(.int (0 : Int32))])) (fun t k => XS.iconst X0.here hx rfl (hb hby d7_0) (XS.istore X0.here hx rfl (hb hby d7_1) rfl (l' := #[qA ob, qA tg, qA wt, qI x1, qI x2, qI (0 : Int32), qU, qU, qU]) rfl (XS.iloadN X0.here hx rfl (hb hby d7_3) rfl (XS.istore X0.here hx rfl (hb hby d7_4) rfl (l' := #[qA ob, qA tg, qA wt, qI x1, qI x2, qI (0 : Int32), qI x1, qU, qU]) rfl (XS.iload X0.here hx rfl (hb hby d7_6) rfl (XS.iload X0.here hx rfl (hb hby d7_8) rfl (XS.icmpNo X0.here hx rfl (hb hby d7_10) rfl (tlt hc1).2.1 (XS.iload X0.here hx rfl (hb hby d8_13) rfl k)))))))) ?_
  have O2 := A_wt
  obtain ⟨c2, Ar2, S2, M2, V2⟩ := O2
  have at2 : c2.slots[(x1).toNatClampNeg]? = some (.double (f4 x)) := own_at S2 V2 (by rw [h1]; exact own_ixN (by omega) (by omega)) rfl
  refine own_st (S' := s₁.setTop (mkF m 19 #[qA ob, qA tg, qA wt, qI x1, qI x2, qI (0 : Int32), qI x1, qU, qU] [(.double (f4 x)), (.int (0 : Int32))])) (fun t k => XS.aloadN X0.here hx rfl (hb hby d8_15) rfl rfl (XS.iload X0.here hx rfl (hb hby d8_16) rfl (X0.daload hx (j := x1) (v := (.double (f4 x))) (by rw [e0]; exact Ar2.1) (State.isArrayOf_alike hZ.alike Ar2.2.1) Ar2.2.2 (own_in S2 (by rw [h1]; exact own_ixN (by omega) (by omega))) at2 (g := (mkF m 18 #[qA ob, qA tg, qA wt, qI x1, qI x2, qI (0 : Int32), qI x1, qU, qU] [(.int x1), (.ref wt), (.int (0 : Int32))])) rfl rfl (hb hby d8_18) _ k))) ?_
  obtain ⟨_, _, ⟨T3, L3, k3, n3⟩, -, X3, ⟨Lc3, hQ3, l3, y3, z3⟩, st3⟩ := own_callSN X0 hx (y := (⟨"kithrank/Graph", "weightClass", "(D)I"⟩ : MethodName)) hown (mvMN hZ (own_hw hw (i := 86) rfl)) (mvT hZ (own_hw hw (i := 87) rfl)) (mvT hZ (own_hw hw (i := 73) rfl)) (mvT hZ (own_hw hw (i := 88) rfl)) (by decide) (backOf (W := 1) (rm4 l Z a0 hw [] (f4 x) h0 n0 Z0 ) hZ (own_hw hw (i := 88) rfl) (own_hw hw (i := 73) rfl) (by decide) (by decide)) (g := (mkF m 19 #[qA ob, qA tg, qA wt, qI x1, qI x2, qI (0 : Int32), qI x1, qU, qU] [(.double (f4 x)), (.int (0 : Int32))])) rfl (by rw [hml]; rfl) (argsL := [(.double (f4 x))]) (rest := [(.int (0 : Int32))]) (lenOf pd8_0 rfl) rfl (by show 2 * 0 + _ ≤ _; exact Nat.le_of_eq rfl) (hb hby d8_19) (fun _ _ => ⟨rfl, e0, (by decide : 0 + 0 ≤ _), (by decide : 0 + 0 ≤ _)⟩)
  dsimp only [Pt.U, Pt.locs, Pt.cells, Pt.slots] at X3 l3 y3 z3 st3 hQ3
  rw [l3, y3, z3] at X3
  obtain ⟨rfl, N3q, hh3⟩ := hQ3
  have N3 := Fr.app N0 N3q
  refine own_st st3 ?_
  show own_Go p.tables e below _ (T3.setTop (mkF m 22 #[qA ob, qA tg, qA wt, qI x1, qI x2, qI (0 : Int32), qI x1, qU, qU] [(.int (own_wc (f4 x))), (.int (0 : Int32))]))
  rw [show ((own_wc (f4 x)) : Int32) = (Int32.ofNat k1) from hc]
  show own_Go p.tables e below _ (T3.setTop (mkF m 22 #[qA ob, qA tg, qA wt, qI x1, qI x2, qI (0 : Int32), qI x1, qU, qU] [qV k1, (.int (0 : Int32))]))
  obtain ⟨_, _, ⟨T4, L4, k4, n4⟩, -, X4, ⟨Lc4, hQ4, l4, y4, z4⟩, st4⟩ := Jvm.LawKit.callS X3 hx (y := (⟨"java/lang/Math", "max", "(II)I"⟩ : MethodName)) hown (mvT hZ (own_hw hw (i := 93) rfl)) (mvT hZ (own_hw hw (i := 63) rfl)) (mvT hZ (own_hw hw (i := 20) rfl)) (mvT hZ (own_hw hw (i := 64) rfl)) (by decide) (backOf (W := 0) (rm2 l Z a0 hw [] (0 : Int32) (Int32.ofNat k1) h0 n0 Z0 ) hZ (own_hw hw (i := 64) rfl) (own_hw hw (i := 20) rfl) (by decide) (by decide)) (g := (mkF m 22 #[qA ob, qA tg, qA wt, qI x1, qI x2, qI (0 : Int32), qI x1, qU, qU] [qV k1, (.int (0 : Int32))])) rfl (by rw [hml]; rfl) (argsL := [(.int (0 : Int32)), (.int (Int32.ofNat k1))]) (rest := []) (lenOf pd8_1 rfl) rfl (by show 2 * 0 + _ ≤ _; exact Nat.le_of_eq rfl) (hb hby d8_22) (fun _ _ => ⟨rfl, hh3, (by decide : 0 + 0 ≤ _), (by decide : 0 + 0 ≤ _)⟩)
  dsimp only [Pt.U, Pt.locs, Pt.cells, Pt.slots] at X4 l4 y4 z4 st4 hQ4
  rw [l4, y4, z4] at X4
  obtain ⟨rfl, N4q, hh4⟩ := hQ4
  have N4 := Fr.app N3 N4q
  refine own_st st4 ?_
  show own_Go p.tables e below _ (T4.setTop (mkF m 25 #[qA ob, qA tg, qA wt, qI x1, qI x2, qI (0 : Int32), qI x1, qU, qU] [(.int (if (0 : Int32) < (Int32.ofNat k1) then (Int32.ofNat k1) else (0 : Int32)))]))
  rw [show ((if (0 : Int32) < (Int32.ofNat k1) then (Int32.ofNat k1) else (0 : Int32)) : Int32) = (Int32.ofNat k1) from own_mx0 rfl (by omega)]
  have hc5 : ¬ ((x1 + (1 : Int32)) < x2) := by rw [h1, h2, own_incN (by omega)]; exact Int32.lt_irrefl
  refine own_st (S' := T4.setTop (mkF m 37 #[qA ob, qA tg, qA wt, qI x1, qI x2, qN k1, qN k1, qU, qU] [])) (fun t k => XS.istore X4.here hx rfl (hb hby d8_25) rfl (l' := #[qA ob, qA tg, qA wt, qI x1, qI x2, qN k1, qI x1, qU, qU]) rfl (XS.iinc X4.here hx rfl (hb hby d8_27) rfl (l' := #[qA ob, qA tg, qA wt, qI x1, qI x2, qN k1, qI (x1 + (1 : Int32)), qU, qU]) rfl (XS.goto X4.here hx rfl (pc0 := 30) (pc' := 6) rfl (hb hby d8_30) (by decide) (by decide) (XS.iload X4.here hx rfl (hb hby d7_6) rfl (XS.iload X4.here hx rfl (hb hby d7_8) rfl (XS.icmpYes X4.here hx rfl (pc0 := 10) (pc' := 33) rfl (hb hby d7_10) rfl (flt hc5).2.1 (by decide) (by decide) (XS.iload X4.here hx rfl (hb hby d7_33) rfl (XS.istore X4.here hx rfl (hb hby d7_35) rfl (l' := #[qA ob, qA tg, qA wt, qI x1, qI x2, qN k1, qN k1, qU, qU]) rfl k)))))))) ?_
  have hc6 : x1 < x2 := by rw [h1, h2, own_ltN (by omega) (by omega)]; omega
  have O7 := A_wt
  obtain ⟨c7, Ar7, S7, M7, V7⟩ := O7
  have at7 : c7.slots[(x1).toNatClampNeg]? = some (.double (f4 x)) := own_at S7 V7 (by rw [h1]; exact own_ixN (by omega) (by omega)) rfl
  refine own_st (S' := T4.setTop (mkF m 51 #[qA ob, qA tg, qA wt, qI x1, qI x2, qN k1, qN k1, qI x1, qU] [(.double (f4 x))])) (fun t k => XS.iloadN X4.here hx rfl (hb hby d7_37) rfl (XS.istore X4.here hx rfl (hb hby d7_38) rfl (l' := #[qA ob, qA tg, qA wt, qI x1, qI x2, qN k1, qN k1, qI x1, qU]) rfl (XS.iload X4.here hx rfl (hb hby d7_40) rfl (XS.iload X4.here hx rfl (hb hby d7_42) rfl (XS.icmpNo X4.here hx rfl (hb hby d7_44) rfl (tlt hc6).2.1 (XS.aloadN X4.here hx rfl (hb hby d8_47) rfl rfl (XS.iload X4.here hx rfl (hb hby d8_48) rfl (X4.daload hx (j := x1) (v := (.double (f4 x))) (by rw [hh4]; exact Ar7.1) (State.isArrayOf_alike hZ.alike Ar7.2.1) Ar7.2.2 (own_in S7 (by rw [h1]; exact own_ixN (by omega) (by omega))) at7 (g := (mkF m 50 #[qA ob, qA tg, qA wt, qI x1, qI x2, qN k1, qN k1, qI x1, qU] [(.int x1), (.ref wt)])) rfl rfl (hb hby d8_50) _ k)))))))) ?_
  obtain ⟨_, _, ⟨T8, L8, k8, n8⟩, -, X8, ⟨Lc8, hQ8, l8, y8, z8⟩, st8⟩ := own_callSN X4 hx (y := (⟨"kithrank/Graph", "weightClass", "(D)I"⟩ : MethodName)) hown (mvMN hZ (own_hw hw (i := 86) rfl)) (mvT hZ (own_hw hw (i := 87) rfl)) (mvT hZ (own_hw hw (i := 73) rfl)) (mvT hZ (own_hw hw (i := 88) rfl)) (by decide) (backOf (W := 0) (rm4 l Z a0 hw [] (f4 x) h0 n0 Z0 ) hZ (own_hw hw (i := 88) rfl) (own_hw hw (i := 73) rfl) (by decide) (by decide)) (g := (mkF m 51 #[qA ob, qA tg, qA wt, qI x1, qI x2, qN k1, qN k1, qI x1, qU] [(.double (f4 x))])) rfl (by rw [hml]; rfl) (argsL := [(.double (f4 x))]) (rest := []) (lenOf pd8_0 rfl) rfl (by show 2 * 0 + _ ≤ _; exact Nat.le_of_eq rfl) (hb hby d8_51) (fun _ _ => ⟨rfl, hh4, (by decide : 0 + 0 ≤ _), (by decide : 0 + 0 ≤ _)⟩)
  dsimp only [Pt.U, Pt.locs, Pt.cells, Pt.slots] at X8 l8 y8 z8 st8 hQ8
  rw [l8, y8, z8] at X8
  obtain ⟨rfl, N8q, hh8⟩ := hQ8
  have N8 := Fr.app N4 N8q
  refine own_st st8 ?_
  show own_Go p.tables e below _ (T8.setTop (mkF m 54 #[qA ob, qA tg, qA wt, qI x1, qI x2, qN k1, qN k1, qI x1, qU] [(.int (own_wc (f4 x)))]))
  rw [show ((own_wc (f4 x)) : Int32) = (Int32.ofNat k1) from hc]
  refine own_st (S' := T8.setTop (mkF m 60 #[qA ob, qA tg, qA wt, qI x1, qI x2, qN k1, qN k1, qI x1, qN k1] [qV k1, qV k1])) (fun t k => XS.istore X8.here hx rfl (hb hby d8_54) rfl (l' := #[qA ob, qA tg, qA wt, qI x1, qI x2, qN k1, qN k1, qI x1, qN k1]) rfl (XS.iload X8.here hx rfl (hb hby d8_56) rfl (XS.iload X8.here hx rfl (hb hby d8_58) rfl k))) ?_
  obtain ⟨_, _, ⟨T9, L9, k9, n9⟩, -, X9, ⟨Lc9, hQ9, l9, y9, z9⟩, st9⟩ := Jvm.LawKit.callS X8 hx (y := (⟨"java/lang/Math", "min", "(II)I"⟩ : MethodName)) hown (mvT hZ (own_hw hw (i := 94) rfl)) (mvT hZ (own_hw hw (i := 19) rfl)) (mvT hZ (own_hw hw (i := 20) rfl)) (mvT hZ (own_hw hw (i := 21) rfl)) (by decide) (backOf (W := 0) (rm1 l Z a0 hw [] (Int32.ofNat k1) (Int32.ofNat k1) h0 n0 Z0 ) hZ (own_hw hw (i := 21) rfl) (own_hw hw (i := 20) rfl) (by decide) (by decide)) (g := (mkF m 60 #[qA ob, qA tg, qA wt, qI x1, qI x2, qN k1, qN k1, qI x1, qN k1] [qV k1, qV k1])) rfl (by rw [hml]; rfl) (argsL := [(.int (Int32.ofNat k1)), (.int (Int32.ofNat k1))]) (rest := []) (lenOf pd8_1 rfl) rfl (by show 2 * 0 + _ ≤ _; exact Nat.le_of_eq rfl) (hb hby d8_60) (fun _ _ => ⟨rfl, hh8, (by decide : 0 + 0 ≤ _), (by decide : 0 + 0 ≤ _)⟩)
  dsimp only [Pt.U, Pt.locs, Pt.cells, Pt.slots] at X9 l9 y9 z9 st9 hQ9
  rw [l9, y9, z9] at X9
  obtain ⟨rfl, N9q, hh9⟩ := hQ9
  have N9 := Fr.app N8 N9q
  refine own_st st9 ?_
  show own_Go p.tables e below _ (T9.setTop (mkF m 63 #[qA ob, qA tg, qA wt, qI x1, qI x2, qN k1, qN k1, qI x1, qN k1] [(.int (if (Int32.ofNat k1) < (Int32.ofNat k1) then (Int32.ofNat k1) else (Int32.ofNat k1)))]))
  rw [show ((if (Int32.ofNat k1) < (Int32.ofNat k1) then (Int32.ofNat k1) else (Int32.ofNat k1)) : Int32) = (Int32.ofNat k1) from if_neg Int32.lt_irrefl]
  refine own_st (S' := T9.setTop (mkF m 66 #[qA ob, qA tg, qA wt, qI x1, qI x2, qN k1, qN k1, qI x1, qN k1] [(.ref ob)])) (fun t k => XS.istore X9.here hx rfl (hb hby d8_63) rfl (l' := #[qA ob, qA tg, qA wt, qI x1, qI x2, qN k1, qN k1, qI x1, qN k1]) rfl (XS.aloadN X9.here hx rfl (hb hby d8_65) rfl rfl k)) ?_
  obtain ⟨T10, X10, e10, st10⟩ := getF X9 hx hZ hown (host := "") (Or.inl (own_hw hw (i := 75) rfl)) Via.refl hh9 F_ob_place (g := (mkF m 66 #[qA ob, qA tg, qA wt, qI x1, qI x2, qN k1, qN k1, qI x1, qN k1] [(.ref ob)])) rfl rfl (hb hby d8_66)
  refine own_st st10 ?_
  refine own_st (S' := T10.setTop (mkF m 76 #[qA ob, qA tg, qA wt, qI x1, qI x2, qN k1, qN k1, qI x1, qN k1] [(.int (((Int32.ofNat k1) - (Int32.ofNat k1)) + (1 : Int32))), (.ref pl)])) (fun t k => XS.iload X10.here hx rfl (hb hby d8_69) rfl (XS.iload X10.here hx rfl (hb hby d8_71) rfl (XS.isub X10.here hx rfl (hb hby d8_73) rfl (XS.iconst X10.here hx rfl (hb hby d8_74) (XS.iadd X10.here hx rfl (hb hby d8_75) rfl k))))) ?_
  rw [show ((((Int32.ofNat k1) - (Int32.ofNat k1)) + (1 : Int32)) : Int32) = (1 : Int32) from by rw [Int32.sub_self]; rfl]
  have O11 := A_pl
  obtain ⟨c11, Ar11, S11, M11, V11⟩ := O11
  have at11 : c11.slots[((1 : Int32)).toNatClampNeg]? = some (.int (0 : Int32)) := own_at S11 V11 (own_ix (j := (1 : Int32)) (i := 1) (n := 16370) (by decide) (by decide) (by decide)) rfl
  refine own_st (S' := T10.setTop (mkF m 80 #[qA ob, qA tg, qA wt, qI x1, qI x2, qN k1, qN k1, qI x1, qN k1] [(.int (1 : Int32)), (.int (1 : Int32)), (.ref pl)])) (fun t k => Jvm.Free.XT.dup2 X10.here hx rfl (hb hby d8_76) rfl rfl rfl (X10.iaload hx (j := (1 : Int32)) (v := (.int (0 : Int32))) (by rw [e10]; exact Ar11.1) (State.isArrayOf_alike hZ.alike Ar11.2.1) Ar11.2.2 (own_in S11 (own_ix (j := (1 : Int32)) (i := 1) (n := 16370) (by decide) (by decide) (by decide))) at11 (g := (mkF m 77 #[qA ob, qA tg, qA wt, qI x1, qI x2, qN k1, qN k1, qI x1, qN k1] [(.int (1 : Int32)), (.ref pl), (.int (1 : Int32)), (.ref pl)])) rfl rfl (hb hby d8_77) _ (XS.iconst X10.here hx rfl (hb hby d8_78) (XS.iadd X10.here hx rfl (hb hby d8_79) rfl k)))) ?_
  have O12 := A_pl
  obtain ⟨c12, Ar12, S12, M12, V12⟩ := O12
  obtain ⟨T12, h12, X12, e12, W12, st12⟩ := stI X10 hx hZ e10 Ar12 (j := (1 : Int32)) (own_in S12 (own_ix (j := (1 : Int32)) (i := 1) (n := 16370) (by decide) (by decide) (by decide))) (g := (mkF m 80 #[qA ob, qA tg, qA wt, qI x1, qI x2, qN k1, qN k1, qI x1, qN k1] [(.int (1 : Int32)), (.int (1 : Int32)), (.ref pl)])) rfl rfl (hb hby d8_80)
  refine own_st st12 ?_
  have f13 := E_ob.wr W12
  have f14 := F_ob_place.other W12 (Or.inl ne_ob_pl)
  have f15 := F_ob_sortedTarget.other W12 (Or.inl ne_ob_pl)
  have f16 := F_ob_sortedWeight.other W12 (Or.inl ne_ob_pl)
  have f17 := A_sT.other W12 (Ne.symm ne_pl_sT)
  have f18 := A_sW.other W12 (Ne.symm ne_pl_sW)
  have f19 := A_tg.other W12 (Ne.symm ne_pl_tg)
  have f20 := A_wt.other W12 (Ne.symm ne_pl_wt)
  have Z12 : n0 ≤ h12.size := Nat.le_trans Z0 (Keep.of_wr W12).1
  have N12 := Fr.snoc X12 N9 G_pl
  have K12 : Keep h0 h12 [pl, sT, sW, tg, wt] := K0.wr W12 (Or.inl (List.mem_of_getElem? (i := 0) rfl))
  have f21 : own_A Z h12 pl .int 16370 (own_I (own_uI own_z 1 (1 : Int32))) := by rw [← own_upI]; exact own_A.set ⟨c12, Ar12, S12, M12, V12⟩ (own_ix (j := (1 : Int32)) (i := 1) (n := 16370) (by decide) (by decide) (by decide)) W12
  have hc22 : ¬ ((x1 + (1 : Int32)) < x2) := by rw [h1, h2, own_incN (by omega)]; exact Int32.lt_irrefl
  refine own_st (S' := T12.setTop (mkF m 92 #[qA ob, qA tg, qA wt, qI x1, qI x2, qN k1, qN k1, qI (1 : Int32), qN k1] [(.int (1 : Int32))])) (fun t k => XS.iinc X12.here hx rfl (hb hby d8_81) rfl (l' := #[qA ob, qA tg, qA wt, qI x1, qI x2, qN k1, qN k1, qI (x1 + (1 : Int32)), qN k1]) rfl (XS.goto X12.here hx rfl (pc0 := 84) (pc' := 40) rfl (hb hby d8_84) (by decide) (by decide) (XS.iload X12.here hx rfl (hb hby d7_40) rfl (XS.iload X12.here hx rfl (hb hby d7_42) rfl (XS.icmpYes X12.here hx rfl (pc0 := 44) (pc' := 87) rfl (hb hby d7_44) rfl (flt hc22).2.1 (by decide) (by decide) (XS.iconst X12.here hx rfl (hb hby d7_87) (XS.istore X12.here hx rfl (hb hby d7_88) rfl (l' := #[qA ob, qA tg, qA wt, qI x1, qI x2, qN k1, qN k1, qI (1 : Int32), qN k1]) rfl (XS.iload X12.here hx rfl (hb hby d7_90) rfl k)))))))) ?_
  refine own_st (S' := T12.setTop (mkF m 99 #[qA ob, qA tg, qA wt, qI x1, qI x2, qN k1, qN k1, qI (1 : Int32), qN k1] [(.int (((Int32.ofNat k1) - (Int32.ofNat k1)) + (1 : Int32))), (.int (1 : Int32))])) (fun t k => XS.iload X12.here hx rfl (hb hby d7_92) rfl (XS.iload X12.here hx rfl (hb hby d7_94) rfl (XS.isub X12.here hx rfl (hb hby d7_96) rfl (XS.iconst X12.here hx rfl (hb hby d7_97) (XS.iadd X12.here hx rfl (hb hby d7_98) rfl k))))) ?_
  rw [show ((((Int32.ofNat k1) - (Int32.ofNat k1)) + (1 : Int32)) : Int32) = (1 : Int32) from by rw [Int32.sub_self]; rfl]
  refine own_st (S' := T12.setTop (mkF m 103 #[qA ob, qA tg, qA wt, qI x1, qI x2, qN k1, qN k1, qI (1 : Int32), qN k1] [(.ref ob)])) (fun t k => XS.icmpNo X12.here hx rfl (hb hby d7_99) rfl (flt (by decide)).2.2.1 (XS.aloadN X12.here hx rfl (hb hby d7_102) rfl rfl k)) ?_
  obtain ⟨T23, X23, e23, st23⟩ := getF X12 hx hZ hown (host := "") (Or.inl (own_hw hw (i := 75) rfl)) Via.refl e12 f14 (g := (mkF m 103 #[qA ob, qA tg, qA wt, qI x1, qI x2, qN k1, qN k1, qI (1 : Int32), qN k1] [(.ref ob)])) rfl rfl (hb hby d7_103)
  refine own_st st23 ?_
  have O24 := f21
  obtain ⟨c24, Ar24, S24, M24, V24⟩ := O24
  have at24 : c24.slots[((1 : Int32)).toNatClampNeg]? = some (.int (1 : Int32)) := own_at S24 V24 (own_ix (j := (1 : Int32)) (i := 1) (n := 16370) (by decide) (by decide) (by decide)) rfl
  refine own_st (S' := T23.setTop (mkF m 111 #[qA ob, qA tg, qA wt, qI x1, qI x2, qN k1, qN k1, qI (1 : Int32), qN k1] [(.ref ob), (.int (1 : Int32)), (.int (1 : Int32)), (.ref pl)])) (fun t k => XS.iload X23.here hx rfl (hb hby d7_106) rfl (Jvm.Free.XT.dup2 X23.here hx rfl (hb hby d7_108) rfl rfl rfl (X23.iaload hx (j := (1 : Int32)) (v := (.int (1 : Int32))) (by rw [e23]; exact Ar24.1) (State.isArrayOf_alike hZ.alike Ar24.2.1) Ar24.2.2 (own_in S24 (own_ix (j := (1 : Int32)) (i := 1) (n := 16370) (by decide) (by decide) (by decide))) at24 (g := (mkF m 109 #[qA ob, qA tg, qA wt, qI x1, qI x2, qN k1, qN k1, qI (1 : Int32), qN k1] [(.int (1 : Int32)), (.ref pl), (.int (1 : Int32)), (.ref pl)])) rfl rfl (hb hby d7_109) _ (XS.aloadN X23.here hx rfl (hb hby d7_110) rfl rfl k)))) ?_
  obtain ⟨T25, X25, e25, st25⟩ := getF X23 hx hZ hown (host := "") (Or.inl (own_hw hw (i := 75) rfl)) Via.refl e23 f14 (g := (mkF m 111 #[qA ob, qA tg, qA wt, qI x1, qI x2, qN k1, qN k1, qI (1 : Int32), qN k1] [(.ref ob), (.int (1 : Int32)), (.int (1 : Int32)), (.ref pl)])) rfl rfl (hb hby d7_111)
  refine own_st st25 ?_
  have O26 := f21
  obtain ⟨c26, Ar26, S26, M26, V26⟩ := O26
  have at26 : c26.slots[((0 : Int32)).toNatClampNeg]? = some (.int (0 : Int32)) := own_at S26 V26 (own_ix (j := (0 : Int32)) (i := 0) (n := 16370) (by decide) (by decide) (by decide)) rfl
  refine own_st (S' := T25.setTop (mkF m 120 #[qA ob, qA tg, qA wt, qI x1, qI x2, qN k1, qN k1, qI (1 : Int32), qN k1] [(.int (1 : Int32)), (.int (1 : Int32)), (.ref pl)])) (fun t k => XS.iload X25.here hx rfl (hb hby d7_114) rfl (XS.iconst X25.here hx rfl (hb hby d7_116) (XS.isub X25.here hx rfl (hb hby d7_117) rfl (X25.iaload hx (j := (0 : Int32)) (v := (.int (0 : Int32))) (by rw [e25]; exact Ar26.1) (State.isArrayOf_alike hZ.alike Ar26.2.1) Ar26.2.2 (own_in S26 (own_ix (j := (0 : Int32)) (i := 0) (n := 16370) (by decide) (by decide) (by decide))) at26 (g := (mkF m 118 #[qA ob, qA tg, qA wt, qI x1, qI x2, qN k1, qN k1, qI (1 : Int32), qN k1] [(.int (0 : Int32)), (.ref pl), (.int (1 : Int32)), (.int (1 : Int32)), (.ref pl)])) rfl rfl (hb hby d7_118) _ (XS.iadd X25.here hx rfl (hb hby d7_119) rfl k))))) ?_
  have O27 := f21
  obtain ⟨c27, Ar27, S27, M27, V27⟩ := O27
  obtain ⟨T27, h27, X27, e27, W27, st27⟩ := stI X25 hx hZ e25 Ar27 (j := (1 : Int32)) (own_in S27 (own_ix (j := (1 : Int32)) (i := 1) (n := 16370) (by decide) (by decide) (by decide))) (g := (mkF m 120 #[qA ob, qA tg, qA wt, qI x1, qI x2, qN k1, qN k1, qI (1 : Int32), qN k1] [(.int (1 : Int32)), (.int (1 : Int32)), (.ref pl)])) rfl rfl (hb hby d7_120)
  refine own_st st27 ?_
  have f28 := f13.wr W27
  have f29 := f14.other W27 (Or.inl ne_ob_pl)
  have f30 := f15.other W27 (Or.inl ne_ob_pl)
  have f31 := f16.other W27 (Or.inl ne_ob_pl)
  have f32 := f17.other W27 (Ne.symm ne_pl_sT)
  have f33 := f18.other W27 (Ne.symm ne_pl_sW)
  have f34 := f19.other W27 (Ne.symm ne_pl_tg)
  have f35 := f20.other W27 (Ne.symm ne_pl_wt)
  have Z27 : n0 ≤ h27.size := Nat.le_trans Z12 (Keep.of_wr W27).1
  have N27 := Fr.snoc X27 N12 G_pl
  have K27 : Keep h0 h27 [pl, sT, sW, tg, wt] := K12.wr W27 (Or.inl (List.mem_of_getElem? (i := 0) rfl))
  have f36 : own_A Z h27 pl .int 16370 (own_I (own_uI (own_uI own_z 1 (1 : Int32)) 1 (1 : Int32))) := by rw [← own_upI]; exact own_A.set ⟨c27, Ar27, S27, M27, V27⟩ (own_ix (j := (1 : Int32)) (i := 1) (n := 16370) (by decide) (by decide) (by decide)) W27
  refine own_st (S' := T27.setTop (mkF m 99 #[qA ob, qA tg, qA wt, qI x1, qI x2, qN k1, qN k1, qI (2 : Int32), qN k1] [(.int (((Int32.ofNat k1) - (Int32.ofNat k1)) + (1 : Int32))), (.int (2 : Int32))])) (fun t k => XS.iinc X27.here hx rfl (hb hby d7_121) rfl (l' := #[qA ob, qA tg, qA wt, qI x1, qI x2, qN k1, qN k1, qI (2 : Int32), qN k1]) rfl (XS.goto X27.here hx rfl (pc0 := 124) (pc' := 90) rfl (hb hby d7_124) (by decide) (by decide) (XS.iload X27.here hx rfl (hb hby d7_90) rfl (XS.iload X27.here hx rfl (hb hby d7_92) rfl (XS.iload X27.here hx rfl (hb hby d7_94) rfl (XS.isub X27.here hx rfl (hb hby d7_96) rfl (XS.iconst X27.here hx rfl (hb hby d7_97) (XS.iadd X27.here hx rfl (hb hby d7_98) rfl k)))))))) ?_
  rw [show ((((Int32.ofNat k1) - (Int32.ofNat k1)) + (1 : Int32)) : Int32) = (1 : Int32) from by rw [Int32.sub_self]; rfl]
  have hc37 : x1 < x2 := by rw [h1, h2, own_ltN (by omega) (by omega)]; omega
  refine own_st (S' := T27.setTop (mkF m 138 #[qA ob, qA tg, qA wt, qI x1, qI x2, qN k1, qN k1, qI x1, qN k1] [(.ref ob)])) (fun t k => XS.icmpYes X27.here hx rfl (pc0 := 99) (pc' := 127) rfl (hb hby d7_99) rfl (tlt (by decide)).2.2.1 (by decide) (by decide) (XS.iloadN X27.here hx rfl (hb hby d7_127) rfl (XS.istore X27.here hx rfl (hb hby d7_128) rfl (l' := #[qA ob, qA tg, qA wt, qI x1, qI x2, qN k1, qN k1, qI x1, qN k1]) rfl (XS.iload X27.here hx rfl (hb hby d7_130) rfl (XS.iload X27.here hx rfl (hb hby d7_132) rfl (XS.icmpNo X27.here hx rfl (hb hby d7_134) rfl (tlt hc37).2.1 (XS.aloadN X27.here hx rfl (hb hby d8_137) rfl rfl k))))))) ?_
  obtain ⟨T38, X38, e38, st38⟩ := getF X27 hx hZ hown (host := "") (Or.inl (own_hw hw (i := 75) rfl)) Via.refl e27 f29 (g := (mkF m 138 #[qA ob, qA tg, qA wt, qI x1, qI x2, qN k1, qN k1, qI x1, qN k1] [(.ref ob)])) rfl rfl (hb hby d8_138)
  refine own_st st38 ?_
  have O39 := f35
  obtain ⟨c39, Ar39, S39, M39, V39⟩ := O39
  have at39 : c39.slots[(x1).toNatClampNeg]? = some (.double (f4 x)) := own_at S39 V39 (by rw [h1]; exact own_ixN (by omega) (by omega)) rfl
  refine own_st (S' := T38.setTop (mkF m 147 #[qA ob, qA tg, qA wt, qI x1, qI x2, qN k1, qN k1, qI x1, qN k1] [(.double (f4 x)), qV k1, (.ref pl)])) (fun t k => XS.iload X38.here hx rfl (hb hby d8_141) rfl (XS.aloadN X38.here hx rfl (hb hby d8_143) rfl rfl (XS.iload X38.here hx rfl (hb hby d8_144) rfl (X38.daload hx (j := x1) (v := (.double (f4 x))) (by rw [e38]; exact Ar39.1) (State.isArrayOf_alike hZ.alike Ar39.2.1) Ar39.2.2 (own_in S39 (by rw [h1]; exact own_ixN (by omega) (by omega))) at39 (g := (mkF m 146 #[qA ob, qA tg, qA wt, qI x1, qI x2, qN k1, qN k1, qI x1, qN k1] [(.int x1), (.ref wt), qV k1, (.ref pl)])) rfl rfl (hb hby d8_146) _ k)))) ?_
  obtain ⟨_, _, ⟨T40, L40, k40, n40⟩, -, X40, ⟨Lc40, hQ40, l40, y40, z40⟩, st40⟩ := own_callSN X38 hx (y := (⟨"kithrank/Graph", "weightClass", "(D)I"⟩ : MethodName)) hown (mvMN hZ (own_hw hw (i := 86) rfl)) (mvT hZ (own_hw hw (i := 87) rfl)) (mvT hZ (own_hw hw (i := 73) rfl)) (mvT hZ (own_hw hw (i := 88) rfl)) (by decide) (backOf (W := 2) (rm4 l Z a0 hw [] (f4 x) h27 n0 Z27 ) hZ (own_hw hw (i := 88) rfl) (own_hw hw (i := 73) rfl) (by decide) (by decide)) (g := (mkF m 147 #[qA ob, qA tg, qA wt, qI x1, qI x2, qN k1, qN k1, qI x1, qN k1] [(.double (f4 x)), qV k1, (.ref pl)])) rfl (by rw [hml]; rfl) (argsL := [(.double (f4 x))]) (rest := [(.int (Int32.ofNat k1)), (.ref pl)]) (lenOf pd8_0 rfl) rfl (by show 2 * 0 + _ ≤ _; exact Nat.le_of_eq rfl) (hb hby d8_147) (fun _ _ => ⟨rfl, e38, (by decide : 0 + 0 ≤ _), (by decide : 0 + 0 ≤ _)⟩)
  dsimp only [Pt.U, Pt.locs, Pt.cells, Pt.slots] at X40 l40 y40 z40 st40 hQ40
  rw [l40, y40, z40] at X40
  obtain ⟨rfl, N40q, hh40⟩ := hQ40
  have N40 := Fr.app N27 N40q
  refine own_st st40 ?_
  show own_Go p.tables e below _ (T40.setTop (mkF m 150 #[qA ob, qA tg, qA wt, qI x1, qI x2, qN k1, qN k1, qI x1, qN k1] [(.int (own_wc (f4 x))), qV k1, (.ref pl)]))
  rw [show ((own_wc (f4 x)) : Int32) = (Int32.ofNat k1) from hc]
  refine own_st (S' := T40.setTop (mkF m 151 #[qA ob, qA tg, qA wt, qI x1, qI x2, qN k1, qN k1, qI x1, qN k1] [(.int ((Int32.ofNat k1) - (Int32.ofNat k1))), (.ref pl)])) (fun t k => XS.isub X40.here hx rfl (hb hby d8_150) rfl k) ?_
  rw [show (((Int32.ofNat k1) - (Int32.ofNat k1)) : Int32) = (0 : Int32) from Int32.sub_self _]
  have O41 := f36
  obtain ⟨c41, Ar41, S41, M41, V41⟩ := O41
  have at41 : c41.slots[((0 : Int32)).toNatClampNeg]? = some (.int (0 : Int32)) := own_at S41 V41 (own_ix (j := (0 : Int32)) (i := 0) (n := 16370) (by decide) (by decide) (by decide)) rfl
  refine own_st (S' := T40.setTop (mkF m 156 #[qA ob, qA tg, qA wt, qI x1, qI x2, qN k1, qN k1, qI x1, qN k1] [(.int (1 : Int32)), (.int (0 : Int32)), (.ref pl), (.int (0 : Int32))])) (fun t k => Jvm.Free.XT.dup2 X40.here hx rfl (hb hby d8_151) rfl rfl rfl (X40.iaload hx (j := (0 : Int32)) (v := (.int (0 : Int32))) (by rw [hh40]; exact Ar41.1) (State.isArrayOf_alike hZ.alike Ar41.2.1) Ar41.2.2 (own_in S41 (own_ix (j := (0 : Int32)) (i := 0) (n := 16370) (by decide) (by decide) (by decide))) at41 (g := (mkF m 152 #[qA ob, qA tg, qA wt, qI x1, qI x2, qN k1, qN k1, qI x1, qN k1] [(.int (0 : Int32)), (.ref pl), (.int (0 : Int32)), (.ref pl)])) rfl rfl (hb hby d8_152) _ (own_dupx2 X40.here hx rfl (hb hby d8_153) rfl rfl rfl rfl (XS.iconst X40.here hx rfl (hb hby d8_154) (XS.iadd X40.here hx rfl (hb hby d8_155) rfl k))))) ?_
  have O42 := f36
  obtain ⟨c42, Ar42, S42, M42, V42⟩ := O42
  obtain ⟨T42, h42, X42, e42, W42, st42⟩ := stI X40 hx hZ hh40 Ar42 (j := (0 : Int32)) (own_in S42 (own_ix (j := (0 : Int32)) (i := 0) (n := 16370) (by decide) (by decide) (by decide))) (g := (mkF m 156 #[qA ob, qA tg, qA wt, qI x1, qI x2, qN k1, qN k1, qI x1, qN k1] [(.int (1 : Int32)), (.int (0 : Int32)), (.ref pl), (.int (0 : Int32))])) rfl rfl (hb hby d8_156)
  refine own_st st42 ?_
  have f43 := f28.wr W42
  have f44 := f29.other W42 (Or.inl ne_ob_pl)
  have f45 := f30.other W42 (Or.inl ne_ob_pl)
  have f46 := f31.other W42 (Or.inl ne_ob_pl)
  have f47 := f32.other W42 (Ne.symm ne_pl_sT)
  have f48 := f33.other W42 (Ne.symm ne_pl_sW)
  have f49 := f34.other W42 (Ne.symm ne_pl_tg)
  have f50 := f35.other W42 (Ne.symm ne_pl_wt)
  have Z42 : n0 ≤ h42.size := Nat.le_trans Z27 (Keep.of_wr W42).1
  have N42 := Fr.snoc X42 N40 G_pl
  have K42 : Keep h0 h42 [pl, sT, sW, tg, wt] := K27.wr W42 (Or.inl (List.mem_of_getElem? (i := 0) rfl))
  have f51 : own_A Z h42 pl .int 16370 (own_I (own_uI (own_uI (own_uI own_z 1 (1 : Int32)) 1 (1 : Int32)) 0 (1 : Int32))) := by rw [← own_upI]; exact own_A.set ⟨c42, Ar42, S42, M42, V42⟩ (own_ix (j := (0 : Int32)) (i := 0) (n := 16370) (by decide) (by decide) (by decide)) W42
  refine own_st (S' := T42.setTop (mkF m 160 #[qA ob, qA tg, qA wt, qI x1, qI x2, qN k1, qN k1, qI x1, qI (0 : Int32)] [(.ref ob)])) (fun t k => XS.istore X42.here hx rfl (hb hby d8_157) rfl (l' := #[qA ob, qA tg, qA wt, qI x1, qI x2, qN k1, qN k1, qI x1, qI (0 : Int32)]) rfl (XS.aloadN X42.here hx rfl (hb hby d8_159) rfl rfl k)) ?_
  obtain ⟨T52, X52, e52, st52⟩ := getF X42 hx hZ hown (host := "") (Or.inl (own_hw hw (i := 77) rfl)) Via.refl e42 f45 (g := (mkF m 160 #[qA ob, qA tg, qA wt, qI x1, qI x2, qN k1, qN k1, qI x1, qI (0 : Int32)] [(.ref ob)])) rfl rfl (hb hby d8_160)
  refine own_st st52 ?_
  have O53 := f49
  obtain ⟨c53, Ar53, S53, M53, V53⟩ := O53
  have at53 : c53.slots[(x1).toNatClampNeg]? = some (.int (f3 x)) := own_at S53 V53 (by rw [h1]; exact own_ixN (by omega) (by omega)) rfl
  refine own_st (S' := T52.setTop (mkF m 169 #[qA ob, qA tg, qA wt, qI x1, qI x2, qN k1, qN k1, qI x1, qI (0 : Int32)] [(.int (f3 x)), (.int (0 : Int32)), (.ref sT)])) (fun t k => XS.iload X52.here hx rfl (hb hby d8_163) rfl (XS.aloadN X52.here hx rfl (hb hby d8_165) rfl rfl (XS.iload X52.here hx rfl (hb hby d8_166) rfl (X52.iaload hx (j := x1) (v := (.int (f3 x))) (by rw [e52]; exact Ar53.1) (State.isArrayOf_alike hZ.alike Ar53.2.1) Ar53.2.2 (own_in S53 (by rw [h1]; exact own_ixN (by omega) (by omega))) at53 (g := (mkF m 168 #[qA ob, qA tg, qA wt, qI x1, qI x2, qN k1, qN k1, qI x1, qI (0 : Int32)] [(.int x1), (.ref tg), (.int (0 : Int32)), (.ref sT)])) rfl rfl (hb hby d8_168) _ k)))) ?_
  have O54 := f47
  obtain ⟨c54, Ar54, S54, M54, V54⟩ := O54
  obtain ⟨T54, h54, X54, e54, W54, st54⟩ := stI X52 hx hZ e52 Ar54 (j := (0 : Int32)) (own_in S54 (own_ix (j := (0 : Int32)) (i := 0) (n := 2) (by decide) (by decide) (by decide))) (g := (mkF m 169 #[qA ob, qA tg, qA wt, qI x1, qI x2, qN k1, qN k1, qI x1, qI (0 : Int32)] [(.int (f3 x)), (.int (0 : Int32)), (.ref sT)])) rfl rfl (hb hby d8_169)
  refine own_st st54 ?_
  have f55 := f43.wr W54
  have f56 := f44.other W54 (Or.inl ne_ob_sT)
  have f57 := f45.other W54 (Or.inl ne_ob_sT)
  have f58 := f46.other W54 (Or.inl ne_ob_sT)
  have f59 := f51.other W54 ne_pl_sT
  have f60 := f48.other W54 (Ne.symm ne_sT_sW)
  have f61 := f49.other W54 (Ne.symm ne_sT_tg)
  have f62 := f50.other W54 (Ne.symm ne_sT_wt)
  have Z54 : n0 ≤ h54.size := Nat.le_trans Z42 (Keep.of_wr W54).1
  have N54 := Fr.snoc X54 N42 G_sT
  have K54 : Keep h0 h54 [pl, sT, sW, tg, wt] := K42.wr W54 (Or.inl (List.mem_of_getElem? (i := 1) rfl))
  have f63 : own_A Z h54 sT .int 2 (own_I (own_uI f1 0 (f3 x))) := by rw [← own_upI]; exact own_A.set ⟨c54, Ar54, S54, M54, V54⟩ (own_ix (j := (0 : Int32)) (i := 0) (n := 2) (by decide) (by decide) (by decide)) W54
  refine own_st (S' := T54.setTop (mkF m 171 #[qA ob, qA tg, qA wt, qI x1, qI x2, qN k1, qN k1, qI x1, qI (0 : Int32)] [(.ref ob)])) (fun t k => XS.aloadN X54.here hx rfl (hb hby d8_170) rfl rfl k) ?_
  obtain ⟨T64, X64, e64, st64⟩ := getF X54 hx hZ hown (host := "") (Or.inl (own_hw hw (i := 79) rfl)) Via.refl e54 f58 (g := (mkF m 171 #[qA ob, qA tg, qA wt, qI x1, qI x2, qN k1, qN k1, qI x1, qI (0 : Int32)] [(.ref ob)])) rfl rfl (hb hby d8_171)
  refine own_st st64 ?_
  have O65 := f62
  obtain ⟨c65, Ar65, S65, M65, V65⟩ := O65
  have at65 : c65.slots[(x1).toNatClampNeg]? = some (.double (f4 x)) := own_at S65 V65 (by rw [h1]; exact own_ixN (by omega) (by omega)) rfl
  refine own_st (S' := T64.setTop (mkF m 180 #[qA ob, qA tg, qA wt, qI x1, qI x2, qN k1, qN k1, qI x1, qI (0 : Int32)] [(.double (f4 x)), (.int (0 : Int32)), (.ref sW)])) (fun t k => XS.iload X64.here hx rfl (hb hby d8_174) rfl (XS.aloadN X64.here hx rfl (hb hby d8_176) rfl rfl (XS.iload X64.here hx rfl (hb hby d8_177) rfl (X64.daload hx (j := x1) (v := (.double (f4 x))) (by rw [e64]; exact Ar65.1) (State.isArrayOf_alike hZ.alike Ar65.2.1) Ar65.2.2 (own_in S65 (by rw [h1]; exact own_ixN (by omega) (by omega))) at65 (g := (mkF m 179 #[qA ob, qA tg, qA wt, qI x1, qI x2, qN k1, qN k1, qI x1, qI (0 : Int32)] [(.int x1), (.ref wt), (.int (0 : Int32)), (.ref sW)])) rfl rfl (hb hby d8_179) _ k)))) ?_
  have O66 := f60
  obtain ⟨c66, Ar66, S66, M66, V66⟩ := O66
  obtain ⟨T66, h66, X66, e66, W66, st66⟩ := stD X64 hx hZ e64 Ar66 (j := (0 : Int32)) (own_in S66 (own_ix (j := (0 : Int32)) (i := 0) (n := 2) (by decide) (by decide) (by decide))) (g := (mkF m 180 #[qA ob, qA tg, qA wt, qI x1, qI x2, qN k1, qN k1, qI x1, qI (0 : Int32)] [(.double (f4 x)), (.int (0 : Int32)), (.ref sW)])) rfl rfl (hb hby d8_180)
  refine own_st st66 ?_
  have f67 := f55.wr W66
  have f68 := f56.other W66 (Or.inl ne_ob_sW)
  have f69 := f57.other W66 (Or.inl ne_ob_sW)
  have f70 := f58.other W66 (Or.inl ne_ob_sW)
  have f71 := f59.other W66 ne_pl_sW
  have f72 := f63.other W66 ne_sT_sW
  have f73 := f61.other W66 (Ne.symm ne_sW_tg)
  have f74 := f62.other W66 (Ne.symm ne_sW_wt)
  have Z66 : n0 ≤ h66.size := Nat.le_trans Z54 (Keep.of_wr W66).1
  have N66 := Fr.snoc X66 N54 G_sW
  have K66 : Keep h0 h66 [pl, sT, sW, tg, wt] := K54.wr W66 (Or.inl (List.mem_of_getElem? (i := 2) rfl))
  have f75 : own_A Z h66 sW .double 2 (own_D (own_uD f2 0 (f4 x))) := by rw [← own_upD]; exact own_A.set ⟨c66, Ar66, S66, M66, V66⟩ (own_ix (j := (0 : Int32)) (i := 0) (n := 2) (by decide) (by decide) (by decide)) W66
  have hc76 : ¬ ((x1 + (1 : Int32)) < x2) := by rw [h1, h2, own_incN (by omega)]; exact Int32.lt_irrefl
  refine own_st (S' := T66.setTop (mkF m 188 #[qA ob, qA tg, qA wt, qI x1, qI x2, qN k1, qN k1, qI (x1 + (1 : Int32)), qI (0 : Int32)] [(.ref ob)])) (fun t k => XS.iinc X66.here hx rfl (hb hby d8_181) rfl (l' := #[qA ob, qA tg, qA wt, qI x1, qI x2, qN k1, qN k1, qI (x1 + (1 : Int32)), qI (0 : Int32)]) rfl (XS.goto X66.here hx rfl (pc0 := 184) (pc' := 130) rfl (hb hby d8_184) (by decide) (by decide) (XS.iload X66.here hx rfl (hb hby d7_130) rfl (XS.iload X66.here hx rfl (hb hby d7_132) rfl (XS.icmpYes X66.here hx rfl (pc0 := 134) (pc' := 187) rfl (hb hby d7_134) rfl (flt hc76).2.1 (by decide) (by decide) (XS.aloadN X66.here hx rfl (hb hby d7_187) rfl rfl k)))))) ?_
  obtain ⟨T77, X77, e77, st77⟩ := getF X66 hx hZ hown (host := "") (Or.inl (own_hw hw (i := 77) rfl)) Via.refl e66 f69 (g := (mkF m 188 #[qA ob, qA tg, qA wt, qI x1, qI x2, qN k1, qN k1, qI (x1 + (1 : Int32)), qI (0 : Int32)] [(.ref ob)])) rfl rfl (hb hby d7_188)
  refine own_st st77 ?_
  refine own_st (S' := T77.setTop (mkF m 198 #[qA ob, qA tg, qA wt, qI x1, qI x2, qN k1, qN k1, qI (x1 + (1 : Int32)), qI (0 : Int32)] [(.int (x2 - x1)), (.int x1), (.ref tg), (.int (0 : Int32)), (.ref sT)])) (fun t k => XS.iconst X77.here hx rfl (hb hby d7_191) (XS.aloadN X77.here hx rfl (hb hby d7_192) rfl rfl (XS.iloadN X77.here hx rfl (hb hby d7_193) rfl (XS.iload X77.here hx rfl (hb hby d7_194) rfl (XS.iloadN X77.here hx rfl (hb hby d7_196) rfl (XS.isub X77.here hx rfl (hb hby d7_197) rfl k)))))) ?_
  obtain ⟨T78, h78, L78, X78, e78, N78, Kq78, A78, st78⟩ := own_cp X77 hx hZ hown (own_hw hw (i := 95) rfl) (own_hw hw (i := 98) rfl) (own_hw hw (i := 96) rfl) (own_hw hw (i := 97) rfl) e77 (hty := rfl) f72 f73 (fun _ => rfl) (fun _ => rfl) (i := 0) (j := x) (k := 1) rfl h1 (by rw [h1, h2, own_subN (by omega) (by omega), show x + 1 - x = 1 by omega]) (by omega) hN N66 G_tg (g := (mkF m 198 #[qA ob, qA tg, qA wt, qI x1, qI x2, qN k1, qN k1, qI (x1 + (1 : Int32)), qI (0 : Int32)] [(.int (x2 - x1)), (.int x1), (.ref tg), (.int (0 : Int32)), (.ref sT)])) rfl (by rw [hml]; rfl) (rest := []) rfl (hb hby d7_198) (by decide) (W := 0) (by show 2 * 0 + _ ≤ _; exact Nat.le_of_eq rfl) (by decide)
  have f79 := f67.keep Kq78
  have f80 := f68.keep Kq78 (ninS ne_ob_tg nin0)
  have f81 := f69.keep Kq78 (ninS ne_ob_tg nin0)
  have f82 := f70.keep Kq78 (ninS ne_ob_tg nin0)
  have f83 := f71.keep Kq78 (ninS ne_pl_tg nin0)
  have f84 := f72.keep Kq78 (ninS ne_sT_tg nin0)
  have f85 := f75.keep Kq78 (ninS ne_sW_tg nin0)
  have f86 := f74.keep Kq78 (ninS (Ne.symm ne_tg_wt) nin0)
  have f87 : own_A Z h78 tg .int nt (own_I (own_ci (own_uI f1 0 (f3 x)) f3 0 x 1)) := A78.cong (fun q _ => by unfold own_I own_ci; split <;> rfl)
  have Z78 : n0 ≤ h78.size := Nat.le_trans Z66 Kq78.1
  have K78 : Keep h0 h78 [pl, sT, sW, tg, wt] := K66.trans Kq78 (allS (Or.inl (List.mem_of_getElem? (i := 3) rfl)) all0)
  refine own_st st78 ?_
  refine own_st (S' := T78.setTop (mkF m 202 #[qA ob, qA tg, qA wt, qI x1, qI x2, qN k1, qN k1, qI (x1 + (1 : Int32)), qI (0 : Int32)] [(.ref ob)])) (fun t k => XS.aloadN X78.here hx rfl (hb hby d7_201) rfl rfl k) ?_
  obtain ⟨T88, X88, e88, st88⟩ := getF X78 hx hZ hown (host := "") (Or.inl (own_hw hw (i := 79) rfl)) Via.refl e78 f82 (g := (mkF m 202 #[qA ob, qA tg, qA wt, qI x1, qI x2, qN k1, qN k1, qI (x1 + (1 : Int32)), qI (0 : Int32)] [(.ref ob)])) rfl rfl (hb hby d7_202)
  refine own_st st88 ?_
  refine own_st (S' := T88.setTop (mkF m 212 #[qA ob, qA tg, qA wt, qI x1, qI x2, qN k1, qN k1, qI (x1 + (1 : Int32)), qI (0 : Int32)] [(.int (x2 - x1)), (.int x1), (.ref wt), (.int (0 : Int32)), (.ref sW)])) (fun t k => XS.iconst X88.here hx rfl (hb hby d7_205) (XS.aloadN X88.here hx rfl (hb hby d7_206) rfl rfl (XS.iloadN X88.here hx rfl (hb hby d7_207) rfl (XS.iload X88.here hx rfl (hb hby d7_208) rfl (XS.iloadN X88.here hx rfl (hb hby d7_210) rfl (XS.isub X88.here hx rfl (hb hby d7_211) rfl k)))))) ?_
  obtain ⟨T89, h89, L89, X89, e89, N89, Kq89, A89, st89⟩ := own_cp X88 hx hZ hown (own_hw hw (i := 95) rfl) (own_hw hw (i := 98) rfl) (own_hw hw (i := 96) rfl) (own_hw hw (i := 97) rfl) e88 (hty := rfl) f85 f86 (fun _ => rfl) (fun _ => rfl) (i := 0) (j := x) (k := 1) rfl h1 (by rw [h1, h2, own_subN (by omega) (by omega), show x + 1 - x = 1 by omega]) (by omega) hN N78 G_wt (g := (mkF m 212 #[qA ob, qA tg, qA wt, qI x1, qI x2, qN k1, qN k1, qI (x1 + (1 : Int32)), qI (0 : Int32)] [(.int (x2 - x1)), (.int x1), (.ref wt), (.int (0 : Int32)), (.ref sW)])) rfl (by rw [hml]; rfl) (rest := []) rfl (hb hby d7_212) (by decide) (W := 0) (by show 2 * 0 + _ ≤ _; exact Nat.le_of_eq rfl) (by decide)
  have f90 := f79.keep Kq89
  have f91 := f80.keep Kq89 (ninS ne_ob_wt nin0)
  have f92 := f81.keep Kq89 (ninS ne_ob_wt nin0)
  have f93 := f82.keep Kq89 (ninS ne_ob_wt nin0)
  have f94 := f83.keep Kq89 (ninS ne_pl_wt nin0)
  have f95 := f84.keep Kq89 (ninS ne_sT_wt nin0)
  have f96 := f85.keep Kq89 (ninS ne_sW_wt nin0)
  have f97 := f87.keep Kq89 (ninS ne_tg_wt nin0)
  have f98 : own_A Z h89 wt .double nt (own_D (own_cd (own_uD f2 0 (f4 x)) f4 0 x 1)) := A89.cong (fun q _ => by unfold own_D own_cd; split <;> rfl)
  have Z89 : n0 ≤ h89.size := Nat.le_trans Z78 Kq89.1
  have K89 : Keep h0 h89 [pl, sT, sW, tg, wt] := K78.trans Kq89 (allS (Or.inl (List.mem_of_getElem? (i := 4) rfl)) all0)
  refine own_st st89 ?_
  refine own_st (S' := T89.setTop (mkF m 216 #[qA ob, qA tg, qA wt, qI x1, qI x2, qN k1, qN k1, qI (x1 + (1 : Int32)), qI (0 : Int32)] [(.ref ob)])) (fun t k => XS.aloadN X89.here hx rfl (hb hby d7_215) rfl rfl k) ?_
  obtain ⟨T99, X99, e99, st99⟩ := getF X89 hx hZ hown (host := "") (Or.inl (own_hw hw (i := 75) rfl)) Via.refl e89 f91 (g := (mkF m 216 #[qA ob, qA tg, qA wt, qI x1, qI x2, qN k1, qN k1, qI (x1 + (1 : Int32)), qI (0 : Int32)] [(.ref ob)])) rfl rfl (hb hby d7_216)
  refine own_st st99 ?_
  refine own_st (S' := T99.setTop (mkF m 227 #[qA ob, qA tg, qA wt, qI x1, qI x2, qN k1, qN k1, qI (x1 + (1 : Int32)), qI (0 : Int32)] [(.int (((Int32.ofNat k1) - (Int32.ofNat k1)) + (2 : Int32))), (.int (0 : Int32)), (.ref pl)])) (fun t k => XS.iconst X99.here hx rfl (hb hby d7_219) (XS.iload X99.here hx rfl (hb hby d7_220) rfl (XS.iload X99.here hx rfl (hb hby d7_222) rfl (XS.isub X99.here hx rfl (hb hby d7_224) rfl (XS.iconst X99.here hx rfl (hb hby d7_225) (XS.iadd X99.here hx rfl (hb hby d7_226) rfl k)))))) ?_
  rw [show ((((Int32.ofNat k1) - (Int32.ofNat k1)) + (2 : Int32)) : Int32) = (2 : Int32) from by rw [Int32.sub_self]; rfl]
  refine own_st (S' := T99.setTop (mkF m 228 #[qA ob, qA tg, qA wt, qI x1, qI x2, qN k1, qN k1, qI (x1 + (1 : Int32)), qI (0 : Int32)] [(.int (0 : Int32)), (.int (2 : Int32)), (.int (0 : Int32)), (.ref pl)])) (fun t k => XS.iconst X99.here hx rfl (hb hby d7_227) k) ?_
  obtain ⟨_, _, ⟨T100, L100, k100, n100⟩, -, X100, ⟨Lc100, hQ100, l100, y100, z100⟩, st100⟩ := Jvm.LawKit.callS X99 hx (y := (⟨"java/util/Arrays", "fill", "([IIII)V"⟩ : MethodName)) hown (mvT hZ (own_hw hw (i := 99) rfl)) (mvT hZ (own_hw hw (i := 100) rfl)) (mvT hZ (own_hw hw (i := 101) rfl)) (mvT hZ (own_hw hw (i := 102) rfl)) (by decide) (backOf (W := 0) (rm6 l Z a0 hw [] pl (2 : Int32) (own_uI (own_uI (own_uI own_z 1 (1 : Int32)) 1 (1 : Int32)) 0 (1 : Int32)) 2 h89 n0 Z89 f94 G_pl rfl (by decide)) hZ (own_hw hw (i := 102) rfl) (own_hw hw (i := 101) rfl) (by decide) (by decide)) (g := (mkF m 228 #[qA ob, qA tg, qA wt, qI x1, qI x2, qN k1, qN k1, qI (x1 + (1 : Int32)), qI (0 : Int32)] [(.int (0 : Int32)), (.int (2 : Int32)), (.int (0 : Int32)), (.ref pl)])) rfl (by rw [hml]; rfl) (argsL := [(.ref pl), (.int (0 : Int32)), (.int (2 : Int32)), (.int (0 : Int32))]) (rest := []) (lenOf pd8_2 rfl) rfl (by show 2 * 0 + _ ≤ _; exact Nat.le_of_eq rfl) (hb hby d7_228) (fun _ _ => ⟨rfl, e99, (by decide : 0 + 0 ≤ _), (by decide : 0 + 0 ≤ _)⟩)
  dsimp only [Pt.U, Pt.locs, Pt.cells, Pt.slots] at X100 l100 y100 z100 st100 hQ100
  rw [l100, y100, z100] at X100
  obtain ⟨rfl, N100q, Kq100, g0_100⟩ := hQ100
  have f101 := f90.keep Kq100
  have f102 := f91.keep Kq100 (ninS ne_ob_pl nin0)
  have f103 := f92.keep Kq100 (ninS ne_ob_pl nin0)
  have f104 := f93.keep Kq100 (ninS ne_ob_pl nin0)
  have f105 := f95.keep Kq100 (ninS (Ne.symm ne_pl_sT) nin0)
  have f106 := f96.keep Kq100 (ninS (Ne.symm ne_pl_sW) nin0)
  have f107 := f97.keep Kq100 (ninS (Ne.symm ne_pl_tg) nin0)
  have f108 := f98.keep Kq100 (ninS (Ne.symm ne_pl_wt) nin0)
  have Z100 : n0 ≤ T100.heap.size := Nat.le_trans Z89 Kq100.1
  have K100 : Keep h0 T100.heap [pl, sT, sW, tg, wt] := K89.trans Kq100 (allS (Or.inl (List.mem_of_getElem? (i := 0) rfl)) all0)
  have N100 := Fr.app N89 N100q
  refine own_st st100 ?_
  show own_Go p.tables e below _ (T100.setTop (mkF m 231 #[qA ob, qA tg, qA wt, qI x1, qI x2, qN k1, qN k1, qI (x1 + (1 : Int32)), qI (0 : Int32)] []))
  have f109 : own_A Z T100.heap pl .int 16370 (own_I own_z) := by have q := g0_100; rw [own_pl1] at q; exact q
  have f110 : own_A Z T100.heap tg .int nt (own_I f3) := by have q := f107; rw [own_ci1 (own_uI f1 0 (f3 x)) f3 x rfl] at q; exact q
  have f111 : own_A Z T100.heap wt .double nt (own_D f4) := by have q := f108; rw [own_cd1 (own_uD f2 0 (f4 x)) f4 x rfl] at q; exact q
  refine own_retV X100 hx hret hlk (hb hby d7_231) ?_ (by decide) (by decide)
  exact ⟨rfl, N100, K100, f109, f105, f106, f110, f111⟩
theorem pd9_0 : parseMethodDescriptor "(D)I" = some ⟨[.double], some .int⟩ := by decide +kernel
theorem pd9_1 : parseMethodDescriptor "(II)I" = some ⟨[.int, .int], some .int⟩ := by decide +kernel
theorem pd9_2 : parseMethodDescriptor "([IIII)V" = some ⟨[(.array .int), .int, .int, .int], none⟩ := by decide +kernel
theorem pn9 : plainName "kithrank/Graph$ClassSort" = true := by first | (simp [plainName, overriddenIn]; done) | decide +kernel
theorem ef9 (m : MethodId) (ob : Addr) (tg : Addr) (wt : Addr) (x1 : Int32) (x2 : Int32) : entryFrame m #[(.ref ob), (.ref tg), (.ref wt), (.int x1), (.int x2)] 9 = mkF m 0 #[.val (.ref ob), .val (.ref tg), .val (.ref wt), .val (.int x1), .val (.int x2), .unset, .unset, .unset, .unset] [] := by first | (simp [entryFrame, mkF, argsToLocals, Value.category]; done) | rfl
def Q9 (Z : State) (ob : Addr) (tg : Addr) (wt : Addr) (x1 : Int32) (x2 : Int32) (pl : Addr) (sT : Addr) (sW : Addr) (nt : Nat) (f1 : Nat → Int32) (f2 : Nat → UInt64) (f3 : Nat → Int32) (f4 : Nat → UInt64) (x : Nat) (k1 : Nat) (k2 : Nat) (a1 : Nat) (a2 : Nat) (d : Nat) (t1 : Nat) (t2 : Nat) (h0 : Heap) (n0 : Nat) (v : Option Value) (h : Heap) (L : List Loc) : Prop := v = none ∧ Fr n0 L ∧ Keep h0 h [pl, sT, sW, tg, wt] ∧ own_A Z h pl .int 16370 (own_I own_z) ∧ own_A Z h sT .int 2 (own_I (own_uI (own_uI f1 t1 (f3 x)) t2 (f3 (x + 1)))) ∧ own_A Z h sW .double 2 (own_D (own_uD (own_uD f2 t1 (f4 x)) t2 (f4 (x + 1)))) ∧ own_A Z h tg .int nt (own_I (own_sw f3 x t1)) ∧ own_A Z h wt .double nt (own_D (own_sw f4 x t1))
set_option maxRecDepth 65536 in
set_option maxHeartbeats 40000000 in
theorem rm9 (l : Launch) (Z : State) (a0 : Array Value) (hw : ∀ d ∈ tables_1, d.before a0 Z = true) (ws : List Jvm.Cond) (ob : Addr) (tg : Addr) (wt : Addr) (x1 : Int32) (x2 : Int32) (pl : Addr) (sT : Addr) (sW : Addr) (nt : Nat) (f1 : Nat → Int32) (f2 : Nat → UInt64) (f3 : Nat → Int32) (f4 : Nat → UInt64) (x : Nat) (k1 : Nat) (k2 : Nat) (a1 : Nat) (a2 : Nat) (d : Nat) (t1 : Nat) (t2 : Nat) (h0 : Heap) (n0 : Nat) (Z0 : n0 ≤ h0.size) (E_ob : Exa Z h0 ob "kithrank/Graph$ClassSort") (F_ob_place : Fld Z h0 ob "kithrank/Graph$ClassSort" "place" "[I" (.ref pl)) (F_ob_sortedTarget : Fld Z h0 ob "kithrank/Graph$ClassSort" "sortedTarget" "[I" (.ref sT)) (F_ob_sortedWeight : Fld Z h0 ob "kithrank/Graph$ClassSort" "sortedWeight" "[D" (.ref sW)) (A_pl : own_A Z h0 pl .int 16370 (own_I own_z)) (A_sT : own_A Z h0 sT .int 2 (own_I f1)) (A_sW : own_A Z h0 sW .double 2 (own_D f2)) (A_tg : own_A Z h0 tg .int nt (own_I f3)) (A_wt : own_A Z h0 wt .double nt (own_D f4)) (G_pl : n0 ≤ pl) (G_sT : n0 ≤ sT) (G_sW : n0 ≤ sW) (G_tg : n0 ≤ tg) (G_wt : n0 ≤ wt) (ne_ob_pl : ob ≠ pl) (ne_ob_sT : ob ≠ sT) (ne_ob_sW : ob ≠ sW) (ne_ob_tg : ob ≠ tg) (ne_ob_wt : ob ≠ wt) (ne_pl_sT : pl ≠ sT) (ne_pl_sW : pl ≠ sW) (ne_pl_tg : pl ≠ tg) (ne_pl_wt : pl ≠ wt) (ne_sT_sW : sT ≠ sW) (ne_sT_tg : sT ≠ tg) (ne_sT_wt : sT ≠ wt) (ne_sW_tg : sW ≠ tg) (ne_sW_wt : sW ≠ wt) (ne_tg_wt : tg ≠ wt) (h1 : x1 = Int32.ofNat x) (h2 : x2 = Int32.ofNat (x + 1 + 1)) (hN : x + 1 + 1 ≤ nt) (hM : nt < 2 ^ 30) (hv1 : own_wc (f4 x) = Int32.ofNat k1) (hv2 : own_wc (f4 (x + 1)) = Int32.ofNat k2) (hk1 : k1 ≤ 16368) (hk2 : k2 ≤ 16368) (ha1 : a1 + k1 = max k1 k2) (ha2 : a2 + k2 = max k1 k2) (hd : d + min k1 k2 = max k1 k2) (ht1 : t1 = if k1 < k2 then 1 else 0) (ht2 : t1 + t2 = 1) :
    MetFree l (⟨"kithrank/Graph$ClassSort", "sort", "([I[DII)V"⟩ : MethodName) (head1 (Jvm.Cond.code (⟨"kithrank/Graph$ClassSort", "sort", "([I[DII)V"⟩ : MethodName) prog_64_method_2_code 9 none :: ws) ({ frames := 2, cells := 0, slots := 0, locals := 30 } : Room)) (fun as' U => as' = #[(.ref ob), (.ref tg), (.ref wt), (.int x1), (.int x2)] ∧ Z.Warmed39 U.vm ∧ U.heap = h0) (fun _ _ _ _ _ => True) (fun _ U o U' => ∃ v L, o = .returned v ∧ Q9 Z ob tg wt x1 x2 pl sT sW nt f1 f2 f3 f4 x k1 k2 a1 a2 d t1 t2 h0 n0 v U'.heap L ∧ FrameEnd U o U' L ({ frames := 2, cells := 0, slots := 0, locals := 30 } : Room).cells ({ frames := 2, cells := 0, slots := 0, locals := 30 } : Room).slots) := by
  refine own_body (plainFor_of_name pn9) ?_
  intro p e s m below meth c s₁ hx hby hml hown0 hnm hret hlk hZ X0 e0
  have hown : s.vm.findClass "kithrank/Graph$ClassSort" = some m.cls := hown0
  have N0 := Fr.nil n0
  rw [ef9]
  have K0 : Keep h0 h0 [pl, sT, sW, tg, wt] := Keep.refl h0 [pl, sT, sW, tg, wt]
  refine own_st (S' := s₁.setTop (mkF m 0 #[qA ob, qA tg, qA wt, qN x, qN (x + 1 + 1), qU, qU, qU, qU] [])) (fun t k => by rw [h1, h2]; exact k) ?_
  have f101 : own_A Z h0 pl .int 16370 (own_N own_zN) := A_pl.cong (fun _ _ => rfl)
  have hc102 : (Int32.ofNat x) < (Int32.ofNat (x + 1 + 1)) := (own_ltN (by omega) (by omega)).mpr (by omega)
  refine own_st (S' := s₁.setTop (mkF m 15 #[qA ob, qA tg, qA wt, qN x, qN (x + 1 + 1), qI (0 : Int32), qN x, qU, qU] [(.int (0 : Int32))])) (fun t k => XS.iconst X0.here hx rfl (hb hby d7_0) (XS.istore X0.here hx rfl (hb hby d7_1) rfl (l' := #[qA ob, qA tg, qA wt, qN x, qN (x + 1 + 1), qI (0 : Int32), qU, qU, qU]) rfl (XS.iloadN X0.here hx rfl (hb hby d7_3) rfl (XS.istore X0.here hx rfl (hb hby d7_4) rfl (l' := #[qA ob, qA tg, qA wt, qN x, qN (x + 1 + 1), qI (0 : Int32), qN x, qU, qU]) rfl (XS.iload X0.here hx rfl (hb hby d7_6) rfl (XS.iload X0.here hx rfl (hb hby d7_8) rfl (XS.icmpNo X0.here hx rfl (hb hby d7_10) rfl (tlt hc102).2.1 (XS.iload X0.here hx rfl (hb hby d8_13) rfl k)))))))) ?_
  have O103 := A_wt
  obtain ⟨c103, Ar103, S103, M103, V103⟩ := O103
  have at103 : c103.slots[((Int32.ofNat x)).toNatClampNeg]? = some (.double (f4 x)) := own_at S103 V103 (own_ixN (by omega) (by omega)) rfl
  refine own_st (S' := s₁.setTop (mkF m 19 #[qA ob, qA tg, qA wt, qN x, qN (x + 1 + 1), qI (0 : Int32), qN x, qU, qU] [(.double (f4 x)), (.int (0 : Int32))])) (fun t k => XS.aloadN X0.here hx rfl (hb hby d8_15) rfl rfl (XS.iload X0.here hx rfl (hb hby d8_16) rfl (X0.daload hx (j := (Int32.ofNat x)) (v := (.double (f4 x))) (by rw [e0]; exact Ar103.1) (State.isArrayOf_alike hZ.alike Ar103.2.1) Ar103.2.2 (own_in S103 (own_ixN (by omega) (by omega))) at103 (g := (mkF m 18 #[qA ob, qA tg, qA wt, qN x, qN (x + 1 + 1), qI (0 : Int32), qN x, qU, qU] [qV x, (.ref wt), (.int (0 : Int32))])) rfl rfl (hb hby d8_18) _ k))) ?_
  obtain ⟨_, _, ⟨T104, L104, k104, n104⟩, -, X104, ⟨Lc104, hQ104, l104, y104, z104⟩, st104⟩ := own_callSN X0 hx (y := (⟨"kithrank/Graph", "weightClass", "(D)I"⟩ : MethodName)) hown (mvMN hZ (own_hw hw (i := 86) rfl)) (mvT hZ (own_hw hw (i := 87) rfl)) (mvT hZ (own_hw hw (i := 73) rfl)) (mvT hZ (own_hw hw (i := 88) rfl)) (by decide) (backOf (W := 1) (rm4 l Z a0 hw [] (f4 x) h0 n0 Z0 ) hZ (own_hw hw (i := 88) rfl) (own_hw hw (i := 73) rfl) (by decide) (by decide)) (g := (mkF m 19 #[qA ob, qA tg, qA wt, qN x, qN (x + 1 + 1), qI (0 : Int32), qN x, qU, qU] [(.double (f4 x)), (.int (0 : Int32))])) rfl (by rw [hml]; rfl) (argsL := [(.double (f4 x))]) (rest := [(.int (0 : Int32))]) (lenOf pd9_0 rfl) rfl (by show 2 * 0 + _ ≤ _; exact Nat.le_of_eq rfl) (hb hby d8_19) (fun _ _ => ⟨rfl, e0, (by decide : 0 + 0 ≤ _), (by decide : 0 + 0 ≤ _)⟩)
  dsimp only [Pt.U, Pt.locs, Pt.cells, Pt.slots] at X104 l104 y104 z104 st104 hQ104
  rw [l104, y104, z104] at X104
  obtain ⟨rfl, N104q, hh104⟩ := hQ104
  have N104 := Fr.app N0 N104q
  refine own_st st104 ?_
  show own_Go p.tables e below _ (T104.setTop (mkF m 22 #[qA ob, qA tg, qA wt, qN x, qN (x + 1 + 1), qI (0 : Int32), qN x, qU, qU] [(.int (own_wc (f4 x))), (.int (0 : Int32))]))
  refine own_st (S' := T104.setTop (mkF m 22 #[qA ob, qA tg, qA wt, qN x, qN (x + 1 + 1), qI (0 : Int32), qN x, qU, qU] [qV k1, (.int (0 : Int32))])) (fun t k => by rw [show ((own_wc (f4 x)) : Int32) = (Int32.ofNat k1) from hv1]; exact k) ?_
  obtain ⟨_, _, ⟨T105, L105, k105, n105⟩, -, X105, ⟨Lc105, hQ105, l105, y105, z105⟩, st105⟩ := Jvm.LawKit.callS X104 hx (y := (⟨"java/lang/Math", "max", "(II)I"⟩ : MethodName)) hown (mvT hZ (own_hw hw (i := 93) rfl)) (mvT hZ (own_hw hw (i := 63) rfl)) (mvT hZ (own_hw hw (i := 20) rfl)) (mvT hZ (own_hw hw (i := 64) rfl)) (by decide) (backOf (W := 0) (rm2 l Z a0 hw [] (0 : Int32) (Int32.ofNat k1) h0 n0 Z0 ) hZ (own_hw hw (i := 64) rfl) (own_hw hw (i := 20) rfl) (by decide) (by decide)) (g := (mkF m 22 #[qA ob, qA tg, qA wt, qN x, qN (x + 1 + 1), qI (0 : Int32), qN x, qU, qU] [qV k1, (.int (0 : Int32))])) rfl (by rw [hml]; rfl) (argsL := [(.int (0 : Int32)), (.int (Int32.ofNat k1))]) (rest := []) (lenOf pd9_1 rfl) rfl (by show 2 * 0 + _ ≤ _; exact Nat.le_of_eq rfl) (hb hby d8_22) (fun _ _ => ⟨rfl, hh104, (by decide : 0 + 0 ≤ _), (by decide : 0 + 0 ≤ _)⟩)
  dsimp only [Pt.U, Pt.locs, Pt.cells, Pt.slots] at X105 l105 y105 z105 st105 hQ105
  rw [l105, y105, z105] at X105
  obtain ⟨rfl, N105q, hh105⟩ := hQ105
  have N105 := Fr.app N104 N105q
  refine own_st st105 ?_
  show own_Go p.tables e below _ (T105.setTop (mkF m 25 #[qA ob, qA tg, qA wt, qN x, qN (x + 1 + 1), qI (0 : Int32), qN x, qU, qU] [(.int (if (0 : Int32) < (Int32.ofNat k1) then (Int32.ofNat k1) else (0 : Int32)))]))
  refine own_st (S' := T105.setTop (mkF m 25 #[qA ob, qA tg, qA wt, qN x, qN (x + 1 + 1), qI (0 : Int32), qN x, qU, qU] [qV k1])) (fun t k => by rw [show ((if (0 : Int32) < (Int32.ofNat k1) then (Int32.ofNat k1) else (0 : Int32)) : Int32) = (Int32.ofNat k1) from own_mx0 rfl (by omega)]; exact k) ?_
  refine own_st (S' := T105.setTop (mkF m 6 #[qA ob, qA tg, qA wt, qN x, qN (x + 1 + 1), qN k1, qI ((Int32.ofNat x) + (1 : Int32)), qU, qU] [])) (fun t k => XS.istore X105.here hx rfl (hb hby d8_25) rfl (l' := #[qA ob, qA tg, qA wt, qN x, qN (x + 1 + 1), qN k1, qN x, qU, qU]) rfl (XS.iinc X105.here hx rfl (hb hby d8_27) rfl (l' := #[qA ob, qA tg, qA wt, qN x, qN (x + 1 + 1), qN k1, qI ((Int32.ofNat x) + (1 : Int32)), qU, qU]) rfl (XS.goto X105.here hx rfl (pc0 := 30) (pc' := 6) rfl (hb hby d8_30) (by decide) (by decide) k))) ?_
  refine own_st (S' := T105.setTop (mkF m 6 #[qA ob, qA tg, qA wt, qN x, qN (x + 1 + 1), qN k1, qN (x + 1), qU, qU] [])) (fun t k => by rw [own_incN (i := x) (by omega)]; exact k) ?_
  have hc106 : (Int32.ofNat (x + 1)) < (Int32.ofNat (x + 1 + 1)) := (own_ltN (by omega) (by omega)).mpr (by omega)
  have O107 := A_wt
  obtain ⟨c107, Ar107, S107, M107, V107⟩ := O107
  have at107 : c107.slots[((Int32.ofNat (x + 1))).toNatClampNeg]? = some (.double (f4 (x + 1))) := own_at S107 V107 (own_ixN (by omega) (by omega)) rfl
  refine own_st (S' := T105.setTop (mkF m 19 #[qA ob, qA tg, qA wt, qN x, qN (x + 1 + 1), qN k1, qN (x + 1), qU, qU] [(.double (f4 (x + 1))), qV k1])) (fun t k => XS.iload X105.here hx rfl (hb hby d7_6) rfl (XS.iload X105.here hx rfl (hb hby d7_8) rfl (XS.icmpNo X105.here hx rfl (hb hby d7_10) rfl (tlt hc106).2.1 (XS.iload X105.here hx rfl (hb hby d8_13) rfl (XS.aloadN X105.here hx rfl (hb hby d8_15) rfl rfl (XS.iload X105.here hx rfl (hb hby d8_16) rfl (X105.daload hx (j := (Int32.ofNat (x + 1))) (v := (.double (f4 (x + 1)))) (by rw [hh105]; exact Ar107.1) (State.isArrayOf_alike hZ.alike Ar107.2.1) Ar107.2.2 (own_in S107 (own_ixN (by omega) (by omega))) at107 (g := (mkF m 18 #[qA ob, qA tg, qA wt, qN x, qN (x + 1 + 1), qN k1, qN (x + 1), qU, qU] [qV (x + 1), (.ref wt), qV k1])) rfl rfl (hb hby d8_18) _ k))))))) ?_
  obtain ⟨_, _, ⟨T108, L108, k108, n108⟩, -, X108, ⟨Lc108, hQ108, l108, y108, z108⟩, st108⟩ := own_callSN X105 hx (y := (⟨"kithrank/Graph", "weightClass", "(D)I"⟩ : MethodName)) hown (mvMN hZ (own_hw hw (i := 86) rfl)) (mvT hZ (own_hw hw (i := 87) rfl)) (mvT hZ (own_hw hw (i := 73) rfl)) (mvT hZ (own_hw hw (i := 88) rfl)) (by decide) (backOf (W := 1) (rm4 l Z a0 hw [] (f4 (x + 1)) h0 n0 Z0 ) hZ (own_hw hw (i := 88) rfl) (own_hw hw (i := 73) rfl) (by decide) (by decide)) (g := (mkF m 19 #[qA ob, qA tg, qA wt, qN x, qN (x + 1 + 1), qN k1, qN (x + 1), qU, qU] [(.double (f4 (x + 1))), qV k1])) rfl (by rw [hml]; rfl) (argsL := [(.double (f4 (x + 1)))]) (rest := [(.int (Int32.ofNat k1))]) (lenOf pd9_0 rfl) rfl (by show 2 * 0 + _ ≤ _; exact Nat.le_of_eq rfl) (hb hby d8_19) (fun _ _ => ⟨rfl, hh105, (by decide : 0 + 0 ≤ _), (by decide : 0 + 0 ≤ _)⟩)
  dsimp only [Pt.U, Pt.locs, Pt.cells, Pt.slots] at X108 l108 y108 z108 st108 hQ108
  rw [l108, y108, z108] at X108
  obtain ⟨rfl, N108q, hh108⟩ := hQ108
  have N108 := Fr.app N105 N108q
  refine own_st st108 ?_
  show own_Go p.tables e below _ (T108.setTop (mkF m 22 #[qA ob, qA tg, qA wt, qN x, qN (x + 1 + 1), qN k1, qN (x + 1), qU, qU] [(.int (own_wc (f4 (x + 1)))), qV k1]))
  refine own_st (S' := T108.setTop (mkF m 22 #[qA ob, qA tg, qA wt, qN x, qN (x + 1 + 1), qN k1, qN (x + 1), qU, qU] [qV k2, qV k1])) (fun t k => by rw [show ((own_wc (f4 (x + 1))) : Int32) = (Int32.ofNat k2) from hv2]; exact k) ?_
  obtain ⟨_, _, ⟨T109, L109, k109, n109⟩, -, X109, ⟨Lc109, hQ109, l109, y109, z109⟩, st109⟩ := Jvm.LawKit.callS X108 hx (y := (⟨"java/lang/Math", "max", "(II)I"⟩ : MethodName)) hown (mvT hZ (own_hw hw (i := 93) rfl)) (mvT hZ (own_hw hw (i := 63) rfl)) (mvT hZ (own_hw hw (i := 20) rfl)) (mvT hZ (own_hw hw (i := 64) rfl)) (by decide) (backOf (W := 0) (rm2 l Z a0 hw [] (Int32.ofNat k1) (Int32.ofNat k2) h0 n0 Z0 ) hZ (own_hw hw (i := 64) rfl) (own_hw hw (i := 20) rfl) (by decide) (by decide)) (g := (mkF m 22 #[qA ob, qA tg, qA wt, qN x, qN (x + 1 + 1), qN k1, qN (x + 1), qU, qU] [qV k2, qV k1])) rfl (by rw [hml]; rfl) (argsL := [(.int (Int32.ofNat k1)), (.int (Int32.ofNat k2))]) (rest := []) (lenOf pd9_1 rfl) rfl (by show 2 * 0 + _ ≤ _; exact Nat.le_of_eq rfl) (hb hby d8_22) (fun _ _ => ⟨rfl, hh108, (by decide : 0 + 0 ≤ _), (by decide : 0 + 0 ≤ _)⟩)
  dsimp only [Pt.U, Pt.locs, Pt.cells, Pt.slots] at X109 l109 y109 z109 st109 hQ109
  rw [l109, y109, z109] at X109
  obtain ⟨rfl, N109q, hh109⟩ := hQ109
  have N109 := Fr.app N108 N109q
  refine own_st st109 ?_
  show own_Go p.tables e below _ (T109.setTop (mkF m 25 #[qA ob, qA tg, qA wt, qN x, qN (x + 1 + 1), qN k1, qN (x + 1), qU, qU] [(.int (if (Int32.ofNat k1) < (Int32.ofNat k2) then (Int32.ofNat k2) else (Int32.ofNat k1)))]))
  refine own_st (S' := T109.setTop (mkF m 25 #[qA ob, qA tg, qA wt, qN x, qN (x + 1 + 1), qN k1, qN (x + 1), qU, qU] [qV (max k1 k2)])) (fun t k => by rw [show ((if (Int32.ofNat k1) < (Int32.ofNat k2) then (Int32.ofNat k2) else (Int32.ofNat k1)) : Int32) = (Int32.ofNat (max k1 k2)) from own_mxN (by omega) (by omega)]; exact k) ?_
  refine own_st (S' := T109.setTop (mkF m 6 #[qA ob, qA tg, qA wt, qN x, qN (x + 1 + 1), qN (max k1 k2), qI ((Int32.ofNat (x + 1)) + (1 : Int32)), qU, qU] [])) (fun t k => XS.istore X109.here hx rfl (hb hby d8_25) rfl (l' := #[qA ob, qA tg, qA wt, qN x, qN (x + 1 + 1), qN (max k1 k2), qN (x + 1), qU, qU]) rfl (XS.iinc X109.here hx rfl (hb hby d8_27) rfl (l' := #[qA ob, qA tg, qA wt, qN x, qN (x + 1 + 1), qN (max k1 k2), qI ((Int32.ofNat (x + 1)) + (1 : Int32)), qU, qU]) rfl (XS.goto X109.here hx rfl (pc0 := 30) (pc' := 6) rfl (hb hby d8_30) (by decide) (by decide) k))) ?_
  refine own_st (S' := T109.setTop (mkF m 6 #[qA ob, qA tg, qA wt, qN x, qN (x + 1 + 1), qN (max k1 k2), qN ((x + 1) + 1), qU, qU] [])) (fun t k => by rw [own_incN (i := (x + 1)) (by omega)]; exact k) ?_
  have hc110 : ¬ ((Int32.ofNat ((x + 1) + 1)) < (Int32.ofNat (x + 1 + 1))) := fun q => absurd ((own_ltN (by omega) (by omega)).mp q) (by omega)
  refine own_st (S' := T109.setTop (mkF m 42 #[qA ob, qA tg, qA wt, qN x, qN (x + 1 + 1), qN (max k1 k2), qN (max k1 k2), qN x, qU] [qV x])) (fun t k => XS.iload X109.here hx rfl (hb hby d7_6) rfl (XS.iload X109.here hx rfl (hb hby d7_8) rfl (XS.icmpYes X109.here hx rfl (pc0 := 10) (pc' := 33) rfl (hb hby d7_10) rfl (flt hc110).2.1 (by decide) (by decide) (XS.iload X109.here hx rfl (hb hby d7_33) rfl (XS.istore X109.here hx rfl (hb hby d7_35) rfl (l' := #[qA ob, qA tg, qA wt, qN x, qN (x + 1 + 1), qN (max k1 k2), qN (max k1 k2), qU, qU]) rfl (XS.iloadN X109.here hx rfl (hb hby d7_37) rfl (XS.istore X109.here hx rfl (hb hby d7_38) rfl (l' := #[qA ob, qA tg, qA wt, qN x, qN (x + 1 + 1), qN (max k1 k2), qN (max k1 k2), qN x, qU]) rfl (XS.iload X109.here hx rfl (hb hby d7_40) rfl k)))))))) ?_
  have hc111 : (Int32.ofNat x) < (Int32.ofNat (x + 1 + 1)) := (own_ltN (by omega) (by omega)).mpr (by omega)
  have O112 := A_wt
  obtain ⟨c112, Ar112, S112, M112, V112⟩ := O112
  have at112 : c112.slots[((Int32.ofNat x)).toNatClampNeg]? = some (.double (f4 x)) := own_at S112 V112 (own_ixN (by omega) (by omega)) rfl
  refine own_st (S' := T109.setTop (mkF m 51 #[qA ob, qA tg, qA wt, qN x, qN (x + 1 + 1), qN (max k1 k2), qN (max k1 k2), qN x, qU] [(.double (f4 x))])) (fun t k => XS.iload X109.here hx rfl (hb hby d7_42) rfl (XS.icmpNo X109.here hx rfl (hb hby d7_44) rfl (tlt hc111).2.1 (XS.aloadN X109.here hx rfl (hb hby d8_47) rfl rfl (XS.iload X109.here hx rfl (hb hby d8_48) rfl (X109.daload hx (j := (Int32.ofNat x)) (v := (.double (f4 x))) (by rw [hh109]; exact Ar112.1) (State.isArrayOf_alike hZ.alike Ar112.2.1) Ar112.2.2 (own_in S112 (own_ixN (by omega) (by omega))) at112 (g := (mkF m 50 #[qA ob, qA tg, qA wt, qN x, qN (x + 1 + 1), qN (max k1 k2), qN (max k1 k2), qN x, qU] [qV x, (.ref wt)])) rfl rfl (hb hby d8_50) _ k))))) ?_
  obtain ⟨_, _, ⟨T113, L113, k113, n113⟩, -, X113, ⟨Lc113, hQ113, l113, y113, z113⟩, st113⟩ := own_callSN X109 hx (y := (⟨"kithrank/Graph", "weightClass", "(D)I"⟩ : MethodName)) hown (mvMN hZ (own_hw hw (i := 86) rfl)) (mvT hZ (own_hw hw (i := 87) rfl)) (mvT hZ (own_hw hw (i := 73) rfl)) (mvT hZ (own_hw hw (i := 88) rfl)) (by decide) (backOf (W := 0) (rm4 l Z a0 hw [] (f4 x) h0 n0 Z0 ) hZ (own_hw hw (i := 88) rfl) (own_hw hw (i := 73) rfl) (by decide) (by decide)) (g := (mkF m 51 #[qA ob, qA tg, qA wt, qN x, qN (x + 1 + 1), qN (max k1 k2), qN (max k1 k2), qN x, qU] [(.double (f4 x))])) rfl (by rw [hml]; rfl) (argsL := [(.double (f4 x))]) (rest := []) (lenOf pd9_0 rfl) rfl (by show 2 * 0 + _ ≤ _; exact Nat.le_of_eq rfl) (hb hby d8_51) (fun _ _ => ⟨rfl, hh109, (by decide : 0 + 0 ≤ _), (by decide : 0 + 0 ≤ _)⟩)
  dsimp only [Pt.U, Pt.locs, Pt.cells, Pt.slots] at X113 l113 y113 z113 st113 hQ113
  rw [l113, y113, z113] at X113
  obtain ⟨rfl, N113q, hh113⟩ := hQ113
  have N113 := Fr.app N109 N113q
  refine own_st st113 ?_
  show own_Go p.tables e below _ (T113.setTop (mkF m 54 #[qA ob, qA tg, qA wt, qN x, qN (x + 1 + 1), qN (max k1 k2), qN (max k1 k2), qN x, qU] [(.int (own_wc (f4 x)))]))
  refine own_st (S' := T113.setTop (mkF m 54 #[qA ob, qA tg, qA wt, qN x, qN (x + 1 + 1), qN (max k1 k2), qN (max k1 k2), qN x, qU] [qV k1])) (fun t k => by rw [show ((own_wc (f4 x)) : Int32) = (Int32.ofNat k1) from hv1]; exact k) ?_
  refine own_st (S' := T113.setTop (mkF m 60 #[qA ob, qA tg, qA wt, qN x, qN (x + 1 + 1), qN (max k1 k2), qN (max k1 k2), qN x, qN k1] [qV k1, qV (max k1 k2)])) (fun t k => XS.istore X113.here hx rfl (hb hby d8_54) rfl (l' := #[qA ob, qA tg, qA wt, qN x, qN (x + 1 + 1), qN (max k1 k2), qN (max k1 k2), qN x, qN k1]) rfl (XS.iload X113.here hx rfl (hb hby d8_56) rfl (XS.iload X113.here hx rfl (hb hby d8_58) rfl k))) ?_
  obtain ⟨_, _, ⟨T114, L114, k114, n114⟩, -, X114, ⟨Lc114, hQ114, l114, y114, z114⟩, st114⟩ := Jvm.LawKit.callS X113 hx (y := (⟨"java/lang/Math", "min", "(II)I"⟩ : MethodName)) hown (mvT hZ (own_hw hw (i := 94) rfl)) (mvT hZ (own_hw hw (i := 19) rfl)) (mvT hZ (own_hw hw (i := 20) rfl)) (mvT hZ (own_hw hw (i := 21) rfl)) (by decide) (backOf (W := 0) (rm1 l Z a0 hw [] (Int32.ofNat (max k1 k2)) (Int32.ofNat k1) h0 n0 Z0 ) hZ (own_hw hw (i := 21) rfl) (own_hw hw (i := 20) rfl) (by decide) (by decide)) (g := (mkF m 60 #[qA ob, qA tg, qA wt, qN x, qN (x + 1 + 1), qN (max k1 k2), qN (max k1 k2), qN x, qN k1] [qV k1, qV (max k1 k2)])) rfl (by rw [hml]; rfl) (argsL := [(.int (Int32.ofNat (max k1 k2))), (.int (Int32.ofNat k1))]) (rest := []) (lenOf pd9_1 rfl) rfl (by show 2 * 0 + _ ≤ _; exact Nat.le_of_eq rfl) (hb hby d8_60) (fun _ _ => ⟨rfl, hh113, (by decide : 0 + 0 ≤ _), (by decide : 0 + 0 ≤ _)⟩)
  dsimp only [Pt.U, Pt.locs, Pt.cells, Pt.slots] at X114 l114 y114 z114 st114 hQ114
  rw [l114, y114, z114] at X114
  obtain ⟨rfl, N114q, hh114⟩ := hQ114
  have N114 := Fr.app N113 N114q
  refine own_st st114 ?_
  show own_Go p.tables e below _ (T114.setTop (mkF m 63 #[qA ob, qA tg, qA wt, qN x, qN (x + 1 + 1), qN (max k1 k2), qN (max k1 k2), qN x, qN k1] [(.int (if (Int32.ofNat k1) < (Int32.ofNat (max k1 k2)) then (Int32.ofNat k1) else (Int32.ofNat (max k1 k2))))]))
  refine own_st (S' := T114.setTop (mkF m 63 #[qA ob, qA tg, qA wt, qN x, qN (x + 1 + 1), qN (max k1 k2), qN (max k1 k2), qN x, qN k1] [qV k1])) (fun t k => by rw [show ((if (Int32.ofNat k1) < (Int32.ofNat (max k1 k2)) then (Int32.ofNat k1) else (Int32.ofNat (max k1 k2))) : Int32) = (Int32.ofNat k1) from (own_miN (by omega) (by omega)).trans (congrArg Int32.ofNat (by omega))]; exact k) ?_
  refine own_st (S' := T114.setTop (mkF m 66 #[qA ob, qA tg, qA wt, qN x, qN (x + 1 + 1), qN (max k1 k2), qN k1, qN x, qN k1] [(.ref ob)])) (fun t k => XS.istore X114.here hx rfl (hb hby d8_63) rfl (l' := #[qA ob, qA tg, qA wt, qN x, qN (x + 1 + 1), qN (max k1 k2), qN k1, qN x, qN k1]) rfl (XS.aloadN X114.here hx rfl (hb hby d8_65) rfl rfl k)) ?_
  obtain ⟨T115, X115, e115, st115⟩ := getF X114 hx hZ hown (host := "") (Or.inl (own_hw hw (i := 75) rfl)) Via.refl hh114 F_ob_place (g := (mkF m 66 #[qA ob, qA tg, qA wt, qN x, qN (x + 1 + 1), qN (max k1 k2), qN k1, qN x, qN k1] [(.ref ob)])) rfl rfl (hb hby d8_66)
  refine own_st st115 ?_
  refine own_st (S' := T115.setTop (mkF m 76 #[qA ob, qA tg, qA wt, qN x, qN (x + 1 + 1), qN (max k1 k2), qN k1, qN x, qN k1] [(.int (((Int32.ofNat (max k1 k2)) - (Int32.ofNat k1)) + (1 : Int32))), (.ref pl)])) (fun t k => XS.iload X115.here hx rfl (hb hby d8_69) rfl (XS.iload X115.here hx rfl (hb hby d8_71) rfl (XS.isub X115.here hx rfl (hb hby d8_73) rfl (XS.iconst X115.here hx rfl (hb hby d8_74) (XS.iadd X115.here hx rfl (hb hby d8_75) rfl k))))) ?_
  refine own_st (S' := T115.setTop (mkF m 76 #[qA ob, qA tg, qA wt, qN x, qN (x + 1 + 1), qN (max k1 k2), qN k1, qN x, qN k1] [qV (a1 + 1), (.ref pl)])) (fun t k => by rw [show ((((Int32.ofNat (max k1 k2)) - (Int32.ofNat k1)) + (1 : Int32)) : Int32) = (Int32.ofNat (a1 + 1)) from by rw [own_subN (by omega) (by omega), own_incN (by omega)]; exact congrArg Int32.ofNat (by omega)]; exact k) ?_
  have O116 := f101
  obtain ⟨c116, Ar116, S116, M116, V116⟩ := O116
  have at116 : c116.slots[((Int32.ofNat (a1 + 1))).toNatClampNeg]? = some (.int (Int32.ofNat 0)) := own_at S116 V116 (own_ixN (by omega) (by decide)) rfl
  refine own_st (S' := T115.setTop (mkF m 80 #[qA ob, qA tg, qA wt, qN x, qN (x + 1 + 1), qN (max k1 k2), qN k1, qN x, qN k1] [(.int ((Int32.ofNat 0) + (1 : Int32))), qV (a1 + 1), (.ref pl)])) (fun t k => Jvm.Free.XT.dup2 X115.here hx rfl (hb hby d8_76) rfl rfl rfl (X115.iaload hx (j := (Int32.ofNat (a1 + 1))) (v := (.int (Int32.ofNat 0))) (by rw [e115]; exact Ar116.1) (State.isArrayOf_alike hZ.alike Ar116.2.1) Ar116.2.2 (own_in S116 (own_ixN (by omega) (by decide))) at116 (g := (mkF m 77 #[qA ob, qA tg, qA wt, qN x, qN (x + 1 + 1), qN (max k1 k2), qN k1, qN x, qN k1] [qV (a1 + 1), (.ref pl), qV (a1 + 1), (.ref pl)])) rfl rfl (hb hby d8_77) _ (XS.iconst X115.here hx rfl (hb hby d8_78) (XS.iadd X115.here hx rfl (hb hby d8_79) rfl k)))) ?_
  refine own_st (S' := T115.setTop (mkF m 80 #[qA ob, qA tg, qA wt, qN x, qN (x + 1 + 1), qN (max k1 k2), qN k1, qN x, qN k1] [qV (0 + 1), qV (a1 + 1), (.ref pl)])) (fun t k => by rw [own_incN (i := 0) (by omega)]; exact k) ?_
  have O117 := f101
  obtain ⟨c117, Ar117, S117, M117, V117⟩ := O117
  obtain ⟨T117, h117, X117, e117, W117, st117⟩ := stI X115 hx hZ e115 Ar117 (j := (Int32.ofNat (a1 + 1))) (own_in S117 (own_ixN (by omega) (by decide))) (g := (mkF m 80 #[qA ob, qA tg, qA wt, qN x, qN (x + 1 + 1), qN (max k1 k2), qN k1, qN x, qN k1] [qV (0 + 1), qV (a1 + 1), (.ref pl)])) rfl rfl (hb hby d8_80)
  refine own_st st117 ?_
  have f118 := E_ob.wr W117
  have f119 := F_ob_place.other W117 (Or.inl ne_ob_pl)
  have f120 := F_ob_sortedTarget.other W117 (Or.inl ne_ob_pl)
  have f121 := F_ob_sortedWeight.other W117 (Or.inl ne_ob_pl)
  have f122 := A_sT.other W117 (Ne.symm ne_pl_sT)
  have f123 := A_sW.other W117 (Ne.symm ne_pl_sW)
  have f124 := A_tg.other W117 (Ne.symm ne_pl_tg)
  have f125 := A_wt.other W117 (Ne.symm ne_pl_wt)
  have Z117 : n0 ≤ h117.size := Nat.le_trans Z0 (Keep.of_wr W117).1
  have N117 := Fr.snoc X117 N114 G_pl
  have K117 : Keep h0 h117 [pl, sT, sW, tg, wt] := K0.wr W117 (Or.inl (List.mem_of_getElem? (i := 0) rfl))
  have f126 : own_A Z h117 pl .int 16370 (own_N (own_uN own_zN (a1 + 1) (0 + 1))) := (own_A.set ⟨c117, Ar117, S117, M117, V117⟩ (own_ixN (by omega) (by decide)) W117).cong (fun q _ => congrFun (own_upN own_zN (a1 + 1) (0 + 1)) q)
  refine own_st (S' := T117.setTop (mkF m 40 #[qA ob, qA tg, qA wt, qN x, qN (x + 1 + 1), qN (max k1 k2), qN k1, qI ((Int32.ofNat x) + (1 : Int32)), qN k1] [])) (fun t k => XS.iinc X117.here hx rfl (hb hby d8_81) rfl (l' := #[qA ob, qA tg, qA wt, qN x, qN (x + 1 + 1), qN (max k1 k2), qN k1, qI ((Int32.ofNat x) + (1 : Int32)), qN k1]) rfl (XS.goto X117.here hx rfl (pc0 := 84) (pc' := 40) rfl (hb hby d8_84) (by decide) (by decide) k)) ?_
  refine own_st (S' := T117.setTop (mkF m 40 #[qA ob, qA tg, qA wt, qN x, qN (x + 1 + 1), qN (max k1 k2), qN k1, qN (x + 1), qN k1] [])) (fun t k => by rw [own_incN (i := x) (by omega)]; exact k) ?_
  have hc127 : (Int32.ofNat (x + 1)) < (Int32.ofNat (x + 1 + 1)) := (own_ltN (by omega) (by omega)).mpr (by omega)
  have O128 := f125
  obtain ⟨c128, Ar128, S128, M128, V128⟩ := O128
  have at128 : c128.slots[((Int32.ofNat (x + 1))).toNatClampNeg]? = some (.double (f4 (x + 1))) := own_at S128 V128 (own_ixN (by omega) (by omega)) rfl
  refine own_st (S' := T117.setTop (mkF m 51 #[qA ob, qA tg, qA wt, qN x, qN (x + 1 + 1), qN (max k1 k2), qN k1, qN (x + 1), qN k1] [(.double (f4 (x + 1)))])) (fun t k => XS.iload X117.here hx rfl (hb hby d7_40) rfl (XS.iload X117.here hx rfl (hb hby d7_42) rfl (XS.icmpNo X117.here hx rfl (hb hby d7_44) rfl (tlt hc127).2.1 (XS.aloadN X117.here hx rfl (hb hby d8_47) rfl rfl (XS.iload X117.here hx rfl (hb hby d8_48) rfl (X117.daload hx (j := (Int32.ofNat (x + 1))) (v := (.double (f4 (x + 1)))) (by rw [e117]; exact Ar128.1) (State.isArrayOf_alike hZ.alike Ar128.2.1) Ar128.2.2 (own_in S128 (own_ixN (by omega) (by omega))) at128 (g := (mkF m 50 #[qA ob, qA tg, qA wt, qN x, qN (x + 1 + 1), qN (max k1 k2), qN k1, qN (x + 1), qN k1] [qV (x + 1), (.ref wt)])) rfl rfl (hb hby d8_50) _ k)))))) ?_
  obtain ⟨_, _, ⟨T129, L129, k129, n129⟩, -, X129, ⟨Lc129, hQ129, l129, y129, z129⟩, st129⟩ := own_callSN X117 hx (y := (⟨"kithrank/Graph", "weightClass", "(D)I"⟩ : MethodName)) hown (mvMN hZ (own_hw hw (i := 86) rfl)) (mvT hZ (own_hw hw (i := 87) rfl)) (mvT hZ (own_hw hw (i := 73) rfl)) (mvT hZ (own_hw hw (i := 88) rfl)) (by decide) (backOf (W := 0) (rm4 l Z a0 hw [] (f4 (x + 1)) h117 n0 Z117 ) hZ (own_hw hw (i := 88) rfl) (own_hw hw (i := 73) rfl) (by decide) (by decide)) (g := (mkF m 51 #[qA ob, qA tg, qA wt, qN x, qN (x + 1 + 1), qN (max k1 k2), qN k1, qN (x + 1), qN k1] [(.double (f4 (x + 1)))])) rfl (by rw [hml]; rfl) (argsL := [(.double (f4 (x + 1)))]) (rest := []) (lenOf pd9_0 rfl) rfl (by show 2 * 0 + _ ≤ _; exact Nat.le_of_eq rfl) (hb hby d8_51) (fun _ _ => ⟨rfl, e117, (by decide : 0 + 0 ≤ _), (by decide : 0 + 0 ≤ _)⟩)
  dsimp only [Pt.U, Pt.locs, Pt.cells, Pt.slots] at X129 l129 y129 z129 st129 hQ129
  rw [l129, y129, z129] at X129
  obtain ⟨rfl, N129q, hh129⟩ := hQ129
  have N129 := Fr.app N117 N129q
  refine own_st st129 ?_
  show own_Go p.tables e below _ (T129.setTop (mkF m 54 #[qA ob, qA tg, qA wt, qN x, qN (x + 1 + 1), qN (max k1 k2), qN k1, qN (x + 1), qN k1] [(.int (own_wc (f4 (x + 1))))]))
  refine own_st (S' := T129.setTop (mkF m 54 #[qA ob, qA tg, qA wt, qN x, qN (x + 1 + 1), qN (max k1 k2), qN k1, qN (x + 1), qN k1] [qV k2])) (fun t k => by rw [show ((own_wc (f4 (x + 1))) : Int32) = (Int32.ofNat k2) from hv2]; exact k) ?_
  refine own_st (S' := T129.setTop (mkF m 60 #[qA ob, qA tg, qA wt, qN x, qN (x + 1 + 1), qN (max k1 k2), qN k1, qN (x + 1), qN k2] [qV k2, qV k1])) (fun t k => XS.istore X129.here hx rfl (hb hby d8_54) rfl (l' := #[qA ob, qA tg, qA wt, qN x, qN (x + 1 + 1), qN (max k1 k2), qN k1, qN (x + 1), qN k2]) rfl (XS.iload X129.here hx rfl (hb hby d8_56) rfl (XS.iload X129.here hx rfl (hb hby d8_58) rfl k))) ?_
  obtain ⟨_, _, ⟨T130, L130, k130, n130⟩, -, X130, ⟨Lc130, hQ130, l130, y130, z130⟩, st130⟩ := Jvm.LawKit.callS X129 hx (y := (⟨"java/lang/Math", "min", "(II)I"⟩ : MethodName)) hown (mvT hZ (own_hw hw (i := 94) rfl)) (mvT hZ (own_hw hw (i := 19) rfl)) (mvT hZ (own_hw hw (i := 20) rfl)) (mvT hZ (own_hw hw (i := 21) rfl)) (by decide) (backOf (W := 0) (rm1 l Z a0 hw [] (Int32.ofNat k1) (Int32.ofNat k2) h117 n0 Z117 ) hZ (own_hw hw (i := 21) rfl) (own_hw hw (i := 20) rfl) (by decide) (by decide)) (g := (mkF m 60 #[qA ob, qA tg, qA wt, qN x, qN (x + 1 + 1), qN (max k1 k2), qN k1, qN (x + 1), qN k2] [qV k2, qV k1])) rfl (by rw [hml]; rfl) (argsL := [(.int (Int32.ofNat k1)), (.int (Int32.ofNat k2))]) (rest := []) (lenOf pd9_1 rfl) rfl (by show 2 * 0 + _ ≤ _; exact Nat.le_of_eq rfl) (hb hby d8_60) (fun _ _ => ⟨rfl, hh129, (by decide : 0 + 0 ≤ _), (by decide : 0 + 0 ≤ _)⟩)
  dsimp only [Pt.U, Pt.locs, Pt.cells, Pt.slots] at X130 l130 y130 z130 st130 hQ130
  rw [l130, y130, z130] at X130
  obtain ⟨rfl, N130q, hh130⟩ := hQ130
  have N130 := Fr.app N129 N130q
  refine own_st st130 ?_
  show own_Go p.tables e below _ (T130.setTop (mkF m 63 #[qA ob, qA tg, qA wt, qN x, qN (x + 1 + 1), qN (max k1 k2), qN k1, qN (x + 1), qN k2] [(.int (if (Int32.ofNat k2) < (Int32.ofNat k1) then (Int32.ofNat k2) else (Int32.ofNat k1)))]))
  refine own_st (S' := T130.setTop (mkF m 63 #[qA ob, qA tg, qA wt, qN x, qN (x + 1 + 1), qN (max k1 k2), qN k1, qN (x + 1), qN k2] [qV (min k1 k2)])) (fun t k => by rw [show ((if (Int32.ofNat k2) < (Int32.ofNat k1) then (Int32.ofNat k2) else (Int32.ofNat k1)) : Int32) = (Int32.ofNat (min k1 k2)) from own_miN (by omega) (by omega)]; exact k) ?_
  refine own_st (S' := T130.setTop (mkF m 66 #[qA ob, qA tg, qA wt, qN x, qN (x + 1 + 1), qN (max k1 k2), qN (min k1 k2), qN (x + 1), qN k2] [(.ref ob)])) (fun t k => XS.istore X130.here hx rfl (hb hby d8_63) rfl (l' := #[qA ob, qA tg, qA wt, qN x, qN (x + 1 + 1), qN (max k1 k2), qN (min k1 k2), qN (x + 1), qN k2]) rfl (XS.aloadN X130.here hx rfl (hb hby d8_65) rfl rfl k)) ?_
  obtain ⟨T131, X131, e131, st131⟩ := getF X130 hx hZ hown (host := "") (Or.inl (own_hw hw (i := 75) rfl)) Via.refl hh130 f119 (g := (mkF m 66 #[qA ob, qA tg, qA wt, qN x, qN (x + 1 + 1), qN (max k1 k2), qN (min k1 k2), qN (x + 1), qN k2] [(.ref ob)])) rfl rfl (hb hby d8_66)
  refine own_st st131 ?_
  refine own_st (S' := T131.setTop (mkF m 76 #[qA ob, qA tg, qA wt, qN x, qN (x + 1 + 1), qN (max k1 k2), qN (min k1 k2), qN (x + 1), qN k2] [(.int (((Int32.ofNat (max k1 k2)) - (Int32.ofNat k2)) + (1 : Int32))), (.ref pl)])) (fun t k => XS.iload X131.here hx rfl (hb hby d8_69) rfl (XS.iload X131.here hx rfl (hb hby d8_71) rfl (XS.isub X131.here hx rfl (hb hby d8_73) rfl (XS.iconst X131.here hx rfl (hb hby d8_74) (XS.iadd X131.here hx rfl (hb hby d8_75) rfl k))))) ?_
  refine own_st (S' := T131.setTop (mkF m 76 #[qA ob, qA tg, qA wt, qN x, qN (x + 1 + 1), qN (max k1 k2), qN (min k1 k2), qN (x + 1), qN k2] [qV (a2 + 1), (.ref pl)])) (fun t k => by rw [show ((((Int32.ofNat (max k1 k2)) - (Int32.ofNat k2)) + (1 : Int32)) : Int32) = (Int32.ofNat (a2 + 1)) from by rw [own_subN (by omega) (by omega), own_incN (by omega)]; exact congrArg Int32.ofNat (by omega)]; exact k) ?_
  have O132 := f126
  obtain ⟨c132, Ar132, S132, M132, V132⟩ := O132
  have at132 : c132.slots[((Int32.ofNat (a2 + 1))).toNatClampNeg]? = some (.int (Int32.ofNat (own_uN own_zN (a1 + 1) (0 + 1) (a2 + 1)))) := own_at S132 V132 (own_ixN (by omega) (by decide)) rfl
  refine own_st (S' := T131.setTop (mkF m 80 #[qA ob, qA tg, qA wt, qN x, qN (x + 1 + 1), qN (max k1 k2), qN (min k1 k2), qN (x + 1), qN k2] [(.int ((Int32.ofNat (own_uN own_zN (a1 + 1) (0 + 1) (a2 + 1))) + (1 : Int32))), qV (a2 + 1), (.ref pl)])) (fun t k => Jvm.Free.XT.dup2 X131.here hx rfl (hb hby d8_76) rfl rfl rfl (X131.iaload hx (j := (Int32.ofNat (a2 + 1))) (v := (.int (Int32.ofNat (own_uN own_zN (a1 + 1) (0 + 1) (a2 + 1))))) (by rw [e131]; exact Ar132.1) (State.isArrayOf_alike hZ.alike Ar132.2.1) Ar132.2.2 (own_in S132 (own_ixN (by omega) (by decide))) at132 (g := (mkF m 77 #[qA ob, qA tg, qA wt, qN x, qN (x + 1 + 1), qN (max k1 k2), qN (min k1 k2), qN (x + 1), qN k2] [qV (a2 + 1), (.ref pl), qV (a2 + 1), (.ref pl)])) rfl rfl (hb hby d8_77) _ (XS.iconst X131.here hx rfl (hb hby d8_78) (XS.iadd X131.here hx rfl (hb hby d8_79) rfl k)))) ?_
  refine own_st (S' := T131.setTop (mkF m 80 #[qA ob, qA tg, qA wt, qN x, qN (x + 1 + 1), qN (max k1 k2), qN (min k1 k2), qN (x + 1), qN k2] [qV (own_uN own_zN (a1 + 1) (0 + 1) (a2 + 1) + 1), qV (a2 + 1), (.ref pl)])) (fun t k => by rw [own_incN (i := own_uN own_zN (a1 + 1) (0 + 1) (a2 + 1)) (by have := own_uNz_le a1 (a2 + 1); omega)]; exact k) ?_
  have O133 := f126
  obtain ⟨c133, Ar133, S133, M133, V133⟩ := O133
  obtain ⟨T133, h133, X133, e133, W133, st133⟩ := stI X131 hx hZ e131 Ar133 (j := (Int32.ofNat (a2 + 1))) (own_in S133 (own_ixN (by omega) (by decide))) (g := (mkF m 80 #[qA ob, qA tg, qA wt, qN x, qN (x + 1 + 1), qN (max k1 k2), qN (min k1 k2), qN (x + 1), qN k2] [qV (own_uN own_zN (a1 + 1) (0 + 1) (a2 + 1) + 1), qV (a2 + 1), (.ref pl)])) rfl rfl (hb hby d8_80)
  refine own_st st133 ?_
  have f134 := f118.wr W133
  have f135 := f119.other W133 (Or.inl ne_ob_pl)
  have f136 := f120.other W133 (Or.inl ne_ob_pl)
  have f137 := f121.other W133 (Or.inl ne_ob_pl)
  have f138 := f122.other W133 (Ne.symm ne_pl_sT)
  have f139 := f123.other W133 (Ne.symm ne_pl_sW)
  have f140 := f124.other W133 (Ne.symm ne_pl_tg)
  have f141 := f125.other W133 (Ne.symm ne_pl_wt)
  have Z133 : n0 ≤ h133.size := Nat.le_trans Z117 (Keep.of_wr W133).1
  have N133 := Fr.snoc X133 N130 G_pl
  have K133 : Keep h0 h133 [pl, sT, sW, tg, wt] := K117.wr W133 (Or.inl (List.mem_of_getElem? (i := 0) rfl))
  have f142 : own_A Z h133 pl .int 16370 (own_N (own_uN (own_uN own_zN (a1 + 1) (0 + 1)) (a2 + 1) (own_uN own_zN (a1 + 1) (0 + 1) (a2 + 1) + 1))) := (own_A.set ⟨c133, Ar133, S133, M133, V133⟩ (own_ixN (by omega) (by decide)) W133).cong (fun q _ => congrFun (own_upN (own_uN own_zN (a1 + 1) (0 + 1)) (a2 + 1) (own_uN own_zN (a1 + 1) (0 + 1) (a2 + 1) + 1)) q)
  refine own_st (S' := T133.setTop (mkF m 40 #[qA ob, qA tg, qA wt, qN x, qN (x + 1 + 1), qN (max k1 k2), qN (min k1 k2), qI ((Int32.ofNat (x + 1)) + (1 : Int32)), qN k2] [])) (fun t k => XS.iinc X133.here hx rfl (hb hby d8_81) rfl (l' := #[qA ob, qA tg, qA wt, qN x, qN (x + 1 + 1), qN (max k1 k2), qN (min k1 k2), qI ((Int32.ofNat (x + 1)) + (1 : Int32)), qN k2]) rfl (XS.goto X133.here hx rfl (pc0 := 84) (pc' := 40) rfl (hb hby d8_84) (by decide) (by decide) k)) ?_
  refine own_st (S' := T133.setTop (mkF m 40 #[qA ob, qA tg, qA wt, qN x, qN (x + 1 + 1), qN (max k1 k2), qN (min k1 k2), qN ((x + 1) + 1), qN k2] [])) (fun t k => by rw [own_incN (i := (x + 1)) (by omega)]; exact k) ?_
  have hc143 : ¬ ((Int32.ofNat ((x + 1) + 1)) < (Int32.ofNat (x + 1 + 1))) := fun q => absurd ((own_ltN (by omega) (by omega)).mp q) (by omega)
  refine own_st (S' := T133.setTop (mkF m 90 #[qA ob, qA tg, qA wt, qN x, qN (x + 1 + 1), qN (max k1 k2), qN (min k1 k2), qI (1 : Int32), qN k2] [])) (fun t k => XS.iload X133.here hx rfl (hb hby d7_40) rfl (XS.iload X133.here hx rfl (hb hby d7_42) rfl (XS.icmpYes X133.here hx rfl (pc0 := 44) (pc' := 87) rfl (hb hby d7_44) rfl (flt hc143).2.1 (by decide) (by decide) (XS.iconst X133.here hx rfl (hb hby d7_87) (XS.istore X133.here hx rfl (hb hby d7_88) rfl (l' := #[qA ob, qA tg, qA wt, qN x, qN (x + 1 + 1), qN (max k1 k2), qN (min k1 k2), qI (1 : Int32), qN k2]) rfl k))))) ?_
  have f144 : own_A Z h133 pl .int 16370 (own_N (own_pi a1 a2 1)) := by rw [← own_pc_of]; exact f142
  have loop : ∀ (n : Nat) (T : State) (L : List Loc) (i : Nat), Stand p l e ({ frames := 2, cells := 0, slots := 0, locals := 30 } : Room) s m #[(.ref ob), (.ref tg), (.ref wt), (.int x1), (.int x2)] below meth c T L 0 0 → Fr n0 L → Keep h0 T.heap [pl, sT, sW, tg, wt] →  n0 ≤ T.heap.size → Exa Z T.heap ob "kithrank/Graph$ClassSort" → Fld Z T.heap ob "kithrank/Graph$ClassSort" "place" "[I" (.ref pl) → Fld Z T.heap ob "kithrank/Graph$ClassSort" "sortedTarget" "[I" (.ref sT) → Fld Z T.heap ob "kithrank/Graph$ClassSort" "sortedWeight" "[D" (.ref sW) → own_A Z T.heap pl .int 16370 (own_N (own_pi a1 a2 i)) → own_A Z T.heap sT .int 2 (own_I f1) → own_A Z T.heap sW .double 2 (own_D f2) → own_A Z T.heap tg .int nt (own_I f3) → own_A Z T.heap wt .double nt (own_D f4) → (i + n = d + 2) → (1 ≤ i) →  own_Go p.tables e below (own_F s (Q9 Z ob tg wt x1 x2 pl sT sW nt f1 f2 f3 f4 x k1 k2 a1 a2 d t1 t2 h0 n0) 0 0) (T.setTop (mkF m 90 #[qA ob, qA tg, qA wt, qN x, qN (x + 1 + 1), qN (max k1 k2), qN (min k1 k2), qN i, qN k2] [])) := by
    intro n
    induction n with
    | zero =>
      intro T L i X N K Zz lf0 lf1 lf2 lf3 lf4 lf5 lf6 lf7 lf8 hi hi1
      refine own_st (S' := T.setTop (mkF m 99 #[qA ob, qA tg, qA wt, qN x, qN (x + 1 + 1), qN (max k1 k2), qN (min k1 k2), qN i, qN k2] [(.int (((Int32.ofNat (max k1 k2)) - (Int32.ofNat (min k1 k2))) + (1 : Int32))), qV i])) (fun t k => XS.iload X.here hx rfl (hb hby d7_90) rfl (XS.iload X.here hx rfl (hb hby d7_92) rfl (XS.iload X.here hx rfl (hb hby d7_94) rfl (XS.isub X.here hx rfl (hb hby d7_96) rfl (XS.iconst X.here hx rfl (hb hby d7_97) (XS.iadd X.here hx rfl (hb hby d7_98) rfl k)))))) ?_
      refine own_st (S' := T.setTop (mkF m 99 #[qA ob, qA tg, qA wt, qN x, qN (x + 1 + 1), qN (max k1 k2), qN (min k1 k2), qN i, qN k2] [qV (d + 1), qV i])) (fun t k => by rw [show ((((Int32.ofNat (max k1 k2)) - (Int32.ofNat (min k1 k2))) + (1 : Int32)) : Int32) = (Int32.ofNat (d + 1)) from by rw [own_subN (by omega) (by omega), own_incN (by omega)]; exact congrArg Int32.ofNat (by omega)]; exact k) ?_
      have hc145 : (Int32.ofNat (d + 1)) < (Int32.ofNat i) := (own_ltN (by omega) (by omega)).mpr (by omega)
      have hc146 : (Int32.ofNat x) < (Int32.ofNat (x + 1 + 1)) := (own_ltN (by omega) (by omega)).mpr (by omega)
      refine own_st (S' := T.setTop (mkF m 138 #[qA ob, qA tg, qA wt, qN x, qN (x + 1 + 1), qN (max k1 k2), qN (min k1 k2), qN x, qN k2] [(.ref ob)])) (fun t k => XS.icmpYes X.here hx rfl (pc0 := 99) (pc' := 127) rfl (hb hby d7_99) rfl (tlt hc145).2.2.1 (by decide) (by decide) (XS.iloadN X.here hx rfl (hb hby d7_127) rfl (XS.istore X.here hx rfl (hb hby d7_128) rfl (l' := #[qA ob, qA tg, qA wt, qN x, qN (x + 1 + 1), qN (max k1 k2), qN (min k1 k2), qN x, qN k2]) rfl (XS.iload X.here hx rfl (hb hby d7_130) rfl (XS.iload X.here hx rfl (hb hby d7_132) rfl (XS.icmpNo X.here hx rfl (hb hby d7_134) rfl (tlt hc146).2.1 (XS.aloadN X.here hx rfl (hb hby d8_137) rfl rfl k))))))) ?_
      obtain ⟨T147, X147, e147, st147⟩ := getF X hx hZ hown (host := "") (Or.inl (own_hw hw (i := 75) rfl)) Via.refl rfl lf1 (g := (mkF m 138 #[qA ob, qA tg, qA wt, qN x, qN (x + 1 + 1), qN (max k1 k2), qN (min k1 k2), qN x, qN k2] [(.ref ob)])) rfl rfl (hb hby d8_138)
      refine own_st st147 ?_
      have O148 := lf8
      obtain ⟨c148, Ar148, S148, M148, V148⟩ := O148
      have at148 : c148.slots[((Int32.ofNat x)).toNatClampNeg]? = some (.double (f4 x)) := own_at S148 V148 (own_ixN (by omega) (by omega)) rfl
      refine own_st (S' := T147.setTop (mkF m 147 #[qA ob, qA tg, qA wt, qN x, qN (x + 1 + 1), qN (max k1 k2), qN (min k1 k2), qN x, qN k2] [(.double (f4 x)), qV (max k1 k2), (.ref pl)])) (fun t k => XS.iload X147.here hx rfl (hb hby d8_141) rfl (XS.aloadN X147.here hx rfl (hb hby d8_143) rfl rfl (XS.iload X147.here hx rfl (hb hby d8_144) rfl (X147.daload hx (j := (Int32.ofNat x)) (v := (.double (f4 x))) (by rw [e147]; exact Ar148.1) (State.isArrayOf_alike hZ.alike Ar148.2.1) Ar148.2.2 (own_in S148 (own_ixN (by omega) (by omega))) at148 (g := (mkF m 146 #[qA ob, qA tg, qA wt, qN x, qN (x + 1 + 1), qN (max k1 k2), qN (min k1 k2), qN x, qN k2] [qV x, (.ref wt), qV (max k1 k2), (.ref pl)])) rfl rfl (hb hby d8_146) _ k)))) ?_
      obtain ⟨_, _, ⟨T149, L149, k149, n149⟩, -, X149, ⟨Lc149, hQ149, l149, y149, z149⟩, st149⟩ := own_callSN X147 hx (y := (⟨"kithrank/Graph", "weightClass", "(D)I"⟩ : MethodName)) hown (mvMN hZ (own_hw hw (i := 86) rfl)) (mvT hZ (own_hw hw (i := 87) rfl)) (mvT hZ (own_hw hw (i := 73) rfl)) (mvT hZ (own_hw hw (i := 88) rfl)) (by decide) (backOf (W := 2) (rm4 l Z a0 hw [] (f4 x) T.heap n0 Zz ) hZ (own_hw hw (i := 88) rfl) (own_hw hw (i := 73) rfl) (by decide) (by decide)) (g := (mkF m 147 #[qA ob, qA tg, qA wt, qN x, qN (x + 1 + 1), qN (max k1 k2), qN (min k1 k2), qN x, qN k2] [(.double (f4 x)), qV (max k1 k2), (.ref pl)])) rfl (by rw [hml]; rfl) (argsL := [(.double (f4 x))]) (rest := [(.int (Int32.ofNat (max k1 k2))), (.ref pl)]) (lenOf pd9_0 rfl) rfl (by show 2 * 0 + _ ≤ _; exact Nat.le_of_eq rfl) (hb hby d8_147) (fun _ _ => ⟨rfl, e147, (by decide : 0 + 0 ≤ _), (by decide : 0 + 0 ≤ _)⟩)
      dsimp only [Pt.U, Pt.locs, Pt.cells, Pt.slots] at X149 l149 y149 z149 st149 hQ149
      rw [l149, y149, z149] at X149
      obtain ⟨rfl, N149q, hh149⟩ := hQ149
      have N149 := Fr.app N N149q
      refine own_st st149 ?_
      show own_Go p.tables e below _ (T149.setTop (mkF m 150 #[qA ob, qA tg, qA wt, qN x, qN (x + 1 + 1), qN (max k1 k2), qN (min k1 k2), qN x, qN k2] [(.int (own_wc (f4 x))), qV (max k1 k2), (.ref pl)]))
      refine own_st (S' := T149.setTop (mkF m 150 #[qA ob, qA tg, qA wt, qN x, qN (x + 1 + 1), qN (max k1 k2), qN (min k1 k2), qN x, qN k2] [qV k1, qV (max k1 k2), (.ref pl)])) (fun t k => by rw [show ((own_wc (f4 x)) : Int32) = (Int32.ofNat k1) from hv1]; exact k) ?_
      refine own_st (S' := T149.setTop (mkF m 151 #[qA ob, qA tg, qA wt, qN x, qN (x + 1 + 1), qN (max k1 k2), qN (min k1 k2), qN x, qN k2] [(.int ((Int32.ofNat (max k1 k2)) - (Int32.ofNat k1))), (.ref pl)])) (fun t k => XS.isub X149.here hx rfl (hb hby d8_150) rfl k) ?_
      refine own_st (S' := T149.setTop (mkF m 151 #[qA ob, qA tg, qA wt, qN x, qN (x + 1 + 1), qN (max k1 k2), qN (min k1 k2), qN x, qN k2] [qV a1, (.ref pl)])) (fun t k => by rw [show (((Int32.ofNat (max k1 k2)) - (Int32.ofNat k1)) : Int32) = (Int32.ofNat a1) from by rw [own_subN (by omega) (by omega)]; exact congrArg Int32.ofNat (by omega)]; exact k) ?_
      have O150 := lf4
      obtain ⟨c150, Ar150, S150, M150, V150⟩ := O150
      have at150 : c150.slots[((Int32.ofNat a1)).toNatClampNeg]? = some (.int (Int32.ofNat t1)) := own_at S150 V150 (own_ixN (by omega) (by decide)) (congrArg (fun q => Value.int (Int32.ofNat q)) (own_cu1 ha1 ha2 ht1 (by omega)))
      refine own_st (S' := T149.setTop (mkF m 156 #[qA ob, qA tg, qA wt, qN x, qN (x + 1 + 1), qN (max k1 k2), qN (min k1 k2), qN x, qN k2] [(.int ((Int32.ofNat t1) + (1 : Int32))), qV a1, (.ref pl), qV t1])) (fun t k => Jvm.Free.XT.dup2 X149.here hx rfl (hb hby d8_151) rfl rfl rfl (X149.iaload hx (j := (Int32.ofNat a1)) (v := (.int (Int32.ofNat t1))) (by rw [hh149]; exact Ar150.1) (State.isArrayOf_alike hZ.alike Ar150.2.1) Ar150.2.2 (own_in S150 (own_ixN (by omega) (by decide))) at150 (g := (mkF m 152 #[qA ob, qA tg, qA wt, qN x, qN (x + 1 + 1), qN (max k1 k2), qN (min k1 k2), qN x, qN k2] [qV a1, (.ref pl), qV a1, (.ref pl)])) rfl rfl (hb hby d8_152) _ (own_dupx2 X149.here hx rfl (hb hby d8_153) rfl rfl rfl rfl (XS.iconst X149.here hx rfl (hb hby d8_154) (XS.iadd X149.here hx rfl (hb hby d8_155) rfl k))))) ?_
      refine own_st (S' := T149.setTop (mkF m 156 #[qA ob, qA tg, qA wt, qN x, qN (x + 1 + 1), qN (max k1 k2), qN (min k1 k2), qN x, qN k2] [qV (t1 + 1), qV a1, (.ref pl), qV t1])) (fun t k => by rw [own_incN (i := t1) (by omega)]; exact k) ?_
      have O151 := lf4
      obtain ⟨c151, Ar151, S151, M151, V151⟩ := O151
      obtain ⟨T151, h151, X151, e151, W151, st151⟩ := stI X149 hx hZ hh149 Ar151 (j := (Int32.ofNat a1)) (own_in S151 (own_ixN (by omega) (by decide))) (g := (mkF m 156 #[qA ob, qA tg, qA wt, qN x, qN (x + 1 + 1), qN (max k1 k2), qN (min k1 k2), qN x, qN k2] [qV (t1 + 1), qV a1, (.ref pl), qV t1])) rfl rfl (hb hby d8_156)
      refine own_st st151 ?_
      have f152 := lf0.wr W151
      have f153 := lf1.other W151 (Or.inl ne_ob_pl)
      have f154 := lf2.other W151 (Or.inl ne_ob_pl)
      have f155 := lf3.other W151 (Or.inl ne_ob_pl)
      have f156 := lf5.other W151 (Ne.symm ne_pl_sT)
      have f157 := lf6.other W151 (Ne.symm ne_pl_sW)
      have f158 := lf7.other W151 (Ne.symm ne_pl_tg)
      have f159 := lf8.other W151 (Ne.symm ne_pl_wt)
      have Z151 : n0 ≤ h151.size := Nat.le_trans Zz (Keep.of_wr W151).1
      have N151 := Fr.snoc X151 N149 G_pl
      have K151 : Keep h0 h151 [pl, sT, sW, tg, wt] := K.wr W151 (Or.inl (List.mem_of_getElem? (i := 0) rfl))
      have f160 : own_A Z h151 pl .int 16370 (own_N (own_uN (own_pi a1 a2 i) a1 (t1 + 1))) := (own_A.set ⟨c151, Ar151, S151, M151, V151⟩ (own_ixN (by omega) (by decide)) W151).cong (fun q _ => congrFun (own_upN (own_pi a1 a2 i) a1 (t1 + 1)) q)
      refine own_st (S' := T151.setTop (mkF m 160 #[qA ob, qA tg, qA wt, qN x, qN (x + 1 + 1), qN (max k1 k2), qN (min k1 k2), qN x, qN t1] [(.ref ob)])) (fun t k => XS.istore X151.here hx rfl (hb hby d8_157) rfl (l' := #[qA ob, qA tg, qA wt, qN x, qN (x + 1 + 1), qN (max k1 k2), qN (min k1 k2), qN x, qN t1]) rfl (XS.aloadN X151.here hx rfl (hb hby d8_159) rfl rfl k)) ?_
      obtain ⟨T161, X161, e161, st161⟩ := getF X151 hx hZ hown (host := "") (Or.inl (own_hw hw (i := 77) rfl)) Via.refl e151 f154 (g := (mkF m 160 #[qA ob, qA tg, qA wt, qN x, qN (x + 1 + 1), qN (max k1 k2), qN (min k1 k2), qN x, qN t1] [(.ref ob)])) rfl rfl (hb hby d8_160)
      refine own_st st161 ?_
      have O162 := f158
      obtain ⟨c162, Ar162, S162, M162, V162⟩ := O162
      have at162 : c162.slots[((Int32.ofNat x)).toNatClampNeg]? = some (.int (f3 x)) := own_at S162 V162 (own_ixN (by omega) (by omega)) rfl
      refine own_st (S' := T161.setTop (mkF m 169 #[qA ob, qA tg, qA wt, qN x, qN (x + 1 + 1), qN (max k1 k2), qN (min k1 k2), qN x, qN t1] [(.int (f3 x)), qV t1, (.ref sT)])) (fun t k => XS.iload X161.here hx rfl (hb hby d8_163) rfl (XS.aloadN X161.here hx rfl (hb hby d8_165) rfl rfl (XS.iload X161.here hx rfl (hb hby d8_166) rfl (X161.iaload hx (j := (Int32.ofNat x)) (v := (.int (f3 x))) (by rw [e161]; exact Ar162.1) (State.isArrayOf_alike hZ.alike Ar162.2.1) Ar162.2.2 (own_in S162 (own_ixN (by omega) (by omega))) at162 (g := (mkF m 168 #[qA ob, qA tg, qA wt, qN x, qN (x + 1 + 1), qN (max k1 k2), qN (min k1 k2), qN x, qN t1] [qV x, (.ref tg), qV t1, (.ref sT)])) rfl rfl (hb hby d8_168) _ k)))) ?_
      have O163 := f156
      obtain ⟨c163, Ar163, S163, M163, V163⟩ := O163
      obtain ⟨T163, h163, X163, e163, W163, st163⟩ := stI X161 hx hZ e161 Ar163 (j := (Int32.ofNat t1)) (own_in S163 (own_ixN (by omega) (by decide))) (g := (mkF m 169 #[qA ob, qA tg, qA wt, qN x, qN (x + 1 + 1), qN (max k1 k2), qN (min k1 k2), qN x, qN t1] [(.int (f3 x)), qV t1, (.ref sT)])) rfl rfl (hb hby d8_169)
      refine own_st st163 ?_
      have f164 := f152.wr W163
      have f165 := f153.other W163 (Or.inl ne_ob_sT)
      have f166 := f154.other W163 (Or.inl ne_ob_sT)
      have f167 := f155.other W163 (Or.inl ne_ob_sT)
      have f168 := f160.other W163 ne_pl_sT
      have f169 := f157.other W163 (Ne.symm ne_sT_sW)
      have f170 := f158.other W163 (Ne.symm ne_sT_tg)
      have f171 := f159.other W163 (Ne.symm ne_sT_wt)
      have Z163 : n0 ≤ h163.size := Nat.le_trans Z151 (Keep.of_wr W163).1
      have N163 := Fr.snoc X163 N151 G_sT
      have K163 : Keep h0 h163 [pl, sT, sW, tg, wt] := K151.wr W163 (Or.inl (List.mem_of_getElem? (i := 1) rfl))
      have f172 : own_A Z h163 sT .int 2 (own_I (own_uI f1 t1 (f3 x))) := by rw [← own_upI]; exact own_A.set ⟨c163, Ar163, S163, M163, V163⟩ (own_ixN (by omega) (by decide)) W163
      refine own_st (S' := T163.setTop (mkF m 171 #[qA ob, qA tg, qA wt, qN x, qN (x + 1 + 1), qN (max k1 k2), qN (min k1 k2), qN x, qN t1] [(.ref ob)])) (fun t k => XS.aloadN X163.here hx rfl (hb hby d8_170) rfl rfl k) ?_
      obtain ⟨T173, X173, e173, st173⟩ := getF X163 hx hZ hown (host := "") (Or.inl (own_hw hw (i := 79) rfl)) Via.refl e163 f167 (g := (mkF m 171 #[qA ob, qA tg, qA wt, qN x, qN (x + 1 + 1), qN (max k1 k2), qN (min k1 k2), qN x, qN t1] [(.ref ob)])) rfl rfl (hb hby d8_171)
      refine own_st st173 ?_
      have O174 := f171
      obtain ⟨c174, Ar174, S174, M174, V174⟩ := O174
      have at174 : c174.slots[((Int32.ofNat x)).toNatClampNeg]? = some (.double (f4 x)) := own_at S174 V174 (own_ixN (by omega) (by omega)) rfl
      refine own_st (S' := T173.setTop (mkF m 180 #[qA ob, qA tg, qA wt, qN x, qN (x + 1 + 1), qN (max k1 k2), qN (min k1 k2), qN x, qN t1] [(.double (f4 x)), qV t1, (.ref sW)])) (fun t k => XS.iload X173.here hx rfl (hb hby d8_174) rfl (XS.aloadN X173.here hx rfl (hb hby d8_176) rfl rfl (XS.iload X173.here hx rfl (hb hby d8_177) rfl (X173.daload hx (j := (Int32.ofNat x)) (v := (.double (f4 x))) (by rw [e173]; exact Ar174.1) (State.isArrayOf_alike hZ.alike Ar174.2.1) Ar174.2.2 (own_in S174 (own_ixN (by omega) (by omega))) at174 (g := (mkF m 179 #[qA ob, qA tg, qA wt, qN x, qN (x + 1 + 1), qN (max k1 k2), qN (min k1 k2), qN x, qN t1] [qV x, (.ref wt), qV t1, (.ref sW)])) rfl rfl (hb hby d8_179) _ k)))) ?_
      have O175 := f169
      obtain ⟨c175, Ar175, S175, M175, V175⟩ := O175
      obtain ⟨T175, h175, X175, e175, W175, st175⟩ := stD X173 hx hZ e173 Ar175 (j := (Int32.ofNat t1)) (own_in S175 (own_ixN (by omega) (by decide))) (g := (mkF m 180 #[qA ob, qA tg, qA wt, qN x, qN (x + 1 + 1), qN (max k1 k2), qN (min k1 k2), qN x, qN t1] [(.double (f4 x)), qV t1, (.ref sW)])) rfl rfl (hb hby d8_180)
      refine own_st st175 ?_
      have f176 := f164.wr W175
      have f177 := f165.other W175 (Or.inl ne_ob_sW)
      have f178 := f166.other W175 (Or.inl ne_ob_sW)
      have f179 := f167.other W175 (Or.inl ne_ob_sW)
      have f180 := f168.other W175 ne_pl_sW
      have f181 := f172.other W175 ne_sT_sW
      have f182 := f170.other W175 (Ne.symm ne_sW_tg)
      have f183 := f171.other W175 (Ne.symm ne_sW_wt)
      have Z175 : n0 ≤ h175.size := Nat.le_trans Z163 (Keep.of_wr W175).1
      have N175 := Fr.snoc X175 N163 G_sW
      have K175 : Keep h0 h175 [pl, sT, sW, tg, wt] := K163.wr W175 (Or.inl (List.mem_of_getElem? (i := 2) rfl))
      have f184 : own_A Z h175 sW .double 2 (own_D (own_uD f2 t1 (f4 x))) := by rw [← own_upD]; exact own_A.set ⟨c175, Ar175, S175, M175, V175⟩ (own_ixN (by omega) (by decide)) W175
      refine own_st (S' := T175.setTop (mkF m 130 #[qA ob, qA tg, qA wt, qN x, qN (x + 1 + 1), qN (max k1 k2), qN (min k1 k2), qI ((Int32.ofNat x) + (1 : Int32)), qN t1] [])) (fun t k => XS.iinc X175.here hx rfl (hb hby d8_181) rfl (l' := #[qA ob, qA tg, qA wt, qN x, qN (x + 1 + 1), qN (max k1 k2), qN (min k1 k2), qI ((Int32.ofNat x) + (1 : Int32)), qN t1]) rfl (XS.goto X175.here hx rfl (pc0 := 184) (pc' := 130) rfl (hb hby d8_184) (by decide) (by decide) k)) ?_
      refine own_st (S' := T175.setTop (mkF m 130 #[qA ob, qA tg, qA wt, qN x, qN (x + 1 + 1), qN (max k1 k2), qN (min k1 k2), qN (x + 1), qN t1] [])) (fun t k => by rw [own_incN (i := x) (by omega)]; exact k) ?_
      have hc185 : (Int32.ofNat (x + 1)) < (Int32.ofNat (x + 1 + 1)) := (own_ltN (by omega) (by omega)).mpr (by omega)
      refine own_st (S' := T175.setTop (mkF m 138 #[qA ob, qA tg, qA wt, qN x, qN (x + 1 + 1), qN (max k1 k2), qN (min k1 k2), qN (x + 1), qN t1] [(.ref ob)])) (fun t k => XS.iload X175.here hx rfl (hb hby d7_130) rfl (XS.iload X175.here hx rfl (hb hby d7_132) rfl (XS.icmpNo X175.here hx rfl (hb hby d7_134) rfl (tlt hc185).2.1 (XS.aloadN X175.here hx rfl (hb hby d8_137) rfl rfl k)))) ?_
      obtain ⟨T186, X186, e186, st186⟩ := getF X175 hx hZ hown (host := "") (Or.inl (own_hw hw (i := 75) rfl)) Via.refl e175 f177 (g := (mkF m 138 #[qA ob, qA tg, qA wt, qN x, qN (x + 1 + 1), qN (max k1 k2), qN (min k1 k2), qN (x + 1), qN t1] [(.ref ob)])) rfl rfl (hb hby d8_138)
      refine own_st st186 ?_
      have O187 := f183
      obtain ⟨c187, Ar187, S187, M187, V187⟩ := O187
      have at187 : c187.slots[((Int32.ofNat (x + 1))).toNatClampNeg]? = some (.double (f4 (x + 1))) := own_at S187 V187 (own_ixN (by omega) (by omega)) rfl
      refine own_st (S' := T186.setTop (mkF m 147 #[qA ob, qA tg, qA wt, qN x, qN (x + 1 + 1), qN (max k1 k2), qN (min k1 k2), qN (x + 1), qN t1] [(.double (f4 (x + 1))), qV (max k1 k2), (.ref pl)])) (fun t k => XS.iload X186.here hx rfl (hb hby d8_141) rfl (XS.aloadN X186.here hx rfl (hb hby d8_143) rfl rfl (XS.iload X186.here hx rfl (hb hby d8_144) rfl (X186.daload hx (j := (Int32.ofNat (x + 1))) (v := (.double (f4 (x + 1)))) (by rw [e186]; exact Ar187.1) (State.isArrayOf_alike hZ.alike Ar187.2.1) Ar187.2.2 (own_in S187 (own_ixN (by omega) (by omega))) at187 (g := (mkF m 146 #[qA ob, qA tg, qA wt, qN x, qN (x + 1 + 1), qN (max k1 k2), qN (min k1 k2), qN (x + 1), qN t1] [qV (x + 1), (.ref wt), qV (max k1 k2), (.ref pl)])) rfl rfl (hb hby d8_146) _ k)))) ?_
      obtain ⟨_, _, ⟨T188, L188, k188, n188⟩, -, X188, ⟨Lc188, hQ188, l188, y188, z188⟩, st188⟩ := own_callSN X186 hx (y := (⟨"kithrank/Graph", "weightClass", "(D)I"⟩ : MethodName)) hown (mvMN hZ (own_hw hw (i := 86) rfl)) (mvT hZ (own_hw hw (i := 87) rfl)) (mvT hZ (own_hw hw (i := 73) rfl)) (mvT hZ (own_hw hw (i := 88) rfl)) (by decide) (backOf (W := 2) (rm4 l Z a0 hw [] (f4 (x + 1)) h175 n0 Z175 ) hZ (own_hw hw (i := 88) rfl) (own_hw hw (i := 73) rfl) (by decide) (by decide)) (g := (mkF m 147 #[qA ob, qA tg, qA wt, qN x, qN (x + 1 + 1), qN (max k1 k2), qN (min k1 k2), qN (x + 1), qN t1] [(.double (f4 (x + 1))), qV (max k1 k2), (.ref pl)])) rfl (by rw [hml]; rfl) (argsL := [(.double (f4 (x + 1)))]) (rest := [(.int (Int32.ofNat (max k1 k2))), (.ref pl)]) (lenOf pd9_0 rfl) rfl (by show 2 * 0 + _ ≤ _; exact Nat.le_of_eq rfl) (hb hby d8_147) (fun _ _ => ⟨rfl, e186, (by decide : 0 + 0 ≤ _), (by decide : 0 + 0 ≤ _)⟩)
      dsimp only [Pt.U, Pt.locs, Pt.cells, Pt.slots] at X188 l188 y188 z188 st188 hQ188
      rw [l188, y188, z188] at X188
      obtain ⟨rfl, N188q, hh188⟩ := hQ188
      have N188 := Fr.app N175 N188q
      refine own_st st188 ?_
      show own_Go p.tables e below _ (T188.setTop (mkF m 150 #[qA ob, qA tg, qA wt, qN x, qN (x + 1 + 1), qN (max k1 k2), qN (min k1 k2), qN (x + 1), qN t1] [(.int (own_wc (f4 (x + 1)))), qV (max k1 k2), (.ref pl)]))
      refine own_st (S' := T188.setTop (mkF m 150 #[qA ob, qA tg, qA wt, qN x, qN (x + 1 + 1), qN (max k1 k2), qN (min k1 k2), qN (x + 1), qN t1] [qV k2, qV (max k1 k2), (.ref pl)])) (fun t k => by rw [show ((own_wc (f4 (x + 1))) : Int32) = (Int32.ofNat k2) from hv2]; exact k) ?_
      refine own_st (S' := T188.setTop (mkF m 151 #[qA ob, qA tg, qA wt, qN x, qN (x + 1 + 1), qN (max k1 k2), qN (min k1 k2), qN (x + 1), qN t1] [(.int ((Int32.ofNat (max k1 k2)) - (Int32.ofNat k2))), (.ref pl)])) (fun t k => XS.isub X188.here hx rfl (hb hby d8_150) rfl k) ?_
      refine own_st (S' := T188.setTop (mkF m 151 #[qA ob, qA tg, qA wt, qN x, qN (x + 1 + 1), qN (max k1 k2), qN (min k1 k2), qN (x + 1), qN t1] [qV a2, (.ref pl)])) (fun t k => by rw [show (((Int32.ofNat (max k1 k2)) - (Int32.ofNat k2)) : Int32) = (Int32.ofNat a2) from by rw [own_subN (by omega) (by omega)]; exact congrArg Int32.ofNat (by omega)]; exact k) ?_
      have O189 := f180
      obtain ⟨c189, Ar189, S189, M189, V189⟩ := O189
      have at189 : c189.slots[((Int32.ofNat a2)).toNatClampNeg]? = some (.int (Int32.ofNat t2)) := own_at S189 V189 (own_ixN (by omega) (by decide)) (congrArg (fun q => Value.int (Int32.ofNat q)) (own_cu2 ha1 ha2 ht1 ht2 (by omega)))
      refine own_st (S' := T188.setTop (mkF m 156 #[qA ob, qA tg, qA wt, qN x, qN (x + 1 + 1), qN (max k1 k2), qN (min k1 k2), qN (x + 1), qN t1] [(.int ((Int32.ofNat t2) + (1 : Int32))), qV a2, (.ref pl), qV t2])) (fun t k => Jvm.Free.XT.dup2 X188.here hx rfl (hb hby d8_151) rfl rfl rfl (X188.iaload hx (j := (Int32.ofNat a2)) (v := (.int (Int32.ofNat t2))) (by rw [hh188]; exact Ar189.1) (State.isArrayOf_alike hZ.alike Ar189.2.1) Ar189.2.2 (own_in S189 (own_ixN (by omega) (by decide))) at189 (g := (mkF m 152 #[qA ob, qA tg, qA wt, qN x, qN (x + 1 + 1), qN (max k1 k2), qN (min k1 k2), qN (x + 1), qN t1] [qV a2, (.ref pl), qV a2, (.ref pl)])) rfl rfl (hb hby d8_152) _ (own_dupx2 X188.here hx rfl (hb hby d8_153) rfl rfl rfl rfl (XS.iconst X188.here hx rfl (hb hby d8_154) (XS.iadd X188.here hx rfl (hb hby d8_155) rfl k))))) ?_
      refine own_st (S' := T188.setTop (mkF m 156 #[qA ob, qA tg, qA wt, qN x, qN (x + 1 + 1), qN (max k1 k2), qN (min k1 k2), qN (x + 1), qN t1] [qV (t2 + 1), qV a2, (.ref pl), qV t2])) (fun t k => by rw [own_incN (i := t2) (by omega)]; exact k) ?_
      have O190 := f180
      obtain ⟨c190, Ar190, S190, M190, V190⟩ := O190
      obtain ⟨T190, h190, X190, e190, W190, st190⟩ := stI X188 hx hZ hh188 Ar190 (j := (Int32.ofNat a2)) (own_in S190 (own_ixN (by omega) (by decide))) (g := (mkF m 156 #[qA ob, qA tg, qA wt, qN x, qN (x + 1 + 1), qN (max k1 k2), qN (min k1 k2), qN (x + 1), qN t1] [qV (t2 + 1), qV a2, (.ref pl), qV t2])) rfl rfl (hb hby d8_156)
      refine own_st st190 ?_
      have f191 := f176.wr W190
      have f192 := f177.other W190 (Or.inl ne_ob_pl)
      have f193 := f178.other W190 (Or.inl ne_ob_pl)
      have f194 := f179.other W190 (Or.inl ne_ob_pl)
      have f195 := f181.other W190 (Ne.symm ne_pl_sT)
      have f196 := f184.other W190 (Ne.symm ne_pl_sW)
      have f197 := f182.other W190 (Ne.symm ne_pl_tg)
      have f198 := f183.other W190 (Ne.symm ne_pl_wt)
      have Z190 : n0 ≤ h190.size := Nat.le_trans Z175 (Keep.of_wr W190).1
      have N190 := Fr.snoc X190 N188 G_pl
      have K190 : Keep h0 h190 [pl, sT, sW, tg, wt] := K175.wr W190 (Or.inl (List.mem_of_getElem? (i := 0) rfl))
      have f199 : own_A Z h190 pl .int 16370 (own_N (own_uN (own_uN (own_pi a1 a2 i) a1 (t1 + 1)) a2 (t2 + 1))) := (own_A.set ⟨c190, Ar190, S190, M190, V190⟩ (own_ixN (by omega) (by decide)) W190).cong (fun q _ => congrFun (own_upN (own_uN (own_pi a1 a2 i) a1 (t1 + 1)) a2 (t2 + 1)) q)
      refine own_st (S' := T190.setTop (mkF m 160 #[qA ob, qA tg, qA wt, qN x, qN (x + 1 + 1), qN (max k1 k2), qN (min k1 k2), qN (x + 1), qN t2] [(.ref ob)])) (fun t k => XS.istore X190.here hx rfl (hb hby d8_157) rfl (l' := #[qA ob, qA tg, qA wt, qN x, qN (x + 1 + 1), qN (max k1 k2), qN (min k1 k2), qN (x + 1), qN t2]) rfl (XS.aloadN X190.here hx rfl (hb hby d8_159) rfl rfl k)) ?_
      obtain ⟨T200, X200, e200, st200⟩ := getF X190 hx hZ hown (host := "") (Or.inl (own_hw hw (i := 77) rfl)) Via.refl e190 f193 (g := (mkF m 160 #[qA ob, qA tg, qA wt, qN x, qN (x + 1 + 1), qN (max k1 k2), qN (min k1 k2), qN (x + 1), qN t2] [(.ref ob)])) rfl rfl (hb hby d8_160)
      refine own_st st200 ?_
      have O201 := f197
      obtain ⟨c201, Ar201, S201, M201, V201⟩ := O201
      have at201 : c201.slots[((Int32.ofNat (x + 1))).toNatClampNeg]? = some (.int (f3 (x + 1))) := own_at S201 V201 (own_ixN (by omega) (by omega)) rfl
      refine own_st (S' := T200.setTop (mkF m 169 #[qA ob, qA tg, qA wt, qN x, qN (x + 1 + 1), qN (max k1 k2), qN (min k1 k2), qN (x + 1), qN t2] [(.int (f3 (x + 1))), qV t2, (.ref sT)])) (fun t k => XS.iload X200.here hx rfl (hb hby d8_163) rfl (XS.aloadN X200.here hx rfl (hb hby d8_165) rfl rfl (XS.iload X200.here hx rfl (hb hby d8_166) rfl (X200.iaload hx (j := (Int32.ofNat (x + 1))) (v := (.int (f3 (x + 1)))) (by rw [e200]; exact Ar201.1) (State.isArrayOf_alike hZ.alike Ar201.2.1) Ar201.2.2 (own_in S201 (own_ixN (by omega) (by omega))) at201 (g := (mkF m 168 #[qA ob, qA tg, qA wt, qN x, qN (x + 1 + 1), qN (max k1 k2), qN (min k1 k2), qN (x + 1), qN t2] [qV (x + 1), (.ref tg), qV t2, (.ref sT)])) rfl rfl (hb hby d8_168) _ k)))) ?_
      have O202 := f195
      obtain ⟨c202, Ar202, S202, M202, V202⟩ := O202
      obtain ⟨T202, h202, X202, e202, W202, st202⟩ := stI X200 hx hZ e200 Ar202 (j := (Int32.ofNat t2)) (own_in S202 (own_ixN (by omega) (by decide))) (g := (mkF m 169 #[qA ob, qA tg, qA wt, qN x, qN (x + 1 + 1), qN (max k1 k2), qN (min k1 k2), qN (x + 1), qN t2] [(.int (f3 (x + 1))), qV t2, (.ref sT)])) rfl rfl (hb hby d8_169)
      refine own_st st202 ?_
      have f203 := f191.wr W202
      have f204 := f192.other W202 (Or.inl ne_ob_sT)
      have f205 := f193.other W202 (Or.inl ne_ob_sT)
      have f206 := f194.other W202 (Or.inl ne_ob_sT)
      have f207 := f199.other W202 ne_pl_sT
      have f208 := f196.other W202 (Ne.symm ne_sT_sW)
      have f209 := f197.other W202 (Ne.symm ne_sT_tg)
      have f210 := f198.other W202 (Ne.symm ne_sT_wt)
      have Z202 : n0 ≤ h202.size := Nat.le_trans Z190 (Keep.of_wr W202).1
      have N202 := Fr.snoc X202 N190 G_sT
      have K202 : Keep h0 h202 [pl, sT, sW, tg, wt] := K190.wr W202 (Or.inl (List.mem_of_getElem? (i := 1) rfl))
      have f211 : own_A Z h202 sT .int 2 (own_I (own_uI (own_uI f1 t1 (f3 x)) t2 (f3 (x + 1)))) := by rw [← own_upI]; exact own_A.set ⟨c202, Ar202, S202, M202, V202⟩ (own_ixN (by omega) (by decide)) W202
      refine own_st (S' := T202.setTop (mkF m 171 #[qA ob, qA tg, qA wt, qN x, qN (x + 1 + 1), qN (max k1 k2), qN (min k1 k2), qN (x + 1), qN t2] [(.ref ob)])) (fun t k => XS.aloadN X202.here hx rfl (hb hby d8_170) rfl rfl k) ?_
      obtain ⟨T212, X212, e212, st212⟩ := getF X202 hx hZ hown (host := "") (Or.inl (own_hw hw (i := 79) rfl)) Via.refl e202 f206 (g := (mkF m 171 #[qA ob, qA tg, qA wt, qN x, qN (x + 1 + 1), qN (max k1 k2), qN (min k1 k2), qN (x + 1), qN t2] [(.ref ob)])) rfl rfl (hb hby d8_171)
      refine own_st st212 ?_
      have O213 := f210
      obtain ⟨c213, Ar213, S213, M213, V213⟩ := O213
      have at213 : c213.slots[((Int32.ofNat (x + 1))).toNatClampNeg]? = some (.double (f4 (x + 1))) := own_at S213 V213 (own_ixN (by omega) (by omega)) rfl
      refine own_st (S' := T212.setTop (mkF m 180 #[qA ob, qA tg, qA wt, qN x, qN (x + 1 + 1), qN (max k1 k2), qN (min k1 k2), qN (x + 1), qN t2] [(.double (f4 (x + 1))), qV t2, (.ref sW)])) (fun t k => XS.iload X212.here hx rfl (hb hby d8_174) rfl (XS.aloadN X212.here hx rfl (hb hby d8_176) rfl rfl (XS.iload X212.here hx rfl (hb hby d8_177) rfl (X212.daload hx (j := (Int32.ofNat (x + 1))) (v := (.double (f4 (x + 1)))) (by rw [e212]; exact Ar213.1) (State.isArrayOf_alike hZ.alike Ar213.2.1) Ar213.2.2 (own_in S213 (own_ixN (by omega) (by omega))) at213 (g := (mkF m 179 #[qA ob, qA tg, qA wt, qN x, qN (x + 1 + 1), qN (max k1 k2), qN (min k1 k2), qN (x + 1), qN t2] [qV (x + 1), (.ref wt), qV t2, (.ref sW)])) rfl rfl (hb hby d8_179) _ k)))) ?_
      have O214 := f208
      obtain ⟨c214, Ar214, S214, M214, V214⟩ := O214
      obtain ⟨T214, h214, X214, e214, W214, st214⟩ := stD X212 hx hZ e212 Ar214 (j := (Int32.ofNat t2)) (own_in S214 (own_ixN (by omega) (by decide))) (g := (mkF m 180 #[qA ob, qA tg, qA wt, qN x, qN (x + 1 + 1), qN (max k1 k2), qN (min k1 k2), qN (x + 1), qN t2] [(.double (f4 (x + 1))), qV t2, (.ref sW)])) rfl rfl (hb hby d8_180)
      refine own_st st214 ?_
      have f215 := f203.wr W214
      have f216 := f204.other W214 (Or.inl ne_ob_sW)
      have f217 := f205.other W214 (Or.inl ne_ob_sW)
      have f218 := f206.other W214 (Or.inl ne_ob_sW)
      have f219 := f207.other W214 ne_pl_sW
      have f220 := f211.other W214 ne_sT_sW
      have f221 := f209.other W214 (Ne.symm ne_sW_tg)
      have f222 := f210.other W214 (Ne.symm ne_sW_wt)
      have Z214 : n0 ≤ h214.size := Nat.le_trans Z202 (Keep.of_wr W214).1
      have N214 := Fr.snoc X214 N202 G_sW
      have K214 : Keep h0 h214 [pl, sT, sW, tg, wt] := K202.wr W214 (Or.inl (List.mem_of_getElem? (i := 2) rfl))
      have f223 : own_A Z h214 sW .double 2 (own_D (own_uD (own_uD f2 t1 (f4 x)) t2 (f4 (x + 1)))) := by rw [← own_upD]; exact own_A.set ⟨c214, Ar214, S214, M214, V214⟩ (own_ixN (by omega) (by decide)) W214
      refine own_st (S' := T214.setTop (mkF m 130 #[qA ob, qA tg, qA wt, qN x, qN (x + 1 + 1), qN (max k1 k2), qN (min k1 k2), qI ((Int32.ofNat (x + 1)) + (1 : Int32)), qN t2] [])) (fun t k => XS.iinc X214.here hx rfl (hb hby d8_181) rfl (l' := #[qA ob, qA tg, qA wt, qN x, qN (x + 1 + 1), qN (max k1 k2), qN (min k1 k2), qI ((Int32.ofNat (x + 1)) + (1 : Int32)), qN t2]) rfl (XS.goto X214.here hx rfl (pc0 := 184) (pc' := 130) rfl (hb hby d8_184) (by decide) (by decide) k)) ?_
      refine own_st (S' := T214.setTop (mkF m 130 #[qA ob, qA tg, qA wt, qN x, qN (x + 1 + 1), qN (max k1 k2), qN (min k1 k2), qN ((x + 1) + 1), qN t2] [])) (fun t k => by rw [own_incN (i := (x + 1)) (by omega)]; exact k) ?_
      have hc224 : ¬ ((Int32.ofNat ((x + 1) + 1)) < (Int32.ofNat (x + 1 + 1))) := fun q => absurd ((own_ltN (by omega) (by omega)).mp q) (by omega)
      refine own_st (S' := T214.setTop (mkF m 188 #[qA ob, qA tg, qA wt, qN x, qN (x + 1 + 1), qN (max k1 k2), qN (min k1 k2), qN ((x + 1) + 1), qN t2] [(.ref ob)])) (fun t k => XS.iload X214.here hx rfl (hb hby d7_130) rfl (XS.iload X214.here hx rfl (hb hby d7_132) rfl (XS.icmpYes X214.here hx rfl (pc0 := 134) (pc' := 187) rfl (hb hby d7_134) rfl (flt hc224).2.1 (by decide) (by decide) (XS.aloadN X214.here hx rfl (hb hby d7_187) rfl rfl k)))) ?_
      obtain ⟨T225, X225, e225, st225⟩ := getF X214 hx hZ hown (host := "") (Or.inl (own_hw hw (i := 77) rfl)) Via.refl e214 f217 (g := (mkF m 188 #[qA ob, qA tg, qA wt, qN x, qN (x + 1 + 1), qN (max k1 k2), qN (min k1 k2), qN ((x + 1) + 1), qN t2] [(.ref ob)])) rfl rfl (hb hby d7_188)
      refine own_st st225 ?_
      refine own_st (S' := T225.setTop (mkF m 198 #[qA ob, qA tg, qA wt, qN x, qN (x + 1 + 1), qN (max k1 k2), qN (min k1 k2), qN ((x + 1) + 1), qN t2] [(.int ((Int32.ofNat (x + 1 + 1)) - (Int32.ofNat x))), qV x, (.ref tg), (.int (0 : Int32)), (.ref sT)])) (fun t k => XS.iconst X225.here hx rfl (hb hby d7_191) (XS.aloadN X225.here hx rfl (hb hby d7_192) rfl rfl (XS.iloadN X225.here hx rfl (hb hby d7_193) rfl (XS.iload X225.here hx rfl (hb hby d7_194) rfl (XS.iloadN X225.here hx rfl (hb hby d7_196) rfl (XS.isub X225.here hx rfl (hb hby d7_197) rfl k)))))) ?_
      obtain ⟨T226, h226, L226, X226, e226, N226, Kq226, A226, st226⟩ := own_cp X225 hx hZ hown (own_hw hw (i := 95) rfl) (own_hw hw (i := 98) rfl) (own_hw hw (i := 96) rfl) (own_hw hw (i := 97) rfl) e225 (hty := rfl) f220 f221 (fun _ => rfl) (fun _ => rfl) (i := 0) (j := x) (k := 2) rfl rfl (by rw [own_subN (by omega) (by omega)]; exact congrArg Int32.ofNat (by omega)) (by omega) (by omega) N214 G_tg (g := (mkF m 198 #[qA ob, qA tg, qA wt, qN x, qN (x + 1 + 1), qN (max k1 k2), qN (min k1 k2), qN ((x + 1) + 1), qN t2] [(.int ((Int32.ofNat (x + 1 + 1)) - (Int32.ofNat x))), qV x, (.ref tg), (.int (0 : Int32)), (.ref sT)])) rfl (by rw [hml]; rfl) (rest := []) rfl (hb hby d7_198) (by decide) (W := 0) (by show 2 * 0 + _ ≤ _; exact Nat.le_of_eq rfl) (by decide)
      have f227 := f215.keep Kq226
      have f228 := f216.keep Kq226 (ninS ne_ob_tg nin0)
      have f229 := f217.keep Kq226 (ninS ne_ob_tg nin0)
      have f230 := f218.keep Kq226 (ninS ne_ob_tg nin0)
      have f231 := f219.keep Kq226 (ninS ne_pl_tg nin0)
      have f232 := f220.keep Kq226 (ninS ne_sT_tg nin0)
      have f233 := f223.keep Kq226 (ninS ne_sW_tg nin0)
      have f234 := f222.keep Kq226 (ninS (Ne.symm ne_tg_wt) nin0)
      have f235 : own_A Z h226 tg .int nt (own_I (own_ci (own_uI (own_uI f1 t1 (f3 x)) t2 (f3 (x + 1))) f3 0 x 2)) := A226.cong (fun q _ => by unfold own_I own_ci; split <;> rfl)
      have Z226 : n0 ≤ h226.size := Nat.le_trans Z214 Kq226.1
      have K226 : Keep h0 h226 [pl, sT, sW, tg, wt] := K214.trans Kq226 (allS (Or.inl (List.mem_of_getElem? (i := 3) rfl)) all0)
      refine own_st st226 ?_
      refine own_st (S' := T226.setTop (mkF m 202 #[qA ob, qA tg, qA wt, qN x, qN (x + 1 + 1), qN (max k1 k2), qN (min k1 k2), qN ((x + 1) + 1), qN t2] [(.ref ob)])) (fun t k => XS.aloadN X226.here hx rfl (hb hby d7_201) rfl rfl k) ?_
      obtain ⟨T236, X236, e236, st236⟩ := getF X226 hx hZ hown (host := "") (Or.inl (own_hw hw (i := 79) rfl)) Via.refl e226 f230 (g := (mkF m 202 #[qA ob, qA tg, qA wt, qN x, qN (x + 1 + 1), qN (max k1 k2), qN (min k1 k2), qN ((x + 1) + 1), qN t2] [(.ref ob)])) rfl rfl (hb hby d7_202)
      refine own_st st236 ?_
      refine own_st (S' := T236.setTop (mkF m 212 #[qA ob, qA tg, qA wt, qN x, qN (x + 1 + 1), qN (max k1 k2), qN (min k1 k2), qN ((x + 1) + 1), qN t2] [(.int ((Int32.ofNat (x + 1 + 1)) - (Int32.ofNat x))), qV x, (.ref wt), (.int (0 : Int32)), (.ref sW)])) (fun t k => XS.iconst X236.here hx rfl (hb hby d7_205) (XS.aloadN X236.here hx rfl (hb hby d7_206) rfl rfl (XS.iloadN X236.here hx rfl (hb hby d7_207) rfl (XS.iload X236.here hx rfl (hb hby d7_208) rfl (XS.iloadN X236.here hx rfl (hb hby d7_210) rfl (XS.isub X236.here hx rfl (hb hby d7_211) rfl k)))))) ?_
      obtain ⟨T237, h237, L237, X237, e237, N237, Kq237, A237, st237⟩ := own_cp X236 hx hZ hown (own_hw hw (i := 95) rfl) (own_hw hw (i := 98) rfl) (own_hw hw (i := 96) rfl) (own_hw hw (i := 97) rfl) e236 (hty := rfl) f233 f234 (fun _ => rfl) (fun _ => rfl) (i := 0) (j := x) (k := 2) rfl rfl (by rw [own_subN (by omega) (by omega)]; exact congrArg Int32.ofNat (by omega)) (by omega) (by omega) N226 G_wt (g := (mkF m 212 #[qA ob, qA tg, qA wt, qN x, qN (x + 1 + 1), qN (max k1 k2), qN (min k1 k2), qN ((x + 1) + 1), qN t2] [(.int ((Int32.ofNat (x + 1 + 1)) - (Int32.ofNat x))), qV x, (.ref wt), (.int (0 : Int32)), (.ref sW)])) rfl (by rw [hml]; rfl) (rest := []) rfl (hb hby d7_212) (by decide) (W := 0) (by show 2 * 0 + _ ≤ _; exact Nat.le_of_eq rfl) (by decide)
      have f238 := f227.keep Kq237
      have f239 := f228.keep Kq237 (ninS ne_ob_wt nin0)
      have f240 := f229.keep Kq237 (ninS ne_ob_wt nin0)
      have f241 := f230.keep Kq237 (ninS ne_ob_wt nin0)
      have f242 := f231.keep Kq237 (ninS ne_pl_wt nin0)
      have f243 := f232.keep Kq237 (ninS ne_sT_wt nin0)
      have f244 := f233.keep Kq237 (ninS ne_sW_wt nin0)
      have f245 := f235.keep Kq237 (ninS ne_tg_wt nin0)
      have f246 : own_A Z h237 wt .double nt (own_D (own_cd (own_uD (own_uD f2 t1 (f4 x)) t2 (f4 (x + 1))) f4 0 x 2)) := A237.cong (fun q _ => by unfold own_D own_cd; split <;> rfl)
      have Z237 : n0 ≤ h237.size := Nat.le_trans Z226 Kq237.1
      have K237 : Keep h0 h237 [pl, sT, sW, tg, wt] := K226.trans Kq237 (allS (Or.inl (List.mem_of_getElem? (i := 4) rfl)) all0)
      refine own_st st237 ?_
      refine own_st (S' := T237.setTop (mkF m 216 #[qA ob, qA tg, qA wt, qN x, qN (x + 1 + 1), qN (max k1 k2), qN (min k1 k2), qN ((x + 1) + 1), qN t2] [(.ref ob)])) (fun t k => XS.aloadN X237.here hx rfl (hb hby d7_215) rfl rfl k) ?_
      obtain ⟨T247, X247, e247, st247⟩ := getF X237 hx hZ hown (host := "") (Or.inl (own_hw hw (i := 75) rfl)) Via.refl e237 f239 (g := (mkF m 216 #[qA ob, qA tg, qA wt, qN x, qN (x + 1 + 1), qN (max k1 k2), qN (min k1 k2), qN ((x + 1) + 1), qN t2] [(.ref ob)])) rfl rfl (hb hby d7_216)
      refine own_st st247 ?_
      refine own_st (S' := T247.setTop (mkF m 227 #[qA ob, qA tg, qA wt, qN x, qN (x + 1 + 1), qN (max k1 k2), qN (min k1 k2), qN ((x + 1) + 1), qN t2] [(.int (((Int32.ofNat (max k1 k2)) - (Int32.ofNat (min k1 k2))) + (2 : Int32))), (.int (0 : Int32)), (.ref pl)])) (fun t k => XS.iconst X247.here hx rfl (hb hby d7_219) (XS.iload X247.here hx rfl (hb hby d7_220) rfl (XS.iload X247.here hx rfl (hb hby d7_222) rfl (XS.isub X247.here hx rfl (hb hby d7_224) rfl (XS.iconst X247.here hx rfl (hb hby d7_225) (XS.iadd X247.here hx rfl (hb hby d7_226) rfl k)))))) ?_
      refine own_st (S' := T247.setTop (mkF m 227 #[qA ob, qA tg, qA wt, qN x, qN (x + 1 + 1), qN (max k1 k2), qN (min k1 k2), qN ((x + 1) + 1), qN t2] [qV (d + 2), (.int (0 : Int32)), (.ref pl)])) (fun t k => by rw [show ((((Int32.ofNat (max k1 k2)) - (Int32.ofNat (min k1 k2))) + (2 : Int32)) : Int32) = (Int32.ofNat (d + 2)) from by rw [own_subN (by omega) (by omega)]; exact (own_addN (i := max k1 k2 - min k1 k2) (k := 2) (by omega)).trans (congrArg Int32.ofNat (by omega))]; exact k) ?_
      have f248 : own_A Z h237 pl .int 16370 (own_I (fun j => Int32.ofNat ((own_uN (own_uN (own_pi a1 a2 i) a1 (t1 + 1)) a2 (t2 + 1)) j))) := f242
      refine own_st (S' := T247.setTop (mkF m 228 #[qA ob, qA tg, qA wt, qN x, qN (x + 1 + 1), qN (max k1 k2), qN (min k1 k2), qN ((x + 1) + 1), qN t2] [(.int (0 : Int32)), qV (d + 2), (.int (0 : Int32)), (.ref pl)])) (fun t k => XS.iconst X247.here hx rfl (hb hby d7_227) k) ?_
      obtain ⟨_, _, ⟨T249, L249, k249, n249⟩, -, X249, ⟨Lc249, hQ249, l249, y249, z249⟩, st249⟩ := Jvm.LawKit.callS X247 hx (y := (⟨"java/util/Arrays", "fill", "([IIII)V"⟩ : MethodName)) hown (mvT hZ (own_hw hw (i := 99) rfl)) (mvT hZ (own_hw hw (i := 100) rfl)) (mvT hZ (own_hw hw (i := 101) rfl)) (mvT hZ (own_hw hw (i := 102) rfl)) (by decide) (backOf (W := 0) (rm6 l Z a0 hw [] pl (Int32.ofNat (d + 2)) (fun j => Int32.ofNat ((own_uN (own_uN (own_pi a1 a2 i) a1 (t1 + 1)) a2 (t2 + 1)) j)) (d + 2) h237 n0 Z237 f248 G_pl rfl (by omega)) hZ (own_hw hw (i := 102) rfl) (own_hw hw (i := 101) rfl) (by decide) (by decide)) (g := (mkF m 228 #[qA ob, qA tg, qA wt, qN x, qN (x + 1 + 1), qN (max k1 k2), qN (min k1 k2), qN ((x + 1) + 1), qN t2] [(.int (0 : Int32)), qV (d + 2), (.int (0 : Int32)), (.ref pl)])) rfl (by rw [hml]; rfl) (argsL := [(.ref pl), (.int (0 : Int32)), (.int (Int32.ofNat (d + 2))), (.int (0 : Int32))]) (rest := []) (lenOf pd9_2 rfl) rfl (by show 2 * 0 + _ ≤ _; exact Nat.le_of_eq rfl) (hb hby d7_228) (fun _ _ => ⟨rfl, e247, (by decide : 0 + 0 ≤ _), (by decide : 0 + 0 ≤ _)⟩)
      dsimp only [Pt.U, Pt.locs, Pt.cells, Pt.slots] at X249 l249 y249 z249 st249 hQ249
      rw [l249, y249, z249] at X249
      obtain ⟨rfl, N249q, Kq249, g0_249⟩ := hQ249
      have f250 := f238.keep Kq249
      have f251 := f239.keep Kq249 (ninS ne_ob_pl nin0)
      have f252 := f240.keep Kq249 (ninS ne_ob_pl nin0)
      have f253 := f241.keep Kq249 (ninS ne_ob_pl nin0)
      have f254 := f243.keep Kq249 (ninS (Ne.symm ne_pl_sT) nin0)
      have f255 := f244.keep Kq249 (ninS (Ne.symm ne_pl_sW) nin0)
      have f256 := f245.keep Kq249 (ninS (Ne.symm ne_pl_tg) nin0)
      have f257 := f246.keep Kq249 (ninS (Ne.symm ne_pl_wt) nin0)
      have Z249 : n0 ≤ T249.heap.size := Nat.le_trans Z237 Kq249.1
      have K249 : Keep h0 T249.heap [pl, sT, sW, tg, wt] := K237.trans Kq249 (allS (Or.inl (List.mem_of_getElem? (i := 0) rfl)) all0)
      have N249 := Fr.app N237 N249q
      refine own_st st249 ?_
      show own_Go p.tables e below _ (T249.setTop (mkF m 231 #[qA ob, qA tg, qA wt, qN x, qN (x + 1 + 1), qN (max k1 k2), qN (min k1 k2), qN ((x + 1) + 1), qN t2] []))
      have f258 : own_A Z T249.heap pl .int 16370 (own_I own_z) := by have q := g0_249; rw [own_fzP (by omega) (by omega) (by omega)] at q; exact q
      have f259 : own_A Z T249.heap tg .int nt (own_I (own_sw f3 x t1)) := by have q := f256; rw [own_swI _ _ _ ht2] at q; exact q
      have f260 : own_A Z T249.heap wt .double nt (own_D (own_sw f4 x t1)) := by have q := f257; rw [own_swD _ _ _ ht2] at q; exact q
      refine own_retV X249 hx hret hlk (hb hby d7_231) ?_ (by decide) (by decide)
      exact ⟨rfl, N249, K249, f258, f254, f255, f259, f260⟩
    | succ n ih =>
      intro T L i X N K Zz lf0 lf1 lf2 lf3 lf4 lf5 lf6 lf7 lf8 hi hi1
      refine own_st (S' := T.setTop (mkF m 99 #[qA ob, qA tg, qA wt, qN x, qN (x + 1 + 1), qN (max k1 k2), qN (min k1 k2), qN i, qN k2] [(.int (((Int32.ofNat (max k1 k2)) - (Int32.ofNat (min k1 k2))) + (1 : Int32))), qV i])) (fun t k => XS.iload X.here hx rfl (hb hby d7_90) rfl (XS.iload X.here hx rfl (hb hby d7_92) rfl (XS.iload X.here hx rfl (hb hby d7_94) rfl (XS.isub X.here hx rfl (hb hby d7_96) rfl (XS.iconst X.here hx rfl (hb hby d7_97) (XS.iadd X.here hx rfl (hb hby d7_98) rfl k)))))) ?_
      refine own_st (S' := T.setTop (mkF m 99 #[qA ob, qA tg, qA wt, qN x, qN (x + 1 + 1), qN (max k1 k2), qN (min k1 k2), qN i, qN k2] [qV (d + 1), qV i])) (fun t k => by rw [show ((((Int32.ofNat (max k1 k2)) - (Int32.ofNat (min k1 k2))) + (1 : Int32)) : Int32) = (Int32.ofNat (d + 1)) from by rw [own_subN (by omega) (by omega), own_incN (by omega)]; exact congrArg Int32.ofNat (by omega)]; exact k) ?_
      have hc261 : ¬ ((Int32.ofNat (d + 1)) < (Int32.ofNat i)) := fun q => absurd ((own_ltN (by omega) (by omega)).mp q) (by omega)
      refine own_st (S' := T.setTop (mkF m 103 #[qA ob, qA tg, qA wt, qN x, qN (x + 1 + 1), qN (max k1 k2), qN (min k1 k2), qN i, qN k2] [(.ref ob)])) (fun t k => XS.icmpNo X.here hx rfl (hb hby d7_99) rfl (flt hc261).2.2.1 (XS.aloadN X.here hx rfl (hb hby d7_102) rfl rfl k)) ?_
      obtain ⟨T262, X262, e262, st262⟩ := getF X hx hZ hown (host := "") (Or.inl (own_hw hw (i := 75) rfl)) Via.refl rfl lf1 (g := (mkF m 103 #[qA ob, qA tg, qA wt, qN x, qN (x + 1 + 1), qN (max k1 k2), qN (min k1 k2), qN i, qN k2] [(.ref ob)])) rfl rfl (hb hby d7_103)
      refine own_st st262 ?_
      have O263 := lf4
      obtain ⟨c263, Ar263, S263, M263, V263⟩ := O263
      have at263 : c263.slots[((Int32.ofNat i)).toNatClampNeg]? = some (.int (Int32.ofNat (own_pi a1 a2 i i))) := own_at S263 V263 (own_ixN (by omega) (by decide)) rfl
      refine own_st (S' := T262.setTop (mkF m 111 #[qA ob, qA tg, qA wt, qN x, qN (x + 1 + 1), qN (max k1 k2), qN (min k1 k2), qN i, qN k2] [(.ref ob), qV (own_pi a1 a2 i i), qV i, (.ref pl)])) (fun t k => XS.iload X262.here hx rfl (hb hby d7_106) rfl (Jvm.Free.XT.dup2 X262.here hx rfl (hb hby d7_108) rfl rfl rfl (X262.iaload hx (j := (Int32.ofNat i)) (v := (.int (Int32.ofNat (own_pi a1 a2 i i)))) (by rw [e262]; exact Ar263.1) (State.isArrayOf_alike hZ.alike Ar263.2.1) Ar263.2.2 (own_in S263 (own_ixN (by omega) (by decide))) at263 (g := (mkF m 109 #[qA ob, qA tg, qA wt, qN x, qN (x + 1 + 1), qN (max k1 k2), qN (min k1 k2), qN i, qN k2] [qV i, (.ref pl), qV i, (.ref pl)])) rfl rfl (hb hby d7_109) _ (XS.aloadN X262.here hx rfl (hb hby d7_110) rfl rfl k)))) ?_
      obtain ⟨T264, X264, e264, st264⟩ := getF X262 hx hZ hown (host := "") (Or.inl (own_hw hw (i := 75) rfl)) Via.refl e262 lf1 (g := (mkF m 111 #[qA ob, qA tg, qA wt, qN x, qN (x + 1 + 1), qN (max k1 k2), qN (min k1 k2), qN i, qN k2] [(.ref ob), qV (own_pi a1 a2 i i), qV i, (.ref pl)])) rfl rfl (hb hby d7_111)
      refine own_st st264 ?_
      refine own_st (S' := T264.setTop (mkF m 118 #[qA ob, qA tg, qA wt, qN x, qN (x + 1 + 1), qN (max k1 k2), qN (min k1 k2), qN i, qN k2] [(.int ((Int32.ofNat i) - (1 : Int32))), (.ref pl), qV (own_pi a1 a2 i i), qV i, (.ref pl)])) (fun t k => XS.iload X264.here hx rfl (hb hby d7_114) rfl (XS.iconst X264.here hx rfl (hb hby d7_116) (XS.isub X264.here hx rfl (hb hby d7_117) rfl k))) ?_
      refine own_st (S' := T264.setTop (mkF m 118 #[qA ob, qA tg, qA wt, qN x, qN (x + 1 + 1), qN (max k1 k2), qN (min k1 k2), qN i, qN k2] [qV (i - 1), (.ref pl), qV (own_pi a1 a2 i i), qV i, (.ref pl)])) (fun t k => by rw [show (((Int32.ofNat i) - (1 : Int32)) : Int32) = (Int32.ofNat (i - 1)) from own_subN (k := 1) (by omega) (by omega)]; exact k) ?_
      have O265 := lf4
      obtain ⟨c265, Ar265, S265, M265, V265⟩ := O265
      have at265 : c265.slots[((Int32.ofNat (i - 1))).toNatClampNeg]? = some (.int (Int32.ofNat (own_pi a1 a2 i (i - 1)))) := own_at S265 V265 (own_ixN (by omega) (by decide)) rfl
      refine own_st (S' := T264.setTop (mkF m 120 #[qA ob, qA tg, qA wt, qN x, qN (x + 1 + 1), qN (max k1 k2), qN (min k1 k2), qN i, qN k2] [(.int ((Int32.ofNat (own_pi a1 a2 i i)) + (Int32.ofNat (own_pi a1 a2 i (i - 1))))), qV i, (.ref pl)])) (fun t k => X264.iaload hx (j := (Int32.ofNat (i - 1))) (v := (.int (Int32.ofNat (own_pi a1 a2 i (i - 1))))) (by rw [e264]; exact Ar265.1) (State.isArrayOf_alike hZ.alike Ar265.2.1) Ar265.2.2 (own_in S265 (own_ixN (by omega) (by decide))) at265 (g := (mkF m 118 #[qA ob, qA tg, qA wt, qN x, qN (x + 1 + 1), qN (max k1 k2), qN (min k1 k2), qN i, qN k2] [qV (i - 1), (.ref pl), qV (own_pi a1 a2 i i), qV i, (.ref pl)])) rfl rfl (hb hby d7_118) _ (XS.iadd X264.here hx rfl (hb hby d7_119) rfl k)) ?_
      refine own_st (S' := T264.setTop (mkF m 120 #[qA ob, qA tg, qA wt, qN x, qN (x + 1 + 1), qN (max k1 k2), qN (min k1 k2), qN i, qN k2] [qV (own_pi a1 a2 i i + own_pi a1 a2 i (i - 1)), qV i, (.ref pl)])) (fun t k => by rw [show (((Int32.ofNat (own_pi a1 a2 i i)) + (Int32.ofNat (own_pi a1 a2 i (i - 1)))) : Int32) = (Int32.ofNat (own_pi a1 a2 i i + own_pi a1 a2 i (i - 1))) from own_addN (by have := own_pi_le a1 a2 i i; have := own_pi_le a1 a2 i (i - 1); omega)]; exact k) ?_
      have O266 := lf4
      obtain ⟨c266, Ar266, S266, M266, V266⟩ := O266
      obtain ⟨T266, h266, X266, e266, W266, st266⟩ := stI X264 hx hZ e264 Ar266 (j := (Int32.ofNat i)) (own_in S266 (own_ixN (by omega) (by decide))) (g := (mkF m 120 #[qA ob, qA tg, qA wt, qN x, qN (x + 1 + 1), qN (max k1 k2), qN (min k1 k2), qN i, qN k2] [qV (own_pi a1 a2 i i + own_pi a1 a2 i (i - 1)), qV i, (.ref pl)])) rfl rfl (hb hby d7_120)
      refine own_st st266 ?_
      have f267 := lf0.wr W266
      have f268 := lf1.other W266 (Or.inl ne_ob_pl)
      have f269 := lf2.other W266 (Or.inl ne_ob_pl)
      have f270 := lf3.other W266 (Or.inl ne_ob_pl)
      have f271 := lf5.other W266 (Ne.symm ne_pl_sT)
      have f272 := lf6.other W266 (Ne.symm ne_pl_sW)
      have f273 := lf7.other W266 (Ne.symm ne_pl_tg)
      have f274 := lf8.other W266 (Ne.symm ne_pl_wt)
      have Z266 : n0 ≤ h266.size := Nat.le_trans Zz (Keep.of_wr W266).1
      have N266 := Fr.snoc X266 N G_pl
      have K266 : Keep h0 h266 [pl, sT, sW, tg, wt] := K.wr W266 (Or.inl (List.mem_of_getElem? (i := 0) rfl))
      have f275 : own_A Z h266 pl .int 16370 (own_N (own_uN (own_pi a1 a2 i) i (own_pi a1 a2 i i + own_pi a1 a2 i (i - 1)))) := (own_A.set ⟨c266, Ar266, S266, M266, V266⟩ (own_ixN (by omega) (by decide)) W266).cong (fun q _ => congrFun (own_upN (own_pi a1 a2 i) i (own_pi a1 a2 i i + own_pi a1 a2 i (i - 1))) q)
      refine own_st (S' := T266.setTop (mkF m 90 #[qA ob, qA tg, qA wt, qN x, qN (x + 1 + 1), qN (max k1 k2), qN (min k1 k2), qI ((Int32.ofNat i) + (1 : Int32)), qN k2] [])) (fun t k => XS.iinc X266.here hx rfl (hb hby d7_121) rfl (l' := #[qA ob, qA tg, qA wt, qN x, qN (x + 1 + 1), qN (max k1 k2), qN (min k1 k2), qI ((Int32.ofNat i) + (1 : Int32)), qN k2]) rfl (XS.goto X266.here hx rfl (pc0 := 124) (pc' := 90) rfl (hb hby d7_124) (by decide) (by decide) k)) ?_
      have f276 : own_A Z h266 pl .int 16370 (own_N (own_pi a1 a2 (i + 1))) := by rw [← own_piS (by omega)]; exact f275
      rw [own_incN (by omega)]
      exact ih _ _ (i + 1) X266 N266 (by rw [e266]; exact K266) (by rw [e266]; exact Z266) (by rw [e266]; exact f267) (by rw [e266]; exact f268) (by rw [e266]; exact f269) (by rw [e266]; exact f270) (by rw [e266]; exact f276) (by rw [e266]; exact f271) (by rw [e266]; exact f272) (by rw [e266]; exact f273) (by rw [e266]; exact f274) (by omega) (by omega)
  exact loop (d + 1) _ _ 1 X133 N133 (by rw [e133]; exact K133) (by rw [e133]; exact Z133) (by rw [e133]; exact f134) (by rw [e133]; exact f135) (by rw [e133]; exact f136) (by rw [e133]; exact f137) (by rw [e133]; exact f144) (by rw [e133]; exact f138) (by rw [e133]; exact f139) (by rw [e133]; exact f140) (by rw [e133]; exact f141) (by omega) (by decide)
theorem d10_0 : decode prog_69_method_2_code 0 = .ok (.aload_n 0, 1) := by decide +kernel
theorem d10_1 : decode prog_69_method_2_code 1 = .ok (.getfield 9, 3) := by decide +kernel
theorem d10_4 : decode prog_69_method_2_code 4 = .ok (.arraylength, 1) := by decide +kernel
theorem d10_5 : decode prog_69_method_2_code 5 = .ok (.iconst 1, 1) := by decide +kernel
theorem d10_6 : decode prog_69_method_2_code 6 = .ok (.isub, 1) := by decide +kernel
theorem d10_7 : decode prog_69_method_2_code 7 = .ok (.ireturn, 1) := by decide +kernel
theorem pn10 : plainName "kithrank/Graph$Page" = true := by first | (simp [plainName, overriddenIn]; done) | decide +kernel
theorem ef10 (m : MethodId) (pg : Addr) : entryFrame m #[(.ref pg)] 1 = mkF m 0 #[.val (.ref pg)] [] := by first | (simp [entryFrame, mkF, argsToLocals, Value.category]; done) | rfl
def Q10 (Z : State) (pg : Addr) (sr : Addr) (f : Nat → Value) (uu : Nat) (h0 : Heap) (n0 : Nat) (v : Option Value) (h : Heap) (L : List Loc) : Prop := v = some (.int (Int32.ofNat uu)) ∧ Fr n0 L ∧ h = h0
set_option maxRecDepth 65536 in
set_option maxHeartbeats 40000000 in
theorem rm10 (l : Launch) (Z : State) (a0 : Array Value) (hw : ∀ d ∈ tables_1, d.before a0 Z = true) (ws : List Jvm.Cond) (pg : Addr) (sr : Addr) (f : Nat → Value) (uu : Nat) (h0 : Heap) (n0 : Nat) (Z0 : n0 ≤ h0.size) (E_pg : Exa Z h0 pg "kithrank/Graph$Page") (F_pg_start : Fld Z h0 pg "kithrank/Graph$Page" "start" "[I" (.ref sr)) (A_sr : own_A Z h0 sr .int (uu + 1) f) (hu : uu ≤ 64) :
    MetFree l (⟨"kithrank/Graph$Page", "users", "()I"⟩ : MethodName) (head1 (Jvm.Cond.code (⟨"kithrank/Graph$Page", "users", "()I"⟩ : MethodName) prog_69_method_2_code 1 (some .int) :: ws) ({ frames := 0, cells := 0, slots := 0, locals := 0 } : Room)) (fun as' U => as' = #[(.ref pg)] ∧ Z.Warmed39 U.vm ∧ U.heap = h0) (fun _ _ _ _ _ => True) (fun _ U o U' => ∃ v L, o = .returned v ∧ Q10 Z pg sr f uu h0 n0 v U'.heap L ∧ FrameEnd U o U' L ({ frames := 0, cells := 0, slots := 0, locals := 0 } : Room).cells ({ frames := 0, cells := 0, slots := 0, locals := 0 } : Room).slots) := by
  refine own_body (plainFor_of_name pn10) ?_
  intro p e s m below meth c s₁ hx hby hml hown0 hnm hret hlk hZ X0 e0
  have hown : s.vm.findClass "kithrank/Graph$Page" = some m.cls := hown0
  have N0 := Fr.nil n0
  rw [ef10]
  refine own_st (S' := s₁.setTop (mkF m 1 #[qA pg] [(.ref pg)])) (fun t k => XS.aloadN X0.here hx rfl (hb hby d10_0) rfl rfl k) ?_
  obtain ⟨T101, X101, e101, st101⟩ := getF X0 hx hZ hown (host := "") (Or.inl (own_hw hw (i := 34) rfl)) Via.refl e0 F_pg_start (g := (mkF m 1 #[qA pg] [(.ref pg)])) rfl rfl (hb hby d10_1)
  refine own_st st101 ?_
  have O102 := A_sr
  obtain ⟨c102, Ar102, S102, M102, V102⟩ := O102
  have ln102 : c102.slots.size.toInt32 = (Int32.ofNat (uu + 1)) := by rw [S102]; try (first | rfl | decide | exact rfl)
  refine own_st (S' := T101.setTop (mkF m 7 #[qA pg] [(.int ((Int32.ofNat (uu + 1)) - (1 : Int32)))])) (fun t k => X101.arraylength hx (by rw [e101]; exact Ar102.1) (State.isArrayOf_alike hZ.alike Ar102.2.1) (g := (mkF m 4 #[qA pg] [(.ref sr)])) rfl rfl (hb hby d10_4) _ (by rw [ln102]; exact (XS.iconst X101.here hx rfl (hb hby d10_5) (XS.isub X101.here hx rfl (hb hby d10_6) rfl k)))) ?_
  refine own_st (S' := T101.setTop (mkF m 7 #[qA pg] [qV uu])) (fun t k => by rw [show (((Int32.ofNat (uu + 1)) - (1 : Int32)) : Int32) = (Int32.ofNat uu) from own_subN (i := uu + 1) (k := 1) (by omega) (by omega)]; exact k) ?_
  refine own_retI X101 hx hret hlk (hb hby d10_7) ?_ (by decide) (by decide)
  rw [e101]
  exact ⟨rfl, N0, rfl⟩
theorem d11_0 : decode jdk_30_method_1_code 0 = .ok (.aload_n 0, 1) := by decide +kernel
theorem d11_1 : decode jdk_30_method_1_code 1 = .ok (.invokespecial 1, 3) := by decide +kernel
theorem d11_4 : decode jdk_30_method_1_code 4 = .ok (.return_, 1) := by decide +kernel
theorem pn11 : plainName "java/lang/Record" = true := by first | (simp [plainName, overriddenIn]; done) | decide +kernel
theorem ef11 (m : MethodId) (a : Addr) : entryFrame m #[(.ref a)] 1 = mkF m 0 #[.val (.ref a)] [] := by first | (simp [entryFrame, mkF, argsToLocals, Value.category]; done) | rfl
def Q11 (Z : State) (a : Addr) (h0 : Heap) (n0 : Nat) (v : Option Value) (h : Heap) (L : List Loc) : Prop := v = none ∧ Fr n0 L ∧ h = h0
set_option maxRecDepth 65536 in
set_option maxHeartbeats 40000000 in
theorem rm11 (l : Launch) (Z : State) (a0 : Array Value) (hw : ∀ d ∈ tables_1, d.before a0 Z = true) (ws : List Jvm.Cond) (a : Addr) (h0 : Heap) (n0 : Nat) (Z0 : n0 ≤ h0.size)  :
    MetFree l (⟨"java/lang/Record", "<init>", "()V"⟩ : MethodName) (head1 (Jvm.Cond.code (⟨"java/lang/Record", "<init>", "()V"⟩ : MethodName) jdk_30_method_1_code 1 none :: ws) ({ frames := 1, cells := 0, slots := 0, locals := 12 } : Room)) (fun as' U => as' = #[(.ref a)] ∧ Z.Warmed39 U.vm ∧ U.heap = h0) (fun _ _ _ _ _ => True) (fun _ U o U' => ∃ v L, o = .returned v ∧ Q11 Z a h0 n0 v U'.heap L ∧ FrameEnd U o U' L ({ frames := 1, cells := 0, slots := 0, locals := 12 } : Room).cells ({ frames := 1, cells := 0, slots := 0, locals := 12 } : Room).slots) := by
  refine own_body (plainFor_of_name pn11) ?_
  intro p e s m below meth c s₁ hx hby hml hown0 hnm hret hlk hZ X0 e0
  have hown : s.vm.findClass "java/lang/Record" = some m.cls := hown0
  have N0 := Fr.nil n0
  rw [ef11]
  refine own_st (S' := s₁.setTop (mkF m 1 #[qA a] [(.ref a)])) (fun t k => XS.aloadN X0.here hx rfl (hb hby d11_0) rfl rfl k) ?_
  obtain ⟨T101, X101, e101, st101⟩ := initO X0 hx hZ hown (own_hw hw (i := 33) rfl) (own_hw hw (i := 10) rfl) (own_hw hw (i := 11) rfl) e0 (g := (mkF m 1 #[qA a] [(.ref a)])) rfl (by rw [hml]; rfl) rfl (hb hby d11_1) (by decide) (W := 0) (by show 2 * 0 + _ ≤ _; exact Nat.le_of_eq rfl) (by decide)
  refine own_st st101 ?_
  show own_Go p.tables e below _ (T101.setTop (mkF m 4 #[qA a] []))
  refine own_retV X101 hx hret hlk (hb hby d11_4) ?_ (by decide) (by decide)
  rw [e101]
  exact ⟨rfl, N0, rfl⟩
theorem d12_0 : decode prog_69_method_1_code 0 = .ok (.aload_n 0, 1) := by decide +kernel
theorem d12_1 : decode prog_69_method_1_code 1 = .ok (.invokespecial 3, 3) := by decide +kernel
theorem d12_4 : decode prog_69_method_1_code 4 = .ok (.aload_n 0, 1) := by decide +kernel
theorem d12_5 : decode prog_69_method_1_code 5 = .ok (.aload_n 1, 1) := by decide +kernel
theorem d12_6 : decode prog_69_method_1_code 6 = .ok (.putfield 9, 3) := by decide +kernel
theorem d12_9 : decode prog_69_method_1_code 9 = .ok (.aload_n 0, 1) := by decide +kernel
theorem d12_10 : decode prog_69_method_1_code 10 = .ok (.aload_n 2, 1) := by decide +kernel
theorem d12_11 : decode prog_69_method_1_code 11 = .ok (.putfield 15, 3) := by decide +kernel
theorem d12_14 : decode prog_69_method_1_code 14 = .ok (.aload_n 0, 1) := by decide +kernel
theorem d12_15 : decode prog_69_method_1_code 15 = .ok (.aload_n 3, 1) := by decide +kernel
theorem d12_16 : decode prog_69_method_1_code 16 = .ok (.putfield 18, 3) := by decide +kernel
theorem d12_19 : decode prog_69_method_1_code 19 = .ok (.aload_n 0, 1) := by decide +kernel
theorem d12_20 : decode prog_69_method_1_code 20 = .ok (.aload 4, 2) := by decide +kernel
theorem d12_22 : decode prog_69_method_1_code 22 = .ok (.putfield 22, 3) := by decide +kernel
theorem d12_25 : decode prog_69_method_1_code 25 = .ok (.return_, 1) := by decide +kernel
theorem pd12_0 : parseMethodDescriptor "()V" = some ⟨[], none⟩ := by decide +kernel
theorem pn12 : plainName "kithrank/Graph$Page" = true := by first | (simp [plainName, overriddenIn]; done) | decide +kernel
theorem ef12 (m : MethodId) (pg : Addr) (sr : Addr) (tr : Addr) (wr : Addr) : entryFrame m #[(.ref pg), (.ref sr), (.ref tr), (.ref wr), .null] 5 = mkF m 0 #[.val (.ref pg), .val (.ref sr), .val (.ref tr), .val (.ref wr), .val .null] [] := by first | (simp [entryFrame, mkF, argsToLocals, Value.category]; done) | rfl
def Q12 (Z : State) (pg : Addr) (sr : Addr) (tr : Addr) (wr : Addr) (h0 : Heap) (n0 : Nat) (v : Option Value) (h : Heap) (L : List Loc) : Prop := v = none ∧ Fr n0 L ∧ Keep h0 h [pg] ∧ Fld Z h pg "kithrank/Graph$Page" "start" "[I" (.ref sr) ∧ Fld Z h pg "kithrank/Graph$Page" "target" "[I" (.ref tr) ∧ Fld Z h pg "kithrank/Graph$Page" "weight" "[D" (.ref wr) ∧ Fld Z h pg "kithrank/Graph$Page" "apart" "[Lkithrank/Graph$OwnEdges;" .null
set_option maxRecDepth 65536 in
set_option maxHeartbeats 40000000 in
theorem rm12 (l : Launch) (Z : State) (a0 : Array Value) (hw : ∀ d ∈ tables_1, d.before a0 Z = true) (ws : List Jvm.Cond) (pg : Addr) (sr : Addr) (tr : Addr) (wr : Addr) (h0 : Heap) (n0 : Nat) (Z0 : n0 ≤ h0.size) (E_pg : Exa Z h0 pg "kithrank/Graph$Page") (F_pg_start : Fld Z h0 pg "kithrank/Graph$Page" "start" "[I" .null) (F_pg_target : Fld Z h0 pg "kithrank/Graph$Page" "target" "[I" .null) (F_pg_weight : Fld Z h0 pg "kithrank/Graph$Page" "weight" "[D" .null) (F_pg_apart : Fld Z h0 pg "kithrank/Graph$Page" "apart" "[Lkithrank/Graph$OwnEdges;" .null) (G_pg : n0 ≤ pg) :
    MetFree l (⟨"kithrank/Graph$Page", "<init>", "([I[I[D[Lkithrank/Graph$OwnEdges;)V"⟩ : MethodName) (head1 (Jvm.Cond.code (⟨"kithrank/Graph$Page", "<init>", "([I[I[D[Lkithrank/Graph$OwnEdges;)V"⟩ : MethodName) prog_69_method_1_code 5 none :: ws) ({ frames := 2, cells := 0, slots := 0, locals := 24 } : Room)) (fun as' U => as' = #[(.ref pg), (.ref sr), (.ref tr), (.ref wr), .null] ∧ Z.Warmed39 U.vm ∧ U.heap = h0) (fun _ _ _ _ _ => True) (fun _ U o U' => ∃ v L, o = .returned v ∧ Q12 Z pg sr tr wr h0 n0 v U'.heap L ∧ FrameEnd U o U' L ({ frames := 2, cells := 0, slots := 0, locals := 24 } : Room).cells ({ frames := 2, cells := 0, slots := 0, locals := 24 } : Room).slots) := by
  refine own_body (plainFor_of_name pn12) ?_
  intro p e s m below meth c s₁ hx hby hml hown0 hnm hret hlk hZ X0 e0
  have hown : s.vm.findClass "kithrank/Graph$Page" = some m.cls := hown0
  have N0 := Fr.nil n0
  rw [ef12]
  have K0 : Keep h0 h0 [pg] := Keep.refl h0 [pg]
  refine own_st (S' := s₁.setTop (mkF m 1 #[qA pg, qA sr, qA tr, qA wr, .val .null] [(.ref pg)])) (fun t k => XS.aloadN X0.here hx rfl (hb hby d12_0) rfl rfl k) ?_
  obtain ⟨_, _, ⟨T101, L101, k101, n101⟩, -, X101, ⟨Lc101, hQ101, l101, y101, z101⟩, st101⟩ := X0.specialBack hx (y := (⟨"java/lang/Record", "<init>", "()V"⟩ : MethodName)) rfl hown (mvT hZ (own_hw hw (i := 28) rfl)) (mvT hZ (own_hw hw (i := 29) rfl)) (mvT hZ (own_hw hw (i := 32) rfl)) (by decide) (backOf (W := 0) (rm11 l Z a0 hw [] pg h0 n0 Z0 ) hZ (own_hw hw (i := 32) rfl) (own_hw hw (i := 31) rfl) (by decide) (by decide)) (g := (mkF m 1 #[qA pg, qA sr, qA tr, qA wr, .val .null] [(.ref pg)])) rfl (by rw [hml]; rfl) (Steps.refl _) (a := pg) (argsL := []) (rest := []) (lenOf pd12_0 rfl) rfl (by show 2 * 0 + _ ≤ _; exact Nat.le_of_eq rfl) (hb hby d12_1) (fun _ _ => ⟨rfl, e0, (by decide : 0 + 0 ≤ _), (by decide : 0 + 0 ≤ _)⟩)
  dsimp only [Pt.U, Pt.locs, Pt.cells, Pt.slots] at X101 l101 y101 z101 st101 hQ101
  rw [l101, y101, z101] at X101
  obtain ⟨rfl, N101q, hh101⟩ := hQ101
  have N101 := Fr.app N0 N101q
  refine own_tr st101 ?_
  refine own_st (S' := T101.setTop (mkF m 6 #[qA pg, qA sr, qA tr, qA wr, .val .null] [(.ref sr), (.ref pg)])) (fun t k => XS.aloadN X101.here hx rfl (hb hby d12_4) rfl rfl (XS.aloadN X101.here hx rfl (hb hby d12_5) rfl rfl k)) ?_
  obtain ⟨T102, h102, X102, e102, W102, st102⟩ := putF X101 hx hZ hown (host := "") (Or.inl (own_hw hw (i := 34) rfl)) Via.refl hh101 F_pg_start E_pg (Or.inr ⟨(own_hw hw (i := 35) rfl), rfl, hnm⟩) (own_hw hw (i := 22) rfl) (ty := (.array .int)) (by decide) rfl rfl (g := (mkF m 6 #[qA pg, qA sr, qA tr, qA wr, .val .null] [(.ref sr), (.ref pg)])) rfl rfl (hb hby d12_6)
  refine own_st st102 ?_
  have f103 := E_pg.wr W102
  have f104 := F_pg_target.other W102 (Or.inr (slot_ne (Or.inr (own_hw hw (i := 37) rfl)) (Or.inr (own_hw hw (i := 35) rfl)) (by decide) (t := (.array .int)) (t' := (.array .int)) (by decide) (by decide)))
  have f105 := F_pg_weight.other W102 (Or.inr (slot_ne (Or.inr (own_hw hw (i := 39) rfl)) (Or.inr (own_hw hw (i := 35) rfl)) (by decide) (t := (.array .double)) (t' := (.array .int)) (by decide) (by decide)))
  have f106 := F_pg_apart.other W102 (Or.inr (slot_ne (Or.inr (own_hw hw (i := 41) rfl)) (Or.inr (own_hw hw (i := 35) rfl)) (by decide) (t := (.array (.object "kithrank/Graph$OwnEdges"))) (t' := (.array .int)) (by decide) (by decide)))
  have Z102 : n0 ≤ h102.size := Nat.le_trans Z0 (Keep.of_wr W102).1
  have N102 := Fr.snoc X102 N101 G_pg
  have K102 : Keep h0 h102 [pg] := K0.wr W102 (Or.inl (List.mem_of_getElem? (i := 0) rfl))
  have f107 : Fld Z h102 pg "kithrank/Graph$Page" "start" "[I" (.ref sr) := F_pg_start.same W102
  refine own_st (S' := T102.setTop (mkF m 11 #[qA pg, qA sr, qA tr, qA wr, .val .null] [(.ref tr), (.ref pg)])) (fun t k => XS.aloadN X102.here hx rfl (hb hby d12_9) rfl rfl (XS.aloadN X102.here hx rfl (hb hby d12_10) rfl rfl k)) ?_
  obtain ⟨T108, h108, X108, e108, W108, st108⟩ := putF X102 hx hZ hown (host := "") (Or.inl (own_hw hw (i := 36) rfl)) Via.refl e102 f104 f103 (Or.inr ⟨(own_hw hw (i := 37) rfl), rfl, hnm⟩) (own_hw hw (i := 22) rfl) (ty := (.array .int)) (by decide) rfl rfl (g := (mkF m 11 #[qA pg, qA sr, qA tr, qA wr, .val .null] [(.ref tr), (.ref pg)])) rfl rfl (hb hby d12_11)
  refine own_st st108 ?_
  have f109 := f103.wr W108
  have f110 := f107.other W108 (Or.inr (slot_ne (Or.inr (own_hw hw (i := 35) rfl)) (Or.inr (own_hw hw (i := 37) rfl)) (by decide) (t := (.array .int)) (t' := (.array .int)) (by decide) (by decide)))
  have f111 := f105.other W108 (Or.inr (slot_ne (Or.inr (own_hw hw (i := 39) rfl)) (Or.inr (own_hw hw (i := 37) rfl)) (by decide) (t := (.array .double)) (t' := (.array .int)) (by decide) (by decide)))
  have f112 := f106.other W108 (Or.inr (slot_ne (Or.inr (own_hw hw (i := 41) rfl)) (Or.inr (own_hw hw (i := 37) rfl)) (by decide) (t := (.array (.object "kithrank/Graph$OwnEdges"))) (t' := (.array .int)) (by decide) (by decide)))
  have Z108 : n0 ≤ h108.size := Nat.le_trans Z102 (Keep.of_wr W108).1
  have N108 := Fr.snoc X108 N102 G_pg
  have K108 : Keep h0 h108 [pg] := K102.wr W108 (Or.inl (List.mem_of_getElem? (i := 0) rfl))
  have f113 : Fld Z h108 pg "kithrank/Graph$Page" "target" "[I" (.ref tr) := f104.same W108
  refine own_st (S' := T108.setTop (mkF m 16 #[qA pg, qA sr, qA tr, qA wr, .val .null] [(.ref wr), (.ref pg)])) (fun t k => XS.aloadN X108.here hx rfl (hb hby d12_14) rfl rfl (XS.aloadN X108.here hx rfl (hb hby d12_15) rfl rfl k)) ?_
  obtain ⟨T114, h114, X114, e114, W114, st114⟩ := putF X108 hx hZ hown (host := "") (Or.inl (own_hw hw (i := 38) rfl)) Via.refl e108 f111 f109 (Or.inr ⟨(own_hw hw (i := 39) rfl), rfl, hnm⟩) (own_hw hw (i := 22) rfl) (ty := (.array .double)) (by decide) rfl rfl (g := (mkF m 16 #[qA pg, qA sr, qA tr, qA wr, .val .null] [(.ref wr), (.ref pg)])) rfl rfl (hb hby d12_16)
  refine own_st st114 ?_
  have f115 := f109.wr W114
  have f116 := f110.other W114 (Or.inr (slot_ne (Or.inr (own_hw hw (i := 35) rfl)) (Or.inr (own_hw hw (i := 39) rfl)) (by decide) (t := (.array .int)) (t' := (.array .double)) (by decide) (by decide)))
  have f117 := f113.other W114 (Or.inr (slot_ne (Or.inr (own_hw hw (i := 37) rfl)) (Or.inr (own_hw hw (i := 39) rfl)) (by decide) (t := (.array .int)) (t' := (.array .double)) (by decide) (by decide)))
  have f118 := f112.other W114 (Or.inr (slot_ne (Or.inr (own_hw hw (i := 41) rfl)) (Or.inr (own_hw hw (i := 39) rfl)) (by decide) (t := (.array (.object "kithrank/Graph$OwnEdges"))) (t' := (.array .double)) (by decide) (by decide)))
  have Z114 : n0 ≤ h114.size := Nat.le_trans Z108 (Keep.of_wr W114).1
  have N114 := Fr.snoc X114 N108 G_pg
  have K114 : Keep h0 h114 [pg] := K108.wr W114 (Or.inl (List.mem_of_getElem? (i := 0) rfl))
  have f119 : Fld Z h114 pg "kithrank/Graph$Page" "weight" "[D" (.ref wr) := f111.same W114
  refine own_st (S' := T114.setTop (mkF m 22 #[qA pg, qA sr, qA tr, qA wr, .val .null] [.null, (.ref pg)])) (fun t k => XS.aloadN X114.here hx rfl (hb hby d12_19) rfl rfl (XS.aload X114.here hx rfl (hb hby d12_20) rfl rfl k)) ?_
  obtain ⟨T120, h120, X120, e120, W120, st120⟩ := putF X114 hx hZ hown (host := "") (Or.inl (own_hw hw (i := 40) rfl)) Via.refl e114 f118 f115 (Or.inr ⟨(own_hw hw (i := 41) rfl), rfl, hnm⟩) (own_hw hw (i := 22) rfl) (ty := (.array (.object "kithrank/Graph$OwnEdges"))) (by decide) rfl rfl (g := (mkF m 22 #[qA pg, qA sr, qA tr, qA wr, .val .null] [.null, (.ref pg)])) rfl rfl (hb hby d12_22)
  refine own_st st120 ?_
  have f121 := f115.wr W120
  have f122 := f116.other W120 (Or.inr (slot_ne (Or.inr (own_hw hw (i := 35) rfl)) (Or.inr (own_hw hw (i := 41) rfl)) (by decide) (t := (.array .int)) (t' := (.array (.object "kithrank/Graph$OwnEdges"))) (by decide) (by decide)))
  have f123 := f117.other W120 (Or.inr (slot_ne (Or.inr (own_hw hw (i := 37) rfl)) (Or.inr (own_hw hw (i := 41) rfl)) (by decide) (t := (.array .int)) (t' := (.array (.object "kithrank/Graph$OwnEdges"))) (by decide) (by decide)))
  have f124 := f119.other W120 (Or.inr (slot_ne (Or.inr (own_hw hw (i := 39) rfl)) (Or.inr (own_hw hw (i := 41) rfl)) (by decide) (t := (.array .double)) (t' := (.array (.object "kithrank/Graph$OwnEdges"))) (by decide) (by decide)))
  have Z120 : n0 ≤ h120.size := Nat.le_trans Z114 (Keep.of_wr W120).1
  have N120 := Fr.snoc X120 N114 G_pg
  have K120 : Keep h0 h120 [pg] := K114.wr W120 (Or.inl (List.mem_of_getElem? (i := 0) rfl))
  have f125 : Fld Z h120 pg "kithrank/Graph$Page" "apart" "[Lkithrank/Graph$OwnEdges;" .null := f118.same W120
  show own_Go p.tables e below _ (T120.setTop (mkF m 25 #[qA pg, qA sr, qA tr, qA wr, .val .null] []))
  refine own_retV X120 hx hret hlk (hb hby d12_25) ?_ (by decide) (by decide)
  rw [e120]
  exact ⟨rfl, N120, K120, f122, f123, f124, f125⟩
theorem d13_0 : decode prog_64_method_1_code 0 = .ok (.aload_n 0, 1) := by decide +kernel
theorem d13_1 : decode prog_64_method_1_code 1 = .ok (.invokespecial 1, 3) := by decide +kernel
theorem d13_4 : decode prog_64_method_1_code 4 = .ok (.aload_n 0, 1) := by decide +kernel
theorem d13_5 : decode prog_64_method_1_code 5 = .ok (.getstatic 7, 3) := by decide +kernel
theorem d13_8 : decode prog_64_method_1_code 8 = .ok (.iconst 2, 1) := by decide +kernel
theorem d13_9 : decode prog_64_method_1_code 9 = .ok (.iadd, 1) := by decide +kernel
theorem d13_10 : decode prog_64_method_1_code 10 = .ok (.newarray .int, 2) := by decide +kernel
theorem d13_12 : decode prog_64_method_1_code 12 = .ok (.putfield 13, 3) := by decide +kernel
theorem d13_15 : decode prog_64_method_1_code 15 = .ok (.aload_n 0, 1) := by decide +kernel
theorem d13_16 : decode prog_64_method_1_code 16 = .ok (.iload_n 1, 1) := by decide +kernel
theorem d13_17 : decode prog_64_method_1_code 17 = .ok (.newarray .int, 2) := by decide +kernel
theorem d13_19 : decode prog_64_method_1_code 19 = .ok (.putfield 19, 3) := by decide +kernel
theorem d13_22 : decode prog_64_method_1_code 22 = .ok (.aload_n 0, 1) := by decide +kernel
theorem d13_23 : decode prog_64_method_1_code 23 = .ok (.iload_n 1, 1) := by decide +kernel
theorem d13_24 : decode prog_64_method_1_code 24 = .ok (.newarray .double, 2) := by decide +kernel
theorem d13_26 : decode prog_64_method_1_code 26 = .ok (.putfield 22, 3) := by decide +kernel
theorem d13_29 : decode prog_64_method_1_code 29 = .ok (.return_, 1) := by decide +kernel
theorem pn13 : plainName "kithrank/Graph$ClassSort" = true := by first | (simp [plainName, overriddenIn]; done) | decide +kernel
theorem ef13 (m : MethodId) (ob : Addr) : entryFrame m #[(.ref ob), (.int (2 : Int32))] 2 = mkF m 0 #[.val (.ref ob), .val (.int (2 : Int32))] [] := by first | (simp [entryFrame, mkF, argsToLocals, Value.category]; done) | rfl
def Q13 (Z : State) (ob : Addr) (h0 : Heap) (n0 : Nat) (v : Option Value) (h : Heap) (L : List Loc) : Prop := ∃ (pl sT sW : Addr), v = none ∧ Fr n0 L ∧ Keep h0 h [ob] ∧ h0.size ≤ pl ∧ h0.size ≤ sT ∧ h0.size ≤ sW ∧ pl ≠ sT ∧ pl ≠ sW ∧ sT ≠ sW ∧ Fld Z h ob "kithrank/Graph$ClassSort" "place" "[I" (.ref pl) ∧ Fld Z h ob "kithrank/Graph$ClassSort" "sortedTarget" "[I" (.ref sT) ∧ Fld Z h ob "kithrank/Graph$ClassSort" "sortedWeight" "[D" (.ref sW) ∧ own_A Z h pl .int 16370 (own_I own_z) ∧ own_A Z h sT .int 2 (own_I own_z) ∧ own_A Z h sW .double 2 (own_D own_zD)
set_option maxRecDepth 65536 in
set_option maxHeartbeats 40000000 in
theorem rm13 (l : Launch) (Z : State) (a0 : Array Value) (hw : ∀ d ∈ tables_1, d.before a0 Z = true) (ws : List Jvm.Cond) (ob : Addr) (h0 : Heap) (n0 : Nat) (Z0 : n0 ≤ h0.size) (E_ob : Exa Z h0 ob "kithrank/Graph$ClassSort") (F_ob_place : Fld Z h0 ob "kithrank/Graph$ClassSort" "place" "[I" .null) (F_ob_sortedTarget : Fld Z h0 ob "kithrank/Graph$ClassSort" "sortedTarget" "[I" .null) (F_ob_sortedWeight : Fld Z h0 ob "kithrank/Graph$ClassSort" "sortedWeight" "[D" .null) (G_ob : n0 ≤ ob) (S___HEAVIEST_CLASS : Sta Z h0 "kithrank/Graph" "HEAVIEST_CLASS" "I" (.int (16368 : Int32))) :
    MetFree l (⟨"kithrank/Graph$ClassSort", "<init>", "(I)V"⟩ : MethodName) (head1 (Jvm.Cond.code (⟨"kithrank/Graph$ClassSort", "<init>", "(I)V"⟩ : MethodName) prog_64_method_1_code 2 none :: ws) ({ frames := 1, cells := 3, slots := 16374, locals := 12 } : Room)) (fun as' U => as' = #[(.ref ob), (.int (2 : Int32))] ∧ Z.Warmed39 U.vm ∧ U.heap = h0) (fun _ _ _ _ _ => True) (fun _ U o U' => ∃ v L, o = .returned v ∧ Q13 Z ob h0 n0 v U'.heap L ∧ FrameEnd U o U' L ({ frames := 1, cells := 3, slots := 16374, locals := 12 } : Room).cells ({ frames := 1, cells := 3, slots := 16374, locals := 12 } : Room).slots) := by
  refine own_body (plainFor_of_name pn13) ?_
  intro p e s m below meth c s₁ hx hby hml hown0 hnm hret hlk hZ X0 e0
  have hown : s.vm.findClass "kithrank/Graph$ClassSort" = some m.cls := hown0
  have N0 := Fr.nil n0
  rw [ef13]
  have K0 : Keep h0 h0 [ob] := Keep.refl h0 [ob]
  refine own_st (S' := s₁.setTop (mkF m 1 #[qA ob, qI (2 : Int32)] [(.ref ob)])) (fun t k => XS.aloadN X0.here hx rfl (hb hby d13_0) rfl rfl k) ?_
  obtain ⟨T101, X101, e101, st101⟩ := initO X0 hx hZ hown (own_hw hw (i := 71) rfl) (own_hw hw (i := 10) rfl) (own_hw hw (i := 11) rfl) e0 (g := (mkF m 1 #[qA ob, qI (2 : Int32)] [(.ref ob)])) rfl (by rw [hml]; rfl) rfl (hb hby d13_1) (by decide) (W := 0) (by show 2 * 0 + _ ≤ _; exact Nat.le_of_eq rfl) (by decide)
  refine own_st st101 ?_
  refine own_st (S' := T101.setTop (mkF m 5 #[qA ob, qI (2 : Int32)] [(.ref ob)])) (fun t k => XS.aloadN X101.here hx rfl (hb hby d13_4) rfl rfl k) ?_
  obtain ⟨T102, X102, e102, st102⟩ := getS2 X101 hx hZ hown (Or.inr (own_hw hw (i := 72) rfl)) Via.refl e101 S___HEAVIEST_CLASS (g := (mkF m 5 #[qA ob, qI (2 : Int32)] [(.ref ob)])) rfl (hb hby d13_5)
  refine own_st st102 ?_
  refine own_st (S' := T102.setTop (mkF m 10 #[qA ob, qI (2 : Int32)] [(.int (16370 : Int32)), (.ref ob)])) (fun t k => XS.iconst X102.here hx rfl (hb hby d13_8) (XS.iadd X102.here hx rfl (hb hby d13_9) rfl k)) ?_
  obtain ⟨T103, h103, k103, X103, e103, E103, A103, st103⟩ := newP X102 hx hZ (own_hw hw (i := 2) rfl) e102 (g := (mkF m 10 #[qA ob, qI (2 : Int32)] [(.int (16370 : Int32)), (.ref ob)])) rfl (hb hby d13_10) rfl (by decide) (cap := 16370) (by decide) (by decide) (by decide) (by decide)
  obtain ⟨b103, g103⟩ : ∃ z, z = h0.size := ⟨_, rfl⟩
  rw [← g103] at A103 st103
  have G_b103 : n0 ≤ b103 := Nat.le_trans Z0 (Nat.le_of_eq g103.symm)
  have sz_b103 : h0.size ≤ b103 := Nat.le_trans K0.1 (Nat.le_of_eq g103.symm)
  have ne_ob_b103 : ob ≠ b103 := Nat.ne_of_lt (Nat.lt_of_lt_of_le E_ob.lt (Nat.le_of_eq g103.symm))
  have f104 := E_ob.ext E103
  have f105 := F_ob_place.ext E103
  have f106 := F_ob_sortedTarget.ext E103
  have f107 := F_ob_sortedWeight.ext E103
  have f108 := Sta.ext E103 S___HEAVIEST_CLASS
  have Z103 : n0 ≤ h103.size := Nat.le_trans Z0 E103.1
  have K103 : Keep h0 h103 [ob] := K0.ext E103
  have f109 : own_A Z h103 b103 .int 16370 (fun _ => (.int (0 : Int32))) := own_A.new A103 (by first | rfl | decide | exact rfl)
  refine own_st st103 ?_
  show own_Go p.tables e below _ (T103.setTop (mkF m 12 #[qA ob, qI (2 : Int32)] [(.ref b103), (.ref ob)]))
  obtain ⟨T110, h110, X110, e110, W110, st110⟩ := putF X103 hx hZ hown (host := "") (Or.inl (own_hw hw (i := 75) rfl)) Via.refl e103 f105 f104 (Or.inr ⟨(own_hw hw (i := 76) rfl), rfl, hnm⟩) (own_hw hw (i := 66) rfl) (ty := (.array .int)) (by decide) rfl rfl (g := (mkF m 12 #[qA ob, qI (2 : Int32)] [(.ref b103), (.ref ob)])) rfl rfl (hb hby d13_12)
  refine own_st st110 ?_
  have f111 := f104.wr W110
  have f112 := f106.other W110 (Or.inr (slot_ne (Or.inr (own_hw hw (i := 78) rfl)) (Or.inr (own_hw hw (i := 76) rfl)) (by decide) (t := (.array .int)) (t' := (.array .int)) (by decide) (by decide)))
  have f113 := f107.other W110 (Or.inr (slot_ne (Or.inr (own_hw hw (i := 80) rfl)) (Or.inr (own_hw hw (i := 76) rfl)) (by decide) (t := (.array .double)) (t' := (.array .int)) (by decide) (by decide)))
  have f114 := Sta.wr W110 f108
  have f115 := f109.other W110 (Ne.symm ne_ob_b103)
  have Z110 : n0 ≤ h110.size := Nat.le_trans Z103 (Keep.of_wr W110).1
  have N110 := Fr.snoc X110 N0 G_ob
  have K110 : Keep h0 h110 [ob] := K103.wr W110 (Or.inl (List.mem_of_getElem? (i := 0) rfl))
  have f116 : Fld Z h110 ob "kithrank/Graph$ClassSort" "place" "[I" (.ref b103) := f105.same W110
  refine own_st (S' := T110.setTop (mkF m 17 #[qA ob, qI (2 : Int32)] [(.int (2 : Int32)), (.ref ob)])) (fun t k => XS.aloadN X110.here hx rfl (hb hby d13_15) rfl rfl (XS.iloadN X110.here hx rfl (hb hby d13_16) rfl k)) ?_
  obtain ⟨T117, h117, k117, X117, e117, E117, A117, st117⟩ := newP X110 hx hZ (own_hw hw (i := 2) rfl) e110 (g := (mkF m 17 #[qA ob, qI (2 : Int32)] [(.int (2 : Int32)), (.ref ob)])) rfl (hb hby d13_17) rfl (by decide) (cap := 2) (by decide) (by decide) (by decide) (by decide)
  obtain ⟨b117, g117⟩ : ∃ z, z = h110.size := ⟨_, rfl⟩
  rw [← g117] at A117 st117
  have G_b117 : n0 ≤ b117 := Nat.le_trans Z110 (Nat.le_of_eq g117.symm)
  have sz_b117 : h0.size ≤ b117 := Nat.le_trans K110.1 (Nat.le_of_eq g117.symm)
  have ne_ob_b117 : ob ≠ b117 := Nat.ne_of_lt (Nat.lt_of_lt_of_le f111.lt (Nat.le_of_eq g117.symm))
  have ne_b103_b117 : b103 ≠ b117 := Nat.ne_of_lt (Nat.lt_of_lt_of_le f115.lt (Nat.le_of_eq g117.symm))
  have f118 := f111.ext E117
  have f119 := f116.ext E117
  have f120 := f112.ext E117
  have f121 := f113.ext E117
  have f122 := Sta.ext E117 f114
  have f123 := f115.ext E117
  have Z117 : n0 ≤ h117.size := Nat.le_trans Z110 E117.1
  have K117 : Keep h0 h117 [ob] := K110.ext E117
  have f124 : own_A Z h117 b117 .int 2 (fun _ => (.int (0 : Int32))) := own_A.new A117 (by first | rfl | decide | exact rfl)
  refine own_st st117 ?_
  show own_Go p.tables e below _ (T117.setTop (mkF m 19 #[qA ob, qI (2 : Int32)] [(.ref b117), (.ref ob)]))
  obtain ⟨T125, h125, X125, e125, W125, st125⟩ := putF X117 hx hZ hown (host := "") (Or.inl (own_hw hw (i := 77) rfl)) Via.refl e117 f120 f118 (Or.inr ⟨(own_hw hw (i := 78) rfl), rfl, hnm⟩) (own_hw hw (i := 66) rfl) (ty := (.array .int)) (by decide) rfl rfl (g := (mkF m 19 #[qA ob, qI (2 : Int32)] [(.ref b117), (.ref ob)])) rfl rfl (hb hby d13_19)
  refine own_st st125 ?_
  have f126 := f118.wr W125
  have f127 := f119.other W125 (Or.inr (slot_ne (Or.inr (own_hw hw (i := 76) rfl)) (Or.inr (own_hw hw (i := 78) rfl)) (by decide) (t := (.array .int)) (t' := (.array .int)) (by decide) (by decide)))
  have f128 := f121.other W125 (Or.inr (slot_ne (Or.inr (own_hw hw (i := 80) rfl)) (Or.inr (own_hw hw (i := 78) rfl)) (by decide) (t := (.array .double)) (t' := (.array .int)) (by decide) (by decide)))
  have f129 := Sta.wr W125 f122
  have f130 := f123.other W125 (Ne.symm ne_ob_b103)
  have f131 := f124.other W125 (Ne.symm ne_ob_b117)
  have Z125 : n0 ≤ h125.size := Nat.le_trans Z117 (Keep.of_wr W125).1
  have N125 := Fr.snoc X125 N110 G_ob
  have K125 : Keep h0 h125 [ob] := K117.wr W125 (Or.inl (List.mem_of_getElem? (i := 0) rfl))
  have f132 : Fld Z h125 ob "kithrank/Graph$ClassSort" "sortedTarget" "[I" (.ref b117) := f120.same W125
  refine own_st (S' := T125.setTop (mkF m 24 #[qA ob, qI (2 : Int32)] [(.int (2 : Int32)), (.ref ob)])) (fun t k => XS.aloadN X125.here hx rfl (hb hby d13_22) rfl rfl (XS.iloadN X125.here hx rfl (hb hby d13_23) rfl k)) ?_
  obtain ⟨T133, h133, k133, X133, e133, E133, A133, st133⟩ := newP X125 hx hZ (own_hw hw (i := 24) rfl) e125 (g := (mkF m 24 #[qA ob, qI (2 : Int32)] [(.int (2 : Int32)), (.ref ob)])) rfl (hb hby d13_24) rfl (by decide) (cap := 2) (by decide) (by decide) (by decide) (by decide)
  obtain ⟨b133, g133⟩ : ∃ z, z = h125.size := ⟨_, rfl⟩
  rw [← g133] at A133 st133
  have G_b133 : n0 ≤ b133 := Nat.le_trans Z125 (Nat.le_of_eq g133.symm)
  have sz_b133 : h0.size ≤ b133 := Nat.le_trans K125.1 (Nat.le_of_eq g133.symm)
  have ne_b117_b133 : b117 ≠ b133 := Nat.ne_of_lt (Nat.lt_of_lt_of_le f131.lt (Nat.le_of_eq g133.symm))
  have ne_ob_b133 : ob ≠ b133 := Nat.ne_of_lt (Nat.lt_of_lt_of_le f126.lt (Nat.le_of_eq g133.symm))
  have ne_b103_b133 : b103 ≠ b133 := Nat.ne_of_lt (Nat.lt_of_lt_of_le f130.lt (Nat.le_of_eq g133.symm))
  have f134 := f126.ext E133
  have f135 := f127.ext E133
  have f136 := f132.ext E133
  have f137 := f128.ext E133
  have f138 := Sta.ext E133 f129
  have f139 := f130.ext E133
  have f140 := f131.ext E133
  have Z133 : n0 ≤ h133.size := Nat.le_trans Z125 E133.1
  have K133 : Keep h0 h133 [ob] := K125.ext E133
  have f141 : own_A Z h133 b133 .double 2 (fun _ => (.double (0 : UInt64))) := own_A.new A133 (by first | rfl | decide | exact rfl)
  refine own_st st133 ?_
  show own_Go p.tables e below _ (T133.setTop (mkF m 26 #[qA ob, qI (2 : Int32)] [(.ref b133), (.ref ob)]))
  obtain ⟨T142, h142, X142, e142, W142, st142⟩ := putF X133 hx hZ hown (host := "") (Or.inl (own_hw hw (i := 79) rfl)) Via.refl e133 f137 f134 (Or.inr ⟨(own_hw hw (i := 80) rfl), rfl, hnm⟩) (own_hw hw (i := 66) rfl) (ty := (.array .double)) (by decide) rfl rfl (g := (mkF m 26 #[qA ob, qI (2 : Int32)] [(.ref b133), (.ref ob)])) rfl rfl (hb hby d13_26)
  refine own_st st142 ?_
  have f143 := f134.wr W142
  have f144 := f135.other W142 (Or.inr (slot_ne (Or.inr (own_hw hw (i := 76) rfl)) (Or.inr (own_hw hw (i := 80) rfl)) (by decide) (t := (.array .int)) (t' := (.array .double)) (by decide) (by decide)))
  have f145 := f136.other W142 (Or.inr (slot_ne (Or.inr (own_hw hw (i := 78) rfl)) (Or.inr (own_hw hw (i := 80) rfl)) (by decide) (t := (.array .int)) (t' := (.array .double)) (by decide) (by decide)))
  have f146 := Sta.wr W142 f138
  have f147 := f139.other W142 (Ne.symm ne_ob_b103)
  have f148 := f140.other W142 (Ne.symm ne_ob_b117)
  have f149 := f141.other W142 (Ne.symm ne_ob_b133)
  have Z142 : n0 ≤ h142.size := Nat.le_trans Z133 (Keep.of_wr W142).1
  have N142 := Fr.snoc X142 N125 G_ob
  have K142 : Keep h0 h142 [ob] := K133.wr W142 (Or.inl (List.mem_of_getElem? (i := 0) rfl))
  have f150 : Fld Z h142 ob "kithrank/Graph$ClassSort" "sortedWeight" "[D" (.ref b133) := f137.same W142
  show own_Go p.tables e below _ (T142.setTop (mkF m 29 #[qA ob, qI (2 : Int32)] []))
  refine own_retV X142 hx hret hlk (hb hby d13_29) ?_ (by decide) (by decide)
  rw [e142]
  exact ⟨b103, b117, b133, rfl, N142, K142, sz_b103, sz_b117, sz_b133, ne_b103_b117, ne_b103_b133, ne_b117_b133, f144, f145, f150, f147, f148, f149⟩
theorem d14_0 : decode prog_62_method_20_code 0 = .ok (.lconst 0, 1) := by decide +kernel
theorem d14_1 : decode prog_62_method_20_code 1 = .ok (.lstore_n 1, 1) := by decide +kernel
theorem d14_2 : decode prog_62_method_20_code 2 = .ok (.aload_n 0, 1) := by decide +kernel
theorem d14_3 : decode prog_62_method_20_code 3 = .ok (.astore_n 3, 1) := by decide +kernel
theorem d14_4 : decode prog_62_method_20_code 4 = .ok (.aload_n 3, 1) := by decide +kernel
theorem d14_5 : decode prog_62_method_20_code 5 = .ok (.arraylength, 1) := by decide +kernel
theorem d14_6 : decode prog_62_method_20_code 6 = .ok (.istore 4, 2) := by decide +kernel
theorem d14_8 : decode prog_62_method_20_code 8 = .ok (.iconst 0, 1) := by decide +kernel
theorem d14_9 : decode prog_62_method_20_code 9 = .ok (.istore 5, 2) := by decide +kernel
theorem d14_11 : decode prog_62_method_20_code 11 = .ok (.iload 5, 2) := by decide +kernel
theorem d14_13 : decode prog_62_method_20_code 13 = .ok (.iload 4, 2) := by decide +kernel
theorem d14_15 : decode prog_62_method_20_code 15 = .ok (.if_icmp .ge 26, 3) := by decide +kernel
theorem d14_18 : decode prog_62_method_20_code 18 = .ok (.aload_n 3, 1) := by decide +kernel
theorem d14_19 : decode prog_62_method_20_code 19 = .ok (.iload 5, 2) := by decide +kernel
theorem d14_21 : decode prog_62_method_20_code 21 = .ok (.daload, 1) := by decide +kernel
theorem d14_22 : decode prog_62_method_20_code 22 = .ok (.dstore 6, 2) := by decide +kernel
theorem d14_24 : decode prog_62_method_20_code 24 = .ok (.dload 6, 2) := by decide +kernel
theorem d14_26 : decode prog_62_method_20_code 26 = .ok (.dconst 1, 1) := by decide +kernel
theorem d14_27 : decode prog_62_method_20_code 27 = .ok (.dcmp .g, 1) := by decide +kernel
theorem d14_28 : decode prog_62_method_20_code 28 = .ok (.ifCond .ge 7, 3) := by decide +kernel
theorem d14_31 : decode prog_62_method_20_code 31 = .ok (.lload_n 1, 1) := by decide +kernel
theorem d14_32 : decode prog_62_method_20_code 32 = .ok (.lconst 1, 1) := by decide +kernel
theorem d14_33 : decode prog_62_method_20_code 33 = .ok (.ladd, 1) := by decide +kernel
theorem d14_34 : decode prog_62_method_20_code 34 = .ok (.lstore_n 1, 1) := by decide +kernel
theorem d14_35 : decode prog_62_method_20_code 35 = .ok (.iinc 5 1, 3) := by decide +kernel
theorem d14_38 : decode prog_62_method_20_code 38 = .ok (.goto (-27), 3) := by decide +kernel
theorem d14_41 : decode prog_62_method_20_code 41 = .ok (.lload_n 1, 1) := by decide +kernel
theorem d14_42 : decode prog_62_method_20_code 42 = .ok (.lreturn, 1) := by decide +kernel
theorem pn14 : plainName "kithrank/Graph" = true := by first | (simp [plainName, overriddenIn]; done) | decide +kernel
theorem ef14 (m : MethodId) (we : Addr) : entryFrame m #[(.ref we)] 8 = mkF m 0 #[.val (.ref we), .unset, .unset, .unset, .unset, .unset, .unset, .unset] [] := by first | (simp [entryFrame, mkF, argsToLocals, Value.category]; done) | rfl
def Q14 (Z : State) (we : Addr) (nn : Nat) (f : Nat → UInt64) (h0 : Heap) (n0 : Nat) (v : Option Value) (h : Heap) (L : List Loc) : Prop := ∃ (r : Int64), v = some (.long r) ∧ Fr n0 L ∧ Keep h0 h []
set_option maxRecDepth 65536 in
set_option maxHeartbeats 40000000 in
theorem rm14 (l : Launch) (Z : State) (a0 : Array Value) (hw : ∀ d ∈ tables_1, d.before a0 Z = true) (ws : List Jvm.Cond) (we : Addr) (nn : Nat) (f : Nat → UInt64) (h0 : Heap) (n0 : Nat) (Z0 : n0 ≤ h0.size) (A_we : own_A Z h0 we .double nn (own_D f)) :
    MetFree l (⟨"kithrank/Graph", "lightEntries", "([D)J"⟩ : MethodName) (head1 (Jvm.Cond.code (⟨"kithrank/Graph", "lightEntries", "([D)J"⟩ : MethodName) prog_62_method_20_code 8 (some .long) :: ws) ({ frames := 0, cells := 0, slots := 0, locals := 0 } : Room)) (fun as' U => as' = #[(.ref we)] ∧ Z.Warmed39 U.vm ∧ U.heap = h0) (fun _ _ _ _ _ => True) (fun _ U o U' => ∃ v L, o = .returned v ∧ Q14 Z we nn f h0 n0 v U'.heap L ∧ FrameEnd U o U' L ({ frames := 0, cells := 0, slots := 0, locals := 0 } : Room).cells ({ frames := 0, cells := 0, slots := 0, locals := 0 } : Room).slots) := by
  refine own_body (plainFor_of_name pn14) ?_
  intro p e s m below meth c s₁ hx hby hml hown0 hnm hret hlk hZ X0 e0
  have hown : s.vm.findClass "kithrank/Graph" = some m.cls := hown0
  have N0 := Fr.nil n0
  rw [ef14]
  have K0 : Keep h0 h0 [] := Keep.refl h0 []
  have hnn : nn < 2 ^ 31 := by obtain ⟨_, _, _, q, _⟩ := A_we; exact q
  have O101 := A_we
  obtain ⟨c101, Ar101, S101, M101, V101⟩ := O101
  have ln101 : c101.slots.size.toInt32 = (Int32.ofNat nn) := by rw [S101]; try (first | rfl | decide | exact rfl)
  refine own_st (S' := s₁.setTop (mkF m 9 #[qA we, qL (0 : Int64), qZ, qA we, qN nn, qU, qU, qU] [(.int (0 : Int32))])) (fun t k => XS.lconst X0.here hx rfl (hb hby d14_0) (XS.lstoreN X0.here hx rfl (hb hby d14_1) rfl (l' := #[qA we, qL (0 : Int64), qZ, qU, qU, qU, qU, qU]) rfl (XS.aloadN X0.here hx rfl (hb hby d14_2) rfl rfl (XS.astoreN X0.here hx rfl (hb hby d14_3) rfl rfl (l' := #[qA we, qL (0 : Int64), qZ, qA we, qU, qU, qU, qU]) rfl (XS.aloadN X0.here hx rfl (hb hby d14_4) rfl rfl (X0.arraylength hx (by rw [e0]; exact Ar101.1) (State.isArrayOf_alike hZ.alike Ar101.2.1) (g := (mkF m 5 #[qA we, qL (0 : Int64), qZ, qA we, qU, qU, qU, qU] [(.ref we)])) rfl rfl (hb hby d14_5) _ (by rw [ln101]; exact (XS.istore X0.here hx rfl (hb hby d14_6) rfl (l' := #[qA we, qL (0 : Int64), qZ, qA we, qN nn, qU, qU, qU]) rfl (XS.iconst X0.here hx rfl (hb hby d14_8) k))))))))) ?_
  refine own_st (S' := s₁.setTop (mkF m 11 #[qA we, qL (0 : Int64), qZ, qA we, qN nn, qI (0 : Int32), qU, qU] [])) (fun t k => XS.istore X0.here hx rfl (hb hby d14_9) rfl (l' := #[qA we, qL (0 : Int64), qZ, qA we, qN nn, qI (0 : Int32), qU, qU]) rfl k) ?_
  by_cases hz : nn = 0
  · have hc102 : ¬ ((0 : Int32) < (Int32.ofNat nn)) := by rw [hz]; exact Int32.lt_irrefl
    refine own_st (S' := s₁.setTop (mkF m 42 #[qA we, qL (0 : Int64), qZ, qA we, qN nn, qI (0 : Int32), qU, qU] [(.long (0 : Int64))])) (fun t k => XS.iload X0.here hx rfl (hb hby d14_11) rfl (XS.iload X0.here hx rfl (hb hby d14_13) rfl (XS.icmpYes X0.here hx rfl (pc0 := 15) (pc' := 41) rfl (hb hby d14_15) rfl (flt hc102).2.1 (by decide) (by decide) (XS.lloadN X0.here hx rfl (hb hby d14_41) rfl k)))) ?_
    refine own_retL X0 hx hret hlk (hb hby d14_42) ?_ (by decide) (by decide)
    rw [e0]
    exact ⟨(0 : Int64), rfl, N0, K0⟩
  · have hc103 : (0 : Int32) < (Int32.ofNat nn) := (own_ltN (i := 0) (by omega) (by omega)).mpr (by omega)
    have O104 := A_we
    obtain ⟨c104, Ar104, S104, M104, V104⟩ := O104
    have at104 : c104.slots[((0 : Int32)).toNatClampNeg]? = some (.double (f 0)) := own_at S104 V104 (own_ixN (i := 0) (by omega) (by omega)) rfl
    refine own_st (S' := s₁.setTop (mkF m 22 #[qA we, qL (0 : Int64), qZ, qA we, qN nn, qI (0 : Int32), qU, qU] [(.double (f 0))])) (fun t k => XS.iload X0.here hx rfl (hb hby d14_11) rfl (XS.iload X0.here hx rfl (hb hby d14_13) rfl (XS.icmpNo X0.here hx rfl (hb hby d14_15) rfl (tlt hc103).2.1 (XS.aloadN X0.here hx rfl (hb hby d14_18) rfl rfl (XS.iload X0.here hx rfl (hb hby d14_19) rfl (X0.daload hx (j := (0 : Int32)) (v := (.double (f 0))) (by rw [e0]; exact Ar104.1) (State.isArrayOf_alike hZ.alike Ar104.2.1) Ar104.2.2 (own_in S104 (own_ixN (i := 0) (by omega) (by omega))) at104 (g := (mkF m 21 #[qA we, qL (0 : Int64), qZ, qA we, qN nn, qI (0 : Int32), qU, qU] [(.int (0 : Int32)), (.ref we)])) rfl rfl (hb hby d14_21) _ k)))))) ?_
    obtain ⟨v105, qv105⟩ : ∃ z : UInt64, z = (f 0) := ⟨_, rfl⟩
    show own_Go p.tables e below _ (s₁.setTop (mkF m 22 #[qA we, qL (0 : Int64), qZ, qA we, qN nn, qI (0 : Int32), qU, qU] [(.double (f 0))]))
    rw [← qv105]
    refine own_st (S' := s₁.setTop (mkF m 28 #[qA we, qL (0 : Int64), qZ, qA we, qN nn, qI (0 : Int32), qD v105, qZ] [(.int (cmpValue (FP.dcmp v105 FP.dconst1) .g))])) (fun t k => XS.dstore X0.here hx rfl (hb hby d14_22) rfl (l' := #[qA we, qL (0 : Int64), qZ, qA we, qN nn, qI (0 : Int32), qD v105, qZ]) rfl (XS.dload X0.here hx rfl (hb hby d14_24) rfl (XS.dconst1 X0.here hx rfl (hb hby d14_26) rfl (XS.dcmpS X0.here hx rfl (hb hby d14_27) rfl rfl k)))) ?_
    obtain ⟨v106, qv106⟩ : ∃ z : Int64, z = (if (cmpValue (FP.dcmp v105 FP.dconst1) .g) < (0 : Int32) then (1 : Int64) else (0 : Int64)) := ⟨_, rfl⟩
    refine own_st (S' := s₁.setTop (mkF m 35 #[qA we, qL v106, qZ, qA we, qN nn, qI (0 : Int32), qD v105, qZ] [])) (fun t k => ?_) ?_
    · show Steps p.tables e below (s₁.setTop (mkF m 28 #[qA we, qL (0 : Int64), qZ, qA we, qN nn, qI (0 : Int32), qD v105, qZ] [(.int (cmpValue (FP.dcmp v105 FP.dconst1) .g))])) _
      by_cases hc107 : (cmpValue (FP.dcmp v105 FP.dconst1) .g) < (0 : Int32)
      · rw [if_pos hc107] at qv106
        replace qv106 := Eq.symm qv106
        subst qv106
        refine XS.ifNo X0.here hx rfl (hb hby d14_28) rfl ((if0 _ _).trans (tlt hc107).2.1) ?_
        show Steps p.tables e below (s₁.setTop (mkF m 31 #[qA we, qL (0 : Int64), qZ, qA we, qN nn, qI (0 : Int32), qD v105, qZ] [])) _
        refine XS.lloadN X0.here hx rfl (hb hby d14_31) rfl ?_
        show Steps p.tables e below (s₁.setTop (mkF m 32 #[qA we, qL (0 : Int64), qZ, qA we, qN nn, qI (0 : Int32), qD v105, qZ] [(.long (0 : Int64))])) _
        refine XS.lconst X0.here hx rfl (hb hby d14_32) ?_
        show Steps p.tables e below (s₁.setTop (mkF m 33 #[qA we, qL (0 : Int64), qZ, qA we, qN nn, qI (0 : Int32), qD v105, qZ] [(.long (1 : Int64)), (.long (0 : Int64))])) _
        refine XS.ladd X0.here hx rfl (hb hby d14_33) rfl ?_
        show Steps p.tables e below (s₁.setTop (mkF m 34 #[qA we, qL (0 : Int64), qZ, qA we, qN nn, qI (0 : Int32), qD v105, qZ] [(.long (1 : Int64))])) _
        refine XS.lstoreN X0.here hx rfl (hb hby d14_34) rfl (l' := #[qA we, qL (1 : Int64), qZ, qA we, qN nn, qI (0 : Int32), qD v105, qZ]) rfl ?_
        show Steps p.tables e below (s₁.setTop (mkF m 35 #[qA we, qL (1 : Int64), qZ, qA we, qN nn, qI (0 : Int32), qD v105, qZ] [])) _
        exact k
      · rw [if_neg hc107] at qv106
        replace qv106 := Eq.symm qv106
        subst qv106
        refine XS.ifYes X0.here hx rfl (pc0 := 28) (pc' := 35) rfl (hb hby d14_28) rfl ((if0 _ _).trans (flt hc107).2.1) (by decide) (by decide) ?_
        show Steps p.tables e below (s₁.setTop (mkF m 35 #[qA we, qL (0 : Int64), qZ, qA we, qN nn, qI (0 : Int32), qD v105, qZ] [])) _
        exact k
    refine own_st (S' := s₁.setTop (mkF m 11 #[qA we, qL v106, qZ, qA we, qN nn, qI (1 : Int32), qD v105, qZ] [])) (fun t k => XS.iinc X0.here hx rfl (hb hby d14_35) rfl (l' := #[qA we, qL v106, qZ, qA we, qN nn, qI (1 : Int32), qD v105, qZ]) rfl (XS.goto X0.here hx rfl (pc0 := 38) (pc' := 11) rfl (hb hby d14_38) (by decide) (by decide) k)) ?_
    have loop : ∀ (n : Nat) (T : State) (L : List Loc) (i : Nat) (r : Int64) (dd : UInt64), Stand p l e ({ frames := 0, cells := 0, slots := 0, locals := 0 } : Room) s m #[(.ref we)] below meth c T L 0 0 → Fr n0 L → Keep h0 T.heap [] →  n0 ≤ T.heap.size → own_A Z T.heap we .double nn (own_D f) → (i + n = nn) →  own_Go p.tables e below (own_F s (Q14 Z we nn f h0 n0) 0 0) (T.setTop (mkF m 11 #[qA we, qL r, qZ, qA we, qN nn, qN i, qD dd, qZ] [])) := by
      intro n
      induction n with
      | zero =>
        intro T L i r dd X N K Zz lf0 hi
        have hc108 : ¬ ((Int32.ofNat i) < (Int32.ofNat nn)) := fun q => absurd ((own_ltN (by omega) (by omega)).mp q) (by omega)
        refine own_st (S' := T.setTop (mkF m 42 #[qA we, qL r, qZ, qA we, qN nn, qN i, qD dd, qZ] [(.long r)])) (fun t k => XS.iload X.here hx rfl (hb hby d14_11) rfl (XS.iload X.here hx rfl (hb hby d14_13) rfl (XS.icmpYes X.here hx rfl (pc0 := 15) (pc' := 41) rfl (hb hby d14_15) rfl (flt hc108).2.1 (by decide) (by decide) (XS.lloadN X.here hx rfl (hb hby d14_41) rfl k)))) ?_
        refine own_retL X hx hret hlk (hb hby d14_42) ?_ (by decide) (by decide)
        exact ⟨r, rfl, N, K⟩
      | succ n ih =>
        intro T L i r dd X N K Zz lf0 hi
        have hc109 : (Int32.ofNat i) < (Int32.ofNat nn) := (own_ltN (by omega) (by omega)).mpr (by omega)
        have O110 := lf0
        obtain ⟨c110, Ar110, S110, M110, V110⟩ := O110
        have at110 : c110.slots[((Int32.ofNat i)).toNatClampNeg]? = some (.double (f i)) := own_at S110 V110 (own_ixN (by omega) (by omega)) rfl
        refine own_st (S' := T.setTop (mkF m 22 #[qA we, qL r, qZ, qA we, qN nn, qN i, qD dd, qZ] [(.double (f i))])) (fun t k => XS.iload X.here hx rfl (hb hby d14_11) rfl (XS.iload X.here hx rfl (hb hby d14_13) rfl (XS.icmpNo X.here hx rfl (hb hby d14_15) rfl (tlt hc109).2.1 (XS.aloadN X.here hx rfl (hb hby d14_18) rfl rfl (XS.iload X.here hx rfl (hb hby d14_19) rfl (X.daload hx (j := (Int32.ofNat i)) (v := (.double (f i))) Ar110.1 (State.isArrayOf_alike hZ.alike Ar110.2.1) Ar110.2.2 (own_in S110 (own_ixN (by omega) (by omega))) at110 (g := (mkF m 21 #[qA we, qL r, qZ, qA we, qN nn, qN i, qD dd, qZ] [qV i, (.ref we)])) rfl rfl (hb hby d14_21) _ k)))))) ?_
        obtain ⟨v111, qv111⟩ : ∃ z : UInt64, z = (f i) := ⟨_, rfl⟩
        show own_Go p.tables e below _ (T.setTop (mkF m 22 #[qA we, qL r, qZ, qA we, qN nn, qN i, qD dd, qZ] [(.double (f i))]))
        rw [← qv111]
        refine own_st (S' := T.setTop (mkF m 28 #[qA we, qL r, qZ, qA we, qN nn, qN i, qD v111, qZ] [(.int (cmpValue (FP.dcmp v111 FP.dconst1) .g))])) (fun t k => XS.dstore X.here hx rfl (hb hby d14_22) rfl (l' := #[qA we, qL r, qZ, qA we, qN nn, qN i, qD v111, qZ]) rfl (XS.dload X.here hx rfl (hb hby d14_24) rfl (XS.dconst1 X.here hx rfl (hb hby d14_26) rfl (XS.dcmpS X.here hx rfl (hb hby d14_27) rfl rfl k)))) ?_
        obtain ⟨v112, qv112⟩ : ∃ z : Int64, z = (if (cmpValue (FP.dcmp v111 FP.dconst1) .g) < (0 : Int32) then (r + (1 : Int64)) else r) := ⟨_, rfl⟩
        refine own_st (S' := T.setTop (mkF m 35 #[qA we, qL v112, qZ, qA we, qN nn, qN i, qD v111, qZ] [])) (fun t k => ?_) ?_
        · show Steps p.tables e below (T.setTop (mkF m 28 #[qA we, qL r, qZ, qA we, qN nn, qN i, qD v111, qZ] [(.int (cmpValue (FP.dcmp v111 FP.dconst1) .g))])) _
          by_cases hc113 : (cmpValue (FP.dcmp v111 FP.dconst1) .g) < (0 : Int32)
          · rw [if_pos hc113] at qv112
            replace qv112 := Eq.symm qv112
            subst qv112
            refine XS.ifNo X.here hx rfl (hb hby d14_28) rfl ((if0 _ _).trans (tlt hc113).2.1) ?_
            show Steps p.tables e below (T.setTop (mkF m 31 #[qA we, qL r, qZ, qA we, qN nn, qN i, qD v111, qZ] [])) _
            refine XS.lloadN X.here hx rfl (hb hby d14_31) rfl ?_
            show Steps p.tables e below (T.setTop (mkF m 32 #[qA we, qL r, qZ, qA we, qN nn, qN i, qD v111, qZ] [(.long r)])) _
            refine XS.lconst X.here hx rfl (hb hby d14_32) ?_
            show Steps p.tables e below (T.setTop (mkF m 33 #[qA we, qL r, qZ, qA we, qN nn, qN i, qD v111, qZ] [(.long (1 : Int64)), (.long r)])) _
            refine XS.ladd X.here hx rfl (hb hby d14_33) rfl ?_
            show Steps p.tables e below (T.setTop (mkF m 34 #[qA we, qL r, qZ, qA we, qN nn, qN i, qD v111, qZ] [(.long (r + (1 : Int64)))])) _
            refine XS.lstoreN X.here hx rfl (hb hby d14_34) rfl (l' := #[qA we, qL (r + (1 : Int64)), qZ, qA we, qN nn, qN i, qD v111, qZ]) rfl ?_
            show Steps p.tables e below (T.setTop (mkF m 35 #[qA we, qL (r + (1 : Int64)), qZ, qA we, qN nn, qN i, qD v111, qZ] [])) _
            exact k
          · rw [if_neg hc113] at qv112
            replace qv112 := Eq.symm qv112
            subst qv112
            refine XS.ifYes X.here hx rfl (pc0 := 28) (pc' := 35) rfl (hb hby d14_28) rfl ((if0 _ _).trans (flt hc113).2.1) (by decide) (by decide) ?_
            show Steps p.tables e below (T.setTop (mkF m 35 #[qA we, qL r, qZ, qA we, qN nn, qN i, qD v111, qZ] [])) _
            exact k
        refine own_st (S' := T.setTop (mkF m 11 #[qA we, qL v112, qZ, qA we, qN nn, qI ((Int32.ofNat i) + (1 : Int32)), qD v111, qZ] [])) (fun t k => XS.iinc X.here hx rfl (hb hby d14_35) rfl (l' := #[qA we, qL v112, qZ, qA we, qN nn, qI ((Int32.ofNat i) + (1 : Int32)), qD v111, qZ]) rfl (XS.goto X.here hx rfl (pc0 := 38) (pc' := 11) rfl (hb hby d14_38) (by decide) (by decide) k)) ?_
        rw [own_incN (by omega)]
        exact ih _ _ (i + 1) v112 v111 X N K Zz lf0 (by omega)
    exact loop (nn - 1) _ _ 1 v106 v105 X0 N0 (by rw [e0]; exact K0) (by rw [e0]; exact Z0) (by rw [e0]; exact A_we) (by omega)
    
theorem d15_0 : decode prog_69_method_12_code 0 = .ok (.aload_n 0, 1) := by decide +kernel
theorem d15_1 : decode prog_69_method_12_code 1 = .ok (.getfield 22, 3) := by decide +kernel
theorem d15_4 : decode prog_69_method_12_code 4 = .ok (.areturn, 1) := by decide +kernel
theorem pn15 : plainName "kithrank/Graph$Page" = true := by first | (simp [plainName, overriddenIn]; done) | decide +kernel
theorem ef15 (m : MethodId) (pg : Addr) : entryFrame m #[(.ref pg)] 1 = mkF m 0 #[.val (.ref pg)] [] := by first | (simp [entryFrame, mkF, argsToLocals, Value.category]; done) | rfl
def Q15 (Z : State) (pg : Addr) (h0 : Heap) (n0 : Nat) (v : Option Value) (h : Heap) (L : List Loc) : Prop := v = some .null ∧ Fr n0 L ∧ h = h0
set_option maxRecDepth 65536 in
set_option maxHeartbeats 40000000 in
theorem rm15 (l : Launch) (Z : State) (a0 : Array Value) (hw : ∀ d ∈ tables_1, d.before a0 Z = true) (ws : List Jvm.Cond) (pg : Addr) (h0 : Heap) (n0 : Nat) (Z0 : n0 ≤ h0.size) (F_pg_apart : Fld Z h0 pg "kithrank/Graph$Page" "apart" "[Lkithrank/Graph$OwnEdges;" .null) :
    MetFree l (⟨"kithrank/Graph$Page", "apart", "()[Lkithrank/Graph$OwnEdges;"⟩ : MethodName) (head1 (Jvm.Cond.code (⟨"kithrank/Graph$Page", "apart", "()[Lkithrank/Graph$OwnEdges;"⟩ : MethodName) prog_69_method_12_code 1 (some (.array (.object "kithrank/Graph$OwnEdges"))) :: ws) ({ frames := 0, cells := 0, slots := 0, locals := 0 } : Room)) (fun as' U => as' = #[(.ref pg)] ∧ Z.Warmed39 U.vm ∧ U.heap = h0) (fun _ _ _ _ _ => True) (fun _ U o U' => ∃ v L, o = .returned v ∧ Q15 Z pg h0 n0 v U'.heap L ∧ FrameEnd U o U' L ({ frames := 0, cells := 0, slots := 0, locals := 0 } : Room).cells ({ frames := 0, cells := 0, slots := 0, locals := 0 } : Room).slots) := by
  refine own_body (plainFor_of_name pn15) ?_
  intro p e s m below meth c s₁ hx hby hml hown0 hnm hret hlk hZ X0 e0
  have hown : s.vm.findClass "kithrank/Graph$Page" = some m.cls := hown0
  have N0 := Fr.nil n0
  rw [ef15]
  refine own_st (S' := s₁.setTop (mkF m 1 #[qA pg] [(.ref pg)])) (fun t k => XS.aloadN X0.here hx rfl (hb hby d15_0) rfl rfl k) ?_
  obtain ⟨T101, X101, e101, st101⟩ := getF X0 hx hZ hown (host := "") (Or.inl (own_hw hw (i := 40) rfl)) Via.refl e0 F_pg_apart (g := (mkF m 1 #[qA pg] [(.ref pg)])) rfl rfl (hb hby d15_1)
  refine own_st st101 ?_
  show own_Go p.tables e below _ (T101.setTop (mkF m 4 #[qA pg] [.null]))
  refine own_retA X101 hx hret rfl rfl rfl hlk (hb hby d15_4) ?_ (by decide) (by decide)
  rw [e101]
  exact ⟨rfl, N0, rfl⟩
theorem d16_0 : decode prog_69_method_9_code 0 = .ok (.aload_n 0, 1) := by decide +kernel
theorem d16_1 : decode prog_69_method_9_code 1 = .ok (.getfield 9, 3) := by decide +kernel
theorem d16_4 : decode prog_69_method_9_code 4 = .ok (.areturn, 1) := by decide +kernel
theorem pn16 : plainName "kithrank/Graph$Page" = true := by first | (simp [plainName, overriddenIn]; done) | decide +kernel
theorem ef16 (m : MethodId) (pg : Addr) : entryFrame m #[(.ref pg)] 1 = mkF m 0 #[.val (.ref pg)] [] := by first | (simp [entryFrame, mkF, argsToLocals, Value.category]; done) | rfl
def Q16 (Z : State) (pg : Addr) (sr : Addr) (h0 : Heap) (n0 : Nat) (v : Option Value) (h : Heap) (L : List Loc) : Prop := v = some (.ref sr) ∧ Fr n0 L ∧ h = h0
set_option maxRecDepth 65536 in
set_option maxHeartbeats 40000000 in
theorem rm16 (l : Launch) (Z : State) (a0 : Array Value) (hw : ∀ d ∈ tables_1, d.before a0 Z = true) (ws : List Jvm.Cond) (pg : Addr) (sr : Addr) (h0 : Heap) (n0 : Nat) (Z0 : n0 ≤ h0.size) (F_pg_start : Fld Z h0 pg "kithrank/Graph$Page" "start" "[I" (.ref sr)) :
    MetFree l (⟨"kithrank/Graph$Page", "start", "()[I"⟩ : MethodName) (head1 (Jvm.Cond.code (⟨"kithrank/Graph$Page", "start", "()[I"⟩ : MethodName) prog_69_method_9_code 1 (some (.array .int)) :: ws) ({ frames := 0, cells := 0, slots := 0, locals := 0 } : Room)) (fun as' U => as' = #[(.ref pg)] ∧ Z.Warmed39 U.vm ∧ U.heap = h0) (fun _ _ _ _ _ => True) (fun _ U o U' => ∃ v L, o = .returned v ∧ Q16 Z pg sr h0 n0 v U'.heap L ∧ FrameEnd U o U' L ({ frames := 0, cells := 0, slots := 0, locals := 0 } : Room).cells ({ frames := 0, cells := 0, slots := 0, locals := 0 } : Room).slots) := by
  refine own_body (plainFor_of_name pn16) ?_
  intro p e s m below meth c s₁ hx hby hml hown0 hnm hret hlk hZ X0 e0
  have hown : s.vm.findClass "kithrank/Graph$Page" = some m.cls := hown0
  have N0 := Fr.nil n0
  rw [ef16]
  refine own_st (S' := s₁.setTop (mkF m 1 #[qA pg] [(.ref pg)])) (fun t k => XS.aloadN X0.here hx rfl (hb hby d16_0) rfl rfl k) ?_
  obtain ⟨T101, X101, e101, st101⟩ := getF X0 hx hZ hown (host := "") (Or.inl (own_hw hw (i := 34) rfl)) Via.refl e0 F_pg_start (g := (mkF m 1 #[qA pg] [(.ref pg)])) rfl rfl (hb hby d16_1)
  refine own_st st101 ?_
  show own_Go p.tables e below _ (T101.setTop (mkF m 4 #[qA pg] [(.ref sr)]))
  refine own_retA X101 hx hret rfl rfl rfl hlk (hb hby d16_4) ?_ (by decide) (by decide)
  rw [e101]
  exact ⟨rfl, N0, rfl⟩
theorem d17_0 : decode prog_69_method_10_code 0 = .ok (.aload_n 0, 1) := by decide +kernel
theorem d17_1 : decode prog_69_method_10_code 1 = .ok (.getfield 15, 3) := by decide +kernel
theorem d17_4 : decode prog_69_method_10_code 4 = .ok (.areturn, 1) := by decide +kernel
theorem pn17 : plainName "kithrank/Graph$Page" = true := by first | (simp [plainName, overriddenIn]; done) | decide +kernel
theorem ef17 (m : MethodId) (pg : Addr) : entryFrame m #[(.ref pg)] 1 = mkF m 0 #[.val (.ref pg)] [] := by first | (simp [entryFrame, mkF, argsToLocals, Value.category]; done) | rfl
def Q17 (Z : State) (pg : Addr) (sr : Addr) (h0 : Heap) (n0 : Nat) (v : Option Value) (h : Heap) (L : List Loc) : Prop := v = some (.ref sr) ∧ Fr n0 L ∧ h = h0
set_option maxRecDepth 65536 in
set_option maxHeartbeats 40000000 in
theorem rm17 (l : Launch) (Z : State) (a0 : Array Value) (hw : ∀ d ∈ tables_1, d.before a0 Z = true) (ws : List Jvm.Cond) (pg : Addr) (sr : Addr) (h0 : Heap) (n0 : Nat) (Z0 : n0 ≤ h0.size) (F_pg_target : Fld Z h0 pg "kithrank/Graph$Page" "target" "[I" (.ref sr)) :
    MetFree l (⟨"kithrank/Graph$Page", "target", "()[I"⟩ : MethodName) (head1 (Jvm.Cond.code (⟨"kithrank/Graph$Page", "target", "()[I"⟩ : MethodName) prog_69_method_10_code 1 (some (.array .int)) :: ws) ({ frames := 0, cells := 0, slots := 0, locals := 0 } : Room)) (fun as' U => as' = #[(.ref pg)] ∧ Z.Warmed39 U.vm ∧ U.heap = h0) (fun _ _ _ _ _ => True) (fun _ U o U' => ∃ v L, o = .returned v ∧ Q17 Z pg sr h0 n0 v U'.heap L ∧ FrameEnd U o U' L ({ frames := 0, cells := 0, slots := 0, locals := 0 } : Room).cells ({ frames := 0, cells := 0, slots := 0, locals := 0 } : Room).slots) := by
  refine own_body (plainFor_of_name pn17) ?_
  intro p e s m below meth c s₁ hx hby hml hown0 hnm hret hlk hZ X0 e0
  have hown : s.vm.findClass "kithrank/Graph$Page" = some m.cls := hown0
  have N0 := Fr.nil n0
  rw [ef17]
  refine own_st (S' := s₁.setTop (mkF m 1 #[qA pg] [(.ref pg)])) (fun t k => XS.aloadN X0.here hx rfl (hb hby d17_0) rfl rfl k) ?_
  obtain ⟨T101, X101, e101, st101⟩ := getF X0 hx hZ hown (host := "") (Or.inl (own_hw hw (i := 36) rfl)) Via.refl e0 F_pg_target (g := (mkF m 1 #[qA pg] [(.ref pg)])) rfl rfl (hb hby d17_1)
  refine own_st st101 ?_
  show own_Go p.tables e below _ (T101.setTop (mkF m 4 #[qA pg] [(.ref sr)]))
  refine own_retA X101 hx hret rfl rfl rfl hlk (hb hby d17_4) ?_ (by decide) (by decide)
  rw [e101]
  exact ⟨rfl, N0, rfl⟩
theorem d18_0 : decode prog_69_method_11_code 0 = .ok (.aload_n 0, 1) := by decide +kernel
theorem d18_1 : decode prog_69_method_11_code 1 = .ok (.getfield 18, 3) := by decide +kernel
theorem d18_4 : decode prog_69_method_11_code 4 = .ok (.areturn, 1) := by decide +kernel
theorem pn18 : plainName "kithrank/Graph$Page" = true := by first | (simp [plainName, overriddenIn]; done) | decide +kernel
theorem ef18 (m : MethodId) (pg : Addr) : entryFrame m #[(.ref pg)] 1 = mkF m 0 #[.val (.ref pg)] [] := by first | (simp [entryFrame, mkF, argsToLocals, Value.category]; done) | rfl
def Q18 (Z : State) (pg : Addr) (sr : Addr) (h0 : Heap) (n0 : Nat) (v : Option Value) (h : Heap) (L : List Loc) : Prop := v = some (.ref sr) ∧ Fr n0 L ∧ h = h0
set_option maxRecDepth 65536 in
set_option maxHeartbeats 40000000 in
theorem rm18 (l : Launch) (Z : State) (a0 : Array Value) (hw : ∀ d ∈ tables_1, d.before a0 Z = true) (ws : List Jvm.Cond) (pg : Addr) (sr : Addr) (h0 : Heap) (n0 : Nat) (Z0 : n0 ≤ h0.size) (F_pg_weight : Fld Z h0 pg "kithrank/Graph$Page" "weight" "[D" (.ref sr)) :
    MetFree l (⟨"kithrank/Graph$Page", "weight", "()[D"⟩ : MethodName) (head1 (Jvm.Cond.code (⟨"kithrank/Graph$Page", "weight", "()[D"⟩ : MethodName) prog_69_method_11_code 1 (some (.array .double)) :: ws) ({ frames := 0, cells := 0, slots := 0, locals := 0 } : Room)) (fun as' U => as' = #[(.ref pg)] ∧ Z.Warmed39 U.vm ∧ U.heap = h0) (fun _ _ _ _ _ => True) (fun _ U o U' => ∃ v L, o = .returned v ∧ Q18 Z pg sr h0 n0 v U'.heap L ∧ FrameEnd U o U' L ({ frames := 0, cells := 0, slots := 0, locals := 0 } : Room).cells ({ frames := 0, cells := 0, slots := 0, locals := 0 } : Room).slots) := by
  refine own_body (plainFor_of_name pn18) ?_
  intro p e s m below meth c s₁ hx hby hml hown0 hnm hret hlk hZ X0 e0
  have hown : s.vm.findClass "kithrank/Graph$Page" = some m.cls := hown0
  have N0 := Fr.nil n0
  rw [ef18]
  refine own_st (S' := s₁.setTop (mkF m 1 #[qA pg] [(.ref pg)])) (fun t k => XS.aloadN X0.here hx rfl (hb hby d18_0) rfl rfl k) ?_
  obtain ⟨T101, X101, e101, st101⟩ := getF X0 hx hZ hown (host := "") (Or.inl (own_hw hw (i := 38) rfl)) Via.refl e0 F_pg_weight (g := (mkF m 1 #[qA pg] [(.ref pg)])) rfl rfl (hb hby d18_1)
  refine own_st st101 ?_
  show own_Go p.tables e below _ (T101.setTop (mkF m 4 #[qA pg] [(.ref sr)]))
  refine own_retA X101 hx hret rfl rfl rfl hlk (hb hby d18_4) ?_ (by decide) (by decide)
  rw [e101]
  exact ⟨rfl, N0, rfl⟩
theorem d19_0 : decode prog_62_method_3_code 0 = .ok (.aconst_null, 1) := by decide +kernel
theorem d19_1 : decode prog_62_method_3_code 1 = .ok (.astore_n 1, 1) := by decide +kernel
theorem d19_2 : decode prog_62_method_3_code 2 = .ok (.iconst 0, 1) := by decide +kernel
theorem d19_3 : decode prog_62_method_3_code 3 = .ok (.istore_n 2, 1) := by decide +kernel
theorem d19_4 : decode prog_62_method_3_code 4 = .ok (.iload_n 2, 1) := by decide +kernel
theorem d19_5 : decode prog_62_method_3_code 5 = .ok (.aload_n 0, 1) := by decide +kernel
theorem d19_6 : decode prog_62_method_3_code 6 = .ok (.arraylength, 1) := by decide +kernel
theorem d19_7 : decode prog_62_method_3_code 7 = .ok (.if_icmp .ge 41, 3) := by decide +kernel
theorem d19_10 : decode prog_62_method_3_code 10 = .ok (.aload_n 0, 1) := by decide +kernel
theorem d19_11 : decode prog_62_method_3_code 11 = .ok (.iload_n 2, 1) := by decide +kernel
theorem d19_12 : decode prog_62_method_3_code 12 = .ok (.aaload, 1) := by decide +kernel
theorem d19_13 : decode prog_62_method_3_code 13 = .ok (.invokevirtual 61, 3) := by decide +kernel
theorem d19_16 : decode prog_62_method_3_code 16 = .ok (.ifnull 26, 3) := by decide +kernel
theorem d19_42 : decode prog_62_method_3_code 42 = .ok (.iinc 2 1, 3) := by decide +kernel
theorem d19_45 : decode prog_62_method_3_code 45 = .ok (.goto (-41), 3) := by decide +kernel
theorem d19_48 : decode prog_62_method_3_code 48 = .ok (.aload_n 1, 1) := by decide +kernel
theorem d19_49 : decode prog_62_method_3_code 49 = .ok (.areturn, 1) := by decide +kernel
theorem pd19_0 : parseMethodDescriptor "()[Lkithrank/Graph$OwnEdges;" = some ⟨[], some (.array (.object "kithrank/Graph$OwnEdges"))⟩ := by decide +kernel
theorem pn19 : plainName "kithrank/Graph" = true := by first | (simp [plainName, overriddenIn]; done) | decide +kernel
theorem ef19 (m : MethodId) (pa : Addr) : entryFrame m #[(.ref pa)] 3 = mkF m 0 #[.val (.ref pa), .unset, .unset] [] := by first | (simp [entryFrame, mkF, argsToLocals, Value.category]; done) | rfl
def Q19 (Z : State) (pa : Addr) (ad : Nat → Nat → Addr) (sN : Nat → Nat → Nat) (tF : Nat → Nat → Int32) (wF : Nat → Nat → UInt64) (h0 : Heap) (n0 : Nat) (v : Option Value) (h : Heap) (L : List Loc) : Prop := v = some .null ∧ Fr n0 L ∧ h = h0
set_option maxRecDepth 65536 in
set_option maxHeartbeats 40000000 in
theorem rm19 (l : Launch) (Z : State) (a0 : Array Value) (hw : ∀ d ∈ tables_1, d.before a0 Z = true) (ws : List Jvm.Cond) (pa : Addr) (ad : Nat → Nat → Addr) (sN : Nat → Nat → Nat) (tF : Nat → Nat → Int32) (wF : Nat → Nat → UInt64) (h0 : Heap) (n0 : Nat) (Z0 : n0 ≤ h0.size) (P__ : own_P Z h0 3 ad sN tF wF) (A_pa : own_A Z h0 pa (.object "kithrank/Graph$Page") 3 (own_Rf (ad 0))) :
    MetFree l (⟨"kithrank/Graph", "apartOf", "([Lkithrank/Graph$Page;)[[Lkithrank/Graph$OwnEdges;"⟩ : MethodName) (head1 (Jvm.Cond.code (⟨"kithrank/Graph", "apartOf", "([Lkithrank/Graph$Page;)[[Lkithrank/Graph$OwnEdges;"⟩ : MethodName) prog_62_method_3_code 3 (some (.array (.array (.object "kithrank/Graph$OwnEdges")))) :: ws) ({ frames := 1, cells := 0, slots := 0, locals := 12 } : Room)) (fun as' U => as' = #[(.ref pa)] ∧ Z.Warmed39 U.vm ∧ U.heap = h0) (fun _ _ _ _ _ => True) (fun _ U o U' => ∃ v L, o = .returned v ∧ Q19 Z pa ad sN tF wF h0 n0 v U'.heap L ∧ FrameEnd U o U' L ({ frames := 1, cells := 0, slots := 0, locals := 12 } : Room).cells ({ frames := 1, cells := 0, slots := 0, locals := 12 } : Room).slots) := by
  refine own_body (plainFor_of_name pn19) ?_
  intro p e s m below meth c s₁ hx hby hml hown0 hnm hret hlk hZ X0 e0
  have hown : s.vm.findClass "kithrank/Graph" = some m.cls := hown0
  have N0 := Fr.nil n0
  rw [ef19]
  have O101 := A_pa
  obtain ⟨c101, Ar101, S101, M101, V101⟩ := O101
  have ln101 : c101.slots.size.toInt32 = (3 : Int32) := by rw [S101]; try (first | rfl | decide | exact rfl)
  refine own_st (S' := s₁.setTop (mkF m 10 #[qA pa, .val .null, qI (0 : Int32)] [])) (fun t k => XS.aconstNull X0.here hx rfl (hb hby d19_0) (XS.astoreN X0.here hx rfl (hb hby d19_1) rfl rfl (l' := #[qA pa, .val .null, qU]) rfl (XS.iconst X0.here hx rfl (hb hby d19_2) (XS.istoreN X0.here hx rfl (hb hby d19_3) rfl (l' := #[qA pa, .val .null, qI (0 : Int32)]) rfl (XS.iloadN X0.here hx rfl (hb hby d19_4) rfl (XS.aloadN X0.here hx rfl (hb hby d19_5) rfl rfl (X0.arraylength hx (by rw [e0]; exact Ar101.1) (State.isArrayOf_alike hZ.alike Ar101.2.1) (g := (mkF m 6 #[qA pa, .val .null, qI (0 : Int32)] [(.ref pa), (.int (0 : Int32))])) rfl rfl (hb hby d19_6) _ (by rw [ln101]; exact (XS.icmpNo X0.here hx rfl (hb hby d19_7) rfl (tlt (by decide)).2.1 k))))))))) ?_
  have O102 := A_pa
  obtain ⟨c102, Ar102, S102, M102, V102⟩ := O102
  have at102 : c102.slots[((0 : Int32)).toNatClampNeg]? = some (.ref (ad 0 0)) := own_at S102 V102 (own_ix (j := (0 : Int32)) (i := 0) (n := 3) (by decide) (by decide) (by decide)) rfl
  refine own_st (S' := s₁.setTop (mkF m 13 #[qA pa, .val .null, qI (0 : Int32)] [(.ref (ad 0 0))])) (fun t k => XS.aloadN X0.here hx rfl (hb hby d19_10) rfl rfl (XS.iloadN X0.here hx rfl (hb hby d19_11) rfl (X0.aaload hx (j := (0 : Int32)) (v := (.ref (ad 0 0))) (by rw [e0]; exact Ar102.1) (State.isArrayOf_alike hZ.alike Ar102.2.1) rfl Ar102.2.2 (own_in S102 (own_ix (j := (0 : Int32)) (i := 0) (n := 3) (by decide) (by decide) (by decide))) at102 (g := (mkF m 12 #[qA pa, .val .null, qI (0 : Int32)] [(.int (0 : Int32)), (.ref pa)])) rfl rfl (hb hby d19_12) _ k))) ?_
  obtain ⟨cq103, kq103, q103a, q103b, q103c⟩ := isOf hZ e0 (P__ 0 (by decide)).1
  obtain ⟨_, _, ⟨T103, L103, k103, n103⟩, -, X103, ⟨Lc103, hQ103, l103, y103, z103⟩, st103⟩ := X0.virtualBack hx (y := (⟨"kithrank/Graph$Page", "apart", "()[Lkithrank/Graph$OwnEdges;"⟩ : MethodName)) (z := (⟨"kithrank/Graph$Page", "apart", "()[Lkithrank/Graph$OwnEdges;"⟩ : MethodName)) hown (mvT hZ (own_hw hw (i := 122) rfl)) (mvT hZ (own_hw hw (i := 123) rfl)) (notFace_of_selects (args := #[]) (mvT hZ (own_hw hw (i := 125) rfl))) (mvT hZ (own_hw hw (i := 125) rfl)) (mvT hZ (own_hw hw (i := 124) rfl)) (by decide) (backOf (W := 0) (rm15 l Z a0 hw [] (ad 0 0) h0 n0 Z0 (P__ 0 (by decide)).2.2.2.2.2.2.2.1) hZ (own_hw hw (i := 126) rfl) (own_hw hw (i := 23) rfl) (by decide) (by decide)) q103a q103c (g := (mkF m 13 #[qA pa, .val .null, qI (0 : Int32)] [(.ref (ad 0 0))])) rfl (by rw [hml]; rfl) (Steps.refl _) (argsL := []) (rest := []) (lenOf pd19_0 rfl) rfl (by show 2 * 0 + _ ≤ _; exact Nat.le_of_eq rfl) (hb hby d19_13) (fun _ _ => ⟨rfl, e0, (by decide : 0 + 0 ≤ _), (by decide : 0 + 0 ≤ _)⟩)
  dsimp only [Pt.U, Pt.locs, Pt.cells, Pt.slots] at X103 l103 y103 z103 st103 hQ103
  rw [l103, y103, z103] at X103
  obtain ⟨rfl, N103q, hh103⟩ := hQ103
  have N103 := Fr.app N0 N103q
  refine own_tr st103 ?_
  have O104 := A_pa
  obtain ⟨c104, Ar104, S104, M104, V104⟩ := O104
  have ln104 : c104.slots.size.toInt32 = (3 : Int32) := by rw [S104]; try (first | rfl | decide | exact rfl)
  refine own_st (S' := T103.setTop (mkF m 11 #[qA pa, .val .null, qI (1 : Int32)] [(.ref pa)])) (fun t k => XS.ifnullYes X103.here hx rfl (pc0 := 16) (pc' := 42) rfl (hb hby d19_16) rfl (by decide) (by decide) (XS.iinc X103.here hx rfl (hb hby d19_42) rfl (l' := #[qA pa, .val .null, qI (1 : Int32)]) rfl (XS.goto X103.here hx rfl (pc0 := 45) (pc' := 4) rfl (hb hby d19_45) (by decide) (by decide) (XS.iloadN X103.here hx rfl (hb hby d19_4) rfl (XS.aloadN X103.here hx rfl (hb hby d19_5) rfl rfl (X103.arraylength hx (by rw [hh103]; exact Ar104.1) (State.isArrayOf_alike hZ.alike Ar104.2.1) (g := (mkF m 6 #[qA pa, .val .null, qI (1 : Int32)] [(.ref pa), (.int (1 : Int32))])) rfl rfl (hb hby d19_6) _ (by rw [ln104]; exact (XS.icmpNo X103.here hx rfl (hb hby d19_7) rfl (tlt (by decide)).2.1 (XS.aloadN X103.here hx rfl (hb hby d19_10) rfl rfl k))))))))) ?_
  have O105 := A_pa
  obtain ⟨c105, Ar105, S105, M105, V105⟩ := O105
  have at105 : c105.slots[((1 : Int32)).toNatClampNeg]? = some (.ref (ad 0 1)) := own_at S105 V105 (own_ix (j := (1 : Int32)) (i := 1) (n := 3) (by decide) (by decide) (by decide)) rfl
  refine own_st (S' := T103.setTop (mkF m 13 #[qA pa, .val .null, qI (1 : Int32)] [(.ref (ad 0 1))])) (fun t k => XS.iloadN X103.here hx rfl (hb hby d19_11) rfl (X103.aaload hx (j := (1 : Int32)) (v := (.ref (ad 0 1))) (by rw [hh103]; exact Ar105.1) (State.isArrayOf_alike hZ.alike Ar105.2.1) rfl Ar105.2.2 (own_in S105 (own_ix (j := (1 : Int32)) (i := 1) (n := 3) (by decide) (by decide) (by decide))) at105 (g := (mkF m 12 #[qA pa, .val .null, qI (1 : Int32)] [(.int (1 : Int32)), (.ref pa)])) rfl rfl (hb hby d19_12) _ k)) ?_
  obtain ⟨cq106, kq106, q106a, q106b, q106c⟩ := isOf hZ hh103 (P__ 1 (by decide)).1
  obtain ⟨_, _, ⟨T106, L106, k106, n106⟩, -, X106, ⟨Lc106, hQ106, l106, y106, z106⟩, st106⟩ := X103.virtualBack hx (y := (⟨"kithrank/Graph$Page", "apart", "()[Lkithrank/Graph$OwnEdges;"⟩ : MethodName)) (z := (⟨"kithrank/Graph$Page", "apart", "()[Lkithrank/Graph$OwnEdges;"⟩ : MethodName)) hown (mvT hZ (own_hw hw (i := 122) rfl)) (mvT hZ (own_hw hw (i := 123) rfl)) (notFace_of_selects (args := #[]) (mvT hZ (own_hw hw (i := 125) rfl))) (mvT hZ (own_hw hw (i := 125) rfl)) (mvT hZ (own_hw hw (i := 124) rfl)) (by decide) (backOf (W := 0) (rm15 l Z a0 hw [] (ad 0 1) h0 n0 Z0 (P__ 1 (by decide)).2.2.2.2.2.2.2.1) hZ (own_hw hw (i := 126) rfl) (own_hw hw (i := 23) rfl) (by decide) (by decide)) q106a q106c (g := (mkF m 13 #[qA pa, .val .null, qI (1 : Int32)] [(.ref (ad 0 1))])) rfl (by rw [hml]; rfl) (Steps.refl _) (argsL := []) (rest := []) (lenOf pd19_0 rfl) rfl (by show 2 * 0 + _ ≤ _; exact Nat.le_of_eq rfl) (hb hby d19_13) (fun _ _ => ⟨rfl, hh103, (by decide : 0 + 0 ≤ _), (by decide : 0 + 0 ≤ _)⟩)
  dsimp only [Pt.U, Pt.locs, Pt.cells, Pt.slots] at X106 l106 y106 z106 st106 hQ106
  rw [l106, y106, z106] at X106
  obtain ⟨rfl, N106q, hh106⟩ := hQ106
  have N106 := Fr.app N103 N106q
  refine own_tr st106 ?_
  have O107 := A_pa
  obtain ⟨c107, Ar107, S107, M107, V107⟩ := O107
  have ln107 : c107.slots.size.toInt32 = (3 : Int32) := by rw [S107]; try (first | rfl | decide | exact rfl)
  refine own_st (S' := T106.setTop (mkF m 11 #[qA pa, .val .null, qI (2 : Int32)] [(.ref pa)])) (fun t k => XS.ifnullYes X106.here hx rfl (pc0 := 16) (pc' := 42) rfl (hb hby d19_16) rfl (by decide) (by decide) (XS.iinc X106.here hx rfl (hb hby d19_42) rfl (l' := #[qA pa, .val .null, qI (2 : Int32)]) rfl (XS.goto X106.here hx rfl (pc0 := 45) (pc' := 4) rfl (hb hby d19_45) (by decide) (by decide) (XS.iloadN X106.here hx rfl (hb hby d19_4) rfl (XS.aloadN X106.here hx rfl (hb hby d19_5) rfl rfl (X106.arraylength hx (by rw [hh106]; exact Ar107.1) (State.isArrayOf_alike hZ.alike Ar107.2.1) (g := (mkF m 6 #[qA pa, .val .null, qI (2 : Int32)] [(.ref pa), (.int (2 : Int32))])) rfl rfl (hb hby d19_6) _ (by rw [ln107]; exact (XS.icmpNo X106.here hx rfl (hb hby d19_7) rfl (tlt (by decide)).2.1 (XS.aloadN X106.here hx rfl (hb hby d19_10) rfl rfl k))))))))) ?_
  have O108 := A_pa
  obtain ⟨c108, Ar108, S108, M108, V108⟩ := O108
  have at108 : c108.slots[((2 : Int32)).toNatClampNeg]? = some (.ref (ad 0 2)) := own_at S108 V108 (own_ix (j := (2 : Int32)) (i := 2) (n := 3) (by decide) (by decide) (by decide)) rfl
  refine own_st (S' := T106.setTop (mkF m 13 #[qA pa, .val .null, qI (2 : Int32)] [(.ref (ad 0 2))])) (fun t k => XS.iloadN X106.here hx rfl (hb hby d19_11) rfl (X106.aaload hx (j := (2 : Int32)) (v := (.ref (ad 0 2))) (by rw [hh106]; exact Ar108.1) (State.isArrayOf_alike hZ.alike Ar108.2.1) rfl Ar108.2.2 (own_in S108 (own_ix (j := (2 : Int32)) (i := 2) (n := 3) (by decide) (by decide) (by decide))) at108 (g := (mkF m 12 #[qA pa, .val .null, qI (2 : Int32)] [(.int (2 : Int32)), (.ref pa)])) rfl rfl (hb hby d19_12) _ k)) ?_
  obtain ⟨cq109, kq109, q109a, q109b, q109c⟩ := isOf hZ hh106 (P__ 2 (by decide)).1
  obtain ⟨_, _, ⟨T109, L109, k109, n109⟩, -, X109, ⟨Lc109, hQ109, l109, y109, z109⟩, st109⟩ := X106.virtualBack hx (y := (⟨"kithrank/Graph$Page", "apart", "()[Lkithrank/Graph$OwnEdges;"⟩ : MethodName)) (z := (⟨"kithrank/Graph$Page", "apart", "()[Lkithrank/Graph$OwnEdges;"⟩ : MethodName)) hown (mvT hZ (own_hw hw (i := 122) rfl)) (mvT hZ (own_hw hw (i := 123) rfl)) (notFace_of_selects (args := #[]) (mvT hZ (own_hw hw (i := 125) rfl))) (mvT hZ (own_hw hw (i := 125) rfl)) (mvT hZ (own_hw hw (i := 124) rfl)) (by decide) (backOf (W := 0) (rm15 l Z a0 hw [] (ad 0 2) h0 n0 Z0 (P__ 2 (by decide)).2.2.2.2.2.2.2.1) hZ (own_hw hw (i := 126) rfl) (own_hw hw (i := 23) rfl) (by decide) (by decide)) q109a q109c (g := (mkF m 13 #[qA pa, .val .null, qI (2 : Int32)] [(.ref (ad 0 2))])) rfl (by rw [hml]; rfl) (Steps.refl _) (argsL := []) (rest := []) (lenOf pd19_0 rfl) rfl (by show 2 * 0 + _ ≤ _; exact Nat.le_of_eq rfl) (hb hby d19_13) (fun _ _ => ⟨rfl, hh106, (by decide : 0 + 0 ≤ _), (by decide : 0 + 0 ≤ _)⟩)
  dsimp only [Pt.U, Pt.locs, Pt.cells, Pt.slots] at X109 l109 y109 z109 st109 hQ109
  rw [l109, y109, z109] at X109
  obtain ⟨rfl, N109q, hh109⟩ := hQ109
  have N109 := Fr.app N106 N109q
  refine own_tr st109 ?_
  have O110 := A_pa
  obtain ⟨c110, Ar110, S110, M110, V110⟩ := O110
  have ln110 : c110.slots.size.toInt32 = (3 : Int32) := by rw [S110]; try (first | rfl | decide | exact rfl)
  refine own_st (S' := T109.setTop (mkF m 49 #[qA pa, .val .null, qI (3 : Int32)] [.null])) (fun t k => XS.ifnullYes X109.here hx rfl (pc0 := 16) (pc' := 42) rfl (hb hby d19_16) rfl (by decide) (by decide) (XS.iinc X109.here hx rfl (hb hby d19_42) rfl (l' := #[qA pa, .val .null, qI (3 : Int32)]) rfl (XS.goto X109.here hx rfl (pc0 := 45) (pc' := 4) rfl (hb hby d19_45) (by decide) (by decide) (XS.iloadN X109.here hx rfl (hb hby d19_4) rfl (XS.aloadN X109.here hx rfl (hb hby d19_5) rfl rfl (X109.arraylength hx (by rw [hh109]; exact Ar110.1) (State.isArrayOf_alike hZ.alike Ar110.2.1) (g := (mkF m 6 #[qA pa, .val .null, qI (3 : Int32)] [(.ref pa), (.int (3 : Int32))])) rfl rfl (hb hby d19_6) _ (by rw [ln110]; exact (XS.icmpYes X109.here hx rfl (pc0 := 7) (pc' := 48) rfl (hb hby d19_7) rfl (flt (by decide)).2.1 (by decide) (by decide) (XS.aloadN X109.here hx rfl (hb hby d19_48) rfl rfl k))))))))) ?_
  refine own_retA X109 hx hret rfl rfl rfl hlk (hb hby d19_49) ?_ (by decide) (by decide)
  rw [hh109]
  exact ⟨rfl, N109, rfl⟩
theorem d20_0 : decode prog_62_method_1_code 0 = .ok (.aload_n 0, 1) := by decide +kernel
theorem d20_1 : decode prog_62_method_1_code 1 = .ok (.invokespecial 5, 3) := by decide +kernel
theorem d20_4 : decode prog_62_method_1_code 4 = .ok (.aload_n 0, 1) := by decide +kernel
theorem d20_5 : decode prog_62_method_1_code 5 = .ok (.aload_n 1, 1) := by decide +kernel
theorem d20_6 : decode prog_62_method_1_code 6 = .ok (.putfield 11, 3) := by decide +kernel
theorem d20_9 : decode prog_62_method_1_code 9 = .ok (.aload_n 0, 1) := by decide +kernel
theorem d20_10 : decode prog_62_method_1_code 10 = .ok (.aload_n 2, 1) := by decide +kernel
theorem d20_11 : decode prog_62_method_1_code 11 = .ok (.putfield 15, 3) := by decide +kernel
theorem d20_14 : decode prog_62_method_1_code 14 = .ok (.aload_n 0, 1) := by decide +kernel
theorem d20_15 : decode prog_62_method_1_code 15 = .ok (.aload_n 3, 1) := by decide +kernel
theorem d20_16 : decode prog_62_method_1_code 16 = .ok (.putfield 18, 3) := by decide +kernel
theorem d20_19 : decode prog_62_method_1_code 19 = .ok (.aload_n 0, 1) := by decide +kernel
theorem d20_20 : decode prog_62_method_1_code 20 = .ok (.aload 4, 2) := by decide +kernel
theorem d20_22 : decode prog_62_method_1_code 22 = .ok (.putfield 22, 3) := by decide +kernel
theorem d20_25 : decode prog_62_method_1_code 25 = .ok (.aload_n 0, 1) := by decide +kernel
theorem d20_26 : decode prog_62_method_1_code 26 = .ok (.iload 5, 2) := by decide +kernel
theorem d20_28 : decode prog_62_method_1_code 28 = .ok (.putfield 26, 3) := by decide +kernel
theorem d20_31 : decode prog_62_method_1_code 31 = .ok (.aload_n 0, 1) := by decide +kernel
theorem d20_32 : decode prog_62_method_1_code 32 = .ok (.iload 6, 2) := by decide +kernel
theorem d20_34 : decode prog_62_method_1_code 34 = .ok (.putfield 30, 3) := by decide +kernel
theorem d20_37 : decode prog_62_method_1_code 37 = .ok (.aload_n 0, 1) := by decide +kernel
theorem d20_38 : decode prog_62_method_1_code 38 = .ok (.lload 7, 2) := by decide +kernel
theorem d20_40 : decode prog_62_method_1_code 40 = .ok (.putfield 33, 3) := by decide +kernel
theorem d20_43 : decode prog_62_method_1_code 43 = .ok (.return_, 1) := by decide +kernel
theorem pn20 : plainName "kithrank/Graph" = true := by first | (simp [plainName, overriddenIn]; done) | decide +kernel
theorem ef20 (m : MethodId) (gr : Addr) (sa : Addr) (ta : Addr) (wa : Addr) (x5 : Int32) (x6 : Int32) (x7 : Int64) : entryFrame m #[(.ref gr), (.ref sa), (.ref ta), (.ref wa), .null, (.int x5), (.int x6), (.long x7)] 9 = mkF m 0 #[.val (.ref gr), .val (.ref sa), .val (.ref ta), .val (.ref wa), .val .null, .val (.int x5), .val (.int x6), .val (.long x7), .second] [] := by first | (simp [entryFrame, mkF, argsToLocals, Value.category]; done) | rfl
def Q20 (Z : State) (gr : Addr) (sa : Addr) (ta : Addr) (wa : Addr) (x5 : Int32) (x6 : Int32) (x7 : Int64) (h0 : Heap) (n0 : Nat) (v : Option Value) (h : Heap) (L : List Loc) : Prop := v = none ∧ Fr n0 L ∧ Keep h0 h [gr] ∧ Fld Z h gr "kithrank/Graph" "starts" "[[I" (.ref sa) ∧ Fld Z h gr "kithrank/Graph" "targets" "[[I" (.ref ta) ∧ Fld Z h gr "kithrank/Graph" "weights" "[[D" (.ref wa) ∧ Fld Z h gr "kithrank/Graph" "apart" "[[Lkithrank/Graph$OwnEdges;" .null
set_option maxRecDepth 65536 in
set_option maxHeartbeats 40000000 in
theorem rm20 (l : Launch) (Z : State) (a0 : Array Value) (hw : ∀ d ∈ tables_1, d.before a0 Z = true) (ws : List Jvm.Cond) (gr : Addr) (sa : Addr) (ta : Addr) (wa : Addr) (x5 : Int32) (x6 : Int32) (x7 : Int64) (h0 : Heap) (n0 : Nat) (Z0 : n0 ≤ h0.size) (E_gr : Exa Z h0 gr "kithrank/Graph") (F_gr_starts : Fld Z h0 gr "kithrank/Graph" "starts" "[[I" .null) (F_gr_targets : Fld Z h0 gr "kithrank/Graph" "targets" "[[I" .null) (F_gr_weights : Fld Z h0 gr "kithrank/Graph" "weights" "[[D" .null) (F_gr_apart : Fld Z h0 gr "kithrank/Graph" "apart" "[[Lkithrank/Graph$OwnEdges;" .null) (F_gr_userCount : Fld Z h0 gr "kithrank/Graph" "userCount" "I" (.int (0 : Int32))) (F_gr_edgeCount : Fld Z h0 gr "kithrank/Graph" "edgeCount" "I" (.int (0 : Int32))) (F_gr_lightEntries : Fld Z h0 gr "kithrank/Graph" "lightEntries" "J" (.long (0 : Int64))) (G_gr : n0 ≤ gr) :
    MetFree l (⟨"kithrank/Graph", "<init>", "([[I[[I[[D[[Lkithrank/Graph$OwnEdges;IIJ)V"⟩ : MethodName) (head1 (Jvm.Cond.code (⟨"kithrank/Graph", "<init>", "([[I[[I[[D[[Lkithrank/Graph$OwnEdges;IIJ)V"⟩ : MethodName) prog_62_method_1_code 9 none :: ws) ({ frames := 1, cells := 0, slots := 0, locals := 12 } : Room)) (fun as' U => as' = #[(.ref gr), (.ref sa), (.ref ta), (.ref wa), .null, (.int x5), (.int x6), (.long x7)] ∧ Z.Warmed39 U.vm ∧ U.heap = h0) (fun _ _ _ _ _ => True) (fun _ U o U' => ∃ v L, o = .returned v ∧ Q20 Z gr sa ta wa x5 x6 x7 h0 n0 v U'.heap L ∧ FrameEnd U o U' L ({ frames := 1, cells := 0, slots := 0, locals := 12 } : Room).cells ({ frames := 1, cells := 0, slots := 0, locals := 12 } : Room).slots) := by
  refine own_body (plainFor_of_name pn20) ?_
  intro p e s m below meth c s₁ hx hby hml hown0 hnm hret hlk hZ X0 e0
  have hown : s.vm.findClass "kithrank/Graph" = some m.cls := hown0
  have N0 := Fr.nil n0
  rw [ef20]
  have K0 : Keep h0 h0 [gr] := Keep.refl h0 [gr]
  refine own_st (S' := s₁.setTop (mkF m 1 #[qA gr, qA sa, qA ta, qA wa, .val .null, qI x5, qI x6, qL x7, qZ] [(.ref gr)])) (fun t k => XS.aloadN X0.here hx rfl (hb hby d20_0) rfl rfl k) ?_
  obtain ⟨T101, X101, e101, st101⟩ := initO X0 hx hZ hown (own_hw hw (i := 130) rfl) (own_hw hw (i := 10) rfl) (own_hw hw (i := 11) rfl) e0 (g := (mkF m 1 #[qA gr, qA sa, qA ta, qA wa, .val .null, qI x5, qI x6, qL x7, qZ] [(.ref gr)])) rfl (by rw [hml]; rfl) rfl (hb hby d20_1) (by decide) (W := 0) (by show 2 * 0 + _ ≤ _; exact Nat.le_of_eq rfl) (by decide)
  refine own_st st101 ?_
  refine own_st (S' := T101.setTop (mkF m 6 #[qA gr, qA sa, qA ta, qA wa, .val .null, qI x5, qI x6, qL x7, qZ] [(.ref sa), (.ref gr)])) (fun t k => XS.aloadN X101.here hx rfl (hb hby d20_4) rfl rfl (XS.aloadN X101.here hx rfl (hb hby d20_5) rfl rfl k)) ?_
  obtain ⟨T102, h102, X102, e102, W102, st102⟩ := putF X101 hx hZ hown (host := "") (Or.inl (own_hw hw (i := 131) rfl)) Via.refl e101 F_gr_starts E_gr (Or.inr ⟨(own_hw hw (i := 132) rfl), rfl, hnm⟩) (own_hw hw (i := 110) rfl) (ty := (.array (.array .int))) (by decide) rfl rfl (g := (mkF m 6 #[qA gr, qA sa, qA ta, qA wa, .val .null, qI x5, qI x6, qL x7, qZ] [(.ref sa), (.ref gr)])) rfl rfl (hb hby d20_6)
  refine own_st st102 ?_
  have f103 := E_gr.wr W102
  have f104 := F_gr_targets.other W102 (Or.inr (slot_ne (Or.inr (own_hw hw (i := 134) rfl)) (Or.inr (own_hw hw (i := 132) rfl)) (by decide) (t := (.array (.array .int))) (t' := (.array (.array .int))) (by decide) (by decide)))
  have f105 := F_gr_weights.other W102 (Or.inr (slot_ne (Or.inr (own_hw hw (i := 136) rfl)) (Or.inr (own_hw hw (i := 132) rfl)) (by decide) (t := (.array (.array .double))) (t' := (.array (.array .int))) (by decide) (by decide)))
  have f106 := F_gr_apart.other W102 (Or.inr (slot_ne (Or.inr (own_hw hw (i := 138) rfl)) (Or.inr (own_hw hw (i := 132) rfl)) (by decide) (t := (.array (.array (.object "kithrank/Graph$OwnEdges")))) (t' := (.array (.array .int))) (by decide) (by decide)))
  have f107 := F_gr_userCount.other W102 (Or.inr (slot_ne (Or.inr (own_hw hw (i := 140) rfl)) (Or.inr (own_hw hw (i := 132) rfl)) (by decide) (t := .int) (t' := (.array (.array .int))) (by decide) (by decide)))
  have f108 := F_gr_edgeCount.other W102 (Or.inr (slot_ne (Or.inr (own_hw hw (i := 142) rfl)) (Or.inr (own_hw hw (i := 132) rfl)) (by decide) (t := .int) (t' := (.array (.array .int))) (by decide) (by decide)))
  have f109 := F_gr_lightEntries.other W102 (Or.inr (slot_ne (Or.inr (own_hw hw (i := 144) rfl)) (Or.inr (own_hw hw (i := 132) rfl)) (by decide) (t := .long) (t' := (.array (.array .int))) (by decide) (by decide)))
  have Z102 : n0 ≤ h102.size := Nat.le_trans Z0 (Keep.of_wr W102).1
  have N102 := Fr.snoc X102 N0 G_gr
  have K102 : Keep h0 h102 [gr] := K0.wr W102 (Or.inl (List.mem_of_getElem? (i := 0) rfl))
  have f110 : Fld Z h102 gr "kithrank/Graph" "starts" "[[I" (.ref sa) := F_gr_starts.same W102
  refine own_st (S' := T102.setTop (mkF m 11 #[qA gr, qA sa, qA ta, qA wa, .val .null, qI x5, qI x6, qL x7, qZ] [(.ref ta), (.ref gr)])) (fun t k => XS.aloadN X102.here hx rfl (hb hby d20_9) rfl rfl (XS.aloadN X102.here hx rfl (hb hby d20_10) rfl rfl k)) ?_
  obtain ⟨T111, h111, X111, e111, W111, st111⟩ := putF X102 hx hZ hown (host := "") (Or.inl (own_hw hw (i := 133) rfl)) Via.refl e102 f104 f103 (Or.inr ⟨(own_hw hw (i := 134) rfl), rfl, hnm⟩) (own_hw hw (i := 110) rfl) (ty := (.array (.array .int))) (by decide) rfl rfl (g := (mkF m 11 #[qA gr, qA sa, qA ta, qA wa, .val .null, qI x5, qI x6, qL x7, qZ] [(.ref ta), (.ref gr)])) rfl rfl (hb hby d20_11)
  refine own_st st111 ?_
  have f112 := f103.wr W111
  have f113 := f110.other W111 (Or.inr (slot_ne (Or.inr (own_hw hw (i := 132) rfl)) (Or.inr (own_hw hw (i := 134) rfl)) (by decide) (t := (.array (.array .int))) (t' := (.array (.array .int))) (by decide) (by decide)))
  have f114 := f105.other W111 (Or.inr (slot_ne (Or.inr (own_hw hw (i := 136) rfl)) (Or.inr (own_hw hw (i := 134) rfl)) (by decide) (t := (.array (.array .double))) (t' := (.array (.array .int))) (by decide) (by decide)))
  have f115 := f106.other W111 (Or.inr (slot_ne (Or.inr (own_hw hw (i := 138) rfl)) (Or.inr (own_hw hw (i := 134) rfl)) (by decide) (t := (.array (.array (.object "kithrank/Graph$OwnEdges")))) (t' := (.array (.array .int))) (by decide) (by decide)))
  have f116 := f107.other W111 (Or.inr (slot_ne (Or.inr (own_hw hw (i := 140) rfl)) (Or.inr (own_hw hw (i := 134) rfl)) (by decide) (t := .int) (t' := (.array (.array .int))) (by decide) (by decide)))
  have f117 := f108.other W111 (Or.inr (slot_ne (Or.inr (own_hw hw (i := 142) rfl)) (Or.inr (own_hw hw (i := 134) rfl)) (by decide) (t := .int) (t' := (.array (.array .int))) (by decide) (by decide)))
  have f118 := f109.other W111 (Or.inr (slot_ne (Or.inr (own_hw hw (i := 144) rfl)) (Or.inr (own_hw hw (i := 134) rfl)) (by decide) (t := .long) (t' := (.array (.array .int))) (by decide) (by decide)))
  have Z111 : n0 ≤ h111.size := Nat.le_trans Z102 (Keep.of_wr W111).1
  have N111 := Fr.snoc X111 N102 G_gr
  have K111 : Keep h0 h111 [gr] := K102.wr W111 (Or.inl (List.mem_of_getElem? (i := 0) rfl))
  have f119 : Fld Z h111 gr "kithrank/Graph" "targets" "[[I" (.ref ta) := f104.same W111
  refine own_st (S' := T111.setTop (mkF m 16 #[qA gr, qA sa, qA ta, qA wa, .val .null, qI x5, qI x6, qL x7, qZ] [(.ref wa), (.ref gr)])) (fun t k => XS.aloadN X111.here hx rfl (hb hby d20_14) rfl rfl (XS.aloadN X111.here hx rfl (hb hby d20_15) rfl rfl k)) ?_
  obtain ⟨T120, h120, X120, e120, W120, st120⟩ := putF X111 hx hZ hown (host := "") (Or.inl (own_hw hw (i := 135) rfl)) Via.refl e111 f114 f112 (Or.inr ⟨(own_hw hw (i := 136) rfl), rfl, hnm⟩) (own_hw hw (i := 110) rfl) (ty := (.array (.array .double))) (by decide) rfl rfl (g := (mkF m 16 #[qA gr, qA sa, qA ta, qA wa, .val .null, qI x5, qI x6, qL x7, qZ] [(.ref wa), (.ref gr)])) rfl rfl (hb hby d20_16)
  refine own_st st120 ?_
  have f121 := f112.wr W120
  have f122 := f113.other W120 (Or.inr (slot_ne (Or.inr (own_hw hw (i := 132) rfl)) (Or.inr (own_hw hw (i := 136) rfl)) (by decide) (t := (.array (.array .int))) (t' := (.array (.array .double))) (by decide) (by decide)))
  have f123 := f119.other W120 (Or.inr (slot_ne (Or.inr (own_hw hw (i := 134) rfl)) (Or.inr (own_hw hw (i := 136) rfl)) (by decide) (t := (.array (.array .int))) (t' := (.array (.array .double))) (by decide) (by decide)))
  have f124 := f115.other W120 (Or.inr (slot_ne (Or.inr (own_hw hw (i := 138) rfl)) (Or.inr (own_hw hw (i := 136) rfl)) (by decide) (t := (.array (.array (.object "kithrank/Graph$OwnEdges")))) (t' := (.array (.array .double))) (by decide) (by decide)))
  have f125 := f116.other W120 (Or.inr (slot_ne (Or.inr (own_hw hw (i := 140) rfl)) (Or.inr (own_hw hw (i := 136) rfl)) (by decide) (t := .int) (t' := (.array (.array .double))) (by decide) (by decide)))
  have f126 := f117.other W120 (Or.inr (slot_ne (Or.inr (own_hw hw (i := 142) rfl)) (Or.inr (own_hw hw (i := 136) rfl)) (by decide) (t := .int) (t' := (.array (.array .double))) (by decide) (by decide)))
  have f127 := f118.other W120 (Or.inr (slot_ne (Or.inr (own_hw hw (i := 144) rfl)) (Or.inr (own_hw hw (i := 136) rfl)) (by decide) (t := .long) (t' := (.array (.array .double))) (by decide) (by decide)))
  have Z120 : n0 ≤ h120.size := Nat.le_trans Z111 (Keep.of_wr W120).1
  have N120 := Fr.snoc X120 N111 G_gr
  have K120 : Keep h0 h120 [gr] := K111.wr W120 (Or.inl (List.mem_of_getElem? (i := 0) rfl))
  have f128 : Fld Z h120 gr "kithrank/Graph" "weights" "[[D" (.ref wa) := f114.same W120
  refine own_st (S' := T120.setTop (mkF m 22 #[qA gr, qA sa, qA ta, qA wa, .val .null, qI x5, qI x6, qL x7, qZ] [.null, (.ref gr)])) (fun t k => XS.aloadN X120.here hx rfl (hb hby d20_19) rfl rfl (XS.aload X120.here hx rfl (hb hby d20_20) rfl rfl k)) ?_
  obtain ⟨T129, h129, X129, e129, W129, st129⟩ := putF X120 hx hZ hown (host := "") (Or.inl (own_hw hw (i := 137) rfl)) Via.refl e120 f124 f121 (Or.inr ⟨(own_hw hw (i := 138) rfl), rfl, hnm⟩) (own_hw hw (i := 110) rfl) (ty := (.array (.array (.object "kithrank/Graph$OwnEdges")))) (by decide) rfl rfl (g := (mkF m 22 #[qA gr, qA sa, qA ta, qA wa, .val .null, qI x5, qI x6, qL x7, qZ] [.null, (.ref gr)])) rfl rfl (hb hby d20_22)
  refine own_st st129 ?_
  have f130 := f121.wr W129
  have f131 := f122.other W129 (Or.inr (slot_ne (Or.inr (own_hw hw (i := 132) rfl)) (Or.inr (own_hw hw (i := 138) rfl)) (by decide) (t := (.array (.array .int))) (t' := (.array (.array (.object "kithrank/Graph$OwnEdges")))) (by decide) (by decide)))
  have f132 := f123.other W129 (Or.inr (slot_ne (Or.inr (own_hw hw (i := 134) rfl)) (Or.inr (own_hw hw (i := 138) rfl)) (by decide) (t := (.array (.array .int))) (t' := (.array (.array (.object "kithrank/Graph$OwnEdges")))) (by decide) (by decide)))
  have f133 := f128.other W129 (Or.inr (slot_ne (Or.inr (own_hw hw (i := 136) rfl)) (Or.inr (own_hw hw (i := 138) rfl)) (by decide) (t := (.array (.array .double))) (t' := (.array (.array (.object "kithrank/Graph$OwnEdges")))) (by decide) (by decide)))
  have f134 := f125.other W129 (Or.inr (slot_ne (Or.inr (own_hw hw (i := 140) rfl)) (Or.inr (own_hw hw (i := 138) rfl)) (by decide) (t := .int) (t' := (.array (.array (.object "kithrank/Graph$OwnEdges")))) (by decide) (by decide)))
  have f135 := f126.other W129 (Or.inr (slot_ne (Or.inr (own_hw hw (i := 142) rfl)) (Or.inr (own_hw hw (i := 138) rfl)) (by decide) (t := .int) (t' := (.array (.array (.object "kithrank/Graph$OwnEdges")))) (by decide) (by decide)))
  have f136 := f127.other W129 (Or.inr (slot_ne (Or.inr (own_hw hw (i := 144) rfl)) (Or.inr (own_hw hw (i := 138) rfl)) (by decide) (t := .long) (t' := (.array (.array (.object "kithrank/Graph$OwnEdges")))) (by decide) (by decide)))
  have Z129 : n0 ≤ h129.size := Nat.le_trans Z120 (Keep.of_wr W129).1
  have N129 := Fr.snoc X129 N120 G_gr
  have K129 : Keep h0 h129 [gr] := K120.wr W129 (Or.inl (List.mem_of_getElem? (i := 0) rfl))
  have f137 : Fld Z h129 gr "kithrank/Graph" "apart" "[[Lkithrank/Graph$OwnEdges;" .null := f124.same W129
  refine own_st (S' := T129.setTop (mkF m 28 #[qA gr, qA sa, qA ta, qA wa, .val .null, qI x5, qI x6, qL x7, qZ] [(.int x5), (.ref gr)])) (fun t k => XS.aloadN X129.here hx rfl (hb hby d20_25) rfl rfl (XS.iload X129.here hx rfl (hb hby d20_26) rfl k)) ?_
  obtain ⟨T138, h138, X138, e138, W138, st138⟩ := putF X129 hx hZ hown (host := "") (Or.inl (own_hw hw (i := 139) rfl)) Via.refl e129 f134 f130 (Or.inr ⟨(own_hw hw (i := 140) rfl), rfl, hnm⟩) (own_hw hw (i := 110) rfl) (ty := .int) (by decide) rfl rfl (g := (mkF m 28 #[qA gr, qA sa, qA ta, qA wa, .val .null, qI x5, qI x6, qL x7, qZ] [(.int x5), (.ref gr)])) rfl rfl (hb hby d20_28)
  refine own_st st138 ?_
  have f139 := f130.wr W138
  have f140 := f131.other W138 (Or.inr (slot_ne (Or.inr (own_hw hw (i := 132) rfl)) (Or.inr (own_hw hw (i := 140) rfl)) (by decide) (t := (.array (.array .int))) (t' := .int) (by decide) (by decide)))
  have f141 := f132.other W138 (Or.inr (slot_ne (Or.inr (own_hw hw (i := 134) rfl)) (Or.inr (own_hw hw (i := 140) rfl)) (by decide) (t := (.array (.array .int))) (t' := .int) (by decide) (by decide)))
  have f142 := f133.other W138 (Or.inr (slot_ne (Or.inr (own_hw hw (i := 136) rfl)) (Or.inr (own_hw hw (i := 140) rfl)) (by decide) (t := (.array (.array .double))) (t' := .int) (by decide) (by decide)))
  have f143 := f137.other W138 (Or.inr (slot_ne (Or.inr (own_hw hw (i := 138) rfl)) (Or.inr (own_hw hw (i := 140) rfl)) (by decide) (t := (.array (.array (.object "kithrank/Graph$OwnEdges")))) (t' := .int) (by decide) (by decide)))
  have f144 := f135.other W138 (Or.inr (slot_ne (Or.inr (own_hw hw (i := 142) rfl)) (Or.inr (own_hw hw (i := 140) rfl)) (by decide) (t := .int) (t' := .int) (by decide) (by decide)))
  have f145 := f136.other W138 (Or.inr (slot_ne (Or.inr (own_hw hw (i := 144) rfl)) (Or.inr (own_hw hw (i := 140) rfl)) (by decide) (t := .long) (t' := .int) (by decide) (by decide)))
  have Z138 : n0 ≤ h138.size := Nat.le_trans Z129 (Keep.of_wr W138).1
  have N138 := Fr.snoc X138 N129 G_gr
  have K138 : Keep h0 h138 [gr] := K129.wr W138 (Or.inl (List.mem_of_getElem? (i := 0) rfl))
  have f146 : Fld Z h138 gr "kithrank/Graph" "userCount" "I" (.int x5) := f134.same W138
  refine own_st (S' := T138.setTop (mkF m 34 #[qA gr, qA sa, qA ta, qA wa, .val .null, qI x5, qI x6, qL x7, qZ] [(.int x6), (.ref gr)])) (fun t k => XS.aloadN X138.here hx rfl (hb hby d20_31) rfl rfl (XS.iload X138.here hx rfl (hb hby d20_32) rfl k)) ?_
  obtain ⟨T147, h147, X147, e147, W147, st147⟩ := putF X138 hx hZ hown (host := "") (Or.inl (own_hw hw (i := 141) rfl)) Via.refl e138 f144 f139 (Or.inr ⟨(own_hw hw (i := 142) rfl), rfl, hnm⟩) (own_hw hw (i := 110) rfl) (ty := .int) (by decide) rfl rfl (g := (mkF m 34 #[qA gr, qA sa, qA ta, qA wa, .val .null, qI x5, qI x6, qL x7, qZ] [(.int x6), (.ref gr)])) rfl rfl (hb hby d20_34)
  refine own_st st147 ?_
  have f148 := f139.wr W147
  have f149 := f140.other W147 (Or.inr (slot_ne (Or.inr (own_hw hw (i := 132) rfl)) (Or.inr (own_hw hw (i := 142) rfl)) (by decide) (t := (.array (.array .int))) (t' := .int) (by decide) (by decide)))
  have f150 := f141.other W147 (Or.inr (slot_ne (Or.inr (own_hw hw (i := 134) rfl)) (Or.inr (own_hw hw (i := 142) rfl)) (by decide) (t := (.array (.array .int))) (t' := .int) (by decide) (by decide)))
  have f151 := f142.other W147 (Or.inr (slot_ne (Or.inr (own_hw hw (i := 136) rfl)) (Or.inr (own_hw hw (i := 142) rfl)) (by decide) (t := (.array (.array .double))) (t' := .int) (by decide) (by decide)))
  have f152 := f143.other W147 (Or.inr (slot_ne (Or.inr (own_hw hw (i := 138) rfl)) (Or.inr (own_hw hw (i := 142) rfl)) (by decide) (t := (.array (.array (.object "kithrank/Graph$OwnEdges")))) (t' := .int) (by decide) (by decide)))
  have f153 := f146.other W147 (Or.inr (slot_ne (Or.inr (own_hw hw (i := 140) rfl)) (Or.inr (own_hw hw (i := 142) rfl)) (by decide) (t := .int) (t' := .int) (by decide) (by decide)))
  have f154 := f145.other W147 (Or.inr (slot_ne (Or.inr (own_hw hw (i := 144) rfl)) (Or.inr (own_hw hw (i := 142) rfl)) (by decide) (t := .long) (t' := .int) (by decide) (by decide)))
  have Z147 : n0 ≤ h147.size := Nat.le_trans Z138 (Keep.of_wr W147).1
  have N147 := Fr.snoc X147 N138 G_gr
  have K147 : Keep h0 h147 [gr] := K138.wr W147 (Or.inl (List.mem_of_getElem? (i := 0) rfl))
  have f155 : Fld Z h147 gr "kithrank/Graph" "edgeCount" "I" (.int x6) := f144.same W147
  refine own_st (S' := T147.setTop (mkF m 40 #[qA gr, qA sa, qA ta, qA wa, .val .null, qI x5, qI x6, qL x7, qZ] [(.long x7), (.ref gr)])) (fun t k => XS.aloadN X147.here hx rfl (hb hby d20_37) rfl rfl (XS.lload X147.here hx rfl (hb hby d20_38) rfl k)) ?_
  obtain ⟨T156, h156, X156, e156, W156, st156⟩ := putF X147 hx hZ hown (host := "") (Or.inl (own_hw hw (i := 143) rfl)) Via.refl e147 f154 f148 (Or.inr ⟨(own_hw hw (i := 144) rfl), rfl, hnm⟩) (own_hw hw (i := 110) rfl) (ty := .long) (by decide) rfl rfl (g := (mkF m 40 #[qA gr, qA sa, qA ta, qA wa, .val .null, qI x5, qI x6, qL x7, qZ] [(.long x7), (.ref gr)])) rfl rfl (hb hby d20_40)
  refine own_st st156 ?_
  have f157 := f148.wr W156
  have f158 := f149.other W156 (Or.inr (slot_ne (Or.inr (own_hw hw (i := 132) rfl)) (Or.inr (own_hw hw (i := 144) rfl)) (by decide) (t := (.array (.array .int))) (t' := .long) (by decide) (by decide)))
  have f159 := f150.other W156 (Or.inr (slot_ne (Or.inr (own_hw hw (i := 134) rfl)) (Or.inr (own_hw hw (i := 144) rfl)) (by decide) (t := (.array (.array .int))) (t' := .long) (by decide) (by decide)))
  have f160 := f151.other W156 (Or.inr (slot_ne (Or.inr (own_hw hw (i := 136) rfl)) (Or.inr (own_hw hw (i := 144) rfl)) (by decide) (t := (.array (.array .double))) (t' := .long) (by decide) (by decide)))
  have f161 := f152.other W156 (Or.inr (slot_ne (Or.inr (own_hw hw (i := 138) rfl)) (Or.inr (own_hw hw (i := 144) rfl)) (by decide) (t := (.array (.array (.object "kithrank/Graph$OwnEdges")))) (t' := .long) (by decide) (by decide)))
  have f162 := f153.other W156 (Or.inr (slot_ne (Or.inr (own_hw hw (i := 140) rfl)) (Or.inr (own_hw hw (i := 144) rfl)) (by decide) (t := .int) (t' := .long) (by decide) (by decide)))
  have f163 := f155.other W156 (Or.inr (slot_ne (Or.inr (own_hw hw (i := 142) rfl)) (Or.inr (own_hw hw (i := 144) rfl)) (by decide) (t := .int) (t' := .long) (by decide) (by decide)))
  have Z156 : n0 ≤ h156.size := Nat.le_trans Z147 (Keep.of_wr W156).1
  have N156 := Fr.snoc X156 N147 G_gr
  have K156 : Keep h0 h156 [gr] := K147.wr W156 (Or.inl (List.mem_of_getElem? (i := 0) rfl))
  have f164 : Fld Z h156 gr "kithrank/Graph" "lightEntries" "J" (.long x7) := f154.same W156
  show own_Go p.tables e below _ (T156.setTop (mkF m 43 #[qA gr, qA sa, qA ta, qA wa, .val .null, qI x5, qI x6, qL x7, qZ] []))
  refine own_retV X156 hx hret hlk (hb hby d20_43) ?_ (by decide) (by decide)
  rw [e156]
  exact ⟨rfl, N156, K156, f158, f159, f160, f161⟩
theorem d21_0 : decode prog_62_method_2_code 0 = .ok (.aload_n 0, 1) := by decide +kernel
theorem d21_1 : decode prog_62_method_2_code 1 = .ok (.aload_n 1, 1) := by decide +kernel
theorem d21_2 : decode prog_62_method_2_code 2 = .ok (.arraylength, 1) := by decide +kernel
theorem d21_3 : decode prog_62_method_2_code 3 = .ok (.anewarray 37, 3) := by decide +kernel
theorem d21_6 : decode prog_62_method_2_code 6 = .ok (.aload_n 1, 1) := by decide +kernel
theorem d21_7 : decode prog_62_method_2_code 7 = .ok (.arraylength, 1) := by decide +kernel
theorem d21_8 : decode prog_62_method_2_code 8 = .ok (.anewarray 37, 3) := by decide +kernel
theorem d21_11 : decode prog_62_method_2_code 11 = .ok (.aload_n 1, 1) := by decide +kernel
theorem d21_12 : decode prog_62_method_2_code 12 = .ok (.arraylength, 1) := by decide +kernel
theorem d21_13 : decode prog_62_method_2_code 13 = .ok (.anewarray 39, 3) := by decide +kernel
theorem d21_16 : decode prog_62_method_2_code 16 = .ok (.aload_n 1, 1) := by decide +kernel
theorem d21_17 : decode prog_62_method_2_code 17 = .ok (.invokestatic 41, 3) := by decide +kernel
theorem d21_20 : decode prog_62_method_2_code 20 = .ok (.iload_n 2, 1) := by decide +kernel
theorem d21_21 : decode prog_62_method_2_code 21 = .ok (.iload_n 3, 1) := by decide +kernel
theorem d21_22 : decode prog_62_method_2_code 22 = .ok (.lload 4, 2) := by decide +kernel
theorem d21_24 : decode prog_62_method_2_code 24 = .ok (.invokespecial 45, 3) := by decide +kernel
theorem d21_27 : decode prog_62_method_2_code 27 = .ok (.iconst 0, 1) := by decide +kernel
theorem d21_28 : decode prog_62_method_2_code 28 = .ok (.istore 6, 2) := by decide +kernel
theorem d21_30 : decode prog_62_method_2_code 30 = .ok (.iload 6, 2) := by decide +kernel
theorem d21_32 : decode prog_62_method_2_code 32 = .ok (.aload_n 1, 1) := by decide +kernel
theorem d21_33 : decode prog_62_method_2_code 33 = .ok (.arraylength, 1) := by decide +kernel
theorem d21_34 : decode prog_62_method_2_code 34 = .ok (.if_icmp .ge 51, 3) := by decide +kernel
theorem d21_37 : decode prog_62_method_2_code 37 = .ok (.aload_n 0, 1) := by decide +kernel
theorem d21_38 : decode prog_62_method_2_code 38 = .ok (.getfield 11, 3) := by decide +kernel
theorem d21_41 : decode prog_62_method_2_code 41 = .ok (.iload 6, 2) := by decide +kernel
theorem d21_43 : decode prog_62_method_2_code 43 = .ok (.aload_n 1, 1) := by decide +kernel
theorem d21_44 : decode prog_62_method_2_code 44 = .ok (.iload 6, 2) := by decide +kernel
theorem d21_46 : decode prog_62_method_2_code 46 = .ok (.aaload, 1) := by decide +kernel
theorem d21_47 : decode prog_62_method_2_code 47 = .ok (.invokevirtual 48, 3) := by decide +kernel
theorem d21_50 : decode prog_62_method_2_code 50 = .ok (.aastore, 1) := by decide +kernel
theorem d21_51 : decode prog_62_method_2_code 51 = .ok (.aload_n 0, 1) := by decide +kernel
theorem d21_52 : decode prog_62_method_2_code 52 = .ok (.getfield 15, 3) := by decide +kernel
theorem d21_55 : decode prog_62_method_2_code 55 = .ok (.iload 6, 2) := by decide +kernel
theorem d21_57 : decode prog_62_method_2_code 57 = .ok (.aload_n 1, 1) := by decide +kernel
theorem d21_58 : decode prog_62_method_2_code 58 = .ok (.iload 6, 2) := by decide +kernel
theorem d21_60 : decode prog_62_method_2_code 60 = .ok (.aaload, 1) := by decide +kernel
theorem d21_61 : decode prog_62_method_2_code 61 = .ok (.invokevirtual 54, 3) := by decide +kernel
theorem d21_64 : decode prog_62_method_2_code 64 = .ok (.aastore, 1) := by decide +kernel
theorem d21_65 : decode prog_62_method_2_code 65 = .ok (.aload_n 0, 1) := by decide +kernel
theorem d21_66 : decode prog_62_method_2_code 66 = .ok (.getfield 18, 3) := by decide +kernel
theorem d21_69 : decode prog_62_method_2_code 69 = .ok (.iload 6, 2) := by decide +kernel
theorem d21_71 : decode prog_62_method_2_code 71 = .ok (.aload_n 1, 1) := by decide +kernel
theorem d21_72 : decode prog_62_method_2_code 72 = .ok (.iload 6, 2) := by decide +kernel
theorem d21_74 : decode prog_62_method_2_code 74 = .ok (.aaload, 1) := by decide +kernel
theorem d21_75 : decode prog_62_method_2_code 75 = .ok (.invokevirtual 57, 3) := by decide +kernel
theorem d21_78 : decode prog_62_method_2_code 78 = .ok (.aastore, 1) := by decide +kernel
theorem d21_79 : decode prog_62_method_2_code 79 = .ok (.iinc 6 1, 3) := by decide +kernel
theorem d21_82 : decode prog_62_method_2_code 82 = .ok (.goto (-52), 3) := by decide +kernel
theorem d21_85 : decode prog_62_method_2_code 85 = .ok (.return_, 1) := by decide +kernel
theorem pd21_0 : parseMethodDescriptor "([Lkithrank/Graph$Page;)[[Lkithrank/Graph$OwnEdges;" = some ⟨[(.array (.object "kithrank/Graph$Page"))], some (.array (.array (.object "kithrank/Graph$OwnEdges")))⟩ := by decide +kernel
theorem pd21_1 : parseMethodDescriptor "([[I[[I[[D[[Lkithrank/Graph$OwnEdges;IIJ)V" = some ⟨[(.array (.array .int)), (.array (.array .int)), (.array (.array .double)), (.array (.array (.object "kithrank/Graph$OwnEdges"))), .int, .int, .long], none⟩ := by decide +kernel
theorem pd21_2 : parseMethodDescriptor "()[I" = some ⟨[], some (.array .int)⟩ := by decide +kernel
theorem pd21_3 : parseMethodDescriptor "()[D" = some ⟨[], some (.array .double)⟩ := by decide +kernel
theorem pn21 : plainName "kithrank/Graph" = true := by first | (simp [plainName, overriddenIn]; done) | decide +kernel
theorem ef21 (m : MethodId) (gr : Addr) (pa : Addr) (x2 : Int32) (x3 : Int32) (x4 : Int64) : entryFrame m #[(.ref gr), (.ref pa), (.int x2), (.int x3), (.long x4)] 7 = mkF m 0 #[.val (.ref gr), .val (.ref pa), .val (.int x2), .val (.int x3), .val (.long x4), .second, .unset] [] := by first | (simp [entryFrame, mkF, argsToLocals, Value.category]; done) | rfl
def Q21 (Z : State) (gr : Addr) (pa : Addr) (x2 : Int32) (x3 : Int32) (x4 : Int64) (ad : Nat → Nat → Addr) (sN : Nat → Nat → Nat) (tF : Nat → Nat → Int32) (wF : Nat → Nat → UInt64) (h0 : Heap) (n0 : Nat) (v : Option Value) (h : Heap) (L : List Loc) : Prop := ∃ (sa ta wa : Addr), v = none ∧ Fr n0 L ∧ Keep h0 h [gr] ∧ h0.size ≤ sa ∧ h0.size ≤ ta ∧ h0.size ≤ wa ∧ sa ≠ ta ∧ sa ≠ wa ∧ ta ≠ wa ∧ Fld Z h gr "kithrank/Graph" "starts" "[[I" (.ref sa) ∧ Fld Z h gr "kithrank/Graph" "targets" "[[I" (.ref ta) ∧ Fld Z h gr "kithrank/Graph" "weights" "[[D" (.ref wa) ∧ Fld Z h gr "kithrank/Graph" "apart" "[[Lkithrank/Graph$OwnEdges;" .null ∧ own_A Z h sa (.array .int) 3 (own_Rf (ad 1)) ∧ own_A Z h ta (.array .int) 3 (own_Rf (ad 2)) ∧ own_A Z h wa (.array .double) 3 (own_Rf (ad 3))
set_option maxRecDepth 65536 in
set_option maxHeartbeats 40000000 in
theorem rm21 (l : Launch) (Z : State) (a0 : Array Value) (hw : ∀ d ∈ tables_1, d.before a0 Z = true) (ws : List Jvm.Cond) (gr : Addr) (pa : Addr) (x2 : Int32) (x3 : Int32) (x4 : Int64) (ad : Nat → Nat → Addr) (sN : Nat → Nat → Nat) (tF : Nat → Nat → Int32) (wF : Nat → Nat → UInt64) (h0 : Heap) (n0 : Nat) (Z0 : n0 ≤ h0.size) (P__ : own_P Z h0 3 ad sN tF wF) (E_gr : Exa Z h0 gr "kithrank/Graph") (F_gr_starts : Fld Z h0 gr "kithrank/Graph" "starts" "[[I" .null) (F_gr_targets : Fld Z h0 gr "kithrank/Graph" "targets" "[[I" .null) (F_gr_weights : Fld Z h0 gr "kithrank/Graph" "weights" "[[D" .null) (F_gr_apart : Fld Z h0 gr "kithrank/Graph" "apart" "[[Lkithrank/Graph$OwnEdges;" .null) (F_gr_userCount : Fld Z h0 gr "kithrank/Graph" "userCount" "I" (.int (0 : Int32))) (F_gr_edgeCount : Fld Z h0 gr "kithrank/Graph" "edgeCount" "I" (.int (0 : Int32))) (F_gr_lightEntries : Fld Z h0 gr "kithrank/Graph" "lightEntries" "J" (.long (0 : Int64))) (G_gr : n0 ≤ gr) (M_gr : own_Nm 3 ad gr) (A_pa : own_A Z h0 pa (.object "kithrank/Graph$Page") 3 (own_Rf (ad 0))) (ne_gr_pa : gr ≠ pa) :
    MetFree l (⟨"kithrank/Graph", "<init>", "([Lkithrank/Graph$Page;IIJ)V"⟩ : MethodName) (head1 (Jvm.Cond.code (⟨"kithrank/Graph", "<init>", "([Lkithrank/Graph$Page;IIJ)V"⟩ : MethodName) prog_62_method_2_code 7 none :: ws) ({ frames := 2, cells := 3, slots := 9, locals := 32 } : Room)) (fun as' U => as' = #[(.ref gr), (.ref pa), (.int x2), (.int x3), (.long x4)] ∧ Z.Warmed39 U.vm ∧ U.heap = h0) (fun _ _ _ _ _ => True) (fun _ U o U' => ∃ v L, o = .returned v ∧ Q21 Z gr pa x2 x3 x4 ad sN tF wF h0 n0 v U'.heap L ∧ FrameEnd U o U' L ({ frames := 2, cells := 3, slots := 9, locals := 32 } : Room).cells ({ frames := 2, cells := 3, slots := 9, locals := 32 } : Room).slots) := by
  refine own_body (plainFor_of_name pn21) ?_
  intro p e s m below meth c s₁ hx hby hml hown0 hnm hret hlk hZ X0 e0
  have hown : s.vm.findClass "kithrank/Graph" = some m.cls := hown0
  have N0 := Fr.nil n0
  rw [ef21]
  have K0 : Keep h0 h0 [gr] := Keep.refl h0 [gr]
  have O101 := A_pa
  obtain ⟨c101, Ar101, S101, M101, V101⟩ := O101
  have ln101 : c101.slots.size.toInt32 = (3 : Int32) := by rw [S101]; try (first | rfl | decide | exact rfl)
  refine own_st (S' := s₁.setTop (mkF m 3 #[qA gr, qA pa, qI x2, qI x3, qL x4, qZ, qU] [(.int (3 : Int32)), (.ref gr)])) (fun t k => XS.aloadN X0.here hx rfl (hb hby d21_0) rfl rfl (XS.aloadN X0.here hx rfl (hb hby d21_1) rfl rfl (X0.arraylength hx (by rw [e0]; exact Ar101.1) (State.isArrayOf_alike hZ.alike Ar101.2.1) (g := (mkF m 2 #[qA gr, qA pa, qI x2, qI x3, qL x4, qZ, qU] [(.ref pa), (.ref gr)])) rfl rfl (hb hby d21_2) _ (by rw [ln101]; exact k)))) ?_
  obtain ⟨T102, h102, k102, X102, e102, E102, A102, B102, O102, st102⟩ := newRA X0 hx hZ (C := "[I") (ty := .int) hown (by decide) (own_hw hw (i := 115) rfl) (own_hw hw (i := 116) rfl) e0 (g := (mkF m 3 #[qA gr, qA pa, qI x2, qI x3, qL x4, qZ, qU] [(.int (3 : Int32)), (.ref gr)])) rfl (hb hby d21_3) rfl (by decide) (cap := 3) (by decide) (by decide) (by decide) (by decide) (ad := "[[I") (by decide)
  obtain ⟨b102, g102⟩ : ∃ z, z = h0.size := ⟨_, rfl⟩
  rw [← g102] at A102 st102 B102
  have G_b102 : n0 ≤ b102 := Nat.le_trans Z0 (Nat.le_of_eq g102.symm)
  have sz_b102 : h0.size ≤ b102 := Nat.le_trans K0.1 (Nat.le_of_eq g102.symm)
  have ne_gr_b102 : gr ≠ b102 := Nat.ne_of_lt (Nat.lt_of_lt_of_le E_gr.lt (Nat.le_of_eq g102.symm))
  have ne_pa_b102 : pa ≠ b102 := Nat.ne_of_lt (Nat.lt_of_lt_of_le A_pa.lt (Nat.le_of_eq g102.symm))
  have M_b102 : own_Nm 3 ad b102 := own_P.nm P__ (Nat.le_of_eq g102.symm)
  have f103 := P__.ext E102
  have f104 := E_gr.ext E102
  have f105 := F_gr_starts.ext E102
  have f106 := F_gr_targets.ext E102
  have f107 := F_gr_weights.ext E102
  have f108 := F_gr_apart.ext E102
  have f109 := F_gr_userCount.ext E102
  have f110 := F_gr_edgeCount.ext E102
  have f111 := F_gr_lightEntries.ext E102
  have f112 := A_pa.ext E102
  have Z102 : n0 ≤ h102.size := Nat.le_trans Z0 E102.1
  have K102 : Keep h0 h102 [gr] := K0.ext E102
  have f113 : own_R Z h102 b102 (.array .int) "[I" 3 (own_V [.null, .null, .null]) := (own_R.new A102 (own_Ov.ofA O102) (by decide)).cong (fun j hj => by match j, hj with | 0, _ => rfl | 1, _ => rfl | 2, _ => rfl | j + 3, h => exact absurd h (by omega))
  refine own_st st102 ?_
  have O114 := f112
  obtain ⟨c114, Ar114, S114, M114, V114⟩ := O114
  have ln114 : c114.slots.size.toInt32 = (3 : Int32) := by rw [S114]; try (first | rfl | decide | exact rfl)
  refine own_st (S' := T102.setTop (mkF m 8 #[qA gr, qA pa, qI x2, qI x3, qL x4, qZ, qU] [(.int (3 : Int32)), (.ref b102), (.ref gr)])) (fun t k => XS.aloadN X102.here hx rfl (hb hby d21_6) rfl rfl (X102.arraylength hx (by rw [e102]; exact Ar114.1) (State.isArrayOf_alike hZ.alike Ar114.2.1) (g := (mkF m 7 #[qA gr, qA pa, qI x2, qI x3, qL x4, qZ, qU] [(.ref pa), (.ref b102), (.ref gr)])) rfl rfl (hb hby d21_7) _ (by rw [ln114]; exact k))) ?_
  obtain ⟨T115, h115, k115, X115, e115, E115, A115, B115, O115, st115⟩ := newRA X102 hx hZ (C := "[I") (ty := .int) hown (by decide) (own_hw hw (i := 115) rfl) (own_hw hw (i := 116) rfl) e102 (g := (mkF m 8 #[qA gr, qA pa, qI x2, qI x3, qL x4, qZ, qU] [(.int (3 : Int32)), (.ref b102), (.ref gr)])) rfl (hb hby d21_8) rfl (by decide) (cap := 3) (by decide) (by decide) (by decide) (by decide) (ad := "[[I") (by decide)
  obtain ⟨b115, g115⟩ : ∃ z, z = h102.size := ⟨_, rfl⟩
  rw [← g115] at A115 st115 B115
  have G_b115 : n0 ≤ b115 := Nat.le_trans Z102 (Nat.le_of_eq g115.symm)
  have sz_b115 : h0.size ≤ b115 := Nat.le_trans K102.1 (Nat.le_of_eq g115.symm)
  have ne_gr_b115 : gr ≠ b115 := Nat.ne_of_lt (Nat.lt_of_lt_of_le f104.lt (Nat.le_of_eq g115.symm))
  have ne_pa_b115 : pa ≠ b115 := Nat.ne_of_lt (Nat.lt_of_lt_of_le f112.lt (Nat.le_of_eq g115.symm))
  have ne_b102_b115 : b102 ≠ b115 := Nat.ne_of_lt (Nat.lt_of_lt_of_le f113.lt (Nat.le_of_eq g115.symm))
  have M_b115 : own_Nm 3 ad b115 := own_P.nm f103 (Nat.le_of_eq g115.symm)
  have f116 := f103.ext E115
  have f117 := f104.ext E115
  have f118 := f105.ext E115
  have f119 := f106.ext E115
  have f120 := f107.ext E115
  have f121 := f108.ext E115
  have f122 := f109.ext E115
  have f123 := f110.ext E115
  have f124 := f111.ext E115
  have f125 := f112.ext E115
  have f126 := f113.ext E115
  have f127 := B102.ext E115
  have Z115 : n0 ≤ h115.size := Nat.le_trans Z102 E115.1
  have K115 : Keep h0 h115 [gr] := K102.ext E115
  have f128 : own_R Z h115 b115 (.array .int) "[I" 3 (own_V [.null, .null, .null]) := (own_R.new A115 (own_Ov.ofA O115) (by decide)).cong (fun j hj => by match j, hj with | 0, _ => rfl | 1, _ => rfl | 2, _ => rfl | j + 3, h => exact absurd h (by omega))
  refine own_st st115 ?_
  have O129 := f125
  obtain ⟨c129, Ar129, S129, M129, V129⟩ := O129
  have ln129 : c129.slots.size.toInt32 = (3 : Int32) := by rw [S129]; try (first | rfl | decide | exact rfl)
  refine own_st (S' := T115.setTop (mkF m 13 #[qA gr, qA pa, qI x2, qI x3, qL x4, qZ, qU] [(.int (3 : Int32)), (.ref b115), (.ref b102), (.ref gr)])) (fun t k => XS.aloadN X115.here hx rfl (hb hby d21_11) rfl rfl (X115.arraylength hx (by rw [e115]; exact Ar129.1) (State.isArrayOf_alike hZ.alike Ar129.2.1) (g := (mkF m 12 #[qA gr, qA pa, qI x2, qI x3, qL x4, qZ, qU] [(.ref pa), (.ref b115), (.ref b102), (.ref gr)])) rfl rfl (hb hby d21_12) _ (by rw [ln129]; exact k))) ?_
  obtain ⟨T130, h130, k130, X130, e130, E130, A130, B130, O130, st130⟩ := newRA X115 hx hZ (C := "[D") (ty := .double) hown (by decide) (own_hw hw (i := 117) rfl) (own_hw hw (i := 118) rfl) e115 (g := (mkF m 13 #[qA gr, qA pa, qI x2, qI x3, qL x4, qZ, qU] [(.int (3 : Int32)), (.ref b115), (.ref b102), (.ref gr)])) rfl (hb hby d21_13) rfl (by decide) (cap := 3) (by decide) (by decide) (by decide) (by decide) (ad := "[[D") (by decide)
  obtain ⟨b130, g130⟩ : ∃ z, z = h115.size := ⟨_, rfl⟩
  rw [← g130] at A130 st130 B130
  have G_b130 : n0 ≤ b130 := Nat.le_trans Z115 (Nat.le_of_eq g130.symm)
  have sz_b130 : h0.size ≤ b130 := Nat.le_trans K115.1 (Nat.le_of_eq g130.symm)
  have ne_gr_b130 : gr ≠ b130 := Nat.ne_of_lt (Nat.lt_of_lt_of_le f117.lt (Nat.le_of_eq g130.symm))
  have ne_pa_b130 : pa ≠ b130 := Nat.ne_of_lt (Nat.lt_of_lt_of_le f125.lt (Nat.le_of_eq g130.symm))
  have ne_b115_b130 : b115 ≠ b130 := Nat.ne_of_lt (Nat.lt_of_lt_of_le f128.lt (Nat.le_of_eq g130.symm))
  have ne_b102_b130 : b102 ≠ b130 := Nat.ne_of_lt (Nat.lt_of_lt_of_le f126.lt (Nat.le_of_eq g130.symm))
  have M_b130 : own_Nm 3 ad b130 := own_P.nm f116 (Nat.le_of_eq g130.symm)
  have f131 := f116.ext E130
  have f132 := f117.ext E130
  have f133 := f118.ext E130
  have f134 := f119.ext E130
  have f135 := f120.ext E130
  have f136 := f121.ext E130
  have f137 := f122.ext E130
  have f138 := f123.ext E130
  have f139 := f124.ext E130
  have f140 := f125.ext E130
  have f141 := f126.ext E130
  have f142 := f127.ext E130
  have f143 := f128.ext E130
  have f144 := B115.ext E130
  have Z130 : n0 ≤ h130.size := Nat.le_trans Z115 E130.1
  have K130 : Keep h0 h130 [gr] := K115.ext E130
  have f145 : own_R Z h130 b130 (.array .double) "[D" 3 (own_V [.null, .null, .null]) := (own_R.new A130 (own_Ov.ofA O130) (by decide)).cong (fun j hj => by match j, hj with | 0, _ => rfl | 1, _ => rfl | 2, _ => rfl | j + 3, h => exact absurd h (by omega))
  refine own_st st130 ?_
  refine own_st (S' := T130.setTop (mkF m 17 #[qA gr, qA pa, qI x2, qI x3, qL x4, qZ, qU] [(.ref pa), (.ref b130), (.ref b115), (.ref b102), (.ref gr)])) (fun t k => XS.aloadN X130.here hx rfl (hb hby d21_16) rfl rfl k) ?_
  obtain ⟨_, _, ⟨T146, L146, k146, n146⟩, -, X146, ⟨Lc146, hQ146, l146, y146, z146⟩, st146⟩ := Jvm.LawKit.callS X130 hx (y := (⟨"kithrank/Graph", "apartOf", "([Lkithrank/Graph$Page;)[[Lkithrank/Graph$OwnEdges;"⟩ : MethodName)) hown (mvT hZ (own_hw hw (i := 119) rfl)) (mvT hZ (own_hw hw (i := 120) rfl)) (mvT hZ (own_hw hw (i := 73) rfl)) (mvT hZ (own_hw hw (i := 121) rfl)) (by decide) (backOf (W := 4) (rm19 l Z a0 hw [] pa ad sN tF wF h130 n0 Z130 f131 f140) hZ (own_hw hw (i := 121) rfl) (own_hw hw (i := 73) rfl) (by decide) (by decide)) (g := (mkF m 17 #[qA gr, qA pa, qI x2, qI x3, qL x4, qZ, qU] [(.ref pa), (.ref b130), (.ref b115), (.ref b102), (.ref gr)])) rfl (by rw [hml]; rfl) (argsL := [(.ref pa)]) (rest := [(.ref b130), (.ref b115), (.ref b102), (.ref gr)]) (lenOf pd21_0 rfl) rfl (by show 2 * 0 + _ ≤ _; exact Nat.le_of_eq rfl) (hb hby d21_17) (fun _ _ => ⟨rfl, e130, (by decide : 3 + 0 ≤ _), (by decide : 9 + 0 ≤ _)⟩)
  dsimp only [Pt.U, Pt.locs, Pt.cells, Pt.slots] at X146 l146 y146 z146 st146 hQ146
  rw [l146, y146, z146] at X146
  obtain ⟨rfl, N146q, hh146⟩ := hQ146
  have N146 := Fr.app N0 N146q
  refine own_st st146 ?_
  refine own_st (S' := T146.setTop (mkF m 24 #[qA gr, qA pa, qI x2, qI x3, qL x4, qZ, qU] [(.long x4), (.int x3), (.int x2), .null, (.ref b130), (.ref b115), (.ref b102), (.ref gr)])) (fun t k => XS.iloadN X146.here hx rfl (hb hby d21_20) rfl (XS.iloadN X146.here hx rfl (hb hby d21_21) rfl (XS.lload X146.here hx rfl (hb hby d21_22) rfl k))) ?_
  obtain ⟨_, _, ⟨T147, L147, k147, n147⟩, -, X147, ⟨Lc147, hQ147, l147, y147, z147⟩, st147⟩ := X146.specialBack hx (y := (⟨"kithrank/Graph", "<init>", "([[I[[I[[D[[Lkithrank/Graph$OwnEdges;IIJ)V"⟩ : MethodName)) rfl hown (mvT hZ (own_hw hw (i := 127) rfl)) (mvT hZ (own_hw hw (i := 128) rfl)) (mvT hZ (own_hw hw (i := 129) rfl)) (by decide) (backOf (W := 0) (rm20 l Z a0 hw [] gr b102 b115 b130 x2 x3 x4 h130 n0 Z130 f132 f133 f134 f135 f136 f137 f138 f139 G_gr) hZ (own_hw hw (i := 129) rfl) (own_hw hw (i := 73) rfl) (by decide) (by decide)) (g := (mkF m 24 #[qA gr, qA pa, qI x2, qI x3, qL x4, qZ, qU] [(.long x4), (.int x3), (.int x2), .null, (.ref b130), (.ref b115), (.ref b102), (.ref gr)])) rfl (by rw [hml]; rfl) (Steps.refl _) (a := gr) (argsL := [(.ref b102), (.ref b115), (.ref b130), .null, (.int x2), (.int x3), (.long x4)]) (rest := []) (lenOf pd21_1 rfl) rfl (by show 2 * 0 + _ ≤ _; exact Nat.le_of_eq rfl) (hb hby d21_24) (fun _ _ => ⟨rfl, hh146, (by decide : 3 + 0 ≤ _), (by decide : 9 + 0 ≤ _)⟩)
  dsimp only [Pt.U, Pt.locs, Pt.cells, Pt.slots] at X147 l147 y147 z147 st147 hQ147
  rw [l147, y147, z147] at X147
  obtain ⟨rfl, N147q, Kq147, g0_147, g1_147, g2_147, g3_147⟩ := hQ147
  have f148 := f131.keep Kq147 (allS M_gr all0)
  have f149 := f132.keep Kq147
  have f150 := f140.keep Kq147 (ninS (Ne.symm ne_gr_pa) nin0)
  have f151 := f141.keep Kq147 (ninS (Ne.symm ne_gr_b102) nin0)
  have f152 := f142.keep Kq147
  have f153 := f143.keep Kq147 (ninS (Ne.symm ne_gr_b115) nin0)
  have f154 := f144.keep Kq147
  have f155 := f145.keep Kq147 (ninS (Ne.symm ne_gr_b130) nin0)
  have f156 := B130.keep Kq147
  have Z147 : n0 ≤ T147.heap.size := Nat.le_trans Z130 Kq147.1
  have K147 : Keep h0 T147.heap [gr] := K130.trans Kq147 (allS (Or.inl (List.mem_of_getElem? (i := 0) rfl)) all0)
  have N147 := Fr.app N146 N147q
  refine own_tr st147 ?_
  have O157 := f150
  obtain ⟨c157, Ar157, S157, M157, V157⟩ := O157
  have ln157 : c157.slots.size.toInt32 = (3 : Int32) := by rw [S157]; try (first | rfl | decide | exact rfl)
  refine own_st (S' := T147.setTop (mkF m 38 #[qA gr, qA pa, qI x2, qI x3, qL x4, qZ, qI (0 : Int32)] [(.ref gr)])) (fun t k => XS.iconst X147.here hx rfl (hb hby d21_27) (XS.istore X147.here hx rfl (hb hby d21_28) rfl (l' := #[qA gr, qA pa, qI x2, qI x3, qL x4, qZ, qI (0 : Int32)]) rfl (XS.iload X147.here hx rfl (hb hby d21_30) rfl (XS.aloadN X147.here hx rfl (hb hby d21_32) rfl rfl (X147.arraylength hx Ar157.1 (State.isArrayOf_alike hZ.alike Ar157.2.1) (g := (mkF m 33 #[qA gr, qA pa, qI x2, qI x3, qL x4, qZ, qI (0 : Int32)] [(.ref pa), (.int (0 : Int32))])) rfl rfl (hb hby d21_33) _ (by rw [ln157]; exact (XS.icmpNo X147.here hx rfl (hb hby d21_34) rfl (tlt (by decide)).2.1 (XS.aloadN X147.here hx rfl (hb hby d21_37) rfl rfl k)))))))) ?_
  obtain ⟨T158, X158, e158, st158⟩ := getF X147 hx hZ hown (host := "") (Or.inl (own_hw hw (i := 131) rfl)) Via.refl rfl g0_147 (g := (mkF m 38 #[qA gr, qA pa, qI x2, qI x3, qL x4, qZ, qI (0 : Int32)] [(.ref gr)])) rfl rfl (hb hby d21_38)
  refine own_st st158 ?_
  have O159 := f150
  obtain ⟨c159, Ar159, S159, M159, V159⟩ := O159
  have at159 : c159.slots[((0 : Int32)).toNatClampNeg]? = some (.ref (ad 0 0)) := own_at S159 V159 (own_ix (j := (0 : Int32)) (i := 0) (n := 3) (by decide) (by decide) (by decide)) rfl
  refine own_st (S' := T158.setTop (mkF m 47 #[qA gr, qA pa, qI x2, qI x3, qL x4, qZ, qI (0 : Int32)] [(.ref (ad 0 0)), (.int (0 : Int32)), (.ref b102)])) (fun t k => XS.iload X158.here hx rfl (hb hby d21_41) rfl (XS.aloadN X158.here hx rfl (hb hby d21_43) rfl rfl (XS.iload X158.here hx rfl (hb hby d21_44) rfl (X158.aaload hx (j := (0 : Int32)) (v := (.ref (ad 0 0))) (by rw [e158]; exact Ar159.1) (State.isArrayOf_alike hZ.alike Ar159.2.1) rfl Ar159.2.2 (own_in S159 (own_ix (j := (0 : Int32)) (i := 0) (n := 3) (by decide) (by decide) (by decide))) at159 (g := (mkF m 46 #[qA gr, qA pa, qI x2, qI x3, qL x4, qZ, qI (0 : Int32)] [(.int (0 : Int32)), (.ref pa), (.int (0 : Int32)), (.ref b102)])) rfl rfl (hb hby d21_46) _ k)))) ?_
  obtain ⟨cq160, kq160, q160a, q160b, q160c⟩ := isOf hZ e158 (f148 0 (by decide)).1
  obtain ⟨_, _, ⟨T160, L160, k160, n160⟩, -, X160, ⟨Lc160, hQ160, l160, y160, z160⟩, st160⟩ := X158.virtualBack hx (y := (⟨"kithrank/Graph$Page", "start", "()[I"⟩ : MethodName)) (z := (⟨"kithrank/Graph$Page", "start", "()[I"⟩ : MethodName)) hown (mvT hZ (own_hw hw (i := 145) rfl)) (mvT hZ (own_hw hw (i := 146) rfl)) (notFace_of_selects (args := #[]) (mvT hZ (own_hw hw (i := 148) rfl))) (mvT hZ (own_hw hw (i := 148) rfl)) (mvT hZ (own_hw hw (i := 147) rfl)) (by decide) (backOf (W := 2) (rm16 l Z a0 hw [] (ad 0 0) (ad 1 0) T147.heap n0 Z147 (f148 0 (by decide)).2.2.2.2.1) hZ (own_hw hw (i := 149) rfl) (own_hw hw (i := 23) rfl) (by decide) (by decide)) q160a q160c (g := (mkF m 47 #[qA gr, qA pa, qI x2, qI x3, qL x4, qZ, qI (0 : Int32)] [(.ref (ad 0 0)), (.int (0 : Int32)), (.ref b102)])) rfl (by rw [hml]; rfl) (Steps.refl _) (argsL := []) (rest := [(.int (0 : Int32)), (.ref b102)]) (lenOf pd21_2 rfl) rfl (by show 2 * 0 + _ ≤ _; exact Nat.le_of_eq rfl) (hb hby d21_47) (fun _ _ => ⟨rfl, e158, (by decide : 3 + 0 ≤ _), (by decide : 9 + 0 ≤ _)⟩)
  dsimp only [Pt.U, Pt.locs, Pt.cells, Pt.slots] at X160 l160 y160 z160 st160 hQ160
  rw [l160, y160, z160] at X160
  obtain ⟨rfl, N160q, hh160⟩ := hQ160
  have N160 := Fr.app N147 N160q
  refine own_tr st160 ?_
  show own_Go p.tables e below _ (T160.setTop (mkF m 50 #[qA gr, qA pa, qI x2, qI x3, qL x4, qZ, qI (0 : Int32)] [(.ref (ad 1 0)), (.int (0 : Int32)), (.ref b102)]))
  have O161 := f151
  obtain ⟨c161, Ar161, S161, M161, V161⟩ := O161.toA
  obtain ⟨T161, h161, X161, e161, W161, st161⟩ := Jvm.RoadKit.stR X160 hx hZ hh160 Ar161 (j := (0 : Int32)) (own_in S161 (own_ix (j := (0 : Int32)) (i := 0) (n := 3) (by decide) (by decide) (by decide))) rfl (O161.sto (Ins.self (f148 0 (by decide)).2.1)) (g := (mkF m 50 #[qA gr, qA pa, qI x2, qI x3, qL x4, qZ, qI (0 : Int32)] [(.ref (ad 1 0)), (.int (0 : Int32)), (.ref b102)])) rfl rfl (hb hby d21_50)
  refine own_st st161 ?_
  have f162 := f148.other W161 M_b102
  have f163 := f149.wr W161
  have f164 := f150.other W161 ne_pa_b102
  have f165 := f152.wr W161
  have f166 := f153.other W161 (Ne.symm ne_b102_b115)
  have f167 := f154.wr W161
  have f168 := f155.other W161 (Ne.symm ne_b102_b130)
  have f169 := f156.wr W161
  have f170 := g0_147.other W161 (Or.inl ne_gr_b102)
  have f171 := g1_147.other W161 (Or.inl ne_gr_b102)
  have f172 := g2_147.other W161 (Or.inl ne_gr_b102)
  have f173 := g3_147.other W161 (Or.inl ne_gr_b102)
  have Z161 : n0 ≤ h161.size := Nat.le_trans Z147 (Keep.of_wr W161).1
  have N161 := Fr.snoc X161 N160 G_b102
  have K161 : Keep h0 h161 [gr] := K147.wr W161 (Or.inr sz_b102)
  have f174 : own_R Z h161 b102 (.array .int) "[I" 3 (own_V [(.ref (ad 1 0)), .null, .null]) := (own_R.set O161 (own_ix (j := (0 : Int32)) (i := 0) (n := 3) (by decide) (by decide) (by decide)) W161).cong (fun j hj => by match j, hj with | 0, _ => rfl | 1, _ => rfl | 2, _ => rfl | j + 3, h => exact absurd h (by omega))
  refine own_st (S' := T161.setTop (mkF m 52 #[qA gr, qA pa, qI x2, qI x3, qL x4, qZ, qI (0 : Int32)] [(.ref gr)])) (fun t k => XS.aloadN X161.here hx rfl (hb hby d21_51) rfl rfl k) ?_
  obtain ⟨T175, X175, e175, st175⟩ := getF X161 hx hZ hown (host := "") (Or.inl (own_hw hw (i := 133) rfl)) Via.refl e161 f171 (g := (mkF m 52 #[qA gr, qA pa, qI x2, qI x3, qL x4, qZ, qI (0 : Int32)] [(.ref gr)])) rfl rfl (hb hby d21_52)
  refine own_st st175 ?_
  have O176 := f164
  obtain ⟨c176, Ar176, S176, M176, V176⟩ := O176
  have at176 : c176.slots[((0 : Int32)).toNatClampNeg]? = some (.ref (ad 0 0)) := own_at S176 V176 (own_ix (j := (0 : Int32)) (i := 0) (n := 3) (by decide) (by decide) (by decide)) rfl
  refine own_st (S' := T175.setTop (mkF m 61 #[qA gr, qA pa, qI x2, qI x3, qL x4, qZ, qI (0 : Int32)] [(.ref (ad 0 0)), (.int (0 : Int32)), (.ref b115)])) (fun t k => XS.iload X175.here hx rfl (hb hby d21_55) rfl (XS.aloadN X175.here hx rfl (hb hby d21_57) rfl rfl (XS.iload X175.here hx rfl (hb hby d21_58) rfl (X175.aaload hx (j := (0 : Int32)) (v := (.ref (ad 0 0))) (by rw [e175]; exact Ar176.1) (State.isArrayOf_alike hZ.alike Ar176.2.1) rfl Ar176.2.2 (own_in S176 (own_ix (j := (0 : Int32)) (i := 0) (n := 3) (by decide) (by decide) (by decide))) at176 (g := (mkF m 60 #[qA gr, qA pa, qI x2, qI x3, qL x4, qZ, qI (0 : Int32)] [(.int (0 : Int32)), (.ref pa), (.int (0 : Int32)), (.ref b115)])) rfl rfl (hb hby d21_60) _ k)))) ?_
  obtain ⟨cq177, kq177, q177a, q177b, q177c⟩ := isOf hZ e175 (f162 0 (by decide)).1
  obtain ⟨_, _, ⟨T177, L177, k177, n177⟩, -, X177, ⟨Lc177, hQ177, l177, y177, z177⟩, st177⟩ := X175.virtualBack hx (y := (⟨"kithrank/Graph$Page", "target", "()[I"⟩ : MethodName)) (z := (⟨"kithrank/Graph$Page", "target", "()[I"⟩ : MethodName)) hown (mvT hZ (own_hw hw (i := 151) rfl)) (mvT hZ (own_hw hw (i := 152) rfl)) (notFace_of_selects (args := #[]) (mvT hZ (own_hw hw (i := 154) rfl))) (mvT hZ (own_hw hw (i := 154) rfl)) (mvT hZ (own_hw hw (i := 153) rfl)) (by decide) (backOf (W := 2) (rm17 l Z a0 hw [] (ad 0 0) (ad 2 0) h161 n0 Z161 (f162 0 (by decide)).2.2.2.2.2.1) hZ (own_hw hw (i := 155) rfl) (own_hw hw (i := 23) rfl) (by decide) (by decide)) q177a q177c (g := (mkF m 61 #[qA gr, qA pa, qI x2, qI x3, qL x4, qZ, qI (0 : Int32)] [(.ref (ad 0 0)), (.int (0 : Int32)), (.ref b115)])) rfl (by rw [hml]; rfl) (Steps.refl _) (argsL := []) (rest := [(.int (0 : Int32)), (.ref b115)]) (lenOf pd21_2 rfl) rfl (by show 2 * 0 + _ ≤ _; exact Nat.le_of_eq rfl) (hb hby d21_61) (fun _ _ => ⟨rfl, e175, (by decide : 3 + 0 ≤ _), (by decide : 9 + 0 ≤ _)⟩)
  dsimp only [Pt.U, Pt.locs, Pt.cells, Pt.slots] at X177 l177 y177 z177 st177 hQ177
  rw [l177, y177, z177] at X177
  obtain ⟨rfl, N177q, hh177⟩ := hQ177
  have N177 := Fr.app N161 N177q
  refine own_tr st177 ?_
  show own_Go p.tables e below _ (T177.setTop (mkF m 64 #[qA gr, qA pa, qI x2, qI x3, qL x4, qZ, qI (0 : Int32)] [(.ref (ad 2 0)), (.int (0 : Int32)), (.ref b115)]))
  have O178 := f166
  obtain ⟨c178, Ar178, S178, M178, V178⟩ := O178.toA
  obtain ⟨T178, h178, X178, e178, W178, st178⟩ := Jvm.RoadKit.stR X177 hx hZ hh177 Ar178 (j := (0 : Int32)) (own_in S178 (own_ix (j := (0 : Int32)) (i := 0) (n := 3) (by decide) (by decide) (by decide))) rfl (O178.sto (Ins.self (f162 0 (by decide)).2.2.1)) (g := (mkF m 64 #[qA gr, qA pa, qI x2, qI x3, qL x4, qZ, qI (0 : Int32)] [(.ref (ad 2 0)), (.int (0 : Int32)), (.ref b115)])) rfl rfl (hb hby d21_64)
  refine own_st st178 ?_
  have f179 := f162.other W178 M_b115
  have f180 := f163.wr W178
  have f181 := f164.other W178 ne_pa_b115
  have f182 := f174.other W178 ne_b102_b115
  have f183 := f165.wr W178
  have f184 := f167.wr W178
  have f185 := f168.other W178 (Ne.symm ne_b115_b130)
  have f186 := f169.wr W178
  have f187 := f170.other W178 (Or.inl ne_gr_b115)
  have f188 := f171.other W178 (Or.inl ne_gr_b115)
  have f189 := f172.other W178 (Or.inl ne_gr_b115)
  have f190 := f173.other W178 (Or.inl ne_gr_b115)
  have Z178 : n0 ≤ h178.size := Nat.le_trans Z161 (Keep.of_wr W178).1
  have N178 := Fr.snoc X178 N177 G_b115
  have K178 : Keep h0 h178 [gr] := K161.wr W178 (Or.inr sz_b115)
  have f191 : own_R Z h178 b115 (.array .int) "[I" 3 (own_V [(.ref (ad 2 0)), .null, .null]) := (own_R.set O178 (own_ix (j := (0 : Int32)) (i := 0) (n := 3) (by decide) (by decide) (by decide)) W178).cong (fun j hj => by match j, hj with | 0, _ => rfl | 1, _ => rfl | 2, _ => rfl | j + 3, h => exact absurd h (by omega))
  refine own_st (S' := T178.setTop (mkF m 66 #[qA gr, qA pa, qI x2, qI x3, qL x4, qZ, qI (0 : Int32)] [(.ref gr)])) (fun t k => XS.aloadN X178.here hx rfl (hb hby d21_65) rfl rfl k) ?_
  obtain ⟨T192, X192, e192, st192⟩ := getF X178 hx hZ hown (host := "") (Or.inl (own_hw hw (i := 135) rfl)) Via.refl e178 f189 (g := (mkF m 66 #[qA gr, qA pa, qI x2, qI x3, qL x4, qZ, qI (0 : Int32)] [(.ref gr)])) rfl rfl (hb hby d21_66)
  refine own_st st192 ?_
  have O193 := f181
  obtain ⟨c193, Ar193, S193, M193, V193⟩ := O193
  have at193 : c193.slots[((0 : Int32)).toNatClampNeg]? = some (.ref (ad 0 0)) := own_at S193 V193 (own_ix (j := (0 : Int32)) (i := 0) (n := 3) (by decide) (by decide) (by decide)) rfl
  refine own_st (S' := T192.setTop (mkF m 75 #[qA gr, qA pa, qI x2, qI x3, qL x4, qZ, qI (0 : Int32)] [(.ref (ad 0 0)), (.int (0 : Int32)), (.ref b130)])) (fun t k => XS.iload X192.here hx rfl (hb hby d21_69) rfl (XS.aloadN X192.here hx rfl (hb hby d21_71) rfl rfl (XS.iload X192.here hx rfl (hb hby d21_72) rfl (X192.aaload hx (j := (0 : Int32)) (v := (.ref (ad 0 0))) (by rw [e192]; exact Ar193.1) (State.isArrayOf_alike hZ.alike Ar193.2.1) rfl Ar193.2.2 (own_in S193 (own_ix (j := (0 : Int32)) (i := 0) (n := 3) (by decide) (by decide) (by decide))) at193 (g := (mkF m 74 #[qA gr, qA pa, qI x2, qI x3, qL x4, qZ, qI (0 : Int32)] [(.int (0 : Int32)), (.ref pa), (.int (0 : Int32)), (.ref b130)])) rfl rfl (hb hby d21_74) _ k)))) ?_
  obtain ⟨cq194, kq194, q194a, q194b, q194c⟩ := isOf hZ e192 (f179 0 (by decide)).1
  obtain ⟨_, _, ⟨T194, L194, k194, n194⟩, -, X194, ⟨Lc194, hQ194, l194, y194, z194⟩, st194⟩ := X192.virtualBack hx (y := (⟨"kithrank/Graph$Page", "weight", "()[D"⟩ : MethodName)) (z := (⟨"kithrank/Graph$Page", "weight", "()[D"⟩ : MethodName)) hown (mvT hZ (own_hw hw (i := 156) rfl)) (mvT hZ (own_hw hw (i := 157) rfl)) (notFace_of_selects (args := #[]) (mvT hZ (own_hw hw (i := 159) rfl))) (mvT hZ (own_hw hw (i := 159) rfl)) (mvT hZ (own_hw hw (i := 158) rfl)) (by decide) (backOf (W := 2) (rm18 l Z a0 hw [] (ad 0 0) (ad 3 0) h178 n0 Z178 (f179 0 (by decide)).2.2.2.2.2.2.1) hZ (own_hw hw (i := 160) rfl) (own_hw hw (i := 23) rfl) (by decide) (by decide)) q194a q194c (g := (mkF m 75 #[qA gr, qA pa, qI x2, qI x3, qL x4, qZ, qI (0 : Int32)] [(.ref (ad 0 0)), (.int (0 : Int32)), (.ref b130)])) rfl (by rw [hml]; rfl) (Steps.refl _) (argsL := []) (rest := [(.int (0 : Int32)), (.ref b130)]) (lenOf pd21_3 rfl) rfl (by show 2 * 0 + _ ≤ _; exact Nat.le_of_eq rfl) (hb hby d21_75) (fun _ _ => ⟨rfl, e192, (by decide : 3 + 0 ≤ _), (by decide : 9 + 0 ≤ _)⟩)
  dsimp only [Pt.U, Pt.locs, Pt.cells, Pt.slots] at X194 l194 y194 z194 st194 hQ194
  rw [l194, y194, z194] at X194
  obtain ⟨rfl, N194q, hh194⟩ := hQ194
  have N194 := Fr.app N178 N194q
  refine own_tr st194 ?_
  show own_Go p.tables e below _ (T194.setTop (mkF m 78 #[qA gr, qA pa, qI x2, qI x3, qL x4, qZ, qI (0 : Int32)] [(.ref (ad 3 0)), (.int (0 : Int32)), (.ref b130)]))
  have O195 := f185
  obtain ⟨c195, Ar195, S195, M195, V195⟩ := O195.toA
  obtain ⟨T195, h195, X195, e195, W195, st195⟩ := Jvm.RoadKit.stR X194 hx hZ hh194 Ar195 (j := (0 : Int32)) (own_in S195 (own_ix (j := (0 : Int32)) (i := 0) (n := 3) (by decide) (by decide) (by decide))) rfl (O195.sto (Ins.self (f179 0 (by decide)).2.2.2.1)) (g := (mkF m 78 #[qA gr, qA pa, qI x2, qI x3, qL x4, qZ, qI (0 : Int32)] [(.ref (ad 3 0)), (.int (0 : Int32)), (.ref b130)])) rfl rfl (hb hby d21_78)
  refine own_st st195 ?_
  have f196 := f179.other W195 M_b130
  have f197 := f180.wr W195
  have f198 := f181.other W195 ne_pa_b130
  have f199 := f182.other W195 ne_b102_b130
  have f200 := f183.wr W195
  have f201 := f191.other W195 ne_b115_b130
  have f202 := f184.wr W195
  have f203 := f186.wr W195
  have f204 := f187.other W195 (Or.inl ne_gr_b130)
  have f205 := f188.other W195 (Or.inl ne_gr_b130)
  have f206 := f189.other W195 (Or.inl ne_gr_b130)
  have f207 := f190.other W195 (Or.inl ne_gr_b130)
  have Z195 : n0 ≤ h195.size := Nat.le_trans Z178 (Keep.of_wr W195).1
  have N195 := Fr.snoc X195 N194 G_b130
  have K195 : Keep h0 h195 [gr] := K178.wr W195 (Or.inr sz_b130)
  have f208 : own_R Z h195 b130 (.array .double) "[D" 3 (own_V [(.ref (ad 3 0)), .null, .null]) := (own_R.set O195 (own_ix (j := (0 : Int32)) (i := 0) (n := 3) (by decide) (by decide) (by decide)) W195).cong (fun j hj => by match j, hj with | 0, _ => rfl | 1, _ => rfl | 2, _ => rfl | j + 3, h => exact absurd h (by omega))
  have O209 := f198
  obtain ⟨c209, Ar209, S209, M209, V209⟩ := O209
  have ln209 : c209.slots.size.toInt32 = (3 : Int32) := by rw [S209]; try (first | rfl | decide | exact rfl)
  refine own_st (S' := T195.setTop (mkF m 38 #[qA gr, qA pa, qI x2, qI x3, qL x4, qZ, qI (1 : Int32)] [(.ref gr)])) (fun t k => XS.iinc X195.here hx rfl (hb hby d21_79) rfl (l' := #[qA gr, qA pa, qI x2, qI x3, qL x4, qZ, qI (1 : Int32)]) rfl (XS.goto X195.here hx rfl (pc0 := 82) (pc' := 30) rfl (hb hby d21_82) (by decide) (by decide) (XS.iload X195.here hx rfl (hb hby d21_30) rfl (XS.aloadN X195.here hx rfl (hb hby d21_32) rfl rfl (X195.arraylength hx (by rw [e195]; exact Ar209.1) (State.isArrayOf_alike hZ.alike Ar209.2.1) (g := (mkF m 33 #[qA gr, qA pa, qI x2, qI x3, qL x4, qZ, qI (1 : Int32)] [(.ref pa), (.int (1 : Int32))])) rfl rfl (hb hby d21_33) _ (by rw [ln209]; exact (XS.icmpNo X195.here hx rfl (hb hby d21_34) rfl (tlt (by decide)).2.1 (XS.aloadN X195.here hx rfl (hb hby d21_37) rfl rfl k)))))))) ?_
  obtain ⟨T210, X210, e210, st210⟩ := getF X195 hx hZ hown (host := "") (Or.inl (own_hw hw (i := 131) rfl)) Via.refl e195 f204 (g := (mkF m 38 #[qA gr, qA pa, qI x2, qI x3, qL x4, qZ, qI (1 : Int32)] [(.ref gr)])) rfl rfl (hb hby d21_38)
  refine own_st st210 ?_
  have O211 := f198
  obtain ⟨c211, Ar211, S211, M211, V211⟩ := O211
  have at211 : c211.slots[((1 : Int32)).toNatClampNeg]? = some (.ref (ad 0 1)) := own_at S211 V211 (own_ix (j := (1 : Int32)) (i := 1) (n := 3) (by decide) (by decide) (by decide)) rfl
  refine own_st (S' := T210.setTop (mkF m 47 #[qA gr, qA pa, qI x2, qI x3, qL x4, qZ, qI (1 : Int32)] [(.ref (ad 0 1)), (.int (1 : Int32)), (.ref b102)])) (fun t k => XS.iload X210.here hx rfl (hb hby d21_41) rfl (XS.aloadN X210.here hx rfl (hb hby d21_43) rfl rfl (XS.iload X210.here hx rfl (hb hby d21_44) rfl (X210.aaload hx (j := (1 : Int32)) (v := (.ref (ad 0 1))) (by rw [e210]; exact Ar211.1) (State.isArrayOf_alike hZ.alike Ar211.2.1) rfl Ar211.2.2 (own_in S211 (own_ix (j := (1 : Int32)) (i := 1) (n := 3) (by decide) (by decide) (by decide))) at211 (g := (mkF m 46 #[qA gr, qA pa, qI x2, qI x3, qL x4, qZ, qI (1 : Int32)] [(.int (1 : Int32)), (.ref pa), (.int (1 : Int32)), (.ref b102)])) rfl rfl (hb hby d21_46) _ k)))) ?_
  obtain ⟨cq212, kq212, q212a, q212b, q212c⟩ := isOf hZ e210 (f196 1 (by decide)).1
  obtain ⟨_, _, ⟨T212, L212, k212, n212⟩, -, X212, ⟨Lc212, hQ212, l212, y212, z212⟩, st212⟩ := X210.virtualBack hx (y := (⟨"kithrank/Graph$Page", "start", "()[I"⟩ : MethodName)) (z := (⟨"kithrank/Graph$Page", "start", "()[I"⟩ : MethodName)) hown (mvT hZ (own_hw hw (i := 145) rfl)) (mvT hZ (own_hw hw (i := 146) rfl)) (notFace_of_selects (args := #[]) (mvT hZ (own_hw hw (i := 148) rfl))) (mvT hZ (own_hw hw (i := 148) rfl)) (mvT hZ (own_hw hw (i := 147) rfl)) (by decide) (backOf (W := 2) (rm16 l Z a0 hw [] (ad 0 1) (ad 1 1) h195 n0 Z195 (f196 1 (by decide)).2.2.2.2.1) hZ (own_hw hw (i := 149) rfl) (own_hw hw (i := 23) rfl) (by decide) (by decide)) q212a q212c (g := (mkF m 47 #[qA gr, qA pa, qI x2, qI x3, qL x4, qZ, qI (1 : Int32)] [(.ref (ad 0 1)), (.int (1 : Int32)), (.ref b102)])) rfl (by rw [hml]; rfl) (Steps.refl _) (argsL := []) (rest := [(.int (1 : Int32)), (.ref b102)]) (lenOf pd21_2 rfl) rfl (by show 2 * 0 + _ ≤ _; exact Nat.le_of_eq rfl) (hb hby d21_47) (fun _ _ => ⟨rfl, e210, (by decide : 3 + 0 ≤ _), (by decide : 9 + 0 ≤ _)⟩)
  dsimp only [Pt.U, Pt.locs, Pt.cells, Pt.slots] at X212 l212 y212 z212 st212 hQ212
  rw [l212, y212, z212] at X212
  obtain ⟨rfl, N212q, hh212⟩ := hQ212
  have N212 := Fr.app N195 N212q
  refine own_tr st212 ?_
  show own_Go p.tables e below _ (T212.setTop (mkF m 50 #[qA gr, qA pa, qI x2, qI x3, qL x4, qZ, qI (1 : Int32)] [(.ref (ad 1 1)), (.int (1 : Int32)), (.ref b102)]))
  have O213 := f199
  obtain ⟨c213, Ar213, S213, M213, V213⟩ := O213.toA
  obtain ⟨T213, h213, X213, e213, W213, st213⟩ := Jvm.RoadKit.stR X212 hx hZ hh212 Ar213 (j := (1 : Int32)) (own_in S213 (own_ix (j := (1 : Int32)) (i := 1) (n := 3) (by decide) (by decide) (by decide))) rfl (O213.sto (Ins.self (f196 1 (by decide)).2.1)) (g := (mkF m 50 #[qA gr, qA pa, qI x2, qI x3, qL x4, qZ, qI (1 : Int32)] [(.ref (ad 1 1)), (.int (1 : Int32)), (.ref b102)])) rfl rfl (hb hby d21_50)
  refine own_st st213 ?_
  have f214 := f196.other W213 M_b102
  have f215 := f197.wr W213
  have f216 := f198.other W213 ne_pa_b102
  have f217 := f200.wr W213
  have f218 := f201.other W213 (Ne.symm ne_b102_b115)
  have f219 := f202.wr W213
  have f220 := f208.other W213 (Ne.symm ne_b102_b130)
  have f221 := f203.wr W213
  have f222 := f204.other W213 (Or.inl ne_gr_b102)
  have f223 := f205.other W213 (Or.inl ne_gr_b102)
  have f224 := f206.other W213 (Or.inl ne_gr_b102)
  have f225 := f207.other W213 (Or.inl ne_gr_b102)
  have Z213 : n0 ≤ h213.size := Nat.le_trans Z195 (Keep.of_wr W213).1
  have N213 := Fr.snoc X213 N212 G_b102
  have K213 : Keep h0 h213 [gr] := K195.wr W213 (Or.inr sz_b102)
  have f226 : own_R Z h213 b102 (.array .int) "[I" 3 (own_V [(.ref (ad 1 0)), (.ref (ad 1 1)), .null]) := (own_R.set O213 (own_ix (j := (1 : Int32)) (i := 1) (n := 3) (by decide) (by decide) (by decide)) W213).cong (fun j hj => by match j, hj with | 0, _ => rfl | 1, _ => rfl | 2, _ => rfl | j + 3, h => exact absurd h (by omega))
  refine own_st (S' := T213.setTop (mkF m 52 #[qA gr, qA pa, qI x2, qI x3, qL x4, qZ, qI (1 : Int32)] [(.ref gr)])) (fun t k => XS.aloadN X213.here hx rfl (hb hby d21_51) rfl rfl k) ?_
  obtain ⟨T227, X227, e227, st227⟩ := getF X213 hx hZ hown (host := "") (Or.inl (own_hw hw (i := 133) rfl)) Via.refl e213 f223 (g := (mkF m 52 #[qA gr, qA pa, qI x2, qI x3, qL x4, qZ, qI (1 : Int32)] [(.ref gr)])) rfl rfl (hb hby d21_52)
  refine own_st st227 ?_
  have O228 := f216
  obtain ⟨c228, Ar228, S228, M228, V228⟩ := O228
  have at228 : c228.slots[((1 : Int32)).toNatClampNeg]? = some (.ref (ad 0 1)) := own_at S228 V228 (own_ix (j := (1 : Int32)) (i := 1) (n := 3) (by decide) (by decide) (by decide)) rfl
  refine own_st (S' := T227.setTop (mkF m 61 #[qA gr, qA pa, qI x2, qI x3, qL x4, qZ, qI (1 : Int32)] [(.ref (ad 0 1)), (.int (1 : Int32)), (.ref b115)])) (fun t k => XS.iload X227.here hx rfl (hb hby d21_55) rfl (XS.aloadN X227.here hx rfl (hb hby d21_57) rfl rfl (XS.iload X227.here hx rfl (hb hby d21_58) rfl (X227.aaload hx (j := (1 : Int32)) (v := (.ref (ad 0 1))) (by rw [e227]; exact Ar228.1) (State.isArrayOf_alike hZ.alike Ar228.2.1) rfl Ar228.2.2 (own_in S228 (own_ix (j := (1 : Int32)) (i := 1) (n := 3) (by decide) (by decide) (by decide))) at228 (g := (mkF m 60 #[qA gr, qA pa, qI x2, qI x3, qL x4, qZ, qI (1 : Int32)] [(.int (1 : Int32)), (.ref pa), (.int (1 : Int32)), (.ref b115)])) rfl rfl (hb hby d21_60) _ k)))) ?_
  obtain ⟨cq229, kq229, q229a, q229b, q229c⟩ := isOf hZ e227 (f214 1 (by decide)).1
  obtain ⟨_, _, ⟨T229, L229, k229, n229⟩, -, X229, ⟨Lc229, hQ229, l229, y229, z229⟩, st229⟩ := X227.virtualBack hx (y := (⟨"kithrank/Graph$Page", "target", "()[I"⟩ : MethodName)) (z := (⟨"kithrank/Graph$Page", "target", "()[I"⟩ : MethodName)) hown (mvT hZ (own_hw hw (i := 151) rfl)) (mvT hZ (own_hw hw (i := 152) rfl)) (notFace_of_selects (args := #[]) (mvT hZ (own_hw hw (i := 154) rfl))) (mvT hZ (own_hw hw (i := 154) rfl)) (mvT hZ (own_hw hw (i := 153) rfl)) (by decide) (backOf (W := 2) (rm17 l Z a0 hw [] (ad 0 1) (ad 2 1) h213 n0 Z213 (f214 1 (by decide)).2.2.2.2.2.1) hZ (own_hw hw (i := 155) rfl) (own_hw hw (i := 23) rfl) (by decide) (by decide)) q229a q229c (g := (mkF m 61 #[qA gr, qA pa, qI x2, qI x3, qL x4, qZ, qI (1 : Int32)] [(.ref (ad 0 1)), (.int (1 : Int32)), (.ref b115)])) rfl (by rw [hml]; rfl) (Steps.refl _) (argsL := []) (rest := [(.int (1 : Int32)), (.ref b115)]) (lenOf pd21_2 rfl) rfl (by show 2 * 0 + _ ≤ _; exact Nat.le_of_eq rfl) (hb hby d21_61) (fun _ _ => ⟨rfl, e227, (by decide : 3 + 0 ≤ _), (by decide : 9 + 0 ≤ _)⟩)
  dsimp only [Pt.U, Pt.locs, Pt.cells, Pt.slots] at X229 l229 y229 z229 st229 hQ229
  rw [l229, y229, z229] at X229
  obtain ⟨rfl, N229q, hh229⟩ := hQ229
  have N229 := Fr.app N213 N229q
  refine own_tr st229 ?_
  show own_Go p.tables e below _ (T229.setTop (mkF m 64 #[qA gr, qA pa, qI x2, qI x3, qL x4, qZ, qI (1 : Int32)] [(.ref (ad 2 1)), (.int (1 : Int32)), (.ref b115)]))
  have O230 := f218
  obtain ⟨c230, Ar230, S230, M230, V230⟩ := O230.toA
  obtain ⟨T230, h230, X230, e230, W230, st230⟩ := Jvm.RoadKit.stR X229 hx hZ hh229 Ar230 (j := (1 : Int32)) (own_in S230 (own_ix (j := (1 : Int32)) (i := 1) (n := 3) (by decide) (by decide) (by decide))) rfl (O230.sto (Ins.self (f214 1 (by decide)).2.2.1)) (g := (mkF m 64 #[qA gr, qA pa, qI x2, qI x3, qL x4, qZ, qI (1 : Int32)] [(.ref (ad 2 1)), (.int (1 : Int32)), (.ref b115)])) rfl rfl (hb hby d21_64)
  refine own_st st230 ?_
  have f231 := f214.other W230 M_b115
  have f232 := f215.wr W230
  have f233 := f216.other W230 ne_pa_b115
  have f234 := f226.other W230 ne_b102_b115
  have f235 := f217.wr W230
  have f236 := f219.wr W230
  have f237 := f220.other W230 (Ne.symm ne_b115_b130)
  have f238 := f221.wr W230
  have f239 := f222.other W230 (Or.inl ne_gr_b115)
  have f240 := f223.other W230 (Or.inl ne_gr_b115)
  have f241 := f224.other W230 (Or.inl ne_gr_b115)
  have f242 := f225.other W230 (Or.inl ne_gr_b115)
  have Z230 : n0 ≤ h230.size := Nat.le_trans Z213 (Keep.of_wr W230).1
  have N230 := Fr.snoc X230 N229 G_b115
  have K230 : Keep h0 h230 [gr] := K213.wr W230 (Or.inr sz_b115)
  have f243 : own_R Z h230 b115 (.array .int) "[I" 3 (own_V [(.ref (ad 2 0)), (.ref (ad 2 1)), .null]) := (own_R.set O230 (own_ix (j := (1 : Int32)) (i := 1) (n := 3) (by decide) (by decide) (by decide)) W230).cong (fun j hj => by match j, hj with | 0, _ => rfl | 1, _ => rfl | 2, _ => rfl | j + 3, h => exact absurd h (by omega))
  refine own_st (S' := T230.setTop (mkF m 66 #[qA gr, qA pa, qI x2, qI x3, qL x4, qZ, qI (1 : Int32)] [(.ref gr)])) (fun t k => XS.aloadN X230.here hx rfl (hb hby d21_65) rfl rfl k) ?_
  obtain ⟨T244, X244, e244, st244⟩ := getF X230 hx hZ hown (host := "") (Or.inl (own_hw hw (i := 135) rfl)) Via.refl e230 f241 (g := (mkF m 66 #[qA gr, qA pa, qI x2, qI x3, qL x4, qZ, qI (1 : Int32)] [(.ref gr)])) rfl rfl (hb hby d21_66)
  refine own_st st244 ?_
  have O245 := f233
  obtain ⟨c245, Ar245, S245, M245, V245⟩ := O245
  have at245 : c245.slots[((1 : Int32)).toNatClampNeg]? = some (.ref (ad 0 1)) := own_at S245 V245 (own_ix (j := (1 : Int32)) (i := 1) (n := 3) (by decide) (by decide) (by decide)) rfl
  refine own_st (S' := T244.setTop (mkF m 75 #[qA gr, qA pa, qI x2, qI x3, qL x4, qZ, qI (1 : Int32)] [(.ref (ad 0 1)), (.int (1 : Int32)), (.ref b130)])) (fun t k => XS.iload X244.here hx rfl (hb hby d21_69) rfl (XS.aloadN X244.here hx rfl (hb hby d21_71) rfl rfl (XS.iload X244.here hx rfl (hb hby d21_72) rfl (X244.aaload hx (j := (1 : Int32)) (v := (.ref (ad 0 1))) (by rw [e244]; exact Ar245.1) (State.isArrayOf_alike hZ.alike Ar245.2.1) rfl Ar245.2.2 (own_in S245 (own_ix (j := (1 : Int32)) (i := 1) (n := 3) (by decide) (by decide) (by decide))) at245 (g := (mkF m 74 #[qA gr, qA pa, qI x2, qI x3, qL x4, qZ, qI (1 : Int32)] [(.int (1 : Int32)), (.ref pa), (.int (1 : Int32)), (.ref b130)])) rfl rfl (hb hby d21_74) _ k)))) ?_
  obtain ⟨cq246, kq246, q246a, q246b, q246c⟩ := isOf hZ e244 (f231 1 (by decide)).1
  obtain ⟨_, _, ⟨T246, L246, k246, n246⟩, -, X246, ⟨Lc246, hQ246, l246, y246, z246⟩, st246⟩ := X244.virtualBack hx (y := (⟨"kithrank/Graph$Page", "weight", "()[D"⟩ : MethodName)) (z := (⟨"kithrank/Graph$Page", "weight", "()[D"⟩ : MethodName)) hown (mvT hZ (own_hw hw (i := 156) rfl)) (mvT hZ (own_hw hw (i := 157) rfl)) (notFace_of_selects (args := #[]) (mvT hZ (own_hw hw (i := 159) rfl))) (mvT hZ (own_hw hw (i := 159) rfl)) (mvT hZ (own_hw hw (i := 158) rfl)) (by decide) (backOf (W := 2) (rm18 l Z a0 hw [] (ad 0 1) (ad 3 1) h230 n0 Z230 (f231 1 (by decide)).2.2.2.2.2.2.1) hZ (own_hw hw (i := 160) rfl) (own_hw hw (i := 23) rfl) (by decide) (by decide)) q246a q246c (g := (mkF m 75 #[qA gr, qA pa, qI x2, qI x3, qL x4, qZ, qI (1 : Int32)] [(.ref (ad 0 1)), (.int (1 : Int32)), (.ref b130)])) rfl (by rw [hml]; rfl) (Steps.refl _) (argsL := []) (rest := [(.int (1 : Int32)), (.ref b130)]) (lenOf pd21_3 rfl) rfl (by show 2 * 0 + _ ≤ _; exact Nat.le_of_eq rfl) (hb hby d21_75) (fun _ _ => ⟨rfl, e244, (by decide : 3 + 0 ≤ _), (by decide : 9 + 0 ≤ _)⟩)
  dsimp only [Pt.U, Pt.locs, Pt.cells, Pt.slots] at X246 l246 y246 z246 st246 hQ246
  rw [l246, y246, z246] at X246
  obtain ⟨rfl, N246q, hh246⟩ := hQ246
  have N246 := Fr.app N230 N246q
  refine own_tr st246 ?_
  show own_Go p.tables e below _ (T246.setTop (mkF m 78 #[qA gr, qA pa, qI x2, qI x3, qL x4, qZ, qI (1 : Int32)] [(.ref (ad 3 1)), (.int (1 : Int32)), (.ref b130)]))
  have O247 := f237
  obtain ⟨c247, Ar247, S247, M247, V247⟩ := O247.toA
  obtain ⟨T247, h247, X247, e247, W247, st247⟩ := Jvm.RoadKit.stR X246 hx hZ hh246 Ar247 (j := (1 : Int32)) (own_in S247 (own_ix (j := (1 : Int32)) (i := 1) (n := 3) (by decide) (by decide) (by decide))) rfl (O247.sto (Ins.self (f231 1 (by decide)).2.2.2.1)) (g := (mkF m 78 #[qA gr, qA pa, qI x2, qI x3, qL x4, qZ, qI (1 : Int32)] [(.ref (ad 3 1)), (.int (1 : Int32)), (.ref b130)])) rfl rfl (hb hby d21_78)
  refine own_st st247 ?_
  have f248 := f231.other W247 M_b130
  have f249 := f232.wr W247
  have f250 := f233.other W247 ne_pa_b130
  have f251 := f234.other W247 ne_b102_b130
  have f252 := f235.wr W247
  have f253 := f243.other W247 ne_b115_b130
  have f254 := f236.wr W247
  have f255 := f238.wr W247
  have f256 := f239.other W247 (Or.inl ne_gr_b130)
  have f257 := f240.other W247 (Or.inl ne_gr_b130)
  have f258 := f241.other W247 (Or.inl ne_gr_b130)
  have f259 := f242.other W247 (Or.inl ne_gr_b130)
  have Z247 : n0 ≤ h247.size := Nat.le_trans Z230 (Keep.of_wr W247).1
  have N247 := Fr.snoc X247 N246 G_b130
  have K247 : Keep h0 h247 [gr] := K230.wr W247 (Or.inr sz_b130)
  have f260 : own_R Z h247 b130 (.array .double) "[D" 3 (own_V [(.ref (ad 3 0)), (.ref (ad 3 1)), .null]) := (own_R.set O247 (own_ix (j := (1 : Int32)) (i := 1) (n := 3) (by decide) (by decide) (by decide)) W247).cong (fun j hj => by match j, hj with | 0, _ => rfl | 1, _ => rfl | 2, _ => rfl | j + 3, h => exact absurd h (by omega))
  have O261 := f250
  obtain ⟨c261, Ar261, S261, M261, V261⟩ := O261
  have ln261 : c261.slots.size.toInt32 = (3 : Int32) := by rw [S261]; try (first | rfl | decide | exact rfl)
  refine own_st (S' := T247.setTop (mkF m 38 #[qA gr, qA pa, qI x2, qI x3, qL x4, qZ, qI (2 : Int32)] [(.ref gr)])) (fun t k => XS.iinc X247.here hx rfl (hb hby d21_79) rfl (l' := #[qA gr, qA pa, qI x2, qI x3, qL x4, qZ, qI (2 : Int32)]) rfl (XS.goto X247.here hx rfl (pc0 := 82) (pc' := 30) rfl (hb hby d21_82) (by decide) (by decide) (XS.iload X247.here hx rfl (hb hby d21_30) rfl (XS.aloadN X247.here hx rfl (hb hby d21_32) rfl rfl (X247.arraylength hx (by rw [e247]; exact Ar261.1) (State.isArrayOf_alike hZ.alike Ar261.2.1) (g := (mkF m 33 #[qA gr, qA pa, qI x2, qI x3, qL x4, qZ, qI (2 : Int32)] [(.ref pa), (.int (2 : Int32))])) rfl rfl (hb hby d21_33) _ (by rw [ln261]; exact (XS.icmpNo X247.here hx rfl (hb hby d21_34) rfl (tlt (by decide)).2.1 (XS.aloadN X247.here hx rfl (hb hby d21_37) rfl rfl k)))))))) ?_
  obtain ⟨T262, X262, e262, st262⟩ := getF X247 hx hZ hown (host := "") (Or.inl (own_hw hw (i := 131) rfl)) Via.refl e247 f256 (g := (mkF m 38 #[qA gr, qA pa, qI x2, qI x3, qL x4, qZ, qI (2 : Int32)] [(.ref gr)])) rfl rfl (hb hby d21_38)
  refine own_st st262 ?_
  have O263 := f250
  obtain ⟨c263, Ar263, S263, M263, V263⟩ := O263
  have at263 : c263.slots[((2 : Int32)).toNatClampNeg]? = some (.ref (ad 0 2)) := own_at S263 V263 (own_ix (j := (2 : Int32)) (i := 2) (n := 3) (by decide) (by decide) (by decide)) rfl
  refine own_st (S' := T262.setTop (mkF m 47 #[qA gr, qA pa, qI x2, qI x3, qL x4, qZ, qI (2 : Int32)] [(.ref (ad 0 2)), (.int (2 : Int32)), (.ref b102)])) (fun t k => XS.iload X262.here hx rfl (hb hby d21_41) rfl (XS.aloadN X262.here hx rfl (hb hby d21_43) rfl rfl (XS.iload X262.here hx rfl (hb hby d21_44) rfl (X262.aaload hx (j := (2 : Int32)) (v := (.ref (ad 0 2))) (by rw [e262]; exact Ar263.1) (State.isArrayOf_alike hZ.alike Ar263.2.1) rfl Ar263.2.2 (own_in S263 (own_ix (j := (2 : Int32)) (i := 2) (n := 3) (by decide) (by decide) (by decide))) at263 (g := (mkF m 46 #[qA gr, qA pa, qI x2, qI x3, qL x4, qZ, qI (2 : Int32)] [(.int (2 : Int32)), (.ref pa), (.int (2 : Int32)), (.ref b102)])) rfl rfl (hb hby d21_46) _ k)))) ?_
  obtain ⟨cq264, kq264, q264a, q264b, q264c⟩ := isOf hZ e262 (f248 2 (by decide)).1
  obtain ⟨_, _, ⟨T264, L264, k264, n264⟩, -, X264, ⟨Lc264, hQ264, l264, y264, z264⟩, st264⟩ := X262.virtualBack hx (y := (⟨"kithrank/Graph$Page", "start", "()[I"⟩ : MethodName)) (z := (⟨"kithrank/Graph$Page", "start", "()[I"⟩ : MethodName)) hown (mvT hZ (own_hw hw (i := 145) rfl)) (mvT hZ (own_hw hw (i := 146) rfl)) (notFace_of_selects (args := #[]) (mvT hZ (own_hw hw (i := 148) rfl))) (mvT hZ (own_hw hw (i := 148) rfl)) (mvT hZ (own_hw hw (i := 147) rfl)) (by decide) (backOf (W := 2) (rm16 l Z a0 hw [] (ad 0 2) (ad 1 2) h247 n0 Z247 (f248 2 (by decide)).2.2.2.2.1) hZ (own_hw hw (i := 149) rfl) (own_hw hw (i := 23) rfl) (by decide) (by decide)) q264a q264c (g := (mkF m 47 #[qA gr, qA pa, qI x2, qI x3, qL x4, qZ, qI (2 : Int32)] [(.ref (ad 0 2)), (.int (2 : Int32)), (.ref b102)])) rfl (by rw [hml]; rfl) (Steps.refl _) (argsL := []) (rest := [(.int (2 : Int32)), (.ref b102)]) (lenOf pd21_2 rfl) rfl (by show 2 * 0 + _ ≤ _; exact Nat.le_of_eq rfl) (hb hby d21_47) (fun _ _ => ⟨rfl, e262, (by decide : 3 + 0 ≤ _), (by decide : 9 + 0 ≤ _)⟩)
  dsimp only [Pt.U, Pt.locs, Pt.cells, Pt.slots] at X264 l264 y264 z264 st264 hQ264
  rw [l264, y264, z264] at X264
  obtain ⟨rfl, N264q, hh264⟩ := hQ264
  have N264 := Fr.app N247 N264q
  refine own_tr st264 ?_
  show own_Go p.tables e below _ (T264.setTop (mkF m 50 #[qA gr, qA pa, qI x2, qI x3, qL x4, qZ, qI (2 : Int32)] [(.ref (ad 1 2)), (.int (2 : Int32)), (.ref b102)]))
  have O265 := f251
  obtain ⟨c265, Ar265, S265, M265, V265⟩ := O265.toA
  obtain ⟨T265, h265, X265, e265, W265, st265⟩ := Jvm.RoadKit.stR X264 hx hZ hh264 Ar265 (j := (2 : Int32)) (own_in S265 (own_ix (j := (2 : Int32)) (i := 2) (n := 3) (by decide) (by decide) (by decide))) rfl (O265.sto (Ins.self (f248 2 (by decide)).2.1)) (g := (mkF m 50 #[qA gr, qA pa, qI x2, qI x3, qL x4, qZ, qI (2 : Int32)] [(.ref (ad 1 2)), (.int (2 : Int32)), (.ref b102)])) rfl rfl (hb hby d21_50)
  refine own_st st265 ?_
  have f266 := f248.other W265 M_b102
  have f267 := f249.wr W265
  have f268 := f250.other W265 ne_pa_b102
  have f269 := f252.wr W265
  have f270 := f253.other W265 (Ne.symm ne_b102_b115)
  have f271 := f254.wr W265
  have f272 := f260.other W265 (Ne.symm ne_b102_b130)
  have f273 := f255.wr W265
  have f274 := f256.other W265 (Or.inl ne_gr_b102)
  have f275 := f257.other W265 (Or.inl ne_gr_b102)
  have f276 := f258.other W265 (Or.inl ne_gr_b102)
  have f277 := f259.other W265 (Or.inl ne_gr_b102)
  have Z265 : n0 ≤ h265.size := Nat.le_trans Z247 (Keep.of_wr W265).1
  have N265 := Fr.snoc X265 N264 G_b102
  have K265 : Keep h0 h265 [gr] := K247.wr W265 (Or.inr sz_b102)
  have f278 : own_R Z h265 b102 (.array .int) "[I" 3 (own_V [(.ref (ad 1 0)), (.ref (ad 1 1)), (.ref (ad 1 2))]) := (own_R.set O265 (own_ix (j := (2 : Int32)) (i := 2) (n := 3) (by decide) (by decide) (by decide)) W265).cong (fun j hj => by match j, hj with | 0, _ => rfl | 1, _ => rfl | 2, _ => rfl | j + 3, h => exact absurd h (by omega))
  refine own_st (S' := T265.setTop (mkF m 52 #[qA gr, qA pa, qI x2, qI x3, qL x4, qZ, qI (2 : Int32)] [(.ref gr)])) (fun t k => XS.aloadN X265.here hx rfl (hb hby d21_51) rfl rfl k) ?_
  obtain ⟨T279, X279, e279, st279⟩ := getF X265 hx hZ hown (host := "") (Or.inl (own_hw hw (i := 133) rfl)) Via.refl e265 f275 (g := (mkF m 52 #[qA gr, qA pa, qI x2, qI x3, qL x4, qZ, qI (2 : Int32)] [(.ref gr)])) rfl rfl (hb hby d21_52)
  refine own_st st279 ?_
  have O280 := f268
  obtain ⟨c280, Ar280, S280, M280, V280⟩ := O280
  have at280 : c280.slots[((2 : Int32)).toNatClampNeg]? = some (.ref (ad 0 2)) := own_at S280 V280 (own_ix (j := (2 : Int32)) (i := 2) (n := 3) (by decide) (by decide) (by decide)) rfl
  refine own_st (S' := T279.setTop (mkF m 61 #[qA gr, qA pa, qI x2, qI x3, qL x4, qZ, qI (2 : Int32)] [(.ref (ad 0 2)), (.int (2 : Int32)), (.ref b115)])) (fun t k => XS.iload X279.here hx rfl (hb hby d21_55) rfl (XS.aloadN X279.here hx rfl (hb hby d21_57) rfl rfl (XS.iload X279.here hx rfl (hb hby d21_58) rfl (X279.aaload hx (j := (2 : Int32)) (v := (.ref (ad 0 2))) (by rw [e279]; exact Ar280.1) (State.isArrayOf_alike hZ.alike Ar280.2.1) rfl Ar280.2.2 (own_in S280 (own_ix (j := (2 : Int32)) (i := 2) (n := 3) (by decide) (by decide) (by decide))) at280 (g := (mkF m 60 #[qA gr, qA pa, qI x2, qI x3, qL x4, qZ, qI (2 : Int32)] [(.int (2 : Int32)), (.ref pa), (.int (2 : Int32)), (.ref b115)])) rfl rfl (hb hby d21_60) _ k)))) ?_
  obtain ⟨cq281, kq281, q281a, q281b, q281c⟩ := isOf hZ e279 (f266 2 (by decide)).1
  obtain ⟨_, _, ⟨T281, L281, k281, n281⟩, -, X281, ⟨Lc281, hQ281, l281, y281, z281⟩, st281⟩ := X279.virtualBack hx (y := (⟨"kithrank/Graph$Page", "target", "()[I"⟩ : MethodName)) (z := (⟨"kithrank/Graph$Page", "target", "()[I"⟩ : MethodName)) hown (mvT hZ (own_hw hw (i := 151) rfl)) (mvT hZ (own_hw hw (i := 152) rfl)) (notFace_of_selects (args := #[]) (mvT hZ (own_hw hw (i := 154) rfl))) (mvT hZ (own_hw hw (i := 154) rfl)) (mvT hZ (own_hw hw (i := 153) rfl)) (by decide) (backOf (W := 2) (rm17 l Z a0 hw [] (ad 0 2) (ad 2 2) h265 n0 Z265 (f266 2 (by decide)).2.2.2.2.2.1) hZ (own_hw hw (i := 155) rfl) (own_hw hw (i := 23) rfl) (by decide) (by decide)) q281a q281c (g := (mkF m 61 #[qA gr, qA pa, qI x2, qI x3, qL x4, qZ, qI (2 : Int32)] [(.ref (ad 0 2)), (.int (2 : Int32)), (.ref b115)])) rfl (by rw [hml]; rfl) (Steps.refl _) (argsL := []) (rest := [(.int (2 : Int32)), (.ref b115)]) (lenOf pd21_2 rfl) rfl (by show 2 * 0 + _ ≤ _; exact Nat.le_of_eq rfl) (hb hby d21_61) (fun _ _ => ⟨rfl, e279, (by decide : 3 + 0 ≤ _), (by decide : 9 + 0 ≤ _)⟩)
  dsimp only [Pt.U, Pt.locs, Pt.cells, Pt.slots] at X281 l281 y281 z281 st281 hQ281
  rw [l281, y281, z281] at X281
  obtain ⟨rfl, N281q, hh281⟩ := hQ281
  have N281 := Fr.app N265 N281q
  refine own_tr st281 ?_
  show own_Go p.tables e below _ (T281.setTop (mkF m 64 #[qA gr, qA pa, qI x2, qI x3, qL x4, qZ, qI (2 : Int32)] [(.ref (ad 2 2)), (.int (2 : Int32)), (.ref b115)]))
  have O282 := f270
  obtain ⟨c282, Ar282, S282, M282, V282⟩ := O282.toA
  obtain ⟨T282, h282, X282, e282, W282, st282⟩ := Jvm.RoadKit.stR X281 hx hZ hh281 Ar282 (j := (2 : Int32)) (own_in S282 (own_ix (j := (2 : Int32)) (i := 2) (n := 3) (by decide) (by decide) (by decide))) rfl (O282.sto (Ins.self (f266 2 (by decide)).2.2.1)) (g := (mkF m 64 #[qA gr, qA pa, qI x2, qI x3, qL x4, qZ, qI (2 : Int32)] [(.ref (ad 2 2)), (.int (2 : Int32)), (.ref b115)])) rfl rfl (hb hby d21_64)
  refine own_st st282 ?_
  have f283 := f266.other W282 M_b115
  have f284 := f267.wr W282
  have f285 := f268.other W282 ne_pa_b115
  have f286 := f278.other W282 ne_b102_b115
  have f287 := f269.wr W282
  have f288 := f271.wr W282
  have f289 := f272.other W282 (Ne.symm ne_b115_b130)
  have f290 := f273.wr W282
  have f291 := f274.other W282 (Or.inl ne_gr_b115)
  have f292 := f275.other W282 (Or.inl ne_gr_b115)
  have f293 := f276.other W282 (Or.inl ne_gr_b115)
  have f294 := f277.other W282 (Or.inl ne_gr_b115)
  have Z282 : n0 ≤ h282.size := Nat.le_trans Z265 (Keep.of_wr W282).1
  have N282 := Fr.snoc X282 N281 G_b115
  have K282 : Keep h0 h282 [gr] := K265.wr W282 (Or.inr sz_b115)
  have f295 : own_R Z h282 b115 (.array .int) "[I" 3 (own_V [(.ref (ad 2 0)), (.ref (ad 2 1)), (.ref (ad 2 2))]) := (own_R.set O282 (own_ix (j := (2 : Int32)) (i := 2) (n := 3) (by decide) (by decide) (by decide)) W282).cong (fun j hj => by match j, hj with | 0, _ => rfl | 1, _ => rfl | 2, _ => rfl | j + 3, h => exact absurd h (by omega))
  refine own_st (S' := T282.setTop (mkF m 66 #[qA gr, qA pa, qI x2, qI x3, qL x4, qZ, qI (2 : Int32)] [(.ref gr)])) (fun t k => XS.aloadN X282.here hx rfl (hb hby d21_65) rfl rfl k) ?_
  obtain ⟨T296, X296, e296, st296⟩ := getF X282 hx hZ hown (host := "") (Or.inl (own_hw hw (i := 135) rfl)) Via.refl e282 f293 (g := (mkF m 66 #[qA gr, qA pa, qI x2, qI x3, qL x4, qZ, qI (2 : Int32)] [(.ref gr)])) rfl rfl (hb hby d21_66)
  refine own_st st296 ?_
  have O297 := f285
  obtain ⟨c297, Ar297, S297, M297, V297⟩ := O297
  have at297 : c297.slots[((2 : Int32)).toNatClampNeg]? = some (.ref (ad 0 2)) := own_at S297 V297 (own_ix (j := (2 : Int32)) (i := 2) (n := 3) (by decide) (by decide) (by decide)) rfl
  refine own_st (S' := T296.setTop (mkF m 75 #[qA gr, qA pa, qI x2, qI x3, qL x4, qZ, qI (2 : Int32)] [(.ref (ad 0 2)), (.int (2 : Int32)), (.ref b130)])) (fun t k => XS.iload X296.here hx rfl (hb hby d21_69) rfl (XS.aloadN X296.here hx rfl (hb hby d21_71) rfl rfl (XS.iload X296.here hx rfl (hb hby d21_72) rfl (X296.aaload hx (j := (2 : Int32)) (v := (.ref (ad 0 2))) (by rw [e296]; exact Ar297.1) (State.isArrayOf_alike hZ.alike Ar297.2.1) rfl Ar297.2.2 (own_in S297 (own_ix (j := (2 : Int32)) (i := 2) (n := 3) (by decide) (by decide) (by decide))) at297 (g := (mkF m 74 #[qA gr, qA pa, qI x2, qI x3, qL x4, qZ, qI (2 : Int32)] [(.int (2 : Int32)), (.ref pa), (.int (2 : Int32)), (.ref b130)])) rfl rfl (hb hby d21_74) _ k)))) ?_
  obtain ⟨cq298, kq298, q298a, q298b, q298c⟩ := isOf hZ e296 (f283 2 (by decide)).1
  obtain ⟨_, _, ⟨T298, L298, k298, n298⟩, -, X298, ⟨Lc298, hQ298, l298, y298, z298⟩, st298⟩ := X296.virtualBack hx (y := (⟨"kithrank/Graph$Page", "weight", "()[D"⟩ : MethodName)) (z := (⟨"kithrank/Graph$Page", "weight", "()[D"⟩ : MethodName)) hown (mvT hZ (own_hw hw (i := 156) rfl)) (mvT hZ (own_hw hw (i := 157) rfl)) (notFace_of_selects (args := #[]) (mvT hZ (own_hw hw (i := 159) rfl))) (mvT hZ (own_hw hw (i := 159) rfl)) (mvT hZ (own_hw hw (i := 158) rfl)) (by decide) (backOf (W := 2) (rm18 l Z a0 hw [] (ad 0 2) (ad 3 2) h282 n0 Z282 (f283 2 (by decide)).2.2.2.2.2.2.1) hZ (own_hw hw (i := 160) rfl) (own_hw hw (i := 23) rfl) (by decide) (by decide)) q298a q298c (g := (mkF m 75 #[qA gr, qA pa, qI x2, qI x3, qL x4, qZ, qI (2 : Int32)] [(.ref (ad 0 2)), (.int (2 : Int32)), (.ref b130)])) rfl (by rw [hml]; rfl) (Steps.refl _) (argsL := []) (rest := [(.int (2 : Int32)), (.ref b130)]) (lenOf pd21_3 rfl) rfl (by show 2 * 0 + _ ≤ _; exact Nat.le_of_eq rfl) (hb hby d21_75) (fun _ _ => ⟨rfl, e296, (by decide : 3 + 0 ≤ _), (by decide : 9 + 0 ≤ _)⟩)
  dsimp only [Pt.U, Pt.locs, Pt.cells, Pt.slots] at X298 l298 y298 z298 st298 hQ298
  rw [l298, y298, z298] at X298
  obtain ⟨rfl, N298q, hh298⟩ := hQ298
  have N298 := Fr.app N282 N298q
  refine own_tr st298 ?_
  show own_Go p.tables e below _ (T298.setTop (mkF m 78 #[qA gr, qA pa, qI x2, qI x3, qL x4, qZ, qI (2 : Int32)] [(.ref (ad 3 2)), (.int (2 : Int32)), (.ref b130)]))
  have O299 := f289
  obtain ⟨c299, Ar299, S299, M299, V299⟩ := O299.toA
  obtain ⟨T299, h299, X299, e299, W299, st299⟩ := Jvm.RoadKit.stR X298 hx hZ hh298 Ar299 (j := (2 : Int32)) (own_in S299 (own_ix (j := (2 : Int32)) (i := 2) (n := 3) (by decide) (by decide) (by decide))) rfl (O299.sto (Ins.self (f283 2 (by decide)).2.2.2.1)) (g := (mkF m 78 #[qA gr, qA pa, qI x2, qI x3, qL x4, qZ, qI (2 : Int32)] [(.ref (ad 3 2)), (.int (2 : Int32)), (.ref b130)])) rfl rfl (hb hby d21_78)
  refine own_st st299 ?_
  have f300 := f283.other W299 M_b130
  have f301 := f284.wr W299
  have f302 := f285.other W299 ne_pa_b130
  have f303 := f286.other W299 ne_b102_b130
  have f304 := f287.wr W299
  have f305 := f295.other W299 ne_b115_b130
  have f306 := f288.wr W299
  have f307 := f290.wr W299
  have f308 := f291.other W299 (Or.inl ne_gr_b130)
  have f309 := f292.other W299 (Or.inl ne_gr_b130)
  have f310 := f293.other W299 (Or.inl ne_gr_b130)
  have f311 := f294.other W299 (Or.inl ne_gr_b130)
  have Z299 : n0 ≤ h299.size := Nat.le_trans Z282 (Keep.of_wr W299).1
  have N299 := Fr.snoc X299 N298 G_b130
  have K299 : Keep h0 h299 [gr] := K282.wr W299 (Or.inr sz_b130)
  have f312 : own_R Z h299 b130 (.array .double) "[D" 3 (own_V [(.ref (ad 3 0)), (.ref (ad 3 1)), (.ref (ad 3 2))]) := (own_R.set O299 (own_ix (j := (2 : Int32)) (i := 2) (n := 3) (by decide) (by decide) (by decide)) W299).cong (fun j hj => by match j, hj with | 0, _ => rfl | 1, _ => rfl | 2, _ => rfl | j + 3, h => exact absurd h (by omega))
  have O313 := f302
  obtain ⟨c313, Ar313, S313, M313, V313⟩ := O313
  have ln313 : c313.slots.size.toInt32 = (3 : Int32) := by rw [S313]; try (first | rfl | decide | exact rfl)
  refine own_st (S' := T299.setTop (mkF m 85 #[qA gr, qA pa, qI x2, qI x3, qL x4, qZ, qI (3 : Int32)] [])) (fun t k => XS.iinc X299.here hx rfl (hb hby d21_79) rfl (l' := #[qA gr, qA pa, qI x2, qI x3, qL x4, qZ, qI (3 : Int32)]) rfl (XS.goto X299.here hx rfl (pc0 := 82) (pc' := 30) rfl (hb hby d21_82) (by decide) (by decide) (XS.iload X299.here hx rfl (hb hby d21_30) rfl (XS.aloadN X299.here hx rfl (hb hby d21_32) rfl rfl (X299.arraylength hx (by rw [e299]; exact Ar313.1) (State.isArrayOf_alike hZ.alike Ar313.2.1) (g := (mkF m 33 #[qA gr, qA pa, qI x2, qI x3, qL x4, qZ, qI (3 : Int32)] [(.ref pa), (.int (3 : Int32))])) rfl rfl (hb hby d21_33) _ (by rw [ln313]; exact (XS.icmpYes X299.here hx rfl (pc0 := 34) (pc' := 85) rfl (hb hby d21_34) rfl (flt (by decide)).2.1 (by decide) (by decide) k))))))) ?_
  have f314 : own_A Z h299 b102 (.array .int) 3 (own_Rf (ad 1)) := f303.toA.cong (fun j hj => by match j, hj with | 0, _ => rfl | 1, _ => rfl | 2, _ => rfl | j + 3, h => exact absurd h (by omega))
  have f315 : own_A Z h299 b115 (.array .int) 3 (own_Rf (ad 2)) := f305.toA.cong (fun j hj => by match j, hj with | 0, _ => rfl | 1, _ => rfl | 2, _ => rfl | j + 3, h => exact absurd h (by omega))
  have f316 : own_A Z h299 b130 (.array .double) 3 (own_Rf (ad 3)) := f312.toA.cong (fun j hj => by match j, hj with | 0, _ => rfl | 1, _ => rfl | 2, _ => rfl | j + 3, h => exact absurd h (by omega))
  refine own_retV X299 hx hret hlk (hb hby d21_85) ?_ (by decide) (by decide)
  rw [e299]
  exact ⟨b102, b115, b130, rfl, N299, K299, sz_b102, sz_b115, sz_b130, ne_b102_b115, ne_b102_b130, ne_b115_b130, f308, f309, f310, f311, f314, f315, f316⟩
theorem d22_0 : decode prog_62_method_30_code 0 = .ok (.aload_n 0, 1) := by decide +kernel
theorem d22_1 : decode prog_62_method_30_code 1 = .ok (.getfield 22, 3) := by decide +kernel
theorem d22_4 : decode prog_62_method_30_code 4 = .ok (.ifnonnull 5, 3) := by decide +kernel
theorem d22_7 : decode prog_62_method_30_code 7 = .ok (.aconst_null, 1) := by decide +kernel
theorem d22_8 : decode prog_62_method_30_code 8 = .ok (.areturn, 1) := by decide +kernel
theorem pn22 : plainName "kithrank/Graph" = true := by first | (simp [plainName, overriddenIn]; done) | decide +kernel
theorem ef22 (m : MethodId) (gr : Addr) (x1 : Int32) : entryFrame m #[(.ref gr), (.int x1)] 3 = mkF m 0 #[.val (.ref gr), .val (.int x1), .unset] [] := by first | (simp [entryFrame, mkF, argsToLocals, Value.category]; done) | rfl
def Q22 (Z : State) (gr : Addr) (x1 : Int32) (h0 : Heap) (n0 : Nat) (v : Option Value) (h : Heap) (L : List Loc) : Prop := v = some .null ∧ Fr n0 L ∧ h = h0
set_option maxRecDepth 65536 in
set_option maxHeartbeats 40000000 in
theorem rm22 (l : Launch) (Z : State) (a0 : Array Value) (hw : ∀ d ∈ tables_1, d.before a0 Z = true) (ws : List Jvm.Cond) (gr : Addr) (x1 : Int32) (h0 : Heap) (n0 : Nat) (Z0 : n0 ≤ h0.size) (F_gr_apart : Fld Z h0 gr "kithrank/Graph" "apart" "[[Lkithrank/Graph$OwnEdges;" .null) :
    MetFree l (⟨"kithrank/Graph", "ownEdges", "(I)Lkithrank/Graph$OwnEdges;"⟩ : MethodName) (head1 (Jvm.Cond.code (⟨"kithrank/Graph", "ownEdges", "(I)Lkithrank/Graph$OwnEdges;"⟩ : MethodName) prog_62_method_30_code 3 (some (.object "kithrank/Graph$OwnEdges")) :: ws) ({ frames := 0, cells := 0, slots := 0, locals := 0 } : Room)) (fun as' U => as' = #[(.ref gr), (.int x1)] ∧ Z.Warmed39 U.vm ∧ U.heap = h0) (fun _ _ _ _ _ => True) (fun _ U o U' => ∃ v L, o = .returned v ∧ Q22 Z gr x1 h0 n0 v U'.heap L ∧ FrameEnd U o U' L ({ frames := 0, cells := 0, slots := 0, locals := 0 } : Room).cells ({ frames := 0, cells := 0, slots := 0, locals := 0 } : Room).slots) := by
  refine own_body (plainFor_of_name pn22) ?_
  intro p e s m below meth c s₁ hx hby hml hown0 hnm hret hlk hZ X0 e0
  have hown : s.vm.findClass "kithrank/Graph" = some m.cls := hown0
  have N0 := Fr.nil n0
  rw [ef22]
  refine own_st (S' := s₁.setTop (mkF m 1 #[qA gr, qI x1, qU] [(.ref gr)])) (fun t k => XS.aloadN X0.here hx rfl (hb hby d22_0) rfl rfl k) ?_
  obtain ⟨T101, X101, e101, st101⟩ := getF X0 hx hZ hown (host := "") (Or.inl (own_hw hw (i := 137) rfl)) Via.refl e0 F_gr_apart (g := (mkF m 1 #[qA gr, qI x1, qU] [(.ref gr)])) rfl rfl (hb hby d22_1)
  refine own_st st101 ?_
  refine own_st (S' := T101.setTop (mkF m 8 #[qA gr, qI x1, qU] [.null])) (fun t k => XS.ifnonnullNo X101.here hx rfl (hb hby d22_4) rfl (XS.aconstNull X101.here hx rfl (hb hby d22_7) k)) ?_
  refine own_retA X101 hx hret rfl rfl rfl hlk (hb hby d22_8) ?_ (by decide) (by decide)
  rw [e101]
  exact ⟨rfl, N0, rfl⟩
theorem d23_0 : decode prog_62_method_26_code 0 = .ok (.aload_n 0, 1) := by decide +kernel
theorem d23_1 : decode prog_62_method_26_code 1 = .ok (.iload_n 1, 1) := by decide +kernel
theorem d23_2 : decode prog_62_method_26_code 2 = .ok (.invokevirtual 141, 3) := by decide +kernel
theorem d23_5 : decode prog_62_method_26_code 5 = .ok (.ifnonnull 20, 3) := by decide +kernel
theorem d23_8 : decode prog_62_method_26_code 8 = .ok (.aload_n 0, 1) := by decide +kernel
theorem d23_9 : decode prog_62_method_26_code 9 = .ok (.getfield 11, 3) := by decide +kernel
theorem d23_12 : decode prog_62_method_26_code 12 = .ok (.iload_n 1, 1) := by decide +kernel
theorem d23_13 : decode prog_62_method_26_code 13 = .ok (.bipush 6, 2) := by decide +kernel
theorem d23_15 : decode prog_62_method_26_code 15 = .ok (.iushr, 1) := by decide +kernel
theorem d23_16 : decode prog_62_method_26_code 16 = .ok (.aaload, 1) := by decide +kernel
theorem d23_17 : decode prog_62_method_26_code 17 = .ok (.iload_n 1, 1) := by decide +kernel
theorem d23_18 : decode prog_62_method_26_code 18 = .ok (.bipush 63, 2) := by decide +kernel
theorem d23_20 : decode prog_62_method_26_code 20 = .ok (.iand, 1) := by decide +kernel
theorem d23_21 : decode prog_62_method_26_code 21 = .ok (.iaload, 1) := by decide +kernel
theorem d23_22 : decode prog_62_method_26_code 22 = .ok (.goto 4, 3) := by decide +kernel
theorem d23_26 : decode prog_62_method_26_code 26 = .ok (.ireturn, 1) := by decide +kernel
theorem pd23_0 : parseMethodDescriptor "(I)Lkithrank/Graph$OwnEdges;" = some ⟨[.int], some (.object "kithrank/Graph$OwnEdges")⟩ := by decide +kernel
theorem pn23 : plainName "kithrank/Graph" = true := by first | (simp [plainName, overriddenIn]; done) | decide +kernel
theorem ef23 (m : MethodId) (gr : Addr) (x1 : Int32) : entryFrame m #[(.ref gr), (.int x1)] 2 = mkF m 0 #[.val (.ref gr), .val (.int x1)] [] := by first | (simp [entryFrame, mkF, argsToLocals, Value.category]; done) | rfl
def Q23 (Z : State) (gr : Addr) (x1 : Int32) (ad : Nat → Nat → Addr) (sN : Nat → Nat → Nat) (tF : Nat → Nat → Int32) (wF : Nat → Nat → UInt64) (sa : Addr) (u1 : Nat) (p1 : Nat) (i1 : Nat) (h0 : Heap) (n0 : Nat) (v : Option Value) (h : Heap) (L : List Loc) : Prop := v = some (.int (Int32.ofNat (sN p1 i1))) ∧ Fr n0 L ∧ h = h0
set_option maxRecDepth 65536 in
set_option maxHeartbeats 40000000 in
theorem rm23 (l : Launch) (Z : State) (a0 : Array Value) (hw : ∀ d ∈ tables_1, d.before a0 Z = true) (ws : List Jvm.Cond) (gr : Addr) (x1 : Int32) (ad : Nat → Nat → Addr) (sN : Nat → Nat → Nat) (tF : Nat → Nat → Int32) (wF : Nat → Nat → UInt64) (sa : Addr) (u1 : Nat) (p1 : Nat) (i1 : Nat) (h0 : Heap) (n0 : Nat) (Z0 : n0 ≤ h0.size) (P__ : own_P Z h0 3 ad sN tF wF) (E_gr : Exa Z h0 gr "kithrank/Graph") (F_gr_apart : Fld Z h0 gr "kithrank/Graph" "apart" "[[Lkithrank/Graph$OwnEdges;" .null) (F_gr_starts : Fld Z h0 gr "kithrank/Graph" "starts" "[[I" (.ref sa)) (A_sa : own_A Z h0 sa (.array .int) 3 (own_Rf (ad 1))) (h1 : x1 = Int32.ofNat u1) (hu1 : u1 < 130) (hp1 : p1 = u1 / 64) (hi1 : i1 = u1 % 64) :
    MetFree l (⟨"kithrank/Graph", "first", "(I)I"⟩ : MethodName) (head1 (Jvm.Cond.code (⟨"kithrank/Graph", "first", "(I)I"⟩ : MethodName) prog_62_method_26_code 2 (some .int) :: ws) ({ frames := 1, cells := 0, slots := 0, locals := 14 } : Room)) (fun as' U => as' = #[(.ref gr), (.int x1)] ∧ Z.Warmed39 U.vm ∧ U.heap = h0) (fun _ _ _ _ _ => True) (fun _ U o U' => ∃ v L, o = .returned v ∧ Q23 Z gr x1 ad sN tF wF sa u1 p1 i1 h0 n0 v U'.heap L ∧ FrameEnd U o U' L ({ frames := 1, cells := 0, slots := 0, locals := 14 } : Room).cells ({ frames := 1, cells := 0, slots := 0, locals := 14 } : Room).slots) := by
  refine own_body (plainFor_of_name pn23) ?_
  intro p e s m below meth c s₁ hx hby hml hown0 hnm hret hlk hZ X0 e0
  have hown : s.vm.findClass "kithrank/Graph" = some m.cls := hown0
  have N0 := Fr.nil n0
  rw [ef23]
  obtain ⟨hP1, hI1⟩ := own_iu hu1 hp1 hi1
  have hU1 := own_u_le p1
  refine own_st (S' := s₁.setTop (mkF m 2 #[qA gr, qI x1] [(.int x1), (.ref gr)])) (fun t k => XS.aloadN X0.here hx rfl (hb hby d23_0) rfl rfl (XS.iloadN X0.here hx rfl (hb hby d23_1) rfl k)) ?_
  obtain ⟨cq101, q101, q101'⟩ := E_gr.cell
  obtain ⟨_, _, ⟨T101, L101, k101, n101⟩, -, X101, ⟨Lc101, hQ101, l101, y101, z101⟩, st101⟩ := X0.privateBack hx (y := (⟨"kithrank/Graph", "ownEdges", "(I)Lkithrank/Graph$OwnEdges;"⟩ : MethodName)) hown (mvT hZ (own_hw hw (i := 167) rfl)) (mvT hZ (own_hw hw (i := 168) rfl)) (own_selP hZ (y := (⟨"kithrank/Graph", "ownEdges", "(I)Lkithrank/Graph$OwnEdges;"⟩ : MethodName)) (own_hw hw (i := 110) rfl) (own_hw hw (i := 169) rfl) (own_hw hw (i := 168) rfl) (by decide)) (Cond.privateMethod_at (mvP hZ (own_hw hw (i := 169) rfl) (args := #[]))) (mvT hZ (own_hw hw (i := 170) rfl)) (by decide) (backOf (W := 0) (rm22 l Z a0 hw [] gr x1 h0 n0 Z0 F_gr_apart) hZ (own_hw hw (i := 170) rfl) (own_hw hw (i := 73) rfl) (by decide) (by decide)) (g := (mkF m 2 #[qA gr, qI x1] [(.int x1), (.ref gr)])) rfl (by rw [hml]; rfl) (Steps.refl _) (a := gr) (by rw [e0]; exact q101) q101' (argsL := [(.int x1)]) (rest := []) (lenOf pd23_0 rfl) rfl (by show 2 * 0 + _ ≤ _; exact Nat.le_of_eq rfl) (hb hby d23_2) (fun _ _ => ⟨rfl, e0, (by decide : 0 + 0 ≤ _), (by decide : 0 + 0 ≤ _)⟩)
  dsimp only [Pt.U, Pt.locs, Pt.cells, Pt.slots] at X101 l101 y101 z101 st101 hQ101
  rw [l101, y101, z101] at X101
  obtain ⟨rfl, N101q, hh101⟩ := hQ101
  have N101 := Fr.app N0 N101q
  refine own_tr st101 ?_
  refine own_st (S' := T101.setTop (mkF m 9 #[qA gr, qI x1] [(.ref gr)])) (fun t k => XS.ifnonnullNo X101.here hx rfl (hb hby d23_5) rfl (XS.aloadN X101.here hx rfl (hb hby d23_8) rfl rfl k)) ?_
  obtain ⟨T102, X102, e102, st102⟩ := getF X101 hx hZ hown (host := "") (Or.inl (own_hw hw (i := 131) rfl)) Via.refl hh101 F_gr_starts (g := (mkF m 9 #[qA gr, qI x1] [(.ref gr)])) rfl rfl (hb hby d23_9)
  refine own_st st102 ?_
  refine own_st (S' := T102.setTop (mkF m 16 #[qA gr, qI x1] [(.int ((x1.toUInt32 >>> ((6 : Int32) &&& 31).toUInt32).toInt32)), (.ref sa)])) (fun t k => XS.iloadN X102.here hx rfl (hb hby d23_12) rfl (XS.bipush X102.here hx rfl (hb hby d23_13) (XS.iushr X102.here hx rfl (hb hby d23_15) rfl k))) ?_
  refine own_st (S' := T102.setTop (mkF m 16 #[qA gr, qI x1] [qV p1, (.ref sa)])) (fun t k => by rw [show (((x1.toUInt32 >>> ((6 : Int32) &&& 31).toUInt32).toInt32) : Int32) = (Int32.ofNat p1) from own_shr h1 hu1 hp1]; exact k) ?_
  have O103 := A_sa
  obtain ⟨c103, Ar103, S103, M103, V103⟩ := O103
  have at103 : c103.slots[((Int32.ofNat p1)).toNatClampNeg]? = some (.ref (ad 1 p1)) := own_at S103 V103 (own_ixN (by omega) (by decide)) rfl
  refine own_st (S' := T102.setTop (mkF m 21 #[qA gr, qI x1] [(.int (x1 &&& (63 : Int32))), (.ref (ad 1 p1))])) (fun t k => X102.aaload hx (j := (Int32.ofNat p1)) (v := (.ref (ad 1 p1))) (by rw [e102]; exact Ar103.1) (State.isArrayOf_alike hZ.alike Ar103.2.1) rfl Ar103.2.2 (own_in S103 (own_ixN (by omega) (by decide))) at103 (g := (mkF m 16 #[qA gr, qI x1] [qV p1, (.ref sa)])) rfl rfl (hb hby d23_16) _ (XS.iloadN X102.here hx rfl (hb hby d23_17) rfl (XS.bipush X102.here hx rfl (hb hby d23_18) (XS.iand X102.here hx rfl (hb hby d23_20) rfl k)))) ?_
  refine own_st (S' := T102.setTop (mkF m 21 #[qA gr, qI x1] [qV i1, (.ref (ad 1 p1))])) (fun t k => by rw [show ((x1 &&& (63 : Int32)) : Int32) = (Int32.ofNat i1) from own_and63 h1 hu1 hi1]; exact k) ?_
  have O104 := (P__ p1 hP1).2.2.2.2.2.2.2.2.1
  obtain ⟨c104, Ar104, S104, M104, V104⟩ := O104
  have at104 : c104.slots[((Int32.ofNat i1)).toNatClampNeg]? = some (.int (Int32.ofNat (sN p1 i1))) := own_at S104 V104 (own_ixN (by omega) (by omega)) rfl
  refine own_st (S' := T102.setTop (mkF m 26 #[qA gr, qI x1] [qV (sN p1 i1)])) (fun t k => X102.iaload hx (j := (Int32.ofNat i1)) (v := (.int (Int32.ofNat (sN p1 i1)))) (by rw [e102]; exact Ar104.1) (State.isArrayOf_alike hZ.alike Ar104.2.1) Ar104.2.2 (own_in S104 (own_ixN (by omega) (by omega))) at104 (g := (mkF m 21 #[qA gr, qI x1] [qV i1, (.ref (ad 1 p1))])) rfl rfl (hb hby d23_21) _ (XS.goto X102.here hx rfl (pc0 := 22) (pc' := 26) rfl (hb hby d23_22) (by decide) (by decide) k)) ?_
  refine own_retI X102 hx hret hlk (hb hby d23_26) ?_ (by decide) (by decide)
  rw [e102]
  exact ⟨rfl, N101, rfl⟩
theorem d24_0 : decode prog_62_method_27_code 0 = .ok (.aload_n 0, 1) := by decide +kernel
theorem d24_1 : decode prog_62_method_27_code 1 = .ok (.iload_n 1, 1) := by decide +kernel
theorem d24_2 : decode prog_62_method_27_code 2 = .ok (.invokevirtual 141, 3) := by decide +kernel
theorem d24_5 : decode prog_62_method_27_code 5 = .ok (.astore_n 2, 1) := by decide +kernel
theorem d24_6 : decode prog_62_method_27_code 6 = .ok (.aload_n 2, 1) := by decide +kernel
theorem d24_7 : decode prog_62_method_27_code 7 = .ok (.ifnonnull 22, 3) := by decide +kernel
theorem d24_10 : decode prog_62_method_27_code 10 = .ok (.aload_n 0, 1) := by decide +kernel
theorem d24_11 : decode prog_62_method_27_code 11 = .ok (.getfield 11, 3) := by decide +kernel
theorem d24_14 : decode prog_62_method_27_code 14 = .ok (.iload_n 1, 1) := by decide +kernel
theorem d24_15 : decode prog_62_method_27_code 15 = .ok (.bipush 6, 2) := by decide +kernel
theorem d24_17 : decode prog_62_method_27_code 17 = .ok (.iushr, 1) := by decide +kernel
theorem d24_18 : decode prog_62_method_27_code 18 = .ok (.aaload, 1) := by decide +kernel
theorem d24_19 : decode prog_62_method_27_code 19 = .ok (.iload_n 1, 1) := by decide +kernel
theorem d24_20 : decode prog_62_method_27_code 20 = .ok (.bipush 63, 2) := by decide +kernel
theorem d24_22 : decode prog_62_method_27_code 22 = .ok (.iand, 1) := by decide +kernel
theorem d24_23 : decode prog_62_method_27_code 23 = .ok (.iconst 1, 1) := by decide +kernel
theorem d24_24 : decode prog_62_method_27_code 24 = .ok (.iadd, 1) := by decide +kernel
theorem d24_25 : decode prog_62_method_27_code 25 = .ok (.iaload, 1) := by decide +kernel
theorem d24_26 : decode prog_62_method_27_code 26 = .ok (.goto 7, 3) := by decide +kernel
theorem d24_33 : decode prog_62_method_27_code 33 = .ok (.ireturn, 1) := by decide +kernel
theorem pd24_0 : parseMethodDescriptor "(I)Lkithrank/Graph$OwnEdges;" = some ⟨[.int], some (.object "kithrank/Graph$OwnEdges")⟩ := by decide +kernel
theorem pn24 : plainName "kithrank/Graph" = true := by first | (simp [plainName, overriddenIn]; done) | decide +kernel
theorem ef24 (m : MethodId) (gr : Addr) (x1 : Int32) : entryFrame m #[(.ref gr), (.int x1)] 3 = mkF m 0 #[.val (.ref gr), .val (.int x1), .unset] [] := by first | (simp [entryFrame, mkF, argsToLocals, Value.category]; done) | rfl
def Q24 (Z : State) (gr : Addr) (x1 : Int32) (ad : Nat → Nat → Addr) (sN : Nat → Nat → Nat) (tF : Nat → Nat → Int32) (wF : Nat → Nat → UInt64) (sa : Addr) (u1 : Nat) (p1 : Nat) (i1 : Nat) (h0 : Heap) (n0 : Nat) (v : Option Value) (h : Heap) (L : List Loc) : Prop := v = some (.int (Int32.ofNat (sN p1 (i1 + 1)))) ∧ Fr n0 L ∧ h = h0
set_option maxRecDepth 65536 in
set_option maxHeartbeats 40000000 in
theorem rm24 (l : Launch) (Z : State) (a0 : Array Value) (hw : ∀ d ∈ tables_1, d.before a0 Z = true) (ws : List Jvm.Cond) (gr : Addr) (x1 : Int32) (ad : Nat → Nat → Addr) (sN : Nat → Nat → Nat) (tF : Nat → Nat → Int32) (wF : Nat → Nat → UInt64) (sa : Addr) (u1 : Nat) (p1 : Nat) (i1 : Nat) (h0 : Heap) (n0 : Nat) (Z0 : n0 ≤ h0.size) (P__ : own_P Z h0 3 ad sN tF wF) (E_gr : Exa Z h0 gr "kithrank/Graph") (F_gr_apart : Fld Z h0 gr "kithrank/Graph" "apart" "[[Lkithrank/Graph$OwnEdges;" .null) (F_gr_starts : Fld Z h0 gr "kithrank/Graph" "starts" "[[I" (.ref sa)) (A_sa : own_A Z h0 sa (.array .int) 3 (own_Rf (ad 1))) (h1 : x1 = Int32.ofNat u1) (hu1 : u1 < 130) (hp1 : p1 = u1 / 64) (hi1 : i1 = u1 % 64) :
    MetFree l (⟨"kithrank/Graph", "end", "(I)I"⟩ : MethodName) (head1 (Jvm.Cond.code (⟨"kithrank/Graph", "end", "(I)I"⟩ : MethodName) prog_62_method_27_code 3 (some .int) :: ws) ({ frames := 1, cells := 0, slots := 0, locals := 14 } : Room)) (fun as' U => as' = #[(.ref gr), (.int x1)] ∧ Z.Warmed39 U.vm ∧ U.heap = h0) (fun _ _ _ _ _ => True) (fun _ U o U' => ∃ v L, o = .returned v ∧ Q24 Z gr x1 ad sN tF wF sa u1 p1 i1 h0 n0 v U'.heap L ∧ FrameEnd U o U' L ({ frames := 1, cells := 0, slots := 0, locals := 14 } : Room).cells ({ frames := 1, cells := 0, slots := 0, locals := 14 } : Room).slots) := by
  refine own_body (plainFor_of_name pn24) ?_
  intro p e s m below meth c s₁ hx hby hml hown0 hnm hret hlk hZ X0 e0
  have hown : s.vm.findClass "kithrank/Graph" = some m.cls := hown0
  have N0 := Fr.nil n0
  rw [ef24]
  obtain ⟨hP1, hI1⟩ := own_iu hu1 hp1 hi1
  have hU1 := own_u_le p1
  refine own_st (S' := s₁.setTop (mkF m 2 #[qA gr, qI x1, qU] [(.int x1), (.ref gr)])) (fun t k => XS.aloadN X0.here hx rfl (hb hby d24_0) rfl rfl (XS.iloadN X0.here hx rfl (hb hby d24_1) rfl k)) ?_
  obtain ⟨cq101, q101, q101'⟩ := E_gr.cell
  obtain ⟨_, _, ⟨T101, L101, k101, n101⟩, -, X101, ⟨Lc101, hQ101, l101, y101, z101⟩, st101⟩ := X0.privateBack hx (y := (⟨"kithrank/Graph", "ownEdges", "(I)Lkithrank/Graph$OwnEdges;"⟩ : MethodName)) hown (mvT hZ (own_hw hw (i := 167) rfl)) (mvT hZ (own_hw hw (i := 168) rfl)) (own_selP hZ (y := (⟨"kithrank/Graph", "ownEdges", "(I)Lkithrank/Graph$OwnEdges;"⟩ : MethodName)) (own_hw hw (i := 110) rfl) (own_hw hw (i := 169) rfl) (own_hw hw (i := 168) rfl) (by decide)) (Cond.privateMethod_at (mvP hZ (own_hw hw (i := 169) rfl) (args := #[]))) (mvT hZ (own_hw hw (i := 170) rfl)) (by decide) (backOf (W := 0) (rm22 l Z a0 hw [] gr x1 h0 n0 Z0 F_gr_apart) hZ (own_hw hw (i := 170) rfl) (own_hw hw (i := 73) rfl) (by decide) (by decide)) (g := (mkF m 2 #[qA gr, qI x1, qU] [(.int x1), (.ref gr)])) rfl (by rw [hml]; rfl) (Steps.refl _) (a := gr) (by rw [e0]; exact q101) q101' (argsL := [(.int x1)]) (rest := []) (lenOf pd24_0 rfl) rfl (by show 2 * 0 + _ ≤ _; exact Nat.le_of_eq rfl) (hb hby d24_2) (fun _ _ => ⟨rfl, e0, (by decide : 0 + 0 ≤ _), (by decide : 0 + 0 ≤ _)⟩)
  dsimp only [Pt.U, Pt.locs, Pt.cells, Pt.slots] at X101 l101 y101 z101 st101 hQ101
  rw [l101, y101, z101] at X101
  obtain ⟨rfl, N101q, hh101⟩ := hQ101
  have N101 := Fr.app N0 N101q
  refine own_tr st101 ?_
  refine own_st (S' := T101.setTop (mkF m 11 #[qA gr, qI x1, .val .null] [(.ref gr)])) (fun t k => XS.astoreN X101.here hx rfl (hb hby d24_5) rfl rfl (l' := #[qA gr, qI x1, .val .null]) rfl (XS.aloadN X101.here hx rfl (hb hby d24_6) rfl rfl (XS.ifnonnullNo X101.here hx rfl (hb hby d24_7) rfl (XS.aloadN X101.here hx rfl (hb hby d24_10) rfl rfl k)))) ?_
  obtain ⟨T102, X102, e102, st102⟩ := getF X101 hx hZ hown (host := "") (Or.inl (own_hw hw (i := 131) rfl)) Via.refl hh101 F_gr_starts (g := (mkF m 11 #[qA gr, qI x1, .val .null] [(.ref gr)])) rfl rfl (hb hby d24_11)
  refine own_st st102 ?_
  refine own_st (S' := T102.setTop (mkF m 18 #[qA gr, qI x1, .val .null] [(.int ((x1.toUInt32 >>> ((6 : Int32) &&& 31).toUInt32).toInt32)), (.ref sa)])) (fun t k => XS.iloadN X102.here hx rfl (hb hby d24_14) rfl (XS.bipush X102.here hx rfl (hb hby d24_15) (XS.iushr X102.here hx rfl (hb hby d24_17) rfl k))) ?_
  refine own_st (S' := T102.setTop (mkF m 18 #[qA gr, qI x1, .val .null] [qV p1, (.ref sa)])) (fun t k => by rw [show (((x1.toUInt32 >>> ((6 : Int32) &&& 31).toUInt32).toInt32) : Int32) = (Int32.ofNat p1) from own_shr h1 hu1 hp1]; exact k) ?_
  have O103 := A_sa
  obtain ⟨c103, Ar103, S103, M103, V103⟩ := O103
  have at103 : c103.slots[((Int32.ofNat p1)).toNatClampNeg]? = some (.ref (ad 1 p1)) := own_at S103 V103 (own_ixN (by omega) (by decide)) rfl
  refine own_st (S' := T102.setTop (mkF m 23 #[qA gr, qI x1, .val .null] [(.int (x1 &&& (63 : Int32))), (.ref (ad 1 p1))])) (fun t k => X102.aaload hx (j := (Int32.ofNat p1)) (v := (.ref (ad 1 p1))) (by rw [e102]; exact Ar103.1) (State.isArrayOf_alike hZ.alike Ar103.2.1) rfl Ar103.2.2 (own_in S103 (own_ixN (by omega) (by decide))) at103 (g := (mkF m 18 #[qA gr, qI x1, .val .null] [qV p1, (.ref sa)])) rfl rfl (hb hby d24_18) _ (XS.iloadN X102.here hx rfl (hb hby d24_19) rfl (XS.bipush X102.here hx rfl (hb hby d24_20) (XS.iand X102.here hx rfl (hb hby d24_22) rfl k)))) ?_
  refine own_st (S' := T102.setTop (mkF m 23 #[qA gr, qI x1, .val .null] [qV i1, (.ref (ad 1 p1))])) (fun t k => by rw [show ((x1 &&& (63 : Int32)) : Int32) = (Int32.ofNat i1) from own_and63 h1 hu1 hi1]; exact k) ?_
  refine own_st (S' := T102.setTop (mkF m 25 #[qA gr, qI x1, .val .null] [(.int ((Int32.ofNat i1) + (1 : Int32))), (.ref (ad 1 p1))])) (fun t k => XS.iconst X102.here hx rfl (hb hby d24_23) (XS.iadd X102.here hx rfl (hb hby d24_24) rfl k)) ?_
  refine own_st (S' := T102.setTop (mkF m 25 #[qA gr, qI x1, .val .null] [qV (i1 + 1), (.ref (ad 1 p1))])) (fun t k => by rw [own_incN (i := i1) (by omega)]; exact k) ?_
  have O104 := (P__ p1 hP1).2.2.2.2.2.2.2.2.1
  obtain ⟨c104, Ar104, S104, M104, V104⟩ := O104
  have at104 : c104.slots[((Int32.ofNat (i1 + 1))).toNatClampNeg]? = some (.int (Int32.ofNat (sN p1 (i1 + 1)))) := own_at S104 V104 (own_ixN (by omega) (by omega)) rfl
  refine own_st (S' := T102.setTop (mkF m 33 #[qA gr, qI x1, .val .null] [qV (sN p1 (i1 + 1))])) (fun t k => X102.iaload hx (j := (Int32.ofNat (i1 + 1))) (v := (.int (Int32.ofNat (sN p1 (i1 + 1))))) (by rw [e102]; exact Ar104.1) (State.isArrayOf_alike hZ.alike Ar104.2.1) Ar104.2.2 (own_in S104 (own_ixN (by omega) (by omega))) at104 (g := (mkF m 25 #[qA gr, qI x1, .val .null] [qV (i1 + 1), (.ref (ad 1 p1))])) rfl rfl (hb hby d24_25) _ (XS.goto X102.here hx rfl (pc0 := 26) (pc' := 33) rfl (hb hby d24_26) (by decide) (by decide) k)) ?_
  refine own_retI X102 hx hret hlk (hb hby d24_33) ?_ (by decide) (by decide)
  rw [e102]
  exact ⟨rfl, N101, rfl⟩
theorem d25_0 : decode prog_62_method_28_code 0 = .ok (.aload_n 0, 1) := by decide +kernel
theorem d25_1 : decode prog_62_method_28_code 1 = .ok (.iload_n 1, 1) := by decide +kernel
theorem d25_2 : decode prog_62_method_28_code 2 = .ok (.invokevirtual 141, 3) := by decide +kernel
theorem d25_5 : decode prog_62_method_28_code 5 = .ok (.astore_n 2, 1) := by decide +kernel
theorem d25_6 : decode prog_62_method_28_code 6 = .ok (.aload_n 2, 1) := by decide +kernel
theorem d25_7 : decode prog_62_method_28_code 7 = .ok (.ifnonnull 15, 3) := by decide +kernel
theorem d25_10 : decode prog_62_method_28_code 10 = .ok (.aload_n 0, 1) := by decide +kernel
theorem d25_11 : decode prog_62_method_28_code 11 = .ok (.getfield 15, 3) := by decide +kernel
theorem d25_14 : decode prog_62_method_28_code 14 = .ok (.iload_n 1, 1) := by decide +kernel
theorem d25_15 : decode prog_62_method_28_code 15 = .ok (.bipush 6, 2) := by decide +kernel
theorem d25_17 : decode prog_62_method_28_code 17 = .ok (.iushr, 1) := by decide +kernel
theorem d25_18 : decode prog_62_method_28_code 18 = .ok (.aaload, 1) := by decide +kernel
theorem d25_19 : decode prog_62_method_28_code 19 = .ok (.goto 7, 3) := by decide +kernel
theorem d25_26 : decode prog_62_method_28_code 26 = .ok (.areturn, 1) := by decide +kernel
theorem pd25_0 : parseMethodDescriptor "(I)Lkithrank/Graph$OwnEdges;" = some ⟨[.int], some (.object "kithrank/Graph$OwnEdges")⟩ := by decide +kernel
theorem pn25 : plainName "kithrank/Graph" = true := by first | (simp [plainName, overriddenIn]; done) | decide +kernel
theorem ef25 (m : MethodId) (gr : Addr) (x1 : Int32) : entryFrame m #[(.ref gr), (.int x1)] 3 = mkF m 0 #[.val (.ref gr), .val (.int x1), .unset] [] := by first | (simp [entryFrame, mkF, argsToLocals, Value.category]; done) | rfl
def Q25 (Z : State) (gr : Addr) (x1 : Int32) (ad : Nat → Nat → Addr) (sN : Nat → Nat → Nat) (tF : Nat → Nat → Int32) (wF : Nat → Nat → UInt64) (ta : Addr) (u1 : Nat) (p1 : Nat) (i1 : Nat) (h0 : Heap) (n0 : Nat) (v : Option Value) (h : Heap) (L : List Loc) : Prop := v = some (.ref (ad 2 p1)) ∧ Fr n0 L ∧ h = h0
set_option maxRecDepth 65536 in
set_option maxHeartbeats 40000000 in
theorem rm25 (l : Launch) (Z : State) (a0 : Array Value) (hw : ∀ d ∈ tables_1, d.before a0 Z = true) (ws : List Jvm.Cond) (gr : Addr) (x1 : Int32) (ad : Nat → Nat → Addr) (sN : Nat → Nat → Nat) (tF : Nat → Nat → Int32) (wF : Nat → Nat → UInt64) (ta : Addr) (u1 : Nat) (p1 : Nat) (i1 : Nat) (h0 : Heap) (n0 : Nat) (Z0 : n0 ≤ h0.size) (P__ : own_P Z h0 3 ad sN tF wF) (E_gr : Exa Z h0 gr "kithrank/Graph") (F_gr_apart : Fld Z h0 gr "kithrank/Graph" "apart" "[[Lkithrank/Graph$OwnEdges;" .null) (F_gr_targets : Fld Z h0 gr "kithrank/Graph" "targets" "[[I" (.ref ta)) (A_ta : own_A Z h0 ta (.array .int) 3 (own_Rf (ad 2))) (h1 : x1 = Int32.ofNat u1) (hu1 : u1 < 130) (hp1 : p1 = u1 / 64) (hi1 : i1 = u1 % 64) :
    MetFree l (⟨"kithrank/Graph", "pageTargets", "(I)[I"⟩ : MethodName) (head1 (Jvm.Cond.code (⟨"kithrank/Graph", "pageTargets", "(I)[I"⟩ : MethodName) prog_62_method_28_code 3 (some (.array .int)) :: ws) ({ frames := 1, cells := 0, slots := 0, locals := 14 } : Room)) (fun as' U => as' = #[(.ref gr), (.int x1)] ∧ Z.Warmed39 U.vm ∧ U.heap = h0) (fun _ _ _ _ _ => True) (fun _ U o U' => ∃ v L, o = .returned v ∧ Q25 Z gr x1 ad sN tF wF ta u1 p1 i1 h0 n0 v U'.heap L ∧ FrameEnd U o U' L ({ frames := 1, cells := 0, slots := 0, locals := 14 } : Room).cells ({ frames := 1, cells := 0, slots := 0, locals := 14 } : Room).slots) := by
  refine own_body (plainFor_of_name pn25) ?_
  intro p e s m below meth c s₁ hx hby hml hown0 hnm hret hlk hZ X0 e0
  have hown : s.vm.findClass "kithrank/Graph" = some m.cls := hown0
  have N0 := Fr.nil n0
  rw [ef25]
  obtain ⟨hP1, hI1⟩ := own_iu hu1 hp1 hi1
  have hU1 := own_u_le p1
  refine own_st (S' := s₁.setTop (mkF m 2 #[qA gr, qI x1, qU] [(.int x1), (.ref gr)])) (fun t k => XS.aloadN X0.here hx rfl (hb hby d25_0) rfl rfl (XS.iloadN X0.here hx rfl (hb hby d25_1) rfl k)) ?_
  obtain ⟨cq101, q101, q101'⟩ := E_gr.cell
  obtain ⟨_, _, ⟨T101, L101, k101, n101⟩, -, X101, ⟨Lc101, hQ101, l101, y101, z101⟩, st101⟩ := X0.privateBack hx (y := (⟨"kithrank/Graph", "ownEdges", "(I)Lkithrank/Graph$OwnEdges;"⟩ : MethodName)) hown (mvT hZ (own_hw hw (i := 167) rfl)) (mvT hZ (own_hw hw (i := 168) rfl)) (own_selP hZ (y := (⟨"kithrank/Graph", "ownEdges", "(I)Lkithrank/Graph$OwnEdges;"⟩ : MethodName)) (own_hw hw (i := 110) rfl) (own_hw hw (i := 169) rfl) (own_hw hw (i := 168) rfl) (by decide)) (Cond.privateMethod_at (mvP hZ (own_hw hw (i := 169) rfl) (args := #[]))) (mvT hZ (own_hw hw (i := 170) rfl)) (by decide) (backOf (W := 0) (rm22 l Z a0 hw [] gr x1 h0 n0 Z0 F_gr_apart) hZ (own_hw hw (i := 170) rfl) (own_hw hw (i := 73) rfl) (by decide) (by decide)) (g := (mkF m 2 #[qA gr, qI x1, qU] [(.int x1), (.ref gr)])) rfl (by rw [hml]; rfl) (Steps.refl _) (a := gr) (by rw [e0]; exact q101) q101' (argsL := [(.int x1)]) (rest := []) (lenOf pd25_0 rfl) rfl (by show 2 * 0 + _ ≤ _; exact Nat.le_of_eq rfl) (hb hby d25_2) (fun _ _ => ⟨rfl, e0, (by decide : 0 + 0 ≤ _), (by decide : 0 + 0 ≤ _)⟩)
  dsimp only [Pt.U, Pt.locs, Pt.cells, Pt.slots] at X101 l101 y101 z101 st101 hQ101
  rw [l101, y101, z101] at X101
  obtain ⟨rfl, N101q, hh101⟩ := hQ101
  have N101 := Fr.app N0 N101q
  refine own_tr st101 ?_
  refine own_st (S' := T101.setTop (mkF m 11 #[qA gr, qI x1, .val .null] [(.ref gr)])) (fun t k => XS.astoreN X101.here hx rfl (hb hby d25_5) rfl rfl (l' := #[qA gr, qI x1, .val .null]) rfl (XS.aloadN X101.here hx rfl (hb hby d25_6) rfl rfl (XS.ifnonnullNo X101.here hx rfl (hb hby d25_7) rfl (XS.aloadN X101.here hx rfl (hb hby d25_10) rfl rfl k)))) ?_
  obtain ⟨T102, X102, e102, st102⟩ := getF X101 hx hZ hown (host := "") (Or.inl (own_hw hw (i := 133) rfl)) Via.refl hh101 F_gr_targets (g := (mkF m 11 #[qA gr, qI x1, .val .null] [(.ref gr)])) rfl rfl (hb hby d25_11)
  refine own_st st102 ?_
  refine own_st (S' := T102.setTop (mkF m 18 #[qA gr, qI x1, .val .null] [(.int ((x1.toUInt32 >>> ((6 : Int32) &&& 31).toUInt32).toInt32)), (.ref ta)])) (fun t k => XS.iloadN X102.here hx rfl (hb hby d25_14) rfl (XS.bipush X102.here hx rfl (hb hby d25_15) (XS.iushr X102.here hx rfl (hb hby d25_17) rfl k))) ?_
  refine own_st (S' := T102.setTop (mkF m 18 #[qA gr, qI x1, .val .null] [qV p1, (.ref ta)])) (fun t k => by rw [show (((x1.toUInt32 >>> ((6 : Int32) &&& 31).toUInt32).toInt32) : Int32) = (Int32.ofNat p1) from own_shr h1 hu1 hp1]; exact k) ?_
  have O103 := A_ta
  obtain ⟨c103, Ar103, S103, M103, V103⟩ := O103
  have at103 : c103.slots[((Int32.ofNat p1)).toNatClampNeg]? = some (.ref (ad 2 p1)) := own_at S103 V103 (own_ixN (by omega) (by decide)) rfl
  refine own_st (S' := T102.setTop (mkF m 26 #[qA gr, qI x1, .val .null] [(.ref (ad 2 p1))])) (fun t k => X102.aaload hx (j := (Int32.ofNat p1)) (v := (.ref (ad 2 p1))) (by rw [e102]; exact Ar103.1) (State.isArrayOf_alike hZ.alike Ar103.2.1) rfl Ar103.2.2 (own_in S103 (own_ixN (by omega) (by decide))) at103 (g := (mkF m 18 #[qA gr, qI x1, .val .null] [qV p1, (.ref ta)])) rfl rfl (hb hby d25_18) _ (XS.goto X102.here hx rfl (pc0 := 19) (pc' := 26) rfl (hb hby d25_19) (by decide) (by decide) k)) ?_
  refine own_retA X102 hx hret rfl rfl rfl hlk (hb hby d25_26) ?_ (by decide) (by decide)
  rw [e102]
  exact ⟨rfl, N101, rfl⟩
theorem d26_0 : decode prog_62_method_29_code 0 = .ok (.aload_n 0, 1) := by decide +kernel
theorem d26_1 : decode prog_62_method_29_code 1 = .ok (.iload_n 1, 1) := by decide +kernel
theorem d26_2 : decode prog_62_method_29_code 2 = .ok (.invokevirtual 141, 3) := by decide +kernel
theorem d26_5 : decode prog_62_method_29_code 5 = .ok (.astore_n 2, 1) := by decide +kernel
theorem d26_6 : decode prog_62_method_29_code 6 = .ok (.aload_n 2, 1) := by decide +kernel
theorem d26_7 : decode prog_62_method_29_code 7 = .ok (.ifnonnull 15, 3) := by decide +kernel
theorem d26_10 : decode prog_62_method_29_code 10 = .ok (.aload_n 0, 1) := by decide +kernel
theorem d26_11 : decode prog_62_method_29_code 11 = .ok (.getfield 18, 3) := by decide +kernel
theorem d26_14 : decode prog_62_method_29_code 14 = .ok (.iload_n 1, 1) := by decide +kernel
theorem d26_15 : decode prog_62_method_29_code 15 = .ok (.bipush 6, 2) := by decide +kernel
theorem d26_17 : decode prog_62_method_29_code 17 = .ok (.iushr, 1) := by decide +kernel
theorem d26_18 : decode prog_62_method_29_code 18 = .ok (.aaload, 1) := by decide +kernel
theorem d26_19 : decode prog_62_method_29_code 19 = .ok (.goto 7, 3) := by decide +kernel
theorem d26_26 : decode prog_62_method_29_code 26 = .ok (.areturn, 1) := by decide +kernel
theorem pd26_0 : parseMethodDescriptor "(I)Lkithrank/Graph$OwnEdges;" = some ⟨[.int], some (.object "kithrank/Graph$OwnEdges")⟩ := by decide +kernel
theorem pn26 : plainName "kithrank/Graph" = true := by first | (simp [plainName, overriddenIn]; done) | decide +kernel
theorem ef26 (m : MethodId) (gr : Addr) (x1 : Int32) : entryFrame m #[(.ref gr), (.int x1)] 3 = mkF m 0 #[.val (.ref gr), .val (.int x1), .unset] [] := by first | (simp [entryFrame, mkF, argsToLocals, Value.category]; done) | rfl
def Q26 (Z : State) (gr : Addr) (x1 : Int32) (ad : Nat → Nat → Addr) (sN : Nat → Nat → Nat) (tF : Nat → Nat → Int32) (wF : Nat → Nat → UInt64) (wa : Addr) (u1 : Nat) (p1 : Nat) (i1 : Nat) (h0 : Heap) (n0 : Nat) (v : Option Value) (h : Heap) (L : List Loc) : Prop := v = some (.ref (ad 3 p1)) ∧ Fr n0 L ∧ h = h0
set_option maxRecDepth 65536 in
set_option maxHeartbeats 40000000 in
theorem rm26 (l : Launch) (Z : State) (a0 : Array Value) (hw : ∀ d ∈ tables_1, d.before a0 Z = true) (ws : List Jvm.Cond) (gr : Addr) (x1 : Int32) (ad : Nat → Nat → Addr) (sN : Nat → Nat → Nat) (tF : Nat → Nat → Int32) (wF : Nat → Nat → UInt64) (wa : Addr) (u1 : Nat) (p1 : Nat) (i1 : Nat) (h0 : Heap) (n0 : Nat) (Z0 : n0 ≤ h0.size) (P__ : own_P Z h0 3 ad sN tF wF) (E_gr : Exa Z h0 gr "kithrank/Graph") (F_gr_apart : Fld Z h0 gr "kithrank/Graph" "apart" "[[Lkithrank/Graph$OwnEdges;" .null) (F_gr_weights : Fld Z h0 gr "kithrank/Graph" "weights" "[[D" (.ref wa)) (A_wa : own_A Z h0 wa (.array .double) 3 (own_Rf (ad 3))) (h1 : x1 = Int32.ofNat u1) (hu1 : u1 < 130) (hp1 : p1 = u1 / 64) (hi1 : i1 = u1 % 64) :
    MetFree l (⟨"kithrank/Graph", "pageWeights", "(I)[D"⟩ : MethodName) (head1 (Jvm.Cond.code (⟨"kithrank/Graph", "pageWeights", "(I)[D"⟩ : MethodName) prog_62_method_29_code 3 (some (.array .double)) :: ws) ({ frames := 1, cells := 0, slots := 0, locals := 14 } : Room)) (fun as' U => as' = #[(.ref gr), (.int x1)] ∧ Z.Warmed39 U.vm ∧ U.heap = h0) (fun _ _ _ _ _ => True) (fun _ U o U' => ∃ v L, o = .returned v ∧ Q26 Z gr x1 ad sN tF wF wa u1 p1 i1 h0 n0 v U'.heap L ∧ FrameEnd U o U' L ({ frames := 1, cells := 0, slots := 0, locals := 14 } : Room).cells ({ frames := 1, cells := 0, slots := 0, locals := 14 } : Room).slots) := by
  refine own_body (plainFor_of_name pn26) ?_
  intro p e s m below meth c s₁ hx hby hml hown0 hnm hret hlk hZ X0 e0
  have hown : s.vm.findClass "kithrank/Graph" = some m.cls := hown0
  have N0 := Fr.nil n0
  rw [ef26]
  obtain ⟨hP1, hI1⟩ := own_iu hu1 hp1 hi1
  have hU1 := own_u_le p1
  refine own_st (S' := s₁.setTop (mkF m 2 #[qA gr, qI x1, qU] [(.int x1), (.ref gr)])) (fun t k => XS.aloadN X0.here hx rfl (hb hby d26_0) rfl rfl (XS.iloadN X0.here hx rfl (hb hby d26_1) rfl k)) ?_
  obtain ⟨cq101, q101, q101'⟩ := E_gr.cell
  obtain ⟨_, _, ⟨T101, L101, k101, n101⟩, -, X101, ⟨Lc101, hQ101, l101, y101, z101⟩, st101⟩ := X0.privateBack hx (y := (⟨"kithrank/Graph", "ownEdges", "(I)Lkithrank/Graph$OwnEdges;"⟩ : MethodName)) hown (mvT hZ (own_hw hw (i := 167) rfl)) (mvT hZ (own_hw hw (i := 168) rfl)) (own_selP hZ (y := (⟨"kithrank/Graph", "ownEdges", "(I)Lkithrank/Graph$OwnEdges;"⟩ : MethodName)) (own_hw hw (i := 110) rfl) (own_hw hw (i := 169) rfl) (own_hw hw (i := 168) rfl) (by decide)) (Cond.privateMethod_at (mvP hZ (own_hw hw (i := 169) rfl) (args := #[]))) (mvT hZ (own_hw hw (i := 170) rfl)) (by decide) (backOf (W := 0) (rm22 l Z a0 hw [] gr x1 h0 n0 Z0 F_gr_apart) hZ (own_hw hw (i := 170) rfl) (own_hw hw (i := 73) rfl) (by decide) (by decide)) (g := (mkF m 2 #[qA gr, qI x1, qU] [(.int x1), (.ref gr)])) rfl (by rw [hml]; rfl) (Steps.refl _) (a := gr) (by rw [e0]; exact q101) q101' (argsL := [(.int x1)]) (rest := []) (lenOf pd26_0 rfl) rfl (by show 2 * 0 + _ ≤ _; exact Nat.le_of_eq rfl) (hb hby d26_2) (fun _ _ => ⟨rfl, e0, (by decide : 0 + 0 ≤ _), (by decide : 0 + 0 ≤ _)⟩)
  dsimp only [Pt.U, Pt.locs, Pt.cells, Pt.slots] at X101 l101 y101 z101 st101 hQ101
  rw [l101, y101, z101] at X101
  obtain ⟨rfl, N101q, hh101⟩ := hQ101
  have N101 := Fr.app N0 N101q
  refine own_tr st101 ?_
  refine own_st (S' := T101.setTop (mkF m 11 #[qA gr, qI x1, .val .null] [(.ref gr)])) (fun t k => XS.astoreN X101.here hx rfl (hb hby d26_5) rfl rfl (l' := #[qA gr, qI x1, .val .null]) rfl (XS.aloadN X101.here hx rfl (hb hby d26_6) rfl rfl (XS.ifnonnullNo X101.here hx rfl (hb hby d26_7) rfl (XS.aloadN X101.here hx rfl (hb hby d26_10) rfl rfl k)))) ?_
  obtain ⟨T102, X102, e102, st102⟩ := getF X101 hx hZ hown (host := "") (Or.inl (own_hw hw (i := 135) rfl)) Via.refl hh101 F_gr_weights (g := (mkF m 11 #[qA gr, qI x1, .val .null] [(.ref gr)])) rfl rfl (hb hby d26_11)
  refine own_st st102 ?_
  refine own_st (S' := T102.setTop (mkF m 18 #[qA gr, qI x1, .val .null] [(.int ((x1.toUInt32 >>> ((6 : Int32) &&& 31).toUInt32).toInt32)), (.ref wa)])) (fun t k => XS.iloadN X102.here hx rfl (hb hby d26_14) rfl (XS.bipush X102.here hx rfl (hb hby d26_15) (XS.iushr X102.here hx rfl (hb hby d26_17) rfl k))) ?_
  refine own_st (S' := T102.setTop (mkF m 18 #[qA gr, qI x1, .val .null] [qV p1, (.ref wa)])) (fun t k => by rw [show (((x1.toUInt32 >>> ((6 : Int32) &&& 31).toUInt32).toInt32) : Int32) = (Int32.ofNat p1) from own_shr h1 hu1 hp1]; exact k) ?_
  have O103 := A_wa
  obtain ⟨c103, Ar103, S103, M103, V103⟩ := O103
  have at103 : c103.slots[((Int32.ofNat p1)).toNatClampNeg]? = some (.ref (ad 3 p1)) := own_at S103 V103 (own_ixN (by omega) (by decide)) rfl
  refine own_st (S' := T102.setTop (mkF m 26 #[qA gr, qI x1, .val .null] [(.ref (ad 3 p1))])) (fun t k => X102.aaload hx (j := (Int32.ofNat p1)) (v := (.ref (ad 3 p1))) (by rw [e102]; exact Ar103.1) (State.isArrayOf_alike hZ.alike Ar103.2.1) rfl Ar103.2.2 (own_in S103 (own_ixN (by omega) (by decide))) at103 (g := (mkF m 18 #[qA gr, qI x1, .val .null] [qV p1, (.ref wa)])) rfl rfl (hb hby d26_18) _ (XS.goto X102.here hx rfl (pc0 := 19) (pc' := 26) rfl (hb hby d26_19) (by decide) (by decide) k)) ?_
  refine own_retA X102 hx hret rfl rfl rfl hlk (hb hby d26_26) ?_ (by decide) (by decide)
  rw [e102]
  exact ⟨rfl, N101, rfl⟩
theorem d28_0 : decode prog_63_method_2_code 0 = .ok (.aload_n 0, 1) := by decide +kernel
theorem d28_1 : decode prog_63_method_2_code 1 = .ok (.getfield 11, 3) := by decide +kernel
theorem d28_4 : decode prog_63_method_2_code 4 = .ok (.iload_n 1, 1) := by decide +kernel
theorem d28_5 : decode prog_63_method_2_code 5 = .ok (.bipush 6, 2) := by decide +kernel
theorem d28_7 : decode prog_63_method_2_code 7 = .ok (.iushr, 1) := by decide +kernel
theorem d28_8 : decode prog_63_method_2_code 8 = .ok (.aaload, 1) := by decide +kernel
theorem d28_9 : decode prog_63_method_2_code 9 = .ok (.astore 5, 2) := by decide +kernel
theorem d28_11 : decode prog_63_method_2_code 11 = .ok (.aload_n 0, 1) := by decide +kernel
theorem d28_12 : decode prog_63_method_2_code 12 = .ok (.getfield 17, 3) := by decide +kernel
theorem d28_15 : decode prog_63_method_2_code 15 = .ok (.iload_n 1, 1) := by decide +kernel
theorem d28_16 : decode prog_63_method_2_code 16 = .ok (.dup2, 1) := by decide +kernel
theorem d28_17 : decode prog_63_method_2_code 17 = .ok (.iaload, 1) := by decide +kernel
theorem d28_18 : decode prog_63_method_2_code 18 = .ok (.dup_x2, 1) := by decide +kernel
theorem d28_19 : decode prog_63_method_2_code 19 = .ok (.iconst 1, 1) := by decide +kernel
theorem d28_20 : decode prog_63_method_2_code 20 = .ok (.iadd, 1) := by decide +kernel
theorem d28_21 : decode prog_63_method_2_code 21 = .ok (.iastore, 1) := by decide +kernel
theorem d28_22 : decode prog_63_method_2_code 22 = .ok (.istore 6, 2) := by decide +kernel
theorem d28_24 : decode prog_63_method_2_code 24 = .ok (.aload 5, 2) := by decide +kernel
theorem d28_26 : decode prog_63_method_2_code 26 = .ok (.getfield 34, 3) := by decide +kernel
theorem d28_29 : decode prog_63_method_2_code 29 = .ok (.iload 6, 2) := by decide +kernel
theorem d28_31 : decode prog_63_method_2_code 31 = .ok (.iload_n 2, 1) := by decide +kernel
theorem d28_32 : decode prog_63_method_2_code 32 = .ok (.iastore, 1) := by decide +kernel
theorem d28_33 : decode prog_63_method_2_code 33 = .ok (.aload 5, 2) := by decide +kernel
theorem d28_35 : decode prog_63_method_2_code 35 = .ok (.getfield 37, 3) := by decide +kernel
theorem d28_38 : decode prog_63_method_2_code 38 = .ok (.iload 6, 2) := by decide +kernel
theorem d28_40 : decode prog_63_method_2_code 40 = .ok (.dload_n 3, 1) := by decide +kernel
theorem d28_41 : decode prog_63_method_2_code 41 = .ok (.dastore, 1) := by decide +kernel
theorem d28_42 : decode prog_63_method_2_code 42 = .ok (.aload_n 0, 1) := by decide +kernel
theorem d28_43 : decode prog_63_method_2_code 43 = .ok (.getfield 11, 3) := by decide +kernel
theorem d28_46 : decode prog_63_method_2_code 46 = .ok (.iload_n 2, 1) := by decide +kernel
theorem d28_47 : decode prog_63_method_2_code 47 = .ok (.bipush 6, 2) := by decide +kernel
theorem d28_49 : decode prog_63_method_2_code 49 = .ok (.iushr, 1) := by decide +kernel
theorem d28_50 : decode prog_63_method_2_code 50 = .ok (.aaload, 1) := by decide +kernel
theorem d28_51 : decode prog_63_method_2_code 51 = .ok (.astore 7, 2) := by decide +kernel
theorem d28_53 : decode prog_63_method_2_code 53 = .ok (.aload_n 0, 1) := by decide +kernel
theorem d28_54 : decode prog_63_method_2_code 54 = .ok (.getfield 17, 3) := by decide +kernel
theorem d28_57 : decode prog_63_method_2_code 57 = .ok (.iload_n 2, 1) := by decide +kernel
theorem d28_58 : decode prog_63_method_2_code 58 = .ok (.dup2, 1) := by decide +kernel
theorem d28_59 : decode prog_63_method_2_code 59 = .ok (.iaload, 1) := by decide +kernel
theorem d28_60 : decode prog_63_method_2_code 60 = .ok (.dup_x2, 1) := by decide +kernel
theorem d28_61 : decode prog_63_method_2_code 61 = .ok (.iconst 1, 1) := by decide +kernel
theorem d28_62 : decode prog_63_method_2_code 62 = .ok (.iadd, 1) := by decide +kernel
theorem d28_63 : decode prog_63_method_2_code 63 = .ok (.iastore, 1) := by decide +kernel
theorem d28_64 : decode prog_63_method_2_code 64 = .ok (.istore 8, 2) := by decide +kernel
theorem d28_66 : decode prog_63_method_2_code 66 = .ok (.aload 7, 2) := by decide +kernel
theorem d28_68 : decode prog_63_method_2_code 68 = .ok (.getfield 34, 3) := by decide +kernel
theorem d28_71 : decode prog_63_method_2_code 71 = .ok (.iload 8, 2) := by decide +kernel
theorem d28_73 : decode prog_63_method_2_code 73 = .ok (.iload_n 1, 1) := by decide +kernel
theorem d28_74 : decode prog_63_method_2_code 74 = .ok (.iastore, 1) := by decide +kernel
theorem d28_75 : decode prog_63_method_2_code 75 = .ok (.aload 7, 2) := by decide +kernel
theorem d28_77 : decode prog_63_method_2_code 77 = .ok (.getfield 37, 3) := by decide +kernel
theorem d28_80 : decode prog_63_method_2_code 80 = .ok (.iload 8, 2) := by decide +kernel
theorem d28_82 : decode prog_63_method_2_code 82 = .ok (.dload_n 3, 1) := by decide +kernel
theorem d28_83 : decode prog_63_method_2_code 83 = .ok (.dastore, 1) := by decide +kernel
theorem d28_84 : decode prog_63_method_2_code 84 = .ok (.return_, 1) := by decide +kernel
theorem pn28 : plainName "kithrank/Graph$Builder" = true := by first | (simp [plainName, overriddenIn]; done) | decide +kernel
theorem ef28 (m : MethodId) (bu : Addr) (x1 : Int32) (x2 : Int32) (w : UInt64) : entryFrame m #[(.ref bu), (.int x1), (.int x2), (.double w)] 9 = mkF m 0 #[.val (.ref bu), .val (.int x1), .val (.int x2), .val (.double w), .second, .unset, .unset, .unset, .unset] [] := by first | (simp [entryFrame, mkF, argsToLocals, Value.category]; done) | rfl
def Q28 (Z : State) (bu : Addr) (x1 : Int32) (x2 : Int32) (w : UInt64) (ad : Nat → Nat → Addr) (sN : Nat → Nat → Nat) (tF : Nat → Nat → Int32) (wF : Nat → Nat → UInt64) (pa : Addr) (nx : Addr) (nf : Nat → Nat) (u1 : Nat) (u2 : Nat) (p1 : Nat) (p2 : Nat) (h0 : Heap) (n0 : Nat) (v : Option Value) (h : Heap) (L : List Loc) : Prop := v = none ∧ Fr n0 L ∧ Keep h0 h [nx, (ad 2 p1), (ad 3 p1), (ad 2 p2), (ad 3 p2)] ∧ own_A Z h nx .int 130 (own_N (own_uN (own_uN nf u1 (nf u1 + 1)) u2 (nf u2 + 1))) ∧ own_P Z h 3 ad sN (own_s2 (own_s2 tF p1 (nf u1) x2) p2 (nf u2) x1) (own_s2 (own_s2 wF p1 (nf u1) w) p2 (nf u2) w)
set_option maxRecDepth 65536 in
set_option maxHeartbeats 40000000 in
theorem rm28 (l : Launch) (Z : State) (a0 : Array Value) (hw : ∀ d ∈ tables_1, d.before a0 Z = true) (ws : List Jvm.Cond) (bu : Addr) (x1 : Int32) (x2 : Int32) (w : UInt64) (ad : Nat → Nat → Addr) (sN : Nat → Nat → Nat) (tF : Nat → Nat → Int32) (wF : Nat → Nat → UInt64) (pa : Addr) (nx : Addr) (nf : Nat → Nat) (u1 : Nat) (u2 : Nat) (p1 : Nat) (p2 : Nat) (h0 : Heap) (n0 : Nat) (Z0 : n0 ≤ h0.size) (P__ : own_P Z h0 3 ad sN tF wF) (W__ : own_W n0 3 ad) (F_bu_pages : Fld Z h0 bu "kithrank/Graph$Builder" "pages" "[Lkithrank/Graph$Page;" (.ref pa)) (F_bu_next : Fld Z h0 bu "kithrank/Graph$Builder" "next" "[I" (.ref nx)) (M_bu : own_Nm 3 ad bu) (M_pa : own_Nm 3 ad pa) (M_nx : own_Nm 3 ad nx) (A_pa : own_A Z h0 pa (.object "kithrank/Graph$Page") 3 (own_Rf (ad 0))) (A_nx : own_A Z h0 nx .int 130 (own_N nf)) (G_nx : n0 ≤ nx) (ne_bu_nx : bu ≠ nx) (ne_pa_nx : pa ≠ nx) (h1 : x1 = Int32.ofNat u1) (h2 : x2 = Int32.ofNat u2) (hu1 : u1 < 130) (hu2 : u2 < 130) (hne : u2 ≠ u1) (hp1 : p1 = u1 / 64) (hp2 : p2 = u2 / 64) (hb1 : nf u1 < sN p1 (own_u p1)) (hb2 : nf u2 < sN p2 (own_u p2)) (hM : ∀ P, P < 3 → sN P (own_u P) ≤ 4) :
    MetFree l (⟨"kithrank/Graph$Builder", "add", "(IID)V"⟩ : MethodName) (head1 (Jvm.Cond.code (⟨"kithrank/Graph$Builder", "add", "(IID)V"⟩ : MethodName) prog_63_method_2_code 9 none :: ws) ({ frames := 0, cells := 0, slots := 0, locals := 0 } : Room)) (fun as' U => as' = #[(.ref bu), (.int x1), (.int x2), (.double w)] ∧ Z.Warmed39 U.vm ∧ U.heap = h0) (fun _ _ _ _ _ => True) (fun _ U o U' => ∃ v L, o = .returned v ∧ Q28 Z bu x1 x2 w ad sN tF wF pa nx nf u1 u2 p1 p2 h0 n0 v U'.heap L ∧ FrameEnd U o U' L ({ frames := 0, cells := 0, slots := 0, locals := 0 } : Room).cells ({ frames := 0, cells := 0, slots := 0, locals := 0 } : Room).slots) := by
  refine own_body (plainFor_of_name pn28) ?_
  intro p e s m below meth c s₁ hx hby hml hown0 hnm hret hlk hZ X0 e0
  have hown : s.vm.findClass "kithrank/Graph$Builder" = some m.cls := hown0
  have N0 := Fr.nil n0
  rw [ef28]
  have K0 : Keep h0 h0 [nx, (ad 2 p1), (ad 3 p1), (ad 2 p2), (ad 3 p2)] := Keep.refl h0 [nx, (ad 2 p1), (ad 3 p1), (ad 2 p2), (ad 3 p2)]
  have hP1 : p1 < 3 := by omega
  have hP2 : p2 < 3 := by omega
  have hM1 := hM p1 hP1
  have hM2 := hM p2 hP2
  refine own_st (S' := s₁.setTop (mkF m 1 #[qA bu, qI x1, qI x2, qD w, qZ, qU, qU, qU, qU] [(.ref bu)])) (fun t k => XS.aloadN X0.here hx rfl (hb hby d28_0) rfl rfl k) ?_
  obtain ⟨T101, X101, e101, st101⟩ := getF X0 hx hZ hown (host := "") (Or.inl (own_hw hw (i := 14) rfl)) Via.refl e0 F_bu_pages (g := (mkF m 1 #[qA bu, qI x1, qI x2, qD w, qZ, qU, qU, qU, qU] [(.ref bu)])) rfl rfl (hb hby d28_1)
  refine own_st st101 ?_
  refine own_st (S' := T101.setTop (mkF m 8 #[qA bu, qI x1, qI x2, qD w, qZ, qU, qU, qU, qU] [(.int ((x1.toUInt32 >>> ((6 : Int32) &&& 31).toUInt32).toInt32)), (.ref pa)])) (fun t k => XS.iloadN X101.here hx rfl (hb hby d28_4) rfl (XS.bipush X101.here hx rfl (hb hby d28_5) (XS.iushr X101.here hx rfl (hb hby d28_7) rfl k))) ?_
  refine own_st (S' := T101.setTop (mkF m 8 #[qA bu, qI x1, qI x2, qD w, qZ, qU, qU, qU, qU] [qV p1, (.ref pa)])) (fun t k => by rw [show (((x1.toUInt32 >>> ((6 : Int32) &&& 31).toUInt32).toInt32) : Int32) = (Int32.ofNat p1) from own_shr h1 hu1 hp1]; exact k) ?_
  have O102 := A_pa
  obtain ⟨c102, Ar102, S102, M102, V102⟩ := O102
  have at102 : c102.slots[((Int32.ofNat p1)).toNatClampNeg]? = some (.ref (ad 0 p1)) := own_at S102 V102 (own_ixN (by omega) (by decide)) rfl
  refine own_st (S' := T101.setTop (mkF m 12 #[qA bu, qI x1, qI x2, qD w, qZ, qA (ad 0 p1), qU, qU, qU] [(.ref bu)])) (fun t k => X101.aaload hx (j := (Int32.ofNat p1)) (v := (.ref (ad 0 p1))) (by rw [e101]; exact Ar102.1) (State.isArrayOf_alike hZ.alike Ar102.2.1) rfl Ar102.2.2 (own_in S102 (own_ixN (by omega) (by decide))) at102 (g := (mkF m 8 #[qA bu, qI x1, qI x2, qD w, qZ, qU, qU, qU, qU] [qV p1, (.ref pa)])) rfl rfl (hb hby d28_8) _ (XS.astore X101.here hx rfl (hb hby d28_9) rfl rfl (l' := #[qA bu, qI x1, qI x2, qD w, qZ, qA (ad 0 p1), qU, qU, qU]) rfl (XS.aloadN X101.here hx rfl (hb hby d28_11) rfl rfl k))) ?_
  obtain ⟨T103, X103, e103, st103⟩ := getF X101 hx hZ hown (host := "") (Or.inl (own_hw hw (i := 16) rfl)) Via.refl e101 F_bu_next (g := (mkF m 12 #[qA bu, qI x1, qI x2, qD w, qZ, qA (ad 0 p1), qU, qU, qU] [(.ref bu)])) rfl rfl (hb hby d28_12)
  refine own_st st103 ?_
  have O104 := A_nx
  obtain ⟨c104, Ar104, S104, M104, V104⟩ := O104
  have at104 : c104.slots[(x1).toNatClampNeg]? = some (.int (Int32.ofNat (nf u1))) := own_at S104 V104 (by rw [h1]; exact own_ixN (by omega) (by decide)) rfl
  refine own_st (S' := T103.setTop (mkF m 21 #[qA bu, qI x1, qI x2, qD w, qZ, qA (ad 0 p1), qU, qU, qU] [(.int ((Int32.ofNat (nf u1)) + (1 : Int32))), (.int x1), (.ref nx), qV (nf u1)])) (fun t k => XS.iloadN X103.here hx rfl (hb hby d28_15) rfl (Jvm.Free.XT.dup2 X103.here hx rfl (hb hby d28_16) rfl rfl rfl (X103.iaload hx (j := x1) (v := (.int (Int32.ofNat (nf u1)))) (by rw [e103]; exact Ar104.1) (State.isArrayOf_alike hZ.alike Ar104.2.1) Ar104.2.2 (own_in S104 (by rw [h1]; exact own_ixN (by omega) (by decide))) at104 (g := (mkF m 17 #[qA bu, qI x1, qI x2, qD w, qZ, qA (ad 0 p1), qU, qU, qU] [(.int x1), (.ref nx), (.int x1), (.ref nx)])) rfl rfl (hb hby d28_17) _ (own_dupx2 X103.here hx rfl (hb hby d28_18) rfl rfl rfl rfl (XS.iconst X103.here hx rfl (hb hby d28_19) (XS.iadd X103.here hx rfl (hb hby d28_20) rfl k)))))) ?_
  refine own_st (S' := T103.setTop (mkF m 21 #[qA bu, qI x1, qI x2, qD w, qZ, qA (ad 0 p1), qU, qU, qU] [qV ((nf u1) + 1), (.int x1), (.ref nx), qV (nf u1)])) (fun t k => by rw [own_incN (i := (nf u1)) (by omega)]; exact k) ?_
  have O105 := A_nx
  obtain ⟨c105, Ar105, S105, M105, V105⟩ := O105
  obtain ⟨T105, h105, X105, e105, W105, st105⟩ := stI X103 hx hZ e103 Ar105 (j := x1) (own_in S105 (by rw [h1]; exact own_ixN (by omega) (by decide))) (g := (mkF m 21 #[qA bu, qI x1, qI x2, qD w, qZ, qA (ad 0 p1), qU, qU, qU] [qV ((nf u1) + 1), (.int x1), (.ref nx), qV (nf u1)])) rfl rfl (hb hby d28_21)
  refine own_st st105 ?_
  have f106 := P__.other W105 M_nx
  have f107 := F_bu_pages.other W105 (Or.inl ne_bu_nx)
  have f108 := F_bu_next.other W105 (Or.inl ne_bu_nx)
  have f109 := A_pa.other W105 ne_pa_nx
  have Z105 : n0 ≤ h105.size := Nat.le_trans Z0 (Keep.of_wr W105).1
  have N105 := Fr.snoc X105 N0 G_nx
  have K105 : Keep h0 h105 [nx, (ad 2 p1), (ad 3 p1), (ad 2 p2), (ad 3 p2)] := K0.wr W105 (Or.inl (List.mem_of_getElem? (i := 0) rfl))
  have f110 : own_A Z h105 nx .int 130 (own_N (own_uN nf u1 ((nf u1) + 1))) := (own_A.set ⟨c105, Ar105, S105, M105, V105⟩ (by rw [h1]; exact own_ixN (by omega) (by decide)) W105).cong (fun q _ => congrFun (own_upN nf u1 ((nf u1) + 1)) q)
  refine own_st (S' := T105.setTop (mkF m 26 #[qA bu, qI x1, qI x2, qD w, qZ, qA (ad 0 p1), qN (nf u1), qU, qU] [(.ref (ad 0 p1))])) (fun t k => XS.istore X105.here hx rfl (hb hby d28_22) rfl (l' := #[qA bu, qI x1, qI x2, qD w, qZ, qA (ad 0 p1), qN (nf u1), qU, qU]) rfl (XS.aload X105.here hx rfl (hb hby d28_24) rfl rfl k)) ?_
  obtain ⟨T111, X111, e111, st111⟩ := getF X105 hx hZ hown (Or.inr (own_hw hw (i := 50) rfl)) Via.refl e105 (f106 p1 hP1).2.2.2.2.2.1 (g := (mkF m 26 #[qA bu, qI x1, qI x2, qD w, qZ, qA (ad 0 p1), qN (nf u1), qU, qU] [(.ref (ad 0 p1))])) rfl rfl (hb hby d28_26)
  refine own_st st111 ?_
  refine own_st (S' := T111.setTop (mkF m 32 #[qA bu, qI x1, qI x2, qD w, qZ, qA (ad 0 p1), qN (nf u1), qU, qU] [(.int x2), qV (nf u1), (.ref (ad 2 p1))])) (fun t k => XS.iload X111.here hx rfl (hb hby d28_29) rfl (XS.iloadN X111.here hx rfl (hb hby d28_31) rfl k)) ?_
  have O112 := (f106 p1 hP1).2.2.2.2.2.2.2.2.2.1
  obtain ⟨c112, Ar112, S112, M112, V112⟩ := O112
  obtain ⟨T112, h112, X112, e112, W112, st112⟩ := stI X111 hx hZ e111 Ar112 (j := (Int32.ofNat (nf u1))) (own_in S112 (own_ixN (by omega) (by have := hM p1 (by omega); omega))) (g := (mkF m 32 #[qA bu, qI x1, qI x2, qD w, qZ, qA (ad 0 p1), qN (nf u1), qU, qU] [(.int x2), qV (nf u1), (.ref (ad 2 p1))])) rfl rfl (hb hby d28_32)
  refine own_st st112 ?_
  have f113 := f107.other W112 (Or.inl (M_bu 2 p1 (by decide) hP1))
  have f114 := f108.other W112 (Or.inl (M_bu 2 p1 (by decide) hP1))
  have f115 := f109.other W112 (M_pa 2 p1 (by decide) hP1)
  have f116 := f110.other W112 (M_nx 2 p1 (by decide) hP1)
  have Z112 : n0 ≤ h112.size := Nat.le_trans Z105 (Keep.of_wr W112).1
  have N112 := Fr.snoc X112 N105 (W__.1 2 p1 (by decide) hP1)
  have K112 : Keep h0 h112 [nx, (ad 2 p1), (ad 3 p1), (ad 2 p2), (ad 3 p2)] := K105.wr W112 (Or.inl (List.mem_of_getElem? (i := 1) rfl))
  have f117 : own_P Z h112 3 ad sN (own_s2 tF p1 (nf u1) x2) wF := own_P.setT f106 W__ hP1 (own_ixN (by omega) (by have := hM p1 (by omega); omega)) W112
  refine own_st (S' := T112.setTop (mkF m 35 #[qA bu, qI x1, qI x2, qD w, qZ, qA (ad 0 p1), qN (nf u1), qU, qU] [(.ref (ad 0 p1))])) (fun t k => XS.aload X112.here hx rfl (hb hby d28_33) rfl rfl k) ?_
  obtain ⟨T118, X118, e118, st118⟩ := getF X112 hx hZ hown (Or.inr (own_hw hw (i := 51) rfl)) Via.refl e112 (f117 p1 hP1).2.2.2.2.2.2.1 (g := (mkF m 35 #[qA bu, qI x1, qI x2, qD w, qZ, qA (ad 0 p1), qN (nf u1), qU, qU] [(.ref (ad 0 p1))])) rfl rfl (hb hby d28_35)
  refine own_st st118 ?_
  refine own_st (S' := T118.setTop (mkF m 41 #[qA bu, qI x1, qI x2, qD w, qZ, qA (ad 0 p1), qN (nf u1), qU, qU] [(.double w), qV (nf u1), (.ref (ad 3 p1))])) (fun t k => XS.iload X118.here hx rfl (hb hby d28_38) rfl (XS.dloadN X118.here hx rfl (hb hby d28_40) rfl k)) ?_
  have O119 := (f117 p1 hP1).2.2.2.2.2.2.2.2.2.2
  obtain ⟨c119, Ar119, S119, M119, V119⟩ := O119
  obtain ⟨T119, h119, X119, e119, W119, st119⟩ := stD X118 hx hZ e118 Ar119 (j := (Int32.ofNat (nf u1))) (own_in S119 (own_ixN (by omega) (by have := hM p1 (by omega); omega))) (g := (mkF m 41 #[qA bu, qI x1, qI x2, qD w, qZ, qA (ad 0 p1), qN (nf u1), qU, qU] [(.double w), qV (nf u1), (.ref (ad 3 p1))])) rfl rfl (hb hby d28_41)
  refine own_st st119 ?_
  have f120 := f113.other W119 (Or.inl (M_bu 3 p1 (by decide) hP1))
  have f121 := f114.other W119 (Or.inl (M_bu 3 p1 (by decide) hP1))
  have f122 := f115.other W119 (M_pa 3 p1 (by decide) hP1)
  have f123 := f116.other W119 (M_nx 3 p1 (by decide) hP1)
  have Z119 : n0 ≤ h119.size := Nat.le_trans Z112 (Keep.of_wr W119).1
  have N119 := Fr.snoc X119 N112 (W__.1 3 p1 (by decide) hP1)
  have K119 : Keep h0 h119 [nx, (ad 2 p1), (ad 3 p1), (ad 2 p2), (ad 3 p2)] := K112.wr W119 (Or.inl (List.mem_of_getElem? (i := 2) rfl))
  have f124 : own_P Z h119 3 ad sN (own_s2 tF p1 (nf u1) x2) (own_s2 wF p1 (nf u1) w) := own_P.setW f117 W__ hP1 (own_ixN (by omega) (by have := hM p1 (by omega); omega)) W119
  refine own_st (S' := T119.setTop (mkF m 43 #[qA bu, qI x1, qI x2, qD w, qZ, qA (ad 0 p1), qN (nf u1), qU, qU] [(.ref bu)])) (fun t k => XS.aloadN X119.here hx rfl (hb hby d28_42) rfl rfl k) ?_
  obtain ⟨T125, X125, e125, st125⟩ := getF X119 hx hZ hown (host := "") (Or.inl (own_hw hw (i := 14) rfl)) Via.refl e119 f120 (g := (mkF m 43 #[qA bu, qI x1, qI x2, qD w, qZ, qA (ad 0 p1), qN (nf u1), qU, qU] [(.ref bu)])) rfl rfl (hb hby d28_43)
  refine own_st st125 ?_
  refine own_st (S' := T125.setTop (mkF m 50 #[qA bu, qI x1, qI x2, qD w, qZ, qA (ad 0 p1), qN (nf u1), qU, qU] [(.int ((x2.toUInt32 >>> ((6 : Int32) &&& 31).toUInt32).toInt32)), (.ref pa)])) (fun t k => XS.iloadN X125.here hx rfl (hb hby d28_46) rfl (XS.bipush X125.here hx rfl (hb hby d28_47) (XS.iushr X125.here hx rfl (hb hby d28_49) rfl k))) ?_
  refine own_st (S' := T125.setTop (mkF m 50 #[qA bu, qI x1, qI x2, qD w, qZ, qA (ad 0 p1), qN (nf u1), qU, qU] [qV p2, (.ref pa)])) (fun t k => by rw [show (((x2.toUInt32 >>> ((6 : Int32) &&& 31).toUInt32).toInt32) : Int32) = (Int32.ofNat p2) from own_shr h2 hu2 hp2]; exact k) ?_
  have O126 := f122
  obtain ⟨c126, Ar126, S126, M126, V126⟩ := O126
  have at126 : c126.slots[((Int32.ofNat p2)).toNatClampNeg]? = some (.ref (ad 0 p2)) := own_at S126 V126 (own_ixN (by omega) (by decide)) rfl
  refine own_st (S' := T125.setTop (mkF m 54 #[qA bu, qI x1, qI x2, qD w, qZ, qA (ad 0 p1), qN (nf u1), qA (ad 0 p2), qU] [(.ref bu)])) (fun t k => X125.aaload hx (j := (Int32.ofNat p2)) (v := (.ref (ad 0 p2))) (by rw [e125]; exact Ar126.1) (State.isArrayOf_alike hZ.alike Ar126.2.1) rfl Ar126.2.2 (own_in S126 (own_ixN (by omega) (by decide))) at126 (g := (mkF m 50 #[qA bu, qI x1, qI x2, qD w, qZ, qA (ad 0 p1), qN (nf u1), qU, qU] [qV p2, (.ref pa)])) rfl rfl (hb hby d28_50) _ (XS.astore X125.here hx rfl (hb hby d28_51) rfl rfl (l' := #[qA bu, qI x1, qI x2, qD w, qZ, qA (ad 0 p1), qN (nf u1), qA (ad 0 p2), qU]) rfl (XS.aloadN X125.here hx rfl (hb hby d28_53) rfl rfl k))) ?_
  obtain ⟨T127, X127, e127, st127⟩ := getF X125 hx hZ hown (host := "") (Or.inl (own_hw hw (i := 16) rfl)) Via.refl e125 f121 (g := (mkF m 54 #[qA bu, qI x1, qI x2, qD w, qZ, qA (ad 0 p1), qN (nf u1), qA (ad 0 p2), qU] [(.ref bu)])) rfl rfl (hb hby d28_54)
  refine own_st st127 ?_
  have O128 := f123
  obtain ⟨c128, Ar128, S128, M128, V128⟩ := O128
  have at128 : c128.slots[(x2).toNatClampNeg]? = some (.int (Int32.ofNat (nf u2))) := own_at S128 V128 (by rw [h2]; exact own_ixN (by omega) (by decide)) (congrArg (fun q => Value.int (Int32.ofNat q)) (if_neg hne))
  refine own_st (S' := T127.setTop (mkF m 63 #[qA bu, qI x1, qI x2, qD w, qZ, qA (ad 0 p1), qN (nf u1), qA (ad 0 p2), qU] [(.int ((Int32.ofNat (nf u2)) + (1 : Int32))), (.int x2), (.ref nx), qV (nf u2)])) (fun t k => XS.iloadN X127.here hx rfl (hb hby d28_57) rfl (Jvm.Free.XT.dup2 X127.here hx rfl (hb hby d28_58) rfl rfl rfl (X127.iaload hx (j := x2) (v := (.int (Int32.ofNat (nf u2)))) (by rw [e127]; exact Ar128.1) (State.isArrayOf_alike hZ.alike Ar128.2.1) Ar128.2.2 (own_in S128 (by rw [h2]; exact own_ixN (by omega) (by decide))) at128 (g := (mkF m 59 #[qA bu, qI x1, qI x2, qD w, qZ, qA (ad 0 p1), qN (nf u1), qA (ad 0 p2), qU] [(.int x2), (.ref nx), (.int x2), (.ref nx)])) rfl rfl (hb hby d28_59) _ (own_dupx2 X127.here hx rfl (hb hby d28_60) rfl rfl rfl rfl (XS.iconst X127.here hx rfl (hb hby d28_61) (XS.iadd X127.here hx rfl (hb hby d28_62) rfl k)))))) ?_
  refine own_st (S' := T127.setTop (mkF m 63 #[qA bu, qI x1, qI x2, qD w, qZ, qA (ad 0 p1), qN (nf u1), qA (ad 0 p2), qU] [qV ((nf u2) + 1), (.int x2), (.ref nx), qV (nf u2)])) (fun t k => by rw [own_incN (i := (nf u2)) (by omega)]; exact k) ?_
  have O129 := f123
  obtain ⟨c129, Ar129, S129, M129, V129⟩ := O129
  obtain ⟨T129, h129, X129, e129, W129, st129⟩ := stI X127 hx hZ e127 Ar129 (j := x2) (own_in S129 (by rw [h2]; exact own_ixN (by omega) (by decide))) (g := (mkF m 63 #[qA bu, qI x1, qI x2, qD w, qZ, qA (ad 0 p1), qN (nf u1), qA (ad 0 p2), qU] [qV ((nf u2) + 1), (.int x2), (.ref nx), qV (nf u2)])) rfl rfl (hb hby d28_63)
  refine own_st st129 ?_
  have f130 := f124.other W129 M_nx
  have f131 := f120.other W129 (Or.inl ne_bu_nx)
  have f132 := f121.other W129 (Or.inl ne_bu_nx)
  have f133 := f122.other W129 ne_pa_nx
  have Z129 : n0 ≤ h129.size := Nat.le_trans Z119 (Keep.of_wr W129).1
  have N129 := Fr.snoc X129 N119 G_nx
  have K129 : Keep h0 h129 [nx, (ad 2 p1), (ad 3 p1), (ad 2 p2), (ad 3 p2)] := K119.wr W129 (Or.inl (List.mem_of_getElem? (i := 0) rfl))
  have f134 : own_A Z h129 nx .int 130 (own_N (own_uN (own_uN nf u1 ((nf u1) + 1)) u2 ((nf u2) + 1))) := (own_A.set ⟨c129, Ar129, S129, M129, V129⟩ (by rw [h2]; exact own_ixN (by omega) (by decide)) W129).cong (fun q _ => congrFun (own_upN (own_uN nf u1 ((nf u1) + 1)) u2 ((nf u2) + 1)) q)
  refine own_st (S' := T129.setTop (mkF m 68 #[qA bu, qI x1, qI x2, qD w, qZ, qA (ad 0 p1), qN (nf u1), qA (ad 0 p2), qN (nf u2)] [(.ref (ad 0 p2))])) (fun t k => XS.istore X129.here hx rfl (hb hby d28_64) rfl (l' := #[qA bu, qI x1, qI x2, qD w, qZ, qA (ad 0 p1), qN (nf u1), qA (ad 0 p2), qN (nf u2)]) rfl (XS.aload X129.here hx rfl (hb hby d28_66) rfl rfl k)) ?_
  obtain ⟨T135, X135, e135, st135⟩ := getF X129 hx hZ hown (Or.inr (own_hw hw (i := 50) rfl)) Via.refl e129 (f130 p2 hP2).2.2.2.2.2.1 (g := (mkF m 68 #[qA bu, qI x1, qI x2, qD w, qZ, qA (ad 0 p1), qN (nf u1), qA (ad 0 p2), qN (nf u2)] [(.ref (ad 0 p2))])) rfl rfl (hb hby d28_68)
  refine own_st st135 ?_
  refine own_st (S' := T135.setTop (mkF m 74 #[qA bu, qI x1, qI x2, qD w, qZ, qA (ad 0 p1), qN (nf u1), qA (ad 0 p2), qN (nf u2)] [(.int x1), qV (nf u2), (.ref (ad 2 p2))])) (fun t k => XS.iload X135.here hx rfl (hb hby d28_71) rfl (XS.iloadN X135.here hx rfl (hb hby d28_73) rfl k)) ?_
  have O136 := (f130 p2 hP2).2.2.2.2.2.2.2.2.2.1
  obtain ⟨c136, Ar136, S136, M136, V136⟩ := O136
  obtain ⟨T136, h136, X136, e136, W136, st136⟩ := stI X135 hx hZ e135 Ar136 (j := (Int32.ofNat (nf u2))) (own_in S136 (own_ixN (by omega) (by have := hM p2 (by omega); omega))) (g := (mkF m 74 #[qA bu, qI x1, qI x2, qD w, qZ, qA (ad 0 p1), qN (nf u1), qA (ad 0 p2), qN (nf u2)] [(.int x1), qV (nf u2), (.ref (ad 2 p2))])) rfl rfl (hb hby d28_74)
  refine own_st st136 ?_
  have f137 := f131.other W136 (Or.inl (M_bu 2 p2 (by decide) hP2))
  have f138 := f132.other W136 (Or.inl (M_bu 2 p2 (by decide) hP2))
  have f139 := f133.other W136 (M_pa 2 p2 (by decide) hP2)
  have f140 := f134.other W136 (M_nx 2 p2 (by decide) hP2)
  have Z136 : n0 ≤ h136.size := Nat.le_trans Z129 (Keep.of_wr W136).1
  have N136 := Fr.snoc X136 N129 (W__.1 2 p2 (by decide) hP2)
  have K136 : Keep h0 h136 [nx, (ad 2 p1), (ad 3 p1), (ad 2 p2), (ad 3 p2)] := K129.wr W136 (Or.inl (List.mem_of_getElem? (i := 3) rfl))
  have f141 : own_P Z h136 3 ad sN (own_s2 (own_s2 tF p1 (nf u1) x2) p2 (nf u2) x1) (own_s2 wF p1 (nf u1) w) := own_P.setT f130 W__ hP2 (own_ixN (by omega) (by have := hM p2 (by omega); omega)) W136
  refine own_st (S' := T136.setTop (mkF m 77 #[qA bu, qI x1, qI x2, qD w, qZ, qA (ad 0 p1), qN (nf u1), qA (ad 0 p2), qN (nf u2)] [(.ref (ad 0 p2))])) (fun t k => XS.aload X136.here hx rfl (hb hby d28_75) rfl rfl k) ?_
  obtain ⟨T142, X142, e142, st142⟩ := getF X136 hx hZ hown (Or.inr (own_hw hw (i := 51) rfl)) Via.refl e136 (f141 p2 hP2).2.2.2.2.2.2.1 (g := (mkF m 77 #[qA bu, qI x1, qI x2, qD w, qZ, qA (ad 0 p1), qN (nf u1), qA (ad 0 p2), qN (nf u2)] [(.ref (ad 0 p2))])) rfl rfl (hb hby d28_77)
  refine own_st st142 ?_
  refine own_st (S' := T142.setTop (mkF m 83 #[qA bu, qI x1, qI x2, qD w, qZ, qA (ad 0 p1), qN (nf u1), qA (ad 0 p2), qN (nf u2)] [(.double w), qV (nf u2), (.ref (ad 3 p2))])) (fun t k => XS.iload X142.here hx rfl (hb hby d28_80) rfl (XS.dloadN X142.here hx rfl (hb hby d28_82) rfl k)) ?_
  have O143 := (f141 p2 hP2).2.2.2.2.2.2.2.2.2.2
  obtain ⟨c143, Ar143, S143, M143, V143⟩ := O143
  obtain ⟨T143, h143, X143, e143, W143, st143⟩ := stD X142 hx hZ e142 Ar143 (j := (Int32.ofNat (nf u2))) (own_in S143 (own_ixN (by omega) (by have := hM p2 (by omega); omega))) (g := (mkF m 83 #[qA bu, qI x1, qI x2, qD w, qZ, qA (ad 0 p1), qN (nf u1), qA (ad 0 p2), qN (nf u2)] [(.double w), qV (nf u2), (.ref (ad 3 p2))])) rfl rfl (hb hby d28_83)
  refine own_st st143 ?_
  have f144 := f137.other W143 (Or.inl (M_bu 3 p2 (by decide) hP2))
  have f145 := f138.other W143 (Or.inl (M_bu 3 p2 (by decide) hP2))
  have f146 := f139.other W143 (M_pa 3 p2 (by decide) hP2)
  have f147 := f140.other W143 (M_nx 3 p2 (by decide) hP2)
  have Z143 : n0 ≤ h143.size := Nat.le_trans Z136 (Keep.of_wr W143).1
  have N143 := Fr.snoc X143 N136 (W__.1 3 p2 (by decide) hP2)
  have K143 : Keep h0 h143 [nx, (ad 2 p1), (ad 3 p1), (ad 2 p2), (ad 3 p2)] := K136.wr W143 (Or.inl (List.mem_of_getElem? (i := 4) rfl))
  have f148 : own_P Z h143 3 ad sN (own_s2 (own_s2 tF p1 (nf u1) x2) p2 (nf u2) x1) (own_s2 (own_s2 wF p1 (nf u1) w) p2 (nf u2) w) := own_P.setW f141 W__ hP2 (own_ixN (by omega) (by have := hM p2 (by omega); omega)) W143
  show own_Go p.tables e below _ (T143.setTop (mkF m 84 #[qA bu, qI x1, qI x2, qD w, qZ, qA (ad 0 p1), qN (nf u1), qA (ad 0 p2), qN (nf u2)] []))
  refine own_retV X143 hx hret hlk (hb hby d28_84) ?_ (by decide) (by decide)
  rw [e143]
  exact ⟨rfl, N143, K143, f147, f148⟩
theorem d27_0 : decode prog_63_method_1_code 0 = .ok (.aload_n 0, 1) := by decide +kernel
theorem d27_1 : decode prog_63_method_1_code 1 = .ok (.invokespecial 3, 3) := by decide +kernel
theorem d27_4 : decode prog_63_method_1_code 4 = .ok (.aload_n 1, 1) := by decide +kernel
theorem d27_5 : decode prog_63_method_1_code 5 = .ok (.arraylength, 1) := by decide +kernel
theorem d27_6 : decode prog_63_method_1_code 6 = .ok (.istore_n 2, 1) := by decide +kernel
theorem d27_7 : decode prog_63_method_1_code 7 = .ok (.aload_n 0, 1) := by decide +kernel
theorem d27_8 : decode prog_63_method_1_code 8 = .ok (.iload_n 2, 1) := by decide +kernel
theorem d27_9 : decode prog_63_method_1_code 9 = .ok (.bipush 64, 2) := by decide +kernel
theorem d27_11 : decode prog_63_method_1_code 11 = .ok (.iadd, 1) := by decide +kernel
theorem d27_12 : decode prog_63_method_1_code 12 = .ok (.iconst 1, 1) := by decide +kernel
theorem d27_13 : decode prog_63_method_1_code 13 = .ok (.isub, 1) := by decide +kernel
theorem d27_14 : decode prog_63_method_1_code 14 = .ok (.bipush 6, 2) := by decide +kernel
theorem d27_16 : decode prog_63_method_1_code 16 = .ok (.iushr, 1) := by decide +kernel
theorem d27_17 : decode prog_63_method_1_code 17 = .ok (.anewarray 9, 3) := by decide +kernel
theorem d27_20 : decode prog_63_method_1_code 20 = .ok (.putfield 11, 3) := by decide +kernel
theorem d27_23 : decode prog_63_method_1_code 23 = .ok (.aload_n 0, 1) := by decide +kernel
theorem d27_24 : decode prog_63_method_1_code 24 = .ok (.iload_n 2, 1) := by decide +kernel
theorem d27_25 : decode prog_63_method_1_code 25 = .ok (.newarray .int, 2) := by decide +kernel
theorem d27_27 : decode prog_63_method_1_code 27 = .ok (.putfield 17, 3) := by decide +kernel
theorem d27_30 : decode prog_63_method_1_code 30 = .ok (.iconst 0, 1) := by decide +kernel
theorem d27_31 : decode prog_63_method_1_code 31 = .ok (.istore_n 3, 1) := by decide +kernel
theorem d27_32 : decode prog_63_method_1_code 32 = .ok (.iload_n 3, 1) := by decide +kernel
theorem d27_33 : decode prog_63_method_1_code 33 = .ok (.aload_n 0, 1) := by decide +kernel
theorem d27_34 : decode prog_63_method_1_code 34 = .ok (.getfield 11, 3) := by decide +kernel
theorem d27_37 : decode prog_63_method_1_code 37 = .ok (.arraylength, 1) := by decide +kernel
theorem d27_38 : decode prog_63_method_1_code 38 = .ok (.if_icmp .ge 130, 3) := by decide +kernel
theorem d27_41 : decode prog_63_method_1_code 41 = .ok (.iload_n 3, 1) := by decide +kernel
theorem d27_42 : decode prog_63_method_1_code 42 = .ok (.bipush 6, 2) := by decide +kernel
theorem d27_44 : decode prog_63_method_1_code 44 = .ok (.ishl, 1) := by decide +kernel
theorem d27_45 : decode prog_63_method_1_code 45 = .ok (.istore 4, 2) := by decide +kernel
theorem d27_47 : decode prog_63_method_1_code 47 = .ok (.bipush 64, 2) := by decide +kernel
theorem d27_49 : decode prog_63_method_1_code 49 = .ok (.iload_n 2, 1) := by decide +kernel
theorem d27_50 : decode prog_63_method_1_code 50 = .ok (.iload 4, 2) := by decide +kernel
theorem d27_52 : decode prog_63_method_1_code 52 = .ok (.isub, 1) := by decide +kernel
theorem d27_53 : decode prog_63_method_1_code 53 = .ok (.invokestatic 21, 3) := by decide +kernel
theorem d27_56 : decode prog_63_method_1_code 56 = .ok (.iconst 1, 1) := by decide +kernel
theorem d27_57 : decode prog_63_method_1_code 57 = .ok (.iadd, 1) := by decide +kernel
theorem d27_58 : decode prog_63_method_1_code 58 = .ok (.newarray .int, 2) := by decide +kernel
theorem d27_60 : decode prog_63_method_1_code 60 = .ok (.astore 5, 2) := by decide +kernel
theorem d27_62 : decode prog_63_method_1_code 62 = .ok (.iconst 0, 1) := by decide +kernel
theorem d27_63 : decode prog_63_method_1_code 63 = .ok (.istore 6, 2) := by decide +kernel
theorem d27_65 : decode prog_63_method_1_code 65 = .ok (.iload 6, 2) := by decide +kernel
theorem d27_67 : decode prog_63_method_1_code 67 = .ok (.iconst 1, 1) := by decide +kernel
theorem d27_68 : decode prog_63_method_1_code 68 = .ok (.iadd, 1) := by decide +kernel
theorem d27_69 : decode prog_63_method_1_code 69 = .ok (.aload 5, 2) := by decide +kernel
theorem d27_71 : decode prog_63_method_1_code 71 = .ok (.arraylength, 1) := by decide +kernel
theorem d27_72 : decode prog_63_method_1_code 72 = .ok (.if_icmp .ge 44, 3) := by decide +kernel
theorem d27_75 : decode prog_63_method_1_code 75 = .ok (.aload_n 0, 1) := by decide +kernel
theorem d27_76 : decode prog_63_method_1_code 76 = .ok (.getfield 17, 3) := by decide +kernel
theorem d27_79 : decode prog_63_method_1_code 79 = .ok (.iload 4, 2) := by decide +kernel
theorem d27_81 : decode prog_63_method_1_code 81 = .ok (.iload 6, 2) := by decide +kernel
theorem d27_83 : decode prog_63_method_1_code 83 = .ok (.iadd, 1) := by decide +kernel
theorem d27_84 : decode prog_63_method_1_code 84 = .ok (.aload 5, 2) := by decide +kernel
theorem d27_86 : decode prog_63_method_1_code 86 = .ok (.iload 6, 2) := by decide +kernel
theorem d27_88 : decode prog_63_method_1_code 88 = .ok (.iaload, 1) := by decide +kernel
theorem d27_89 : decode prog_63_method_1_code 89 = .ok (.iastore, 1) := by decide +kernel
theorem d27_90 : decode prog_63_method_1_code 90 = .ok (.aload 5, 2) := by decide +kernel
theorem d27_92 : decode prog_63_method_1_code 92 = .ok (.iload 6, 2) := by decide +kernel
theorem d27_94 : decode prog_63_method_1_code 94 = .ok (.iconst 1, 1) := by decide +kernel
theorem d27_95 : decode prog_63_method_1_code 95 = .ok (.iadd, 1) := by decide +kernel
theorem d27_96 : decode prog_63_method_1_code 96 = .ok (.aload 5, 2) := by decide +kernel
theorem d27_98 : decode prog_63_method_1_code 98 = .ok (.iload 6, 2) := by decide +kernel
theorem d27_100 : decode prog_63_method_1_code 100 = .ok (.iaload, 1) := by decide +kernel
theorem d27_101 : decode prog_63_method_1_code 101 = .ok (.aload_n 1, 1) := by decide +kernel
theorem d27_102 : decode prog_63_method_1_code 102 = .ok (.iload 4, 2) := by decide +kernel
theorem d27_104 : decode prog_63_method_1_code 104 = .ok (.iload 6, 2) := by decide +kernel
theorem d27_106 : decode prog_63_method_1_code 106 = .ok (.iadd, 1) := by decide +kernel
theorem d27_107 : decode prog_63_method_1_code 107 = .ok (.iaload, 1) := by decide +kernel
theorem d27_108 : decode prog_63_method_1_code 108 = .ok (.iadd, 1) := by decide +kernel
theorem d27_109 : decode prog_63_method_1_code 109 = .ok (.iastore, 1) := by decide +kernel
theorem d27_110 : decode prog_63_method_1_code 110 = .ok (.iinc 6 1, 3) := by decide +kernel
theorem d27_113 : decode prog_63_method_1_code 113 = .ok (.goto (-48), 3) := by decide +kernel
theorem d27_116 : decode prog_63_method_1_code 116 = .ok (.aload 5, 2) := by decide +kernel
theorem d27_118 : decode prog_63_method_1_code 118 = .ok (.aload 5, 2) := by decide +kernel
theorem d27_120 : decode prog_63_method_1_code 120 = .ok (.arraylength, 1) := by decide +kernel
theorem d27_121 : decode prog_63_method_1_code 121 = .ok (.iconst 1, 1) := by decide +kernel
theorem d27_122 : decode prog_63_method_1_code 122 = .ok (.isub, 1) := by decide +kernel
theorem d27_123 : decode prog_63_method_1_code 123 = .ok (.iaload, 1) := by decide +kernel
theorem d27_124 : decode prog_63_method_1_code 124 = .ok (.istore 6, 2) := by decide +kernel
theorem d27_126 : decode prog_63_method_1_code 126 = .ok (.aload_n 0, 1) := by decide +kernel
theorem d27_127 : decode prog_63_method_1_code 127 = .ok (.getfield 11, 3) := by decide +kernel
theorem d27_130 : decode prog_63_method_1_code 130 = .ok (.iload_n 3, 1) := by decide +kernel
theorem d27_131 : decode prog_63_method_1_code 131 = .ok (.new 9, 3) := by decide +kernel
theorem d27_134 : decode prog_63_method_1_code 134 = .ok (.dup, 1) := by decide +kernel
theorem d27_135 : decode prog_63_method_1_code 135 = .ok (.aload 5, 2) := by decide +kernel
theorem d27_137 : decode prog_63_method_1_code 137 = .ok (.iload 6, 2) := by decide +kernel
theorem d27_139 : decode prog_63_method_1_code 139 = .ok (.newarray .int, 2) := by decide +kernel
theorem d27_141 : decode prog_63_method_1_code 141 = .ok (.iload 6, 2) := by decide +kernel
theorem d27_143 : decode prog_63_method_1_code 143 = .ok (.newarray .double, 2) := by decide +kernel
theorem d27_145 : decode prog_63_method_1_code 145 = .ok (.aconst_null, 1) := by decide +kernel
theorem d27_146 : decode prog_63_method_1_code 146 = .ok (.invokespecial 27, 3) := by decide +kernel
theorem d27_149 : decode prog_63_method_1_code 149 = .ok (.aastore, 1) := by decide +kernel
theorem d27_150 : decode prog_63_method_1_code 150 = .ok (.aload_n 0, 1) := by decide +kernel
theorem d27_151 : decode prog_63_method_1_code 151 = .ok (.dup, 1) := by decide +kernel
theorem d27_152 : decode prog_63_method_1_code 152 = .ok (.getfield 30, 3) := by decide +kernel
theorem d27_155 : decode prog_63_method_1_code 155 = .ok (.iload 6, 2) := by decide +kernel
theorem d27_157 : decode prog_63_method_1_code 157 = .ok (.i2l, 1) := by decide +kernel
theorem d27_158 : decode prog_63_method_1_code 158 = .ok (.ladd, 1) := by decide +kernel
theorem d27_159 : decode prog_63_method_1_code 159 = .ok (.putfield 30, 3) := by decide +kernel
theorem d27_162 : decode prog_63_method_1_code 162 = .ok (.iinc 3 1, 3) := by decide +kernel
theorem d27_165 : decode prog_63_method_1_code 165 = .ok (.goto (-133), 3) := by decide +kernel
theorem d27_168 : decode prog_63_method_1_code 168 = .ok (.return_, 1) := by decide +kernel
theorem pd27_0 : parseMethodDescriptor "(II)I" = some ⟨[.int, .int], some .int⟩ := by decide +kernel
theorem pd27_1 : parseMethodDescriptor "([I[I[D[Lkithrank/Graph$OwnEdges;)V" = some ⟨[(.array .int), (.array .int), (.array .double), (.array (.object "kithrank/Graph$OwnEdges"))], none⟩ := by decide +kernel
theorem pn27 : plainName "kithrank/Graph$Builder" = true := by first | (simp [plainName, overriddenIn]; done) | decide +kernel
theorem ef27 (m : MethodId) (bu : Addr) (de : Addr) : entryFrame m #[(.ref bu), (.ref de)] 7 = mkF m 0 #[.val (.ref bu), .val (.ref de), .unset, .unset, .unset, .unset, .unset] [] := by first | (simp [entryFrame, mkF, argsToLocals, Value.category]; done) | rfl
def Q27 (Z : State) (bu : Addr) (de : Addr) (en : Int64) (dg : Nat → Nat) (h0 : Heap) (n0 : Nat) (v : Option Value) (h : Heap) (L : List Loc) : Prop := ∃ (ad : Nat → Nat → Addr), ∃ (pa nx : Addr), v = none ∧ Fr n0 L ∧ Keep h0 h [bu] ∧ h0.size ≤ pa ∧ h0.size ≤ nx ∧ pa ≠ nx ∧ Fld Z h bu "kithrank/Graph$Builder" "pages" "[Lkithrank/Graph$Page;" (.ref pa) ∧ Fld Z h bu "kithrank/Graph$Builder" "next" "[I" (.ref nx) ∧ own_A Z h pa (.object "kithrank/Graph$Page") 3 (own_Rf (ad 0)) ∧ own_A Z h nx .int 130 (own_N (own_nx0 dg)) ∧ own_P Z h 3 ad (own_S dg) own_zT own_zW ∧ own_W n0 3 ad ∧ own_Nm 3 ad bu ∧ own_Nm 3 ad pa ∧ own_Nm 3 ad nx ∧ ∃ en' : Int64, Fld Z h bu "kithrank/Graph$Builder" "entries" "J" (.long en')
set_option maxRecDepth 65536 in
set_option maxHeartbeats 40000000 in
theorem rm27 (l : Launch) (Z : State) (a0 : Array Value) (hw : ∀ d ∈ tables_1, d.before a0 Z = true) (ws : List Jvm.Cond) (bu : Addr) (de : Addr) (en : Int64) (dg : Nat → Nat) (h0 : Heap) (n0 : Nat) (Z0 : n0 ≤ h0.size) (E_bu : Exa Z h0 bu "kithrank/Graph$Builder") (F_bu_pages : Fld Z h0 bu "kithrank/Graph$Builder" "pages" "[Lkithrank/Graph$Page;" .null) (F_bu_next : Fld Z h0 bu "kithrank/Graph$Builder" "next" "[I" .null) (F_bu_entries : Fld Z h0 bu "kithrank/Graph$Builder" "entries" "J" (.long en)) (G_bu : n0 ≤ bu) (A_de : own_A Z h0 de .int 130 (own_N dg)) (ne_bu_de : bu ≠ de) (hS : ∀ P i, P < 3 → i ≤ 64 → own_S dg P i ≤ 4) :
    MetFree l (⟨"kithrank/Graph$Builder", "<init>", "([I)V"⟩ : MethodName) (head1 (Jvm.Cond.code (⟨"kithrank/Graph$Builder", "<init>", "([I)V"⟩ : MethodName) prog_63_method_1_code 7 none :: ws) ({ frames := 3, cells := 14, slots := 302, locals := 43 } : Room)) (fun as' U => as' = #[(.ref bu), (.ref de)] ∧ Z.Warmed39 U.vm ∧ U.heap = h0) (fun _ _ _ _ _ => True) (fun _ U o U' => ∃ v L, o = .returned v ∧ Q27 Z bu de en dg h0 n0 v U'.heap L ∧ FrameEnd U o U' L ({ frames := 3, cells := 14, slots := 302, locals := 43 } : Room).cells ({ frames := 3, cells := 14, slots := 302, locals := 43 } : Room).slots) := by
  refine own_body (plainFor_of_name pn27) ?_
  intro p e s m below meth c s₁ hx hby hml hown0 hnm hret hlk hZ X0 e0
  have hown : s.vm.findClass "kithrank/Graph$Builder" = some m.cls := hown0
  have N0 := Fr.nil n0
  rw [ef27]
  have K0 : Keep h0 h0 [bu] := Keep.refl h0 [bu]
  refine own_st (S' := s₁.setTop (mkF m 1 #[qA bu, qA de, qU, qU, qU, qU, qU] [(.ref bu)])) (fun t k => XS.aloadN X0.here hx rfl (hb hby d27_0) rfl rfl k) ?_
  obtain ⟨T101, X101, e101, st101⟩ := initO X0 hx hZ hown (own_hw hw (i := 9) rfl) (own_hw hw (i := 10) rfl) (own_hw hw (i := 11) rfl) e0 (g := (mkF m 1 #[qA bu, qA de, qU, qU, qU, qU, qU] [(.ref bu)])) rfl (by rw [hml]; rfl) rfl (hb hby d27_1) (by decide) (W := 0) (by show 2 * 0 + _ ≤ _; exact Nat.le_of_eq rfl) (by decide)
  refine own_st st101 ?_
  have O102 := A_de
  obtain ⟨c102, Ar102, S102, M102, V102⟩ := O102
  have ln102 : c102.slots.size.toInt32 = (130 : Int32) := by rw [S102]; try (first | rfl | decide | exact rfl)
  refine own_st (S' := T101.setTop (mkF m 13 #[qA bu, qA de, qI (130 : Int32), qU, qU, qU, qU] [(.int (1 : Int32)), (.int (194 : Int32)), (.ref bu)])) (fun t k => XS.aloadN X101.here hx rfl (hb hby d27_4) rfl rfl (X101.arraylength hx (by rw [e101]; exact Ar102.1) (State.isArrayOf_alike hZ.alike Ar102.2.1) (g := (mkF m 5 #[qA bu, qA de, qU, qU, qU, qU, qU] [(.ref de)])) rfl rfl (hb hby d27_5) _ (by rw [ln102]; exact (XS.istoreN X101.here hx rfl (hb hby d27_6) rfl (l' := #[qA bu, qA de, qI (130 : Int32), qU, qU, qU, qU]) rfl (XS.aloadN X101.here hx rfl (hb hby d27_7) rfl rfl (XS.iloadN X101.here hx rfl (hb hby d27_8) rfl (XS.bipush X101.here hx rfl (hb hby d27_9) (XS.iadd X101.here hx rfl (hb hby d27_11) rfl (XS.iconst X101.here hx rfl (hb hby d27_12) k))))))))) ?_
  refine own_st (S' := T101.setTop (mkF m 17 #[qA bu, qA de, qI (130 : Int32), qU, qU, qU, qU] [(.int (3 : Int32)), (.ref bu)])) (fun t k => XS.isub X101.here hx rfl (hb hby d27_13) rfl (XS.bipush X101.here hx rfl (hb hby d27_14) (XS.iushr X101.here hx rfl (hb hby d27_16) rfl k))) ?_
  obtain ⟨T103, h103, k103, X103, e103, E103, A103, B103, O103, st103⟩ := newRE X101 hx hZ hown (own_hw hw (i := 12) rfl) (own_hw hw (i := 13) rfl) e101 (g := (mkF m 17 #[qA bu, qA de, qI (130 : Int32), qU, qU, qU, qU] [(.int (3 : Int32)), (.ref bu)])) rfl (hb hby d27_17) rfl (by decide) (cap := 3) (by decide) (by decide) (by decide) (by decide) (ad := "[Lkithrank/Graph$Page;") (by decide)
  obtain ⟨b103, g103⟩ : ∃ z, z = h0.size := ⟨_, rfl⟩
  rw [← g103] at A103 st103 B103
  have G_b103 : n0 ≤ b103 := Nat.le_trans Z0 (Nat.le_of_eq g103.symm)
  have sz_b103 : h0.size ≤ b103 := Nat.le_trans K0.1 (Nat.le_of_eq g103.symm)
  have ne_de_b103 : de ≠ b103 := Nat.ne_of_lt (Nat.lt_of_lt_of_le A_de.lt (Nat.le_of_eq g103.symm))
  have ne_bu_b103 : bu ≠ b103 := Nat.ne_of_lt (Nat.lt_of_lt_of_le E_bu.lt (Nat.le_of_eq g103.symm))
  have f104 := E_bu.ext E103
  have f105 := F_bu_pages.ext E103
  have f106 := F_bu_next.ext E103
  have f107 := F_bu_entries.ext E103
  have f108 := A_de.ext E103
  have Z103 : n0 ≤ h103.size := Nat.le_trans Z0 E103.1
  have K103 : Keep h0 h103 [bu] := K0.ext E103
  have f109 : own_R Z h103 b103 (.object "kithrank/Graph$Page") "kithrank/Graph$Page" 3 (own_V [.null, .null, .null]) := (own_R.new A103 (own_Ov.of O103) (by decide)).cong (fun j hj => by match j, hj with | 0, _ => rfl | 1, _ => rfl | 2, _ => rfl | j + 3, h => exact absurd h (by omega))
  refine own_st st103 ?_
  show own_Go p.tables e below _ (T103.setTop (mkF m 20 #[qA bu, qA de, qI (130 : Int32), qU, qU, qU, qU] [(.ref b103), (.ref bu)]))
  obtain ⟨T110, h110, X110, e110, W110, st110⟩ := putF X103 hx hZ hown (host := "") (Or.inl (own_hw hw (i := 14) rfl)) Via.refl e103 f105 f104 (Or.inr ⟨(own_hw hw (i := 15) rfl), rfl, hnm⟩) (own_hw hw (i := 4) rfl) (ty := (.array (.object "kithrank/Graph$Page"))) (by decide) rfl rfl (g := (mkF m 20 #[qA bu, qA de, qI (130 : Int32), qU, qU, qU, qU] [(.ref b103), (.ref bu)])) rfl rfl (hb hby d27_20)
  refine own_st st110 ?_
  have f111 := f104.wr W110
  have f112 := f106.other W110 (Or.inr (slot_ne (Or.inr (own_hw hw (i := 17) rfl)) (Or.inr (own_hw hw (i := 15) rfl)) (by decide) (t := (.array .int)) (t' := (.array (.object "kithrank/Graph$Page"))) (by decide) (by decide)))
  have f113 := f107.other W110 (Or.inr (slot_ne (Or.inl (own_hw hw (i := 44) rfl)) (Or.inr (own_hw hw (i := 15) rfl)) (by decide) (t := .long) (t' := (.array (.object "kithrank/Graph$Page"))) (by decide) (by decide)))
  have f114 := f108.other W110 (Ne.symm ne_bu_de)
  have f115 := f109.other W110 (Ne.symm ne_bu_b103)
  have f116 := B103.wr W110
  have Z110 : n0 ≤ h110.size := Nat.le_trans Z103 (Keep.of_wr W110).1
  have N110 := Fr.snoc X110 N0 G_bu
  have K110 : Keep h0 h110 [bu] := K103.wr W110 (Or.inl (List.mem_of_getElem? (i := 0) rfl))
  have f117 : Fld Z h110 bu "kithrank/Graph$Builder" "pages" "[Lkithrank/Graph$Page;" (.ref b103) := f105.same W110
  refine own_st (S' := T110.setTop (mkF m 25 #[qA bu, qA de, qI (130 : Int32), qU, qU, qU, qU] [(.int (130 : Int32)), (.ref bu)])) (fun t k => XS.aloadN X110.here hx rfl (hb hby d27_23) rfl rfl (XS.iloadN X110.here hx rfl (hb hby d27_24) rfl k)) ?_
  obtain ⟨T118, h118, k118, X118, e118, E118, A118, B118, st118⟩ := newPE X110 hx hZ (own_hw hw (i := 2) rfl) e110 (g := (mkF m 25 #[qA bu, qA de, qI (130 : Int32), qU, qU, qU, qU] [(.int (130 : Int32)), (.ref bu)])) rfl (hb hby d27_25) rfl (by decide) (cap := 130) (by decide) (by decide) (by decide) (by decide) (ad := "[I") (by decide)
  obtain ⟨b118, g118⟩ : ∃ z, z = h110.size := ⟨_, rfl⟩
  rw [← g118] at A118 st118 B118
  have G_b118 : n0 ≤ b118 := Nat.le_trans Z110 (Nat.le_of_eq g118.symm)
  have sz_b118 : h0.size ≤ b118 := Nat.le_trans K110.1 (Nat.le_of_eq g118.symm)
  have ne_de_b118 : de ≠ b118 := Nat.ne_of_lt (Nat.lt_of_lt_of_le f114.lt (Nat.le_of_eq g118.symm))
  have ne_b103_b118 : b103 ≠ b118 := Nat.ne_of_lt (Nat.lt_of_lt_of_le f115.lt (Nat.le_of_eq g118.symm))
  have ne_bu_b118 : bu ≠ b118 := Nat.ne_of_lt (Nat.lt_of_lt_of_le f111.lt (Nat.le_of_eq g118.symm))
  have f119 := f111.ext E118
  have f120 := f117.ext E118
  have f121 := f112.ext E118
  have f122 := f113.ext E118
  have f123 := f114.ext E118
  have f124 := f115.ext E118
  have f125 := f116.ext E118
  have Z118 : n0 ≤ h118.size := Nat.le_trans Z110 E118.1
  have K118 : Keep h0 h118 [bu] := K110.ext E118
  have f126 : own_A Z h118 b118 .int 130 (fun _ => (.int (0 : Int32))) := own_A.new A118 (by first | rfl | decide | exact rfl)
  refine own_st st118 ?_
  show own_Go p.tables e below _ (T118.setTop (mkF m 27 #[qA bu, qA de, qI (130 : Int32), qU, qU, qU, qU] [(.ref b118), (.ref bu)]))
  obtain ⟨T127, h127, X127, e127, W127, st127⟩ := putF X118 hx hZ hown (host := "") (Or.inl (own_hw hw (i := 16) rfl)) Via.refl e118 f121 f119 (Or.inr ⟨(own_hw hw (i := 17) rfl), rfl, hnm⟩) (own_hw hw (i := 4) rfl) (ty := (.array .int)) (by decide) rfl rfl (g := (mkF m 27 #[qA bu, qA de, qI (130 : Int32), qU, qU, qU, qU] [(.ref b118), (.ref bu)])) rfl rfl (hb hby d27_27)
  refine own_st st127 ?_
  have f128 := f119.wr W127
  have f129 := f120.other W127 (Or.inr (slot_ne (Or.inr (own_hw hw (i := 15) rfl)) (Or.inr (own_hw hw (i := 17) rfl)) (by decide) (t := (.array (.object "kithrank/Graph$Page"))) (t' := (.array .int)) (by decide) (by decide)))
  have f130 := f122.other W127 (Or.inr (slot_ne (Or.inl (own_hw hw (i := 44) rfl)) (Or.inr (own_hw hw (i := 17) rfl)) (by decide) (t := .long) (t' := (.array .int)) (by decide) (by decide)))
  have f131 := f123.other W127 (Ne.symm ne_bu_de)
  have f132 := f124.other W127 (Ne.symm ne_bu_b103)
  have f133 := f125.wr W127
  have f134 := f126.other W127 (Ne.symm ne_bu_b118)
  have f135 := B118.wr W127
  have Z127 : n0 ≤ h127.size := Nat.le_trans Z118 (Keep.of_wr W127).1
  have N127 := Fr.snoc X127 N110 G_bu
  have K127 : Keep h0 h127 [bu] := K118.wr W127 (Or.inl (List.mem_of_getElem? (i := 0) rfl))
  have f136 : Fld Z h127 bu "kithrank/Graph$Builder" "next" "[I" (.ref b118) := f121.same W127
  refine own_st (S' := T127.setTop (mkF m 32 #[qA bu, qA de, qI (130 : Int32), qI (0 : Int32), qU, qU, qU] [])) (fun t k => XS.iconst X127.here hx rfl (hb hby d27_30) (XS.istoreN X127.here hx rfl (hb hby d27_31) rfl (l' := #[qA bu, qA de, qI (130 : Int32), qI (0 : Int32), qU, qU, qU]) rfl k)) ?_
  obtain ⟨ad0, hd0⟩ : ∃ z : Nat → Nat → Addr, z = fun _ _ => 0 := ⟨_, rfl⟩
  have P0 : own_P Z h127 0 ad0 (own_S dg) own_zT own_zW := own_P.nil _ _ _ _
  have W0 : own_W n0 0 ad0 := own_W.nil _
  have M0_bu : own_Nm 0 ad0 bu := own_Nm.nil _ _
  have M0_b118 : own_Nm 0 ad0 b118 := own_Nm.nil _ _
  have M0_b103 : own_Nm 0 ad0 b103 := own_Nm.nil _ _
  have f137 : own_A Z h127 b118 .int 130 (own_N (own_nxf dg (0 + 0))) := f134.cong (fun _ _ => rfl)
  refine own_st (S' := T127.setTop (mkF m 34 #[qA bu, qA de, qI (130 : Int32), qI (0 : Int32), qU, qU, qU] [(.ref bu), (.int (0 : Int32))])) (fun t k => XS.iloadN X127.here hx rfl (hb hby d27_32) rfl (XS.aloadN X127.here hx rfl (hb hby d27_33) rfl rfl k)) ?_
  obtain ⟨T138, X138, e138, st138⟩ := getF X127 hx hZ hown (host := "") (Or.inl (own_hw hw (i := 14) rfl)) Via.refl e127 f129 (g := (mkF m 34 #[qA bu, qA de, qI (130 : Int32), qI (0 : Int32), qU, qU, qU] [(.ref bu), (.int (0 : Int32))])) rfl rfl (hb hby d27_34)
  refine own_st st138 ?_
  have O139 := f132.toA
  obtain ⟨c139, Ar139, S139, M139, V139⟩ := O139
  have ln139 : c139.slots.size.toInt32 = (3 : Int32) := by rw [S139]; try (first | rfl | decide | exact rfl)
  refine own_st (S' := T138.setTop (mkF m 50 #[qA bu, qA de, qI (130 : Int32), qI (0 : Int32), qI (0 : Int32), qU, qU] [(.int (130 : Int32)), (.int (64 : Int32))])) (fun t k => X138.arraylength hx (by rw [e138]; exact Ar139.1) (State.isArrayOf_alike hZ.alike Ar139.2.1) (g := (mkF m 37 #[qA bu, qA de, qI (130 : Int32), qI (0 : Int32), qU, qU, qU] [(.ref b103), (.int (0 : Int32))])) rfl rfl (hb hby d27_37) _ (by rw [ln139]; exact (XS.icmpNo X138.here hx rfl (hb hby d27_38) rfl (tlt (by decide)).2.1 (XS.iloadN X138.here hx rfl (hb hby d27_41) rfl (XS.bipush X138.here hx rfl (hb hby d27_42) (XS.ishl X138.here hx rfl (hb hby d27_44) rfl (XS.istore X138.here hx rfl (hb hby d27_45) rfl (l' := #[qA bu, qA de, qI (130 : Int32), qI (0 : Int32), qI (0 : Int32), qU, qU]) rfl (XS.bipush X138.here hx rfl (hb hby d27_47) (XS.iloadN X138.here hx rfl (hb hby d27_49) rfl k))))))))) ?_
  refine own_st (S' := T138.setTop (mkF m 53 #[qA bu, qA de, qI (130 : Int32), qI (0 : Int32), qI (0 : Int32), qU, qU] [(.int (130 : Int32)), (.int (64 : Int32))])) (fun t k => XS.iload X138.here hx rfl (hb hby d27_50) rfl (XS.isub X138.here hx rfl (hb hby d27_52) rfl k)) ?_
  obtain ⟨_, _, ⟨T140, L140, k140, n140⟩, -, X140, ⟨Lc140, hQ140, l140, y140, z140⟩, st140⟩ := Jvm.LawKit.callS X138 hx (y := (⟨"java/lang/Math", "min", "(II)I"⟩ : MethodName)) hown (mvT hZ (own_hw hw (i := 18) rfl)) (mvT hZ (own_hw hw (i := 19) rfl)) (mvT hZ (own_hw hw (i := 20) rfl)) (mvT hZ (own_hw hw (i := 21) rfl)) (by decide) (backOf (W := 0) (rm1 l Z a0 hw [] (64 : Int32) (130 : Int32) h127 n0 Z127 ) hZ (own_hw hw (i := 21) rfl) (own_hw hw (i := 20) rfl) (by decide) (by decide)) (g := (mkF m 53 #[qA bu, qA de, qI (130 : Int32), qI (0 : Int32), qI (0 : Int32), qU, qU] [(.int (130 : Int32)), (.int (64 : Int32))])) rfl (by rw [hml]; rfl) (argsL := [(.int (64 : Int32)), (.int (130 : Int32))]) (rest := []) (lenOf pd27_0 rfl) rfl (by show 2 * 0 + _ ≤ _; exact Nat.le_of_eq rfl) (hb hby d27_53) (fun _ _ => ⟨rfl, e138, (by decide : 2 + 0 ≤ _), (by decide : 133 + 0 ≤ _)⟩)
  dsimp only [Pt.U, Pt.locs, Pt.cells, Pt.slots] at X140 l140 y140 z140 st140 hQ140
  rw [l140, y140, z140] at X140
  obtain ⟨rfl, N140q, hh140⟩ := hQ140
  have N140 := Fr.app N127 N140q
  refine own_st st140 ?_
  show own_Go p.tables e below _ (T140.setTop (mkF m 56 #[qA bu, qA de, qI (130 : Int32), qI (0 : Int32), qI (0 : Int32), qU, qU] [(.int (if (130 : Int32) < (64 : Int32) then (130 : Int32) else (64 : Int32)))]))
  refine own_st (S' := T140.setTop (mkF m 56 #[qA bu, qA de, qI (130 : Int32), qI (0 : Int32), qI (0 : Int32), qU, qU] [(.int (64 : Int32))])) (fun t k => by rw [show ((if (130 : Int32) < (64 : Int32) then (130 : Int32) else (64 : Int32)) : Int32) = (64 : Int32) from by decide]; exact k) ?_
  refine own_st (S' := T140.setTop (mkF m 58 #[qA bu, qA de, qI (130 : Int32), qI (0 : Int32), qI (0 : Int32), qU, qU] [(.int (65 : Int32))])) (fun t k => XS.iconst X140.here hx rfl (hb hby d27_56) (XS.iadd X140.here hx rfl (hb hby d27_57) rfl k)) ?_
  obtain ⟨T141, h141, k141, X141, e141, E141, A141, B141, st141⟩ := newPE X140 hx hZ (own_hw hw (i := 2) rfl) hh140 (g := (mkF m 58 #[qA bu, qA de, qI (130 : Int32), qI (0 : Int32), qI (0 : Int32), qU, qU] [(.int (65 : Int32))])) rfl (hb hby d27_58) rfl (by decide) (cap := 65) (by decide) (by decide) (by decide) (by decide) (ad := "[I") (by decide)
  obtain ⟨b141, g141⟩ : ∃ z, z = h127.size := ⟨_, rfl⟩
  rw [← g141] at A141 st141 B141
  have G_b141 : n0 ≤ b141 := Nat.le_trans Z127 (Nat.le_of_eq g141.symm)
  have sz_b141 : h0.size ≤ b141 := Nat.le_trans K127.1 (Nat.le_of_eq g141.symm)
  have ne_bu_b141 : bu ≠ b141 := Nat.ne_of_lt (Nat.lt_of_lt_of_le f128.lt (Nat.le_of_eq g141.symm))
  have ne_de_b141 : de ≠ b141 := Nat.ne_of_lt (Nat.lt_of_lt_of_le f131.lt (Nat.le_of_eq g141.symm))
  have ne_b103_b141 : b103 ≠ b141 := Nat.ne_of_lt (Nat.lt_of_lt_of_le f132.lt (Nat.le_of_eq g141.symm))
  have ne_b118_b141 : b118 ≠ b141 := Nat.ne_of_lt (Nat.lt_of_lt_of_le f137.lt (Nat.le_of_eq g141.symm))
  have M_b141 : own_Nm 0 ad0 b141 := own_P.nm P0 (Nat.le_of_eq g141.symm)
  have f142 := f128.ext E141
  have f143 := f129.ext E141
  have f144 := f136.ext E141
  have f145 := f130.ext E141
  have f146 := f131.ext E141
  have f147 := f132.ext E141
  have f148 := f133.ext E141
  have f149 := f137.ext E141
  have f150 := f135.ext E141
  have f151 := P0.ext E141
  have Z141 : n0 ≤ h141.size := Nat.le_trans Z127 E141.1
  have K141 : Keep h0 h141 [bu] := K127.ext E141
  have f152 : own_A Z h141 b141 .int 65 (fun _ => (.int (0 : Int32))) := own_A.new A141 (by first | rfl | decide | exact rfl)
  refine own_st st141 ?_
  refine own_st (S' := T141.setTop (mkF m 65 #[qA bu, qA de, qI (130 : Int32), qI (0 : Int32), qI (0 : Int32), qA b141, qI (0 : Int32)] [])) (fun t k => XS.astore X141.here hx rfl (hb hby d27_60) rfl rfl (l' := #[qA bu, qA de, qI (130 : Int32), qI (0 : Int32), qI (0 : Int32), qA b141, qU]) rfl (XS.iconst X141.here hx rfl (hb hby d27_62) (XS.istore X141.here hx rfl (hb hby d27_63) rfl (l' := #[qA bu, qA de, qI (130 : Int32), qI (0 : Int32), qI (0 : Int32), qA b141, qI (0 : Int32)]) rfl k))) ?_
  have f153 : own_A Z h141 b141 .int 65 (own_N (own_stf dg 0 0)) := f152.cong (fun j hj => congrArg (fun q => Value.int (Int32.ofNat q)) (by unfold own_stf; split <;> first | rfl | (next e => rw [Nat.le_zero.mp e]; rfl)))
  have loop : ∀ (n : Nat) (T : State) (L : List Loc) (i : Nat), Stand p l e ({ frames := 3, cells := 14, slots := 302, locals := 43 } : Room) s m #[(.ref bu), (.ref de)] below meth c T L 3 198 → Fr n0 L → Keep h0 T.heap [bu] →  n0 ≤ T.heap.size → Exa Z T.heap bu "kithrank/Graph$Builder" → Fld Z T.heap bu "kithrank/Graph$Builder" "pages" "[Lkithrank/Graph$Page;" (.ref b103) → Fld Z T.heap bu "kithrank/Graph$Builder" "next" "[I" (.ref b118) → Fld Z T.heap bu "kithrank/Graph$Builder" "entries" "J" (.long en) → own_A Z T.heap de .int 130 (own_N dg) → own_R Z T.heap b103 (.object "kithrank/Graph$Page") "kithrank/Graph$Page" 3 (own_V [.null, .null, .null]) → Exa Z T.heap b103 "[Lkithrank/Graph$Page;" → own_A Z T.heap b118 .int 130 (own_N (own_nxf dg (0 + i))) → Exa Z T.heap b118 "[I" → own_P Z T.heap 0 ad0 (own_S dg) own_zT own_zW → own_A Z T.heap b141 .int 65 (own_N (own_stf dg 0 i)) → Exa Z T.heap b141 "[I" → (i + n = 64) →  own_Go p.tables e below (own_F s (Q27 Z bu de en dg h0 n0) 14 302) (T.setTop (mkF m 65 #[qA bu, qA de, qI (130 : Int32), qI (0 : Int32), qI (0 : Int32), qA b141, qN i] [])) := by
    intro n
    induction n with
    | zero =>
      intro T L i X N K Zz lf0 lf1 lf2 lf3 lf4 lf5 lf6 lf7 lf8 lf9 lf10 lf11 hi
      have O154 := lf10
      obtain ⟨c154, Ar154, S154, M154, V154⟩ := O154
      have ln154 : c154.slots.size.toInt32 = (65 : Int32) := by rw [S154]; try (first | rfl | decide | exact rfl)
      refine own_st (S' := T.setTop (mkF m 72 #[qA bu, qA de, qI (130 : Int32), qI (0 : Int32), qI (0 : Int32), qA b141, qN i] [(.int (65 : Int32)), (.int ((Int32.ofNat i) + (1 : Int32)))])) (fun t k => XS.iload X.here hx rfl (hb hby d27_65) rfl (XS.iconst X.here hx rfl (hb hby d27_67) (XS.iadd X.here hx rfl (hb hby d27_68) rfl (XS.aload X.here hx rfl (hb hby d27_69) rfl rfl (X.arraylength hx Ar154.1 (State.isArrayOf_alike hZ.alike Ar154.2.1) (g := (mkF m 71 #[qA bu, qA de, qI (130 : Int32), qI (0 : Int32), qI (0 : Int32), qA b141, qN i] [(.ref b141), (.int ((Int32.ofNat i) + (1 : Int32)))])) rfl rfl (hb hby d27_71) _ (by rw [ln154]; exact k)))))) ?_
      refine own_st (S' := T.setTop (mkF m 72 #[qA bu, qA de, qI (130 : Int32), qI (0 : Int32), qI (0 : Int32), qA b141, qN i] [(.int (65 : Int32)), qV (i + 1)])) (fun t k => by rw [own_incN (i := i) (by omega)]; exact k) ?_
      have hc155 : ¬ ((Int32.ofNat (i + 1)) < (65 : Int32)) := fun q => absurd ((own_ltN (n := 65) (by omega) (by omega)).mp q) (by omega)
      have O156 := lf10
      obtain ⟨c156, Ar156, S156, M156, V156⟩ := O156
      have ln156 : c156.slots.size.toInt32 = (65 : Int32) := by rw [S156]; try (first | rfl | decide | exact rfl)
      have O157 := lf10
      obtain ⟨c157, Ar157, S157, M157, V157⟩ := O157
      have at157 : c157.slots[((64 : Int32)).toNatClampNeg]? = some (.int (Int32.ofNat (own_S dg 0 64))) := own_at S157 V157 (own_ix (j := (64 : Int32)) (i := 64) (n := 65) (by decide) (by decide) (by decide)) (congrArg (fun q => Value.int (Int32.ofNat q)) (own_stf_le (by omega)))
      refine own_st (S' := T.setTop (mkF m 126 #[qA bu, qA de, qI (130 : Int32), qI (0 : Int32), qI (0 : Int32), qA b141, qN (own_S dg 0 64)] [])) (fun t k => XS.icmpYes X.here hx rfl (pc0 := 72) (pc' := 116) rfl (hb hby d27_72) rfl (flt hc155).2.1 (by decide) (by decide) (XS.aload X.here hx rfl (hb hby d27_116) rfl rfl (XS.aload X.here hx rfl (hb hby d27_118) rfl rfl (X.arraylength hx Ar156.1 (State.isArrayOf_alike hZ.alike Ar156.2.1) (g := (mkF m 120 #[qA bu, qA de, qI (130 : Int32), qI (0 : Int32), qI (0 : Int32), qA b141, qN i] [(.ref b141), (.ref b141)])) rfl rfl (hb hby d27_120) _ (by rw [ln156]; exact (XS.iconst X.here hx rfl (hb hby d27_121) (XS.isub X.here hx rfl (hb hby d27_122) rfl (X.iaload hx (j := (64 : Int32)) (v := (.int (Int32.ofNat (own_S dg 0 64)))) Ar157.1 (State.isArrayOf_alike hZ.alike Ar157.2.1) Ar157.2.2 (own_in S157 (own_ix (j := (64 : Int32)) (i := 64) (n := 65) (by decide) (by decide) (by decide))) at157 (g := (mkF m 123 #[qA bu, qA de, qI (130 : Int32), qI (0 : Int32), qI (0 : Int32), qA b141, qN i] [(.int (64 : Int32)), (.ref b141)])) rfl rfl (hb hby d27_123) _ (XS.istore X.here hx rfl (hb hby d27_124) rfl (l' := #[qA bu, qA de, qI (130 : Int32), qI (0 : Int32), qI (0 : Int32), qA b141, qN (own_S dg 0 64)]) rfl k))))))))) ?_
      refine own_st (S' := T.setTop (mkF m 127 #[qA bu, qA de, qI (130 : Int32), qI (0 : Int32), qI (0 : Int32), qA b141, qN (own_S dg 0 64)] [(.ref bu)])) (fun t k => XS.aloadN X.here hx rfl (hb hby d27_126) rfl rfl k) ?_
      obtain ⟨T158, X158, e158, st158⟩ := getF X hx hZ hown (host := "") (Or.inl (own_hw hw (i := 14) rfl)) Via.refl rfl lf1 (g := (mkF m 127 #[qA bu, qA de, qI (130 : Int32), qI (0 : Int32), qI (0 : Int32), qA b141, qN (own_S dg 0 64)] [(.ref bu)])) rfl rfl (hb hby d27_127)
      refine own_st st158 ?_
      refine own_st (S' := T158.setTop (mkF m 131 #[qA bu, qA de, qI (130 : Int32), qI (0 : Int32), qI (0 : Int32), qA b141, qN (own_S dg 0 64)] [(.int (0 : Int32)), (.ref b103)])) (fun t k => XS.iloadN X158.here hx rfl (hb hby d27_130) rfl k) ?_
      obtain ⟨T159, h159, X159, e159, E159, A159, D159, -, st159⟩ := newO X158 hx hZ hown (own_hw hw (i := 12) rfl) (own_hw hw (i := 22) rfl) (own_hw hw (i := 23) rfl) e158 (g := (mkF m 131 #[qA bu, qA de, qI (130 : Int32), qI (0 : Int32), qI (0 : Int32), qA b141, qN (own_S dg 0 64)] [(.int (0 : Int32)), (.ref b103)])) rfl (hb hby d27_131) (by decide) (by decide)
      obtain ⟨b159, g159⟩ : ∃ z, z = T.heap.size := ⟨_, rfl⟩
      rw [← g159] at A159 D159 st159
      have G_b159 : n0 ≤ b159 := Nat.le_trans Zz (Nat.le_of_eq g159.symm)
      have sz_b159 : h0.size ≤ b159 := Nat.le_trans K.1 (Nat.le_of_eq g159.symm)
      have ne_bu_b159 : bu ≠ b159 := Nat.ne_of_lt (Nat.lt_of_lt_of_le lf0.lt (Nat.le_of_eq g159.symm))
      have ne_b141_b159 : b141 ≠ b159 := Nat.ne_of_lt (Nat.lt_of_lt_of_le lf10.lt (Nat.le_of_eq g159.symm))
      have ne_de_b159 : de ≠ b159 := Nat.ne_of_lt (Nat.lt_of_lt_of_le lf4.lt (Nat.le_of_eq g159.symm))
      have ne_b103_b159 : b103 ≠ b159 := Nat.ne_of_lt (Nat.lt_of_lt_of_le lf5.lt (Nat.le_of_eq g159.symm))
      have ne_b118_b159 : b118 ≠ b159 := Nat.ne_of_lt (Nat.lt_of_lt_of_le lf7.lt (Nat.le_of_eq g159.symm))
      have M_b159 : own_Nm 0 ad0 b159 := own_P.nm lf9 (Nat.le_of_eq g159.symm)
      have f160 := lf0.ext E159
      have f161 := lf1.ext E159
      have f162 := lf2.ext E159
      have f163 := lf3.ext E159
      have f164 := lf4.ext E159
      have f165 := lf5.ext E159
      have f166 := lf6.ext E159
      have f167 := lf7.ext E159
      have f168 := lf8.ext E159
      have f169 := lf9.ext E159
      have f170 := lf10.ext E159
      have f171 := lf11.ext E159
      have Z159 : n0 ≤ h159.size := Nat.le_trans Zz E159.1
      have K159 : Keep h0 h159 [bu] := K.ext E159
      have f172 : Fld Z h159 b159 "kithrank/Graph$Page" "start" "[I" .null := D159 (Or.inr (own_hw hw (i := 35) rfl)) (ty := (.array .int)) (by decide)
      have f173 : Fld Z h159 b159 "kithrank/Graph$Page" "target" "[I" .null := D159 (Or.inr (own_hw hw (i := 37) rfl)) (ty := (.array .int)) (by decide)
      have f174 : Fld Z h159 b159 "kithrank/Graph$Page" "weight" "[D" .null := D159 (Or.inr (own_hw hw (i := 39) rfl)) (ty := (.array .double)) (by decide)
      have f175 : Fld Z h159 b159 "kithrank/Graph$Page" "apart" "[Lkithrank/Graph$OwnEdges;" .null := D159 (Or.inr (own_hw hw (i := 41) rfl)) (ty := (.array (.object "kithrank/Graph$OwnEdges"))) (by decide)
      refine own_st st159 ?_
      refine own_st (S' := T159.setTop (mkF m 139 #[qA bu, qA de, qI (130 : Int32), qI (0 : Int32), qI (0 : Int32), qA b141, qN (own_S dg 0 64)] [qV (own_S dg 0 64), (.ref b141), (.ref b159), (.ref b159), (.int (0 : Int32)), (.ref b103)])) (fun t k => XS.dup X159.here hx rfl (hb hby d27_134) rfl rfl (XS.aload X159.here hx rfl (hb hby d27_135) rfl rfl (XS.iload X159.here hx rfl (hb hby d27_137) rfl k))) ?_
      obtain ⟨T176, h176, k176, X176, e176, E176, A176, B176, st176⟩ := newPE X159 hx hZ (own_hw hw (i := 2) rfl) e159 (g := (mkF m 139 #[qA bu, qA de, qI (130 : Int32), qI (0 : Int32), qI (0 : Int32), qA b141, qN (own_S dg 0 64)] [qV (own_S dg 0 64), (.ref b141), (.ref b159), (.ref b159), (.int (0 : Int32)), (.ref b103)])) rfl (hb hby d27_139) rfl (own_nnN (by have := hS 0 64 (by decide) (by decide); omega)) (cap := 4) (by rw [own_natN (by have := hS 0 64 (by decide) (by decide); omega)]; exact hS 0 64 (by decide) (by decide)) (by decide) (by decide) (by decide) (ad := "[I") (by decide)
      obtain ⟨b176, g176⟩ : ∃ z, z = h159.size := ⟨_, rfl⟩
      rw [← g176] at A176 st176 B176
      have G_b176 : n0 ≤ b176 := Nat.le_trans Z159 (Nat.le_of_eq g176.symm)
      have sz_b176 : h0.size ≤ b176 := Nat.le_trans K159.1 (Nat.le_of_eq g176.symm)
      have ne_b159_b176 : b159 ≠ b176 := Nat.ne_of_lt (Nat.lt_of_lt_of_le A159.lt (Nat.le_of_eq g176.symm))
      have ne_bu_b176 : bu ≠ b176 := Nat.ne_of_lt (Nat.lt_of_lt_of_le f160.lt (Nat.le_of_eq g176.symm))
      have ne_b141_b176 : b141 ≠ b176 := Nat.ne_of_lt (Nat.lt_of_lt_of_le f170.lt (Nat.le_of_eq g176.symm))
      have ne_de_b176 : de ≠ b176 := Nat.ne_of_lt (Nat.lt_of_lt_of_le f164.lt (Nat.le_of_eq g176.symm))
      have ne_b103_b176 : b103 ≠ b176 := Nat.ne_of_lt (Nat.lt_of_lt_of_le f165.lt (Nat.le_of_eq g176.symm))
      have ne_b118_b176 : b118 ≠ b176 := Nat.ne_of_lt (Nat.lt_of_lt_of_le f167.lt (Nat.le_of_eq g176.symm))
      have M_b176 : own_Nm 0 ad0 b176 := own_P.nm f169 (Nat.le_of_eq g176.symm)
      have f177 := f160.ext E176
      have f178 := f161.ext E176
      have f179 := f162.ext E176
      have f180 := f163.ext E176
      have f181 := f164.ext E176
      have f182 := f165.ext E176
      have f183 := f166.ext E176
      have f184 := f167.ext E176
      have f185 := f168.ext E176
      have f186 := f169.ext E176
      have f187 := f170.ext E176
      have f188 := f171.ext E176
      have f189 := A159.ext E176
      have f190 := f172.ext E176
      have f191 := f173.ext E176
      have f192 := f174.ext E176
      have f193 := f175.ext E176
      have Z176 : n0 ≤ h176.size := Nat.le_trans Z159 E176.1
      have K176 : Keep h0 h176 [bu] := K159.ext E176
      have f194 : own_A Z h176 b176 .int (own_S dg 0 64) (fun _ => (.int (0 : Int32))) := own_A.new A176 (by first | rfl | decide | exact (own_natN (by have := hS 0 64 (by decide) (by decide); have := hS 1 64 (by decide) (by decide); have := hS 2 2 (by decide) (by decide); omega)))
      refine own_st st176 ?_
      refine own_st (S' := T176.setTop (mkF m 143 #[qA bu, qA de, qI (130 : Int32), qI (0 : Int32), qI (0 : Int32), qA b141, qN (own_S dg 0 64)] [qV (own_S dg 0 64), (.ref b176), (.ref b141), (.ref b159), (.ref b159), (.int (0 : Int32)), (.ref b103)])) (fun t k => XS.iload X176.here hx rfl (hb hby d27_141) rfl k) ?_
      obtain ⟨T195, h195, k195, X195, e195, E195, A195, B195, st195⟩ := newPE X176 hx hZ (own_hw hw (i := 24) rfl) e176 (g := (mkF m 143 #[qA bu, qA de, qI (130 : Int32), qI (0 : Int32), qI (0 : Int32), qA b141, qN (own_S dg 0 64)] [qV (own_S dg 0 64), (.ref b176), (.ref b141), (.ref b159), (.ref b159), (.int (0 : Int32)), (.ref b103)])) rfl (hb hby d27_143) rfl (own_nnN (by have := hS 0 64 (by decide) (by decide); omega)) (cap := 4) (by rw [own_natN (by have := hS 0 64 (by decide) (by decide); omega)]; exact hS 0 64 (by decide) (by decide)) (by decide) (by decide) (by decide) (ad := "[D") (by decide)
      obtain ⟨b195, g195⟩ : ∃ z, z = h176.size := ⟨_, rfl⟩
      rw [← g195] at A195 st195 B195
      have G_b195 : n0 ≤ b195 := Nat.le_trans Z176 (Nat.le_of_eq g195.symm)
      have sz_b195 : h0.size ≤ b195 := Nat.le_trans K176.1 (Nat.le_of_eq g195.symm)
      have ne_b159_b195 : b159 ≠ b195 := Nat.ne_of_lt (Nat.lt_of_lt_of_le f189.lt (Nat.le_of_eq g195.symm))
      have ne_bu_b195 : bu ≠ b195 := Nat.ne_of_lt (Nat.lt_of_lt_of_le f177.lt (Nat.le_of_eq g195.symm))
      have ne_b141_b195 : b141 ≠ b195 := Nat.ne_of_lt (Nat.lt_of_lt_of_le f187.lt (Nat.le_of_eq g195.symm))
      have ne_b176_b195 : b176 ≠ b195 := Nat.ne_of_lt (Nat.lt_of_lt_of_le f194.lt (Nat.le_of_eq g195.symm))
      have ne_de_b195 : de ≠ b195 := Nat.ne_of_lt (Nat.lt_of_lt_of_le f181.lt (Nat.le_of_eq g195.symm))
      have ne_b103_b195 : b103 ≠ b195 := Nat.ne_of_lt (Nat.lt_of_lt_of_le f182.lt (Nat.le_of_eq g195.symm))
      have ne_b118_b195 : b118 ≠ b195 := Nat.ne_of_lt (Nat.lt_of_lt_of_le f184.lt (Nat.le_of_eq g195.symm))
      have M_b195 : own_Nm 0 ad0 b195 := own_P.nm f186 (Nat.le_of_eq g195.symm)
      have f196 := f177.ext E195
      have f197 := f178.ext E195
      have f198 := f179.ext E195
      have f199 := f180.ext E195
      have f200 := f181.ext E195
      have f201 := f182.ext E195
      have f202 := f183.ext E195
      have f203 := f184.ext E195
      have f204 := f185.ext E195
      have f205 := f186.ext E195
      have f206 := f187.ext E195
      have f207 := f188.ext E195
      have f208 := f189.ext E195
      have f209 := f190.ext E195
      have f210 := f191.ext E195
      have f211 := f192.ext E195
      have f212 := f193.ext E195
      have f213 := f194.ext E195
      have f214 := B176.ext E195
      have Z195 : n0 ≤ h195.size := Nat.le_trans Z176 E195.1
      have K195 : Keep h0 h195 [bu] := K176.ext E195
      have f215 : own_A Z h195 b195 .double (own_S dg 0 64) (fun _ => (.double (0 : UInt64))) := own_A.new A195 (by first | rfl | decide | exact (own_natN (by have := hS 0 64 (by decide) (by decide); have := hS 1 64 (by decide) (by decide); have := hS 2 2 (by decide) (by decide); omega)))
      refine own_st st195 ?_
      refine own_st (S' := T195.setTop (mkF m 146 #[qA bu, qA de, qI (130 : Int32), qI (0 : Int32), qI (0 : Int32), qA b141, qN (own_S dg 0 64)] [.null, (.ref b195), (.ref b176), (.ref b141), (.ref b159), (.ref b159), (.int (0 : Int32)), (.ref b103)])) (fun t k => XS.aconstNull X195.here hx rfl (hb hby d27_145) k) ?_
      obtain ⟨_, _, ⟨T216, L216, k216, n216⟩, -, X216, ⟨Lc216, hQ216, l216, y216, z216⟩, st216⟩ := X195.specialBackNest hx (y := (⟨"kithrank/Graph$Page", "<init>", "([I[I[D[Lkithrank/Graph$OwnEdges;)V"⟩ : MethodName)) rfl hown (mvMN hZ (own_hw hw (i := 25) rfl)) (mvT hZ (own_hw hw (i := 26) rfl)) (mvT hZ (own_hw hw (i := 27) rfl)) (by decide) (backOf (W := 3) (rm12 l Z a0 hw [] b159 b141 b176 b195 h195 n0 Z195 f208 f209 f210 f211 f212 G_b159) hZ (own_hw hw (i := 27) rfl) (own_hw hw (i := 23) rfl) (by decide) (by decide)) (g := (mkF m 146 #[qA bu, qA de, qI (130 : Int32), qI (0 : Int32), qI (0 : Int32), qA b141, qN (own_S dg 0 64)] [.null, (.ref b195), (.ref b176), (.ref b141), (.ref b159), (.ref b159), (.int (0 : Int32)), (.ref b103)])) rfl (by rw [hml]; rfl) (Steps.refl _) (a := b159) (argsL := [(.ref b141), (.ref b176), (.ref b195), .null]) (rest := [(.ref b159), (.int (0 : Int32)), (.ref b103)]) (lenOf pd27_1 rfl) rfl (by show 2 * 0 + _ ≤ _; exact Nat.le_of_eq rfl) (hb hby d27_146) (fun _ _ => ⟨rfl, e195, (by decide : 6 + 0 ≤ _), (by decide : 210 + 0 ≤ _)⟩)
      dsimp only [Pt.U, Pt.locs, Pt.cells, Pt.slots] at X216 l216 y216 z216 st216 hQ216
      rw [l216, y216, z216] at X216
      obtain ⟨rfl, N216q, Kq216, g0_216, g1_216, g2_216, g3_216⟩ := hQ216
      have f217 := f196.keep Kq216
      have f218 := f197.keep Kq216 (ninS ne_bu_b159 nin0)
      have f219 := f198.keep Kq216 (ninS ne_bu_b159 nin0)
      have f220 := f199.keep Kq216 (ninS ne_bu_b159 nin0)
      have f221 := f200.keep Kq216 (ninS ne_de_b159 nin0)
      have f222 := f201.keep Kq216 (ninS ne_b103_b159 nin0)
      have f223 := f202.keep Kq216
      have f224 := f203.keep Kq216 (ninS ne_b118_b159 nin0)
      have f225 := f204.keep Kq216
      have f226 := f205.keep Kq216 (allS M_b159 all0)
      have f227 := f206.keep Kq216 (ninS ne_b141_b159 nin0)
      have f228 := f207.keep Kq216
      have f229 := f208.keep Kq216
      have f230 := f213.keep Kq216 (ninS (Ne.symm ne_b159_b176) nin0)
      have f231 := f214.keep Kq216
      have f232 := f215.keep Kq216 (ninS (Ne.symm ne_b159_b195) nin0)
      have f233 := B195.keep Kq216
      have Z216 : n0 ≤ T216.heap.size := Nat.le_trans Z195 Kq216.1
      have K216 : Keep h0 T216.heap [bu] := K195.trans Kq216 (allS (Or.inr sz_b159) all0)
      have N216 := Fr.app N N216q
      refine own_tr st216 ?_
      show own_Go p.tables e below _ (T216.setTop (mkF m 149 #[qA bu, qA de, qI (130 : Int32), qI (0 : Int32), qI (0 : Int32), qA b141, qN (own_S dg 0 64)] [(.ref b159), (.int (0 : Int32)), (.ref b103)]))
      have O234 := f222
      obtain ⟨c234, Ar234, S234, M234, V234⟩ := O234.toA
      obtain ⟨T234, h234, X234, e234, W234, st234⟩ := Jvm.RoadKit.stR X216 hx hZ rfl Ar234 (j := (0 : Int32)) (own_in S234 (own_ix (j := (0 : Int32)) (i := 0) (n := 3) (by decide) (by decide) (by decide))) rfl (O234.sto (Ins.self f229)) (g := (mkF m 149 #[qA bu, qA de, qI (130 : Int32), qI (0 : Int32), qI (0 : Int32), qA b141, qN (own_S dg 0 64)] [(.ref b159), (.int (0 : Int32)), (.ref b103)])) rfl rfl (hb hby d27_149)
      refine own_st st234 ?_
      have f235 := f217.wr W234
      have f236 := f218.other W234 (Or.inl ne_bu_b103)
      have f237 := f219.other W234 (Or.inl ne_bu_b103)
      have f238 := f220.other W234 (Or.inl ne_bu_b103)
      have f239 := f221.other W234 ne_de_b103
      have f240 := f223.wr W234
      have f241 := f224.other W234 (Ne.symm ne_b103_b118)
      have f242 := f225.wr W234
      have f243 := f226.other W234 M0_b103
      have f244 := f227.other W234 (Ne.symm ne_b103_b141)
      have f245 := f228.wr W234
      have f246 := f229.wr W234
      have f247 := f230.other W234 (Ne.symm ne_b103_b176)
      have f248 := f231.wr W234
      have f249 := f232.other W234 (Ne.symm ne_b103_b195)
      have f250 := f233.wr W234
      have f251 := g0_216.other W234 (Or.inl (Ne.symm ne_b103_b159))
      have f252 := g1_216.other W234 (Or.inl (Ne.symm ne_b103_b159))
      have f253 := g2_216.other W234 (Or.inl (Ne.symm ne_b103_b159))
      have f254 := g3_216.other W234 (Or.inl (Ne.symm ne_b103_b159))
      have Z234 : n0 ≤ h234.size := Nat.le_trans Z216 (Keep.of_wr W234).1
      have N234 := Fr.snoc X234 N216 G_b103
      have K234 : Keep h0 h234 [bu] := K216.wr W234 (Or.inr sz_b103)
      have f255 : own_R Z h234 b103 (.object "kithrank/Graph$Page") "kithrank/Graph$Page" 3 (own_V [(.ref b159), .null, .null]) := (own_R.set O234 (own_ix (j := (0 : Int32)) (i := 0) (n := 3) (by decide) (by decide) (by decide)) W234).cong (fun j hj => by match j, hj with | 0, _ => rfl | 1, _ => rfl | 2, _ => rfl | j + 3, h => exact absurd h (by omega))
      refine own_st (S' := T234.setTop (mkF m 152 #[qA bu, qA de, qI (130 : Int32), qI (0 : Int32), qI (0 : Int32), qA b141, qN (own_S dg 0 64)] [(.ref bu), (.ref bu)])) (fun t k => XS.aloadN X234.here hx rfl (hb hby d27_150) rfl rfl (XS.dup X234.here hx rfl (hb hby d27_151) rfl rfl k)) ?_
      obtain ⟨T256, X256, e256, st256⟩ := getF X234 hx hZ hown (host := "") (Or.inl (own_hw hw (i := 43) rfl)) Via.refl e234 f238 (g := (mkF m 152 #[qA bu, qA de, qI (130 : Int32), qI (0 : Int32), qI (0 : Int32), qA b141, qN (own_S dg 0 64)] [(.ref bu), (.ref bu)])) rfl rfl (hb hby d27_152)
      refine own_st st256 ?_
      refine own_st (S' := T256.setTop (mkF m 159 #[qA bu, qA de, qI (130 : Int32), qI (0 : Int32), qI (0 : Int32), qA b141, qN (own_S dg 0 64)] [(.long (en + (Int32.ofNat (own_S dg 0 64)).toInt64)), (.ref bu)])) (fun t k => XS.iload X256.here hx rfl (hb hby d27_155) rfl (XS.i2l X256.here hx rfl (hb hby d27_157) rfl (XS.ladd X256.here hx rfl (hb hby d27_158) rfl k))) ?_
      obtain ⟨T257, h257, X257, e257, W257, st257⟩ := putF X256 hx hZ hown (host := "") (Or.inl (own_hw hw (i := 43) rfl)) Via.refl e256 f238 f235 (Or.inl (own_hw hw (i := 44) rfl)) (own_hw hw (i := 4) rfl) (ty := .long) (by decide) rfl rfl (g := (mkF m 159 #[qA bu, qA de, qI (130 : Int32), qI (0 : Int32), qI (0 : Int32), qA b141, qN (own_S dg 0 64)] [(.long (en + (Int32.ofNat (own_S dg 0 64)).toInt64)), (.ref bu)])) rfl rfl (hb hby d27_159)
      refine own_st st257 ?_
      have f258 := f235.wr W257
      have f259 := f236.other W257 (Or.inr (slot_ne (Or.inr (own_hw hw (i := 15) rfl)) (Or.inl (own_hw hw (i := 44) rfl)) (by decide) (t := (.array (.object "kithrank/Graph$Page"))) (t' := .long) (by decide) (by decide)))
      have f260 := f237.other W257 (Or.inr (slot_ne (Or.inr (own_hw hw (i := 17) rfl)) (Or.inl (own_hw hw (i := 44) rfl)) (by decide) (t := (.array .int)) (t' := .long) (by decide) (by decide)))
      have f261 := f239.other W257 (Ne.symm ne_bu_de)
      have f262 := f255.other W257 (Ne.symm ne_bu_b103)
      have f263 := f240.wr W257
      have f264 := f241.other W257 (Ne.symm ne_bu_b118)
      have f265 := f242.wr W257
      have f266 := f243.other W257 M0_bu
      have f267 := f244.other W257 (Ne.symm ne_bu_b141)
      have f268 := f245.wr W257
      have f269 := f246.wr W257
      have f270 := f247.other W257 (Ne.symm ne_bu_b176)
      have f271 := f248.wr W257
      have f272 := f249.other W257 (Ne.symm ne_bu_b195)
      have f273 := f250.wr W257
      have f274 := f251.other W257 (Or.inl (Ne.symm ne_bu_b159))
      have f275 := f252.other W257 (Or.inl (Ne.symm ne_bu_b159))
      have f276 := f253.other W257 (Or.inl (Ne.symm ne_bu_b159))
      have f277 := f254.other W257 (Or.inl (Ne.symm ne_bu_b159))
      have Z257 : n0 ≤ h257.size := Nat.le_trans Z234 (Keep.of_wr W257).1
      have N257 := Fr.snoc X257 N234 G_bu
      have K257 : Keep h0 h257 [bu] := K234.wr W257 (Or.inl (List.mem_of_getElem? (i := 0) rfl))
      have f278 : Fld Z h257 bu "kithrank/Graph$Builder" "entries" "J" (.long (en + (Int32.ofNat (own_S dg 0 64)).toInt64)) := f238.same W257
      refine own_st (S' := T257.setTop (mkF m 32 #[qA bu, qA de, qI (130 : Int32), qI (1 : Int32), qI (0 : Int32), qA b141, qN (own_S dg 0 64)] [])) (fun t k => XS.iinc X257.here hx rfl (hb hby d27_162) rfl (l' := #[qA bu, qA de, qI (130 : Int32), qI (1 : Int32), qI (0 : Int32), qA b141, qN (own_S dg 0 64)]) rfl (XS.goto X257.here hx rfl (pc0 := 165) (pc' := 32) rfl (hb hby d27_165) (by decide) (by decide) k)) ?_
      have f279 : own_A Z h257 b141 .int (own_u 0 + 1) (own_N (own_S dg 0)) := own_A.cong (n := 65) f267 (fun j hj => congrArg (fun q => Value.int (Int32.ofNat q)) (own_stf_le (by omega)))
      have f280 : own_A Z h257 b176 .int (own_S dg 0 (own_u 0)) (own_I (own_zT 0)) := f270
      have f281 : own_A Z h257 b195 .double (own_S dg 0 (own_u 0)) (own_D (own_zW 0)) := f272
      obtain ⟨ad1, hd1⟩ : ∃ z : Nat → Nat → Addr, z = own_adS ad0 0 b159 b141 b176 b195 := ⟨_, rfl⟩
      have P1 : own_P Z h257 1 ad1 (own_S dg) own_zT own_zW := by rw [hd1]; exact own_P.snoc f266 f269 f268 f271 f273 f274 f275 f276 f277 f279 f280 f281
      have W1 : own_W n0 1 ad1 := by rw [hd1]; exact own_W.snoc W0 G_b159 G_b141 G_b176 G_b195 M_b159 M_b141 M_b176 M_b195 (Ne.symm ne_b141_b159) ne_b159_b176 ne_b159_b195 ne_b141_b176 ne_b141_b195 ne_b176_b195
      have M1_bu : own_Nm 1 ad1 bu := by rw [hd1]; exact own_Nm.snoc M0_bu ne_bu_b159 ne_bu_b141 ne_bu_b176 ne_bu_b195
      have M1_b118 : own_Nm 1 ad1 b118 := by rw [hd1]; exact own_Nm.snoc M0_b118 ne_b118_b159 ne_b118_b141 ne_b118_b176 ne_b118_b195
      have M1_b103 : own_Nm 1 ad1 b103 := by rw [hd1]; exact own_Nm.snoc M0_b103 ne_b103_b159 ne_b103_b141 ne_b103_b176 ne_b103_b195
      refine own_st (S' := T257.setTop (mkF m 34 #[qA bu, qA de, qI (130 : Int32), qI (1 : Int32), qI (0 : Int32), qA b141, qN (own_S dg 0 64)] [(.ref bu), (.int (1 : Int32))])) (fun t k => XS.iloadN X257.here hx rfl (hb hby d27_32) rfl (XS.aloadN X257.here hx rfl (hb hby d27_33) rfl rfl k)) ?_
      obtain ⟨T282, X282, e282, st282⟩ := getF X257 hx hZ hown (host := "") (Or.inl (own_hw hw (i := 14) rfl)) Via.refl e257 f259 (g := (mkF m 34 #[qA bu, qA de, qI (130 : Int32), qI (1 : Int32), qI (0 : Int32), qA b141, qN (own_S dg 0 64)] [(.ref bu), (.int (1 : Int32))])) rfl rfl (hb hby d27_34)
      refine own_st st282 ?_
      have O283 := f262.toA
      obtain ⟨c283, Ar283, S283, M283, V283⟩ := O283
      have ln283 : c283.slots.size.toInt32 = (3 : Int32) := by rw [S283]; try (first | rfl | decide | exact rfl)
      refine own_st (S' := T282.setTop (mkF m 50 #[qA bu, qA de, qI (130 : Int32), qI (1 : Int32), qI (64 : Int32), qA b141, qN (own_S dg 0 64)] [(.int (130 : Int32)), (.int (64 : Int32))])) (fun t k => X282.arraylength hx (by rw [e282]; exact Ar283.1) (State.isArrayOf_alike hZ.alike Ar283.2.1) (g := (mkF m 37 #[qA bu, qA de, qI (130 : Int32), qI (1 : Int32), qI (0 : Int32), qA b141, qN (own_S dg 0 64)] [(.ref b103), (.int (1 : Int32))])) rfl rfl (hb hby d27_37) _ (by rw [ln283]; exact (XS.icmpNo X282.here hx rfl (hb hby d27_38) rfl (tlt (by decide)).2.1 (XS.iloadN X282.here hx rfl (hb hby d27_41) rfl (XS.bipush X282.here hx rfl (hb hby d27_42) (XS.ishl X282.here hx rfl (hb hby d27_44) rfl (XS.istore X282.here hx rfl (hb hby d27_45) rfl (l' := #[qA bu, qA de, qI (130 : Int32), qI (1 : Int32), qI (64 : Int32), qA b141, qN (own_S dg 0 64)]) rfl (XS.bipush X282.here hx rfl (hb hby d27_47) (XS.iloadN X282.here hx rfl (hb hby d27_49) rfl k))))))))) ?_
      refine own_st (S' := T282.setTop (mkF m 53 #[qA bu, qA de, qI (130 : Int32), qI (1 : Int32), qI (64 : Int32), qA b141, qN (own_S dg 0 64)] [(.int (66 : Int32)), (.int (64 : Int32))])) (fun t k => XS.iload X282.here hx rfl (hb hby d27_50) rfl (XS.isub X282.here hx rfl (hb hby d27_52) rfl k)) ?_
      obtain ⟨_, _, ⟨T284, L284, k284, n284⟩, -, X284, ⟨Lc284, hQ284, l284, y284, z284⟩, st284⟩ := Jvm.LawKit.callS X282 hx (y := (⟨"java/lang/Math", "min", "(II)I"⟩ : MethodName)) hown (mvT hZ (own_hw hw (i := 18) rfl)) (mvT hZ (own_hw hw (i := 19) rfl)) (mvT hZ (own_hw hw (i := 20) rfl)) (mvT hZ (own_hw hw (i := 21) rfl)) (by decide) (backOf (W := 0) (rm1 l Z a0 hw [] (64 : Int32) (66 : Int32) h257 n0 Z257 ) hZ (own_hw hw (i := 21) rfl) (own_hw hw (i := 20) rfl) (by decide) (by decide)) (g := (mkF m 53 #[qA bu, qA de, qI (130 : Int32), qI (1 : Int32), qI (64 : Int32), qA b141, qN (own_S dg 0 64)] [(.int (66 : Int32)), (.int (64 : Int32))])) rfl (by rw [hml]; rfl) (argsL := [(.int (64 : Int32)), (.int (66 : Int32))]) (rest := []) (lenOf pd27_0 rfl) rfl (by show 2 * 0 + _ ≤ _; exact Nat.le_of_eq rfl) (hb hby d27_53) (fun _ _ => ⟨rfl, e282, (by decide : 6 + 0 ≤ _), (by decide : 210 + 0 ≤ _)⟩)
      dsimp only [Pt.U, Pt.locs, Pt.cells, Pt.slots] at X284 l284 y284 z284 st284 hQ284
      rw [l284, y284, z284] at X284
      obtain ⟨rfl, N284q, hh284⟩ := hQ284
      have N284 := Fr.app N257 N284q
      refine own_st st284 ?_
      show own_Go p.tables e below _ (T284.setTop (mkF m 56 #[qA bu, qA de, qI (130 : Int32), qI (1 : Int32), qI (64 : Int32), qA b141, qN (own_S dg 0 64)] [(.int (if (66 : Int32) < (64 : Int32) then (66 : Int32) else (64 : Int32)))]))
      refine own_st (S' := T284.setTop (mkF m 56 #[qA bu, qA de, qI (130 : Int32), qI (1 : Int32), qI (64 : Int32), qA b141, qN (own_S dg 0 64)] [(.int (64 : Int32))])) (fun t k => by rw [show ((if (66 : Int32) < (64 : Int32) then (66 : Int32) else (64 : Int32)) : Int32) = (64 : Int32) from by decide]; exact k) ?_
      refine own_st (S' := T284.setTop (mkF m 58 #[qA bu, qA de, qI (130 : Int32), qI (1 : Int32), qI (64 : Int32), qA b141, qN (own_S dg 0 64)] [(.int (65 : Int32))])) (fun t k => XS.iconst X284.here hx rfl (hb hby d27_56) (XS.iadd X284.here hx rfl (hb hby d27_57) rfl k)) ?_
      obtain ⟨T285, h285, k285, X285, e285, E285, A285, B285, st285⟩ := newPE X284 hx hZ (own_hw hw (i := 2) rfl) hh284 (g := (mkF m 58 #[qA bu, qA de, qI (130 : Int32), qI (1 : Int32), qI (64 : Int32), qA b141, qN (own_S dg 0 64)] [(.int (65 : Int32))])) rfl (hb hby d27_58) rfl (by decide) (cap := 65) (by decide) (by decide) (by decide) (by decide) (ad := "[I") (by decide)
      obtain ⟨b285, g285⟩ : ∃ z, z = h257.size := ⟨_, rfl⟩
      rw [← g285] at A285 st285 B285
      have G_b285 : n0 ≤ b285 := Nat.le_trans Z257 (Nat.le_of_eq g285.symm)
      have sz_b285 : h0.size ≤ b285 := Nat.le_trans K257.1 (Nat.le_of_eq g285.symm)
      have ne_bu_b285 : bu ≠ b285 := Nat.ne_of_lt (Nat.lt_of_lt_of_le f258.lt (Nat.le_of_eq g285.symm))
      have ne_de_b285 : de ≠ b285 := Nat.ne_of_lt (Nat.lt_of_lt_of_le f261.lt (Nat.le_of_eq g285.symm))
      have ne_b103_b285 : b103 ≠ b285 := Nat.ne_of_lt (Nat.lt_of_lt_of_le f262.lt (Nat.le_of_eq g285.symm))
      have ne_b118_b285 : b118 ≠ b285 := Nat.ne_of_lt (Nat.lt_of_lt_of_le f264.lt (Nat.le_of_eq g285.symm))
      have M_b285 : own_Nm 1 ad1 b285 := own_P.nm P1 (Nat.le_of_eq g285.symm)
      have f286 := f258.ext E285
      have f287 := f259.ext E285
      have f288 := f260.ext E285
      have f289 := f278.ext E285
      have f290 := f261.ext E285
      have f291 := f262.ext E285
      have f292 := f263.ext E285
      have f293 := f264.ext E285
      have f294 := f265.ext E285
      have f295 := P1.ext E285
      have Z285 : n0 ≤ h285.size := Nat.le_trans Z257 E285.1
      have K285 : Keep h0 h285 [bu] := K257.ext E285
      have f296 : own_A Z h285 b285 .int 65 (fun _ => (.int (0 : Int32))) := own_A.new A285 (by first | rfl | decide | exact rfl)
      refine own_st st285 ?_
      refine own_st (S' := T285.setTop (mkF m 65 #[qA bu, qA de, qI (130 : Int32), qI (1 : Int32), qI (64 : Int32), qA b285, qI (0 : Int32)] [])) (fun t k => XS.astore X285.here hx rfl (hb hby d27_60) rfl rfl (l' := #[qA bu, qA de, qI (130 : Int32), qI (1 : Int32), qI (64 : Int32), qA b285, qN (own_S dg 0 64)]) rfl (XS.iconst X285.here hx rfl (hb hby d27_62) (XS.istore X285.here hx rfl (hb hby d27_63) rfl (l' := #[qA bu, qA de, qI (130 : Int32), qI (1 : Int32), qI (64 : Int32), qA b285, qI (0 : Int32)]) rfl k))) ?_
      have f297 : own_A Z h285 b285 .int 65 (own_N (own_stf dg 1 0)) := f296.cong (fun j hj => congrArg (fun q => Value.int (Int32.ofNat q)) (by unfold own_stf; split <;> first | rfl | (next e => rw [Nat.le_zero.mp e]; rfl)))
      have f298 : own_A Z h285 b118 .int 130 (own_N (own_nxf dg (64 + 0))) := by have q := f293; rw [show i = 64 by omega] at q; exact q
      have loop : ∀ (n : Nat) (T : State) (L : List Loc) (i : Nat), Stand p l e ({ frames := 3, cells := 14, slots := 302, locals := 43 } : Room) s m #[(.ref bu), (.ref de)] below meth c T L 7 275 → Fr n0 L → Keep h0 T.heap [bu] →  n0 ≤ T.heap.size → Exa Z T.heap bu "kithrank/Graph$Builder" → Fld Z T.heap bu "kithrank/Graph$Builder" "pages" "[Lkithrank/Graph$Page;" (.ref b103) → Fld Z T.heap bu "kithrank/Graph$Builder" "next" "[I" (.ref b118) → Fld Z T.heap bu "kithrank/Graph$Builder" "entries" "J" (.long (en + (Int32.ofNat (own_S dg 0 64)).toInt64)) → own_A Z T.heap de .int 130 (own_N dg) → own_R Z T.heap b103 (.object "kithrank/Graph$Page") "kithrank/Graph$Page" 3 (own_V [(.ref b159), .null, .null]) → Exa Z T.heap b103 "[Lkithrank/Graph$Page;" → own_A Z T.heap b118 .int 130 (own_N (own_nxf dg (64 + i))) → Exa Z T.heap b118 "[I" → own_P Z T.heap 1 ad1 (own_S dg) own_zT own_zW → own_A Z T.heap b285 .int 65 (own_N (own_stf dg 1 i)) → Exa Z T.heap b285 "[I" → (i + n = 64) →  own_Go p.tables e below (own_F s (Q27 Z bu de en dg h0 n0) 14 302) (T.setTop (mkF m 65 #[qA bu, qA de, qI (130 : Int32), qI (1 : Int32), qI (64 : Int32), qA b285, qN i] [])) := by
        intro n
        induction n with
        | zero =>
          intro T L i X N K Zz lf0 lf1 lf2 lf3 lf4 lf5 lf6 lf7 lf8 lf9 lf10 lf11 hi
          have O299 := lf10
          obtain ⟨c299, Ar299, S299, M299, V299⟩ := O299
          have ln299 : c299.slots.size.toInt32 = (65 : Int32) := by rw [S299]; try (first | rfl | decide | exact rfl)
          refine own_st (S' := T.setTop (mkF m 72 #[qA bu, qA de, qI (130 : Int32), qI (1 : Int32), qI (64 : Int32), qA b285, qN i] [(.int (65 : Int32)), (.int ((Int32.ofNat i) + (1 : Int32)))])) (fun t k => XS.iload X.here hx rfl (hb hby d27_65) rfl (XS.iconst X.here hx rfl (hb hby d27_67) (XS.iadd X.here hx rfl (hb hby d27_68) rfl (XS.aload X.here hx rfl (hb hby d27_69) rfl rfl (X.arraylength hx Ar299.1 (State.isArrayOf_alike hZ.alike Ar299.2.1) (g := (mkF m 71 #[qA bu, qA de, qI (130 : Int32), qI (1 : Int32), qI (64 : Int32), qA b285, qN i] [(.ref b285), (.int ((Int32.ofNat i) + (1 : Int32)))])) rfl rfl (hb hby d27_71) _ (by rw [ln299]; exact k)))))) ?_
          refine own_st (S' := T.setTop (mkF m 72 #[qA bu, qA de, qI (130 : Int32), qI (1 : Int32), qI (64 : Int32), qA b285, qN i] [(.int (65 : Int32)), qV (i + 1)])) (fun t k => by rw [own_incN (i := i) (by omega)]; exact k) ?_
          have hc300 : ¬ ((Int32.ofNat (i + 1)) < (65 : Int32)) := fun q => absurd ((own_ltN (n := 65) (by omega) (by omega)).mp q) (by omega)
          have O301 := lf10
          obtain ⟨c301, Ar301, S301, M301, V301⟩ := O301
          have ln301 : c301.slots.size.toInt32 = (65 : Int32) := by rw [S301]; try (first | rfl | decide | exact rfl)
          have O302 := lf10
          obtain ⟨c302, Ar302, S302, M302, V302⟩ := O302
          have at302 : c302.slots[((64 : Int32)).toNatClampNeg]? = some (.int (Int32.ofNat (own_S dg 1 64))) := own_at S302 V302 (own_ix (j := (64 : Int32)) (i := 64) (n := 65) (by decide) (by decide) (by decide)) (congrArg (fun q => Value.int (Int32.ofNat q)) (own_stf_le (by omega)))
          refine own_st (S' := T.setTop (mkF m 126 #[qA bu, qA de, qI (130 : Int32), qI (1 : Int32), qI (64 : Int32), qA b285, qN (own_S dg 1 64)] [])) (fun t k => XS.icmpYes X.here hx rfl (pc0 := 72) (pc' := 116) rfl (hb hby d27_72) rfl (flt hc300).2.1 (by decide) (by decide) (XS.aload X.here hx rfl (hb hby d27_116) rfl rfl (XS.aload X.here hx rfl (hb hby d27_118) rfl rfl (X.arraylength hx Ar301.1 (State.isArrayOf_alike hZ.alike Ar301.2.1) (g := (mkF m 120 #[qA bu, qA de, qI (130 : Int32), qI (1 : Int32), qI (64 : Int32), qA b285, qN i] [(.ref b285), (.ref b285)])) rfl rfl (hb hby d27_120) _ (by rw [ln301]; exact (XS.iconst X.here hx rfl (hb hby d27_121) (XS.isub X.here hx rfl (hb hby d27_122) rfl (X.iaload hx (j := (64 : Int32)) (v := (.int (Int32.ofNat (own_S dg 1 64)))) Ar302.1 (State.isArrayOf_alike hZ.alike Ar302.2.1) Ar302.2.2 (own_in S302 (own_ix (j := (64 : Int32)) (i := 64) (n := 65) (by decide) (by decide) (by decide))) at302 (g := (mkF m 123 #[qA bu, qA de, qI (130 : Int32), qI (1 : Int32), qI (64 : Int32), qA b285, qN i] [(.int (64 : Int32)), (.ref b285)])) rfl rfl (hb hby d27_123) _ (XS.istore X.here hx rfl (hb hby d27_124) rfl (l' := #[qA bu, qA de, qI (130 : Int32), qI (1 : Int32), qI (64 : Int32), qA b285, qN (own_S dg 1 64)]) rfl k))))))))) ?_
          refine own_st (S' := T.setTop (mkF m 127 #[qA bu, qA de, qI (130 : Int32), qI (1 : Int32), qI (64 : Int32), qA b285, qN (own_S dg 1 64)] [(.ref bu)])) (fun t k => XS.aloadN X.here hx rfl (hb hby d27_126) rfl rfl k) ?_
          obtain ⟨T303, X303, e303, st303⟩ := getF X hx hZ hown (host := "") (Or.inl (own_hw hw (i := 14) rfl)) Via.refl rfl lf1 (g := (mkF m 127 #[qA bu, qA de, qI (130 : Int32), qI (1 : Int32), qI (64 : Int32), qA b285, qN (own_S dg 1 64)] [(.ref bu)])) rfl rfl (hb hby d27_127)
          refine own_st st303 ?_
          refine own_st (S' := T303.setTop (mkF m 131 #[qA bu, qA de, qI (130 : Int32), qI (1 : Int32), qI (64 : Int32), qA b285, qN (own_S dg 1 64)] [(.int (1 : Int32)), (.ref b103)])) (fun t k => XS.iloadN X303.here hx rfl (hb hby d27_130) rfl k) ?_
          obtain ⟨T304, h304, X304, e304, E304, A304, D304, -, st304⟩ := newO X303 hx hZ hown (own_hw hw (i := 12) rfl) (own_hw hw (i := 22) rfl) (own_hw hw (i := 23) rfl) e303 (g := (mkF m 131 #[qA bu, qA de, qI (130 : Int32), qI (1 : Int32), qI (64 : Int32), qA b285, qN (own_S dg 1 64)] [(.int (1 : Int32)), (.ref b103)])) rfl (hb hby d27_131) (by decide) (by decide)
          obtain ⟨b304, g304⟩ : ∃ z, z = T.heap.size := ⟨_, rfl⟩
          rw [← g304] at A304 D304 st304
          have G_b304 : n0 ≤ b304 := Nat.le_trans Zz (Nat.le_of_eq g304.symm)
          have sz_b304 : h0.size ≤ b304 := Nat.le_trans K.1 (Nat.le_of_eq g304.symm)
          have ne_bu_b304 : bu ≠ b304 := Nat.ne_of_lt (Nat.lt_of_lt_of_le lf0.lt (Nat.le_of_eq g304.symm))
          have ne_de_b304 : de ≠ b304 := Nat.ne_of_lt (Nat.lt_of_lt_of_le lf4.lt (Nat.le_of_eq g304.symm))
          have ne_b103_b304 : b103 ≠ b304 := Nat.ne_of_lt (Nat.lt_of_lt_of_le lf5.lt (Nat.le_of_eq g304.symm))
          have ne_b285_b304 : b285 ≠ b304 := Nat.ne_of_lt (Nat.lt_of_lt_of_le lf10.lt (Nat.le_of_eq g304.symm))
          have ne_b118_b304 : b118 ≠ b304 := Nat.ne_of_lt (Nat.lt_of_lt_of_le lf7.lt (Nat.le_of_eq g304.symm))
          have M_b304 : own_Nm 1 ad1 b304 := own_P.nm lf9 (Nat.le_of_eq g304.symm)
          have f305 := lf0.ext E304
          have f306 := lf1.ext E304
          have f307 := lf2.ext E304
          have f308 := lf3.ext E304
          have f309 := lf4.ext E304
          have f310 := lf5.ext E304
          have f311 := lf6.ext E304
          have f312 := lf7.ext E304
          have f313 := lf8.ext E304
          have f314 := lf9.ext E304
          have f315 := lf10.ext E304
          have f316 := lf11.ext E304
          have Z304 : n0 ≤ h304.size := Nat.le_trans Zz E304.1
          have K304 : Keep h0 h304 [bu] := K.ext E304
          have f317 : Fld Z h304 b304 "kithrank/Graph$Page" "start" "[I" .null := D304 (Or.inr (own_hw hw (i := 35) rfl)) (ty := (.array .int)) (by decide)
          have f318 : Fld Z h304 b304 "kithrank/Graph$Page" "target" "[I" .null := D304 (Or.inr (own_hw hw (i := 37) rfl)) (ty := (.array .int)) (by decide)
          have f319 : Fld Z h304 b304 "kithrank/Graph$Page" "weight" "[D" .null := D304 (Or.inr (own_hw hw (i := 39) rfl)) (ty := (.array .double)) (by decide)
          have f320 : Fld Z h304 b304 "kithrank/Graph$Page" "apart" "[Lkithrank/Graph$OwnEdges;" .null := D304 (Or.inr (own_hw hw (i := 41) rfl)) (ty := (.array (.object "kithrank/Graph$OwnEdges"))) (by decide)
          refine own_st st304 ?_
          refine own_st (S' := T304.setTop (mkF m 139 #[qA bu, qA de, qI (130 : Int32), qI (1 : Int32), qI (64 : Int32), qA b285, qN (own_S dg 1 64)] [qV (own_S dg 1 64), (.ref b285), (.ref b304), (.ref b304), (.int (1 : Int32)), (.ref b103)])) (fun t k => XS.dup X304.here hx rfl (hb hby d27_134) rfl rfl (XS.aload X304.here hx rfl (hb hby d27_135) rfl rfl (XS.iload X304.here hx rfl (hb hby d27_137) rfl k))) ?_
          obtain ⟨T321, h321, k321, X321, e321, E321, A321, B321, st321⟩ := newPE X304 hx hZ (own_hw hw (i := 2) rfl) e304 (g := (mkF m 139 #[qA bu, qA de, qI (130 : Int32), qI (1 : Int32), qI (64 : Int32), qA b285, qN (own_S dg 1 64)] [qV (own_S dg 1 64), (.ref b285), (.ref b304), (.ref b304), (.int (1 : Int32)), (.ref b103)])) rfl (hb hby d27_139) rfl (own_nnN (by have := hS 1 64 (by decide) (by decide); omega)) (cap := 4) (by rw [own_natN (by have := hS 1 64 (by decide) (by decide); omega)]; exact hS 1 64 (by decide) (by decide)) (by decide) (by decide) (by decide) (ad := "[I") (by decide)
          obtain ⟨b321, g321⟩ : ∃ z, z = h304.size := ⟨_, rfl⟩
          rw [← g321] at A321 st321 B321
          have G_b321 : n0 ≤ b321 := Nat.le_trans Z304 (Nat.le_of_eq g321.symm)
          have sz_b321 : h0.size ≤ b321 := Nat.le_trans K304.1 (Nat.le_of_eq g321.symm)
          have ne_b304_b321 : b304 ≠ b321 := Nat.ne_of_lt (Nat.lt_of_lt_of_le A304.lt (Nat.le_of_eq g321.symm))
          have ne_bu_b321 : bu ≠ b321 := Nat.ne_of_lt (Nat.lt_of_lt_of_le f305.lt (Nat.le_of_eq g321.symm))
          have ne_de_b321 : de ≠ b321 := Nat.ne_of_lt (Nat.lt_of_lt_of_le f309.lt (Nat.le_of_eq g321.symm))
          have ne_b103_b321 : b103 ≠ b321 := Nat.ne_of_lt (Nat.lt_of_lt_of_le f310.lt (Nat.le_of_eq g321.symm))
          have ne_b285_b321 : b285 ≠ b321 := Nat.ne_of_lt (Nat.lt_of_lt_of_le f315.lt (Nat.le_of_eq g321.symm))
          have ne_b118_b321 : b118 ≠ b321 := Nat.ne_of_lt (Nat.lt_of_lt_of_le f312.lt (Nat.le_of_eq g321.symm))
          have M_b321 : own_Nm 1 ad1 b321 := own_P.nm f314 (Nat.le_of_eq g321.symm)
          have f322 := f305.ext E321
          have f323 := f306.ext E321
          have f324 := f307.ext E321
          have f325 := f308.ext E321
          have f326 := f309.ext E321
          have f327 := f310.ext E321
          have f328 := f311.ext E321
          have f329 := f312.ext E321
          have f330 := f313.ext E321
          have f331 := f314.ext E321
          have f332 := f315.ext E321
          have f333 := f316.ext E321
          have f334 := A304.ext E321
          have f335 := f317.ext E321
          have f336 := f318.ext E321
          have f337 := f319.ext E321
          have f338 := f320.ext E321
          have Z321 : n0 ≤ h321.size := Nat.le_trans Z304 E321.1
          have K321 : Keep h0 h321 [bu] := K304.ext E321
          have f339 : own_A Z h321 b321 .int (own_S dg 1 64) (fun _ => (.int (0 : Int32))) := own_A.new A321 (by first | rfl | decide | exact (own_natN (by have := hS 0 64 (by decide) (by decide); have := hS 1 64 (by decide) (by decide); have := hS 2 2 (by decide) (by decide); omega)))
          refine own_st st321 ?_
          refine own_st (S' := T321.setTop (mkF m 143 #[qA bu, qA de, qI (130 : Int32), qI (1 : Int32), qI (64 : Int32), qA b285, qN (own_S dg 1 64)] [qV (own_S dg 1 64), (.ref b321), (.ref b285), (.ref b304), (.ref b304), (.int (1 : Int32)), (.ref b103)])) (fun t k => XS.iload X321.here hx rfl (hb hby d27_141) rfl k) ?_
          obtain ⟨T340, h340, k340, X340, e340, E340, A340, B340, st340⟩ := newPE X321 hx hZ (own_hw hw (i := 24) rfl) e321 (g := (mkF m 143 #[qA bu, qA de, qI (130 : Int32), qI (1 : Int32), qI (64 : Int32), qA b285, qN (own_S dg 1 64)] [qV (own_S dg 1 64), (.ref b321), (.ref b285), (.ref b304), (.ref b304), (.int (1 : Int32)), (.ref b103)])) rfl (hb hby d27_143) rfl (own_nnN (by have := hS 1 64 (by decide) (by decide); omega)) (cap := 4) (by rw [own_natN (by have := hS 1 64 (by decide) (by decide); omega)]; exact hS 1 64 (by decide) (by decide)) (by decide) (by decide) (by decide) (ad := "[D") (by decide)
          obtain ⟨b340, g340⟩ : ∃ z, z = h321.size := ⟨_, rfl⟩
          rw [← g340] at A340 st340 B340
          have G_b340 : n0 ≤ b340 := Nat.le_trans Z321 (Nat.le_of_eq g340.symm)
          have sz_b340 : h0.size ≤ b340 := Nat.le_trans K321.1 (Nat.le_of_eq g340.symm)
          have ne_b304_b340 : b304 ≠ b340 := Nat.ne_of_lt (Nat.lt_of_lt_of_le f334.lt (Nat.le_of_eq g340.symm))
          have ne_bu_b340 : bu ≠ b340 := Nat.ne_of_lt (Nat.lt_of_lt_of_le f322.lt (Nat.le_of_eq g340.symm))
          have ne_b285_b340 : b285 ≠ b340 := Nat.ne_of_lt (Nat.lt_of_lt_of_le f332.lt (Nat.le_of_eq g340.symm))
          have ne_de_b340 : de ≠ b340 := Nat.ne_of_lt (Nat.lt_of_lt_of_le f326.lt (Nat.le_of_eq g340.symm))
          have ne_b321_b340 : b321 ≠ b340 := Nat.ne_of_lt (Nat.lt_of_lt_of_le f339.lt (Nat.le_of_eq g340.symm))
          have ne_b103_b340 : b103 ≠ b340 := Nat.ne_of_lt (Nat.lt_of_lt_of_le f327.lt (Nat.le_of_eq g340.symm))
          have ne_b118_b340 : b118 ≠ b340 := Nat.ne_of_lt (Nat.lt_of_lt_of_le f329.lt (Nat.le_of_eq g340.symm))
          have M_b340 : own_Nm 1 ad1 b340 := own_P.nm f331 (Nat.le_of_eq g340.symm)
          have f341 := f322.ext E340
          have f342 := f323.ext E340
          have f343 := f324.ext E340
          have f344 := f325.ext E340
          have f345 := f326.ext E340
          have f346 := f327.ext E340
          have f347 := f328.ext E340
          have f348 := f329.ext E340
          have f349 := f330.ext E340
          have f350 := f331.ext E340
          have f351 := f332.ext E340
          have f352 := f333.ext E340
          have f353 := f334.ext E340
          have f354 := f335.ext E340
          have f355 := f336.ext E340
          have f356 := f337.ext E340
          have f357 := f338.ext E340
          have f358 := f339.ext E340
          have f359 := B321.ext E340
          have Z340 : n0 ≤ h340.size := Nat.le_trans Z321 E340.1
          have K340 : Keep h0 h340 [bu] := K321.ext E340
          have f360 : own_A Z h340 b340 .double (own_S dg 1 64) (fun _ => (.double (0 : UInt64))) := own_A.new A340 (by first | rfl | decide | exact (own_natN (by have := hS 0 64 (by decide) (by decide); have := hS 1 64 (by decide) (by decide); have := hS 2 2 (by decide) (by decide); omega)))
          refine own_st st340 ?_
          refine own_st (S' := T340.setTop (mkF m 146 #[qA bu, qA de, qI (130 : Int32), qI (1 : Int32), qI (64 : Int32), qA b285, qN (own_S dg 1 64)] [.null, (.ref b340), (.ref b321), (.ref b285), (.ref b304), (.ref b304), (.int (1 : Int32)), (.ref b103)])) (fun t k => XS.aconstNull X340.here hx rfl (hb hby d27_145) k) ?_
          obtain ⟨_, _, ⟨T361, L361, k361, n361⟩, -, X361, ⟨Lc361, hQ361, l361, y361, z361⟩, st361⟩ := X340.specialBackNest hx (y := (⟨"kithrank/Graph$Page", "<init>", "([I[I[D[Lkithrank/Graph$OwnEdges;)V"⟩ : MethodName)) rfl hown (mvMN hZ (own_hw hw (i := 25) rfl)) (mvT hZ (own_hw hw (i := 26) rfl)) (mvT hZ (own_hw hw (i := 27) rfl)) (by decide) (backOf (W := 3) (rm12 l Z a0 hw [] b304 b285 b321 b340 h340 n0 Z340 f353 f354 f355 f356 f357 G_b304) hZ (own_hw hw (i := 27) rfl) (own_hw hw (i := 23) rfl) (by decide) (by decide)) (g := (mkF m 146 #[qA bu, qA de, qI (130 : Int32), qI (1 : Int32), qI (64 : Int32), qA b285, qN (own_S dg 1 64)] [.null, (.ref b340), (.ref b321), (.ref b285), (.ref b304), (.ref b304), (.int (1 : Int32)), (.ref b103)])) rfl (by rw [hml]; rfl) (Steps.refl _) (a := b304) (argsL := [(.ref b285), (.ref b321), (.ref b340), .null]) (rest := [(.ref b304), (.int (1 : Int32)), (.ref b103)]) (lenOf pd27_1 rfl) rfl (by show 2 * 0 + _ ≤ _; exact Nat.le_of_eq rfl) (hb hby d27_146) (fun _ _ => ⟨rfl, e340, (by decide : 10 + 0 ≤ _), (by decide : 287 + 0 ≤ _)⟩)
          dsimp only [Pt.U, Pt.locs, Pt.cells, Pt.slots] at X361 l361 y361 z361 st361 hQ361
          rw [l361, y361, z361] at X361
          obtain ⟨rfl, N361q, Kq361, g0_361, g1_361, g2_361, g3_361⟩ := hQ361
          have f362 := f341.keep Kq361
          have f363 := f342.keep Kq361 (ninS ne_bu_b304 nin0)
          have f364 := f343.keep Kq361 (ninS ne_bu_b304 nin0)
          have f365 := f344.keep Kq361 (ninS ne_bu_b304 nin0)
          have f366 := f345.keep Kq361 (ninS ne_de_b304 nin0)
          have f367 := f346.keep Kq361 (ninS ne_b103_b304 nin0)
          have f368 := f347.keep Kq361
          have f369 := f348.keep Kq361 (ninS ne_b118_b304 nin0)
          have f370 := f349.keep Kq361
          have f371 := f350.keep Kq361 (allS M_b304 all0)
          have f372 := f351.keep Kq361 (ninS ne_b285_b304 nin0)
          have f373 := f352.keep Kq361
          have f374 := f353.keep Kq361
          have f375 := f358.keep Kq361 (ninS (Ne.symm ne_b304_b321) nin0)
          have f376 := f359.keep Kq361
          have f377 := f360.keep Kq361 (ninS (Ne.symm ne_b304_b340) nin0)
          have f378 := B340.keep Kq361
          have Z361 : n0 ≤ T361.heap.size := Nat.le_trans Z340 Kq361.1
          have K361 : Keep h0 T361.heap [bu] := K340.trans Kq361 (allS (Or.inr sz_b304) all0)
          have N361 := Fr.app N N361q
          refine own_tr st361 ?_
          show own_Go p.tables e below _ (T361.setTop (mkF m 149 #[qA bu, qA de, qI (130 : Int32), qI (1 : Int32), qI (64 : Int32), qA b285, qN (own_S dg 1 64)] [(.ref b304), (.int (1 : Int32)), (.ref b103)]))
          have O379 := f367
          obtain ⟨c379, Ar379, S379, M379, V379⟩ := O379.toA
          obtain ⟨T379, h379, X379, e379, W379, st379⟩ := Jvm.RoadKit.stR X361 hx hZ rfl Ar379 (j := (1 : Int32)) (own_in S379 (own_ix (j := (1 : Int32)) (i := 1) (n := 3) (by decide) (by decide) (by decide))) rfl (O379.sto (Ins.self f374)) (g := (mkF m 149 #[qA bu, qA de, qI (130 : Int32), qI (1 : Int32), qI (64 : Int32), qA b285, qN (own_S dg 1 64)] [(.ref b304), (.int (1 : Int32)), (.ref b103)])) rfl rfl (hb hby d27_149)
          refine own_st st379 ?_
          have f380 := f362.wr W379
          have f381 := f363.other W379 (Or.inl ne_bu_b103)
          have f382 := f364.other W379 (Or.inl ne_bu_b103)
          have f383 := f365.other W379 (Or.inl ne_bu_b103)
          have f384 := f366.other W379 ne_de_b103
          have f385 := f368.wr W379
          have f386 := f369.other W379 (Ne.symm ne_b103_b118)
          have f387 := f370.wr W379
          have f388 := f371.other W379 M1_b103
          have f389 := f372.other W379 (Ne.symm ne_b103_b285)
          have f390 := f373.wr W379
          have f391 := f374.wr W379
          have f392 := f375.other W379 (Ne.symm ne_b103_b321)
          have f393 := f376.wr W379
          have f394 := f377.other W379 (Ne.symm ne_b103_b340)
          have f395 := f378.wr W379
          have f396 := g0_361.other W379 (Or.inl (Ne.symm ne_b103_b304))
          have f397 := g1_361.other W379 (Or.inl (Ne.symm ne_b103_b304))
          have f398 := g2_361.other W379 (Or.inl (Ne.symm ne_b103_b304))
          have f399 := g3_361.other W379 (Or.inl (Ne.symm ne_b103_b304))
          have Z379 : n0 ≤ h379.size := Nat.le_trans Z361 (Keep.of_wr W379).1
          have N379 := Fr.snoc X379 N361 G_b103
          have K379 : Keep h0 h379 [bu] := K361.wr W379 (Or.inr sz_b103)
          have f400 : own_R Z h379 b103 (.object "kithrank/Graph$Page") "kithrank/Graph$Page" 3 (own_V [(.ref b159), (.ref b304), .null]) := (own_R.set O379 (own_ix (j := (1 : Int32)) (i := 1) (n := 3) (by decide) (by decide) (by decide)) W379).cong (fun j hj => by match j, hj with | 0, _ => rfl | 1, _ => rfl | 2, _ => rfl | j + 3, h => exact absurd h (by omega))
          refine own_st (S' := T379.setTop (mkF m 152 #[qA bu, qA de, qI (130 : Int32), qI (1 : Int32), qI (64 : Int32), qA b285, qN (own_S dg 1 64)] [(.ref bu), (.ref bu)])) (fun t k => XS.aloadN X379.here hx rfl (hb hby d27_150) rfl rfl (XS.dup X379.here hx rfl (hb hby d27_151) rfl rfl k)) ?_
          obtain ⟨T401, X401, e401, st401⟩ := getF X379 hx hZ hown (host := "") (Or.inl (own_hw hw (i := 43) rfl)) Via.refl e379 f383 (g := (mkF m 152 #[qA bu, qA de, qI (130 : Int32), qI (1 : Int32), qI (64 : Int32), qA b285, qN (own_S dg 1 64)] [(.ref bu), (.ref bu)])) rfl rfl (hb hby d27_152)
          refine own_st st401 ?_
          refine own_st (S' := T401.setTop (mkF m 159 #[qA bu, qA de, qI (130 : Int32), qI (1 : Int32), qI (64 : Int32), qA b285, qN (own_S dg 1 64)] [(.long ((en + (Int32.ofNat (own_S dg 0 64)).toInt64) + (Int32.ofNat (own_S dg 1 64)).toInt64)), (.ref bu)])) (fun t k => XS.iload X401.here hx rfl (hb hby d27_155) rfl (XS.i2l X401.here hx rfl (hb hby d27_157) rfl (XS.ladd X401.here hx rfl (hb hby d27_158) rfl k))) ?_
          obtain ⟨T402, h402, X402, e402, W402, st402⟩ := putF X401 hx hZ hown (host := "") (Or.inl (own_hw hw (i := 43) rfl)) Via.refl e401 f383 f380 (Or.inl (own_hw hw (i := 44) rfl)) (own_hw hw (i := 4) rfl) (ty := .long) (by decide) rfl rfl (g := (mkF m 159 #[qA bu, qA de, qI (130 : Int32), qI (1 : Int32), qI (64 : Int32), qA b285, qN (own_S dg 1 64)] [(.long ((en + (Int32.ofNat (own_S dg 0 64)).toInt64) + (Int32.ofNat (own_S dg 1 64)).toInt64)), (.ref bu)])) rfl rfl (hb hby d27_159)
          refine own_st st402 ?_
          have f403 := f380.wr W402
          have f404 := f381.other W402 (Or.inr (slot_ne (Or.inr (own_hw hw (i := 15) rfl)) (Or.inl (own_hw hw (i := 44) rfl)) (by decide) (t := (.array (.object "kithrank/Graph$Page"))) (t' := .long) (by decide) (by decide)))
          have f405 := f382.other W402 (Or.inr (slot_ne (Or.inr (own_hw hw (i := 17) rfl)) (Or.inl (own_hw hw (i := 44) rfl)) (by decide) (t := (.array .int)) (t' := .long) (by decide) (by decide)))
          have f406 := f384.other W402 (Ne.symm ne_bu_de)
          have f407 := f400.other W402 (Ne.symm ne_bu_b103)
          have f408 := f385.wr W402
          have f409 := f386.other W402 (Ne.symm ne_bu_b118)
          have f410 := f387.wr W402
          have f411 := f388.other W402 M1_bu
          have f412 := f389.other W402 (Ne.symm ne_bu_b285)
          have f413 := f390.wr W402
          have f414 := f391.wr W402
          have f415 := f392.other W402 (Ne.symm ne_bu_b321)
          have f416 := f393.wr W402
          have f417 := f394.other W402 (Ne.symm ne_bu_b340)
          have f418 := f395.wr W402
          have f419 := f396.other W402 (Or.inl (Ne.symm ne_bu_b304))
          have f420 := f397.other W402 (Or.inl (Ne.symm ne_bu_b304))
          have f421 := f398.other W402 (Or.inl (Ne.symm ne_bu_b304))
          have f422 := f399.other W402 (Or.inl (Ne.symm ne_bu_b304))
          have Z402 : n0 ≤ h402.size := Nat.le_trans Z379 (Keep.of_wr W402).1
          have N402 := Fr.snoc X402 N379 G_bu
          have K402 : Keep h0 h402 [bu] := K379.wr W402 (Or.inl (List.mem_of_getElem? (i := 0) rfl))
          have f423 : Fld Z h402 bu "kithrank/Graph$Builder" "entries" "J" (.long ((en + (Int32.ofNat (own_S dg 0 64)).toInt64) + (Int32.ofNat (own_S dg 1 64)).toInt64)) := f383.same W402
          refine own_st (S' := T402.setTop (mkF m 32 #[qA bu, qA de, qI (130 : Int32), qI (2 : Int32), qI (64 : Int32), qA b285, qN (own_S dg 1 64)] [])) (fun t k => XS.iinc X402.here hx rfl (hb hby d27_162) rfl (l' := #[qA bu, qA de, qI (130 : Int32), qI (2 : Int32), qI (64 : Int32), qA b285, qN (own_S dg 1 64)]) rfl (XS.goto X402.here hx rfl (pc0 := 165) (pc' := 32) rfl (hb hby d27_165) (by decide) (by decide) k)) ?_
          have f424 : own_A Z h402 b285 .int (own_u 1 + 1) (own_N (own_S dg 1)) := own_A.cong (n := 65) f412 (fun j hj => congrArg (fun q => Value.int (Int32.ofNat q)) (own_stf_le (by omega)))
          have f425 : own_A Z h402 b321 .int (own_S dg 1 (own_u 1)) (own_I (own_zT 1)) := f415
          have f426 : own_A Z h402 b340 .double (own_S dg 1 (own_u 1)) (own_D (own_zW 1)) := f417
          obtain ⟨ad2, hd2⟩ : ∃ z : Nat → Nat → Addr, z = own_adS ad1 1 b304 b285 b321 b340 := ⟨_, rfl⟩
          have P2 : own_P Z h402 2 ad2 (own_S dg) own_zT own_zW := by rw [hd2]; exact own_P.snoc f411 f414 f413 f416 f418 f419 f420 f421 f422 f424 f425 f426
          have W2 : own_W n0 2 ad2 := by rw [hd2]; exact own_W.snoc W1 G_b304 G_b285 G_b321 G_b340 M_b304 M_b285 M_b321 M_b340 (Ne.symm ne_b285_b304) ne_b304_b321 ne_b304_b340 ne_b285_b321 ne_b285_b340 ne_b321_b340
          have M2_bu : own_Nm 2 ad2 bu := by rw [hd2]; exact own_Nm.snoc M1_bu ne_bu_b304 ne_bu_b285 ne_bu_b321 ne_bu_b340
          have M2_b118 : own_Nm 2 ad2 b118 := by rw [hd2]; exact own_Nm.snoc M1_b118 ne_b118_b304 ne_b118_b285 ne_b118_b321 ne_b118_b340
          have M2_b103 : own_Nm 2 ad2 b103 := by rw [hd2]; exact own_Nm.snoc M1_b103 ne_b103_b304 ne_b103_b285 ne_b103_b321 ne_b103_b340
          refine own_st (S' := T402.setTop (mkF m 34 #[qA bu, qA de, qI (130 : Int32), qI (2 : Int32), qI (64 : Int32), qA b285, qN (own_S dg 1 64)] [(.ref bu), (.int (2 : Int32))])) (fun t k => XS.iloadN X402.here hx rfl (hb hby d27_32) rfl (XS.aloadN X402.here hx rfl (hb hby d27_33) rfl rfl k)) ?_
          obtain ⟨T427, X427, e427, st427⟩ := getF X402 hx hZ hown (host := "") (Or.inl (own_hw hw (i := 14) rfl)) Via.refl e402 f404 (g := (mkF m 34 #[qA bu, qA de, qI (130 : Int32), qI (2 : Int32), qI (64 : Int32), qA b285, qN (own_S dg 1 64)] [(.ref bu), (.int (2 : Int32))])) rfl rfl (hb hby d27_34)
          refine own_st st427 ?_
          have O428 := f407.toA
          obtain ⟨c428, Ar428, S428, M428, V428⟩ := O428
          have ln428 : c428.slots.size.toInt32 = (3 : Int32) := by rw [S428]; try (first | rfl | decide | exact rfl)
          refine own_st (S' := T427.setTop (mkF m 50 #[qA bu, qA de, qI (130 : Int32), qI (2 : Int32), qI (128 : Int32), qA b285, qN (own_S dg 1 64)] [(.int (130 : Int32)), (.int (64 : Int32))])) (fun t k => X427.arraylength hx (by rw [e427]; exact Ar428.1) (State.isArrayOf_alike hZ.alike Ar428.2.1) (g := (mkF m 37 #[qA bu, qA de, qI (130 : Int32), qI (2 : Int32), qI (64 : Int32), qA b285, qN (own_S dg 1 64)] [(.ref b103), (.int (2 : Int32))])) rfl rfl (hb hby d27_37) _ (by rw [ln428]; exact (XS.icmpNo X427.here hx rfl (hb hby d27_38) rfl (tlt (by decide)).2.1 (XS.iloadN X427.here hx rfl (hb hby d27_41) rfl (XS.bipush X427.here hx rfl (hb hby d27_42) (XS.ishl X427.here hx rfl (hb hby d27_44) rfl (XS.istore X427.here hx rfl (hb hby d27_45) rfl (l' := #[qA bu, qA de, qI (130 : Int32), qI (2 : Int32), qI (128 : Int32), qA b285, qN (own_S dg 1 64)]) rfl (XS.bipush X427.here hx rfl (hb hby d27_47) (XS.iloadN X427.here hx rfl (hb hby d27_49) rfl k))))))))) ?_
          refine own_st (S' := T427.setTop (mkF m 53 #[qA bu, qA de, qI (130 : Int32), qI (2 : Int32), qI (128 : Int32), qA b285, qN (own_S dg 1 64)] [(.int (2 : Int32)), (.int (64 : Int32))])) (fun t k => XS.iload X427.here hx rfl (hb hby d27_50) rfl (XS.isub X427.here hx rfl (hb hby d27_52) rfl k)) ?_
          obtain ⟨_, _, ⟨T429, L429, k429, n429⟩, -, X429, ⟨Lc429, hQ429, l429, y429, z429⟩, st429⟩ := Jvm.LawKit.callS X427 hx (y := (⟨"java/lang/Math", "min", "(II)I"⟩ : MethodName)) hown (mvT hZ (own_hw hw (i := 18) rfl)) (mvT hZ (own_hw hw (i := 19) rfl)) (mvT hZ (own_hw hw (i := 20) rfl)) (mvT hZ (own_hw hw (i := 21) rfl)) (by decide) (backOf (W := 0) (rm1 l Z a0 hw [] (64 : Int32) (2 : Int32) h402 n0 Z402 ) hZ (own_hw hw (i := 21) rfl) (own_hw hw (i := 20) rfl) (by decide) (by decide)) (g := (mkF m 53 #[qA bu, qA de, qI (130 : Int32), qI (2 : Int32), qI (128 : Int32), qA b285, qN (own_S dg 1 64)] [(.int (2 : Int32)), (.int (64 : Int32))])) rfl (by rw [hml]; rfl) (argsL := [(.int (64 : Int32)), (.int (2 : Int32))]) (rest := []) (lenOf pd27_0 rfl) rfl (by show 2 * 0 + _ ≤ _; exact Nat.le_of_eq rfl) (hb hby d27_53) (fun _ _ => ⟨rfl, e427, (by decide : 10 + 0 ≤ _), (by decide : 287 + 0 ≤ _)⟩)
          dsimp only [Pt.U, Pt.locs, Pt.cells, Pt.slots] at X429 l429 y429 z429 st429 hQ429
          rw [l429, y429, z429] at X429
          obtain ⟨rfl, N429q, hh429⟩ := hQ429
          have N429 := Fr.app N402 N429q
          refine own_st st429 ?_
          show own_Go p.tables e below _ (T429.setTop (mkF m 56 #[qA bu, qA de, qI (130 : Int32), qI (2 : Int32), qI (128 : Int32), qA b285, qN (own_S dg 1 64)] [(.int (if (2 : Int32) < (64 : Int32) then (2 : Int32) else (64 : Int32)))]))
          refine own_st (S' := T429.setTop (mkF m 56 #[qA bu, qA de, qI (130 : Int32), qI (2 : Int32), qI (128 : Int32), qA b285, qN (own_S dg 1 64)] [(.int (2 : Int32))])) (fun t k => by rw [show ((if (2 : Int32) < (64 : Int32) then (2 : Int32) else (64 : Int32)) : Int32) = (2 : Int32) from by decide]; exact k) ?_
          refine own_st (S' := T429.setTop (mkF m 58 #[qA bu, qA de, qI (130 : Int32), qI (2 : Int32), qI (128 : Int32), qA b285, qN (own_S dg 1 64)] [(.int (3 : Int32))])) (fun t k => XS.iconst X429.here hx rfl (hb hby d27_56) (XS.iadd X429.here hx rfl (hb hby d27_57) rfl k)) ?_
          obtain ⟨T430, h430, k430, X430, e430, E430, A430, B430, st430⟩ := newPE X429 hx hZ (own_hw hw (i := 2) rfl) hh429 (g := (mkF m 58 #[qA bu, qA de, qI (130 : Int32), qI (2 : Int32), qI (128 : Int32), qA b285, qN (own_S dg 1 64)] [(.int (3 : Int32))])) rfl (hb hby d27_58) rfl (by decide) (cap := 3) (by decide) (by decide) (by decide) (by decide) (ad := "[I") (by decide)
          obtain ⟨b430, g430⟩ : ∃ z, z = h402.size := ⟨_, rfl⟩
          rw [← g430] at A430 st430 B430
          have G_b430 : n0 ≤ b430 := Nat.le_trans Z402 (Nat.le_of_eq g430.symm)
          have sz_b430 : h0.size ≤ b430 := Nat.le_trans K402.1 (Nat.le_of_eq g430.symm)
          have ne_bu_b430 : bu ≠ b430 := Nat.ne_of_lt (Nat.lt_of_lt_of_le f403.lt (Nat.le_of_eq g430.symm))
          have ne_de_b430 : de ≠ b430 := Nat.ne_of_lt (Nat.lt_of_lt_of_le f406.lt (Nat.le_of_eq g430.symm))
          have ne_b103_b430 : b103 ≠ b430 := Nat.ne_of_lt (Nat.lt_of_lt_of_le f407.lt (Nat.le_of_eq g430.symm))
          have ne_b118_b430 : b118 ≠ b430 := Nat.ne_of_lt (Nat.lt_of_lt_of_le f409.lt (Nat.le_of_eq g430.symm))
          have M_b430 : own_Nm 2 ad2 b430 := own_P.nm P2 (Nat.le_of_eq g430.symm)
          have f431 := f403.ext E430
          have f432 := f404.ext E430
          have f433 := f405.ext E430
          have f434 := f423.ext E430
          have f435 := f406.ext E430
          have f436 := f407.ext E430
          have f437 := f408.ext E430
          have f438 := f409.ext E430
          have f439 := f410.ext E430
          have f440 := P2.ext E430
          have Z430 : n0 ≤ h430.size := Nat.le_trans Z402 E430.1
          have K430 : Keep h0 h430 [bu] := K402.ext E430
          have f441 : own_A Z h430 b430 .int 3 (fun _ => (.int (0 : Int32))) := own_A.new A430 (by first | rfl | decide | exact rfl)
          refine own_st st430 ?_
          refine own_st (S' := T430.setTop (mkF m 65 #[qA bu, qA de, qI (130 : Int32), qI (2 : Int32), qI (128 : Int32), qA b430, qI (0 : Int32)] [])) (fun t k => XS.astore X430.here hx rfl (hb hby d27_60) rfl rfl (l' := #[qA bu, qA de, qI (130 : Int32), qI (2 : Int32), qI (128 : Int32), qA b430, qN (own_S dg 1 64)]) rfl (XS.iconst X430.here hx rfl (hb hby d27_62) (XS.istore X430.here hx rfl (hb hby d27_63) rfl (l' := #[qA bu, qA de, qI (130 : Int32), qI (2 : Int32), qI (128 : Int32), qA b430, qI (0 : Int32)]) rfl k))) ?_
          have f442 : own_A Z h430 b430 .int 3 (own_N (own_stf dg 2 0)) := f441.cong (fun j hj => congrArg (fun q => Value.int (Int32.ofNat q)) (by unfold own_stf; split <;> first | rfl | (next e => rw [Nat.le_zero.mp e]; rfl)))
          have f443 : own_A Z h430 b118 .int 130 (own_N (own_nxf dg (128 + 0))) := by have q := f438; rw [show i = 64 by omega] at q; exact q
          have loop : ∀ (n : Nat) (T : State) (L : List Loc) (i : Nat), Stand p l e ({ frames := 3, cells := 14, slots := 302, locals := 43 } : Room) s m #[(.ref bu), (.ref de)] below meth c T L 11 290 → Fr n0 L → Keep h0 T.heap [bu] →  n0 ≤ T.heap.size → Exa Z T.heap bu "kithrank/Graph$Builder" → Fld Z T.heap bu "kithrank/Graph$Builder" "pages" "[Lkithrank/Graph$Page;" (.ref b103) → Fld Z T.heap bu "kithrank/Graph$Builder" "next" "[I" (.ref b118) → Fld Z T.heap bu "kithrank/Graph$Builder" "entries" "J" (.long ((en + (Int32.ofNat (own_S dg 0 64)).toInt64) + (Int32.ofNat (own_S dg 1 64)).toInt64)) → own_A Z T.heap de .int 130 (own_N dg) → own_R Z T.heap b103 (.object "kithrank/Graph$Page") "kithrank/Graph$Page" 3 (own_V [(.ref b159), (.ref b304), .null]) → Exa Z T.heap b103 "[Lkithrank/Graph$Page;" → own_A Z T.heap b118 .int 130 (own_N (own_nxf dg (128 + i))) → Exa Z T.heap b118 "[I" → own_P Z T.heap 2 ad2 (own_S dg) own_zT own_zW → own_A Z T.heap b430 .int 3 (own_N (own_stf dg 2 i)) → Exa Z T.heap b430 "[I" → (i + n = 2) →  own_Go p.tables e below (own_F s (Q27 Z bu de en dg h0 n0) 14 302) (T.setTop (mkF m 65 #[qA bu, qA de, qI (130 : Int32), qI (2 : Int32), qI (128 : Int32), qA b430, qN i] [])) := by
            intro n
            induction n with
            | zero =>
              intro T L i X N K Zz lf0 lf1 lf2 lf3 lf4 lf5 lf6 lf7 lf8 lf9 lf10 lf11 hi
              have O444 := lf10
              obtain ⟨c444, Ar444, S444, M444, V444⟩ := O444
              have ln444 : c444.slots.size.toInt32 = (3 : Int32) := by rw [S444]; try (first | rfl | decide | exact rfl)
              refine own_st (S' := T.setTop (mkF m 72 #[qA bu, qA de, qI (130 : Int32), qI (2 : Int32), qI (128 : Int32), qA b430, qN i] [(.int (3 : Int32)), (.int ((Int32.ofNat i) + (1 : Int32)))])) (fun t k => XS.iload X.here hx rfl (hb hby d27_65) rfl (XS.iconst X.here hx rfl (hb hby d27_67) (XS.iadd X.here hx rfl (hb hby d27_68) rfl (XS.aload X.here hx rfl (hb hby d27_69) rfl rfl (X.arraylength hx Ar444.1 (State.isArrayOf_alike hZ.alike Ar444.2.1) (g := (mkF m 71 #[qA bu, qA de, qI (130 : Int32), qI (2 : Int32), qI (128 : Int32), qA b430, qN i] [(.ref b430), (.int ((Int32.ofNat i) + (1 : Int32)))])) rfl rfl (hb hby d27_71) _ (by rw [ln444]; exact k)))))) ?_
              refine own_st (S' := T.setTop (mkF m 72 #[qA bu, qA de, qI (130 : Int32), qI (2 : Int32), qI (128 : Int32), qA b430, qN i] [(.int (3 : Int32)), qV (i + 1)])) (fun t k => by rw [own_incN (i := i) (by omega)]; exact k) ?_
              have hc445 : ¬ ((Int32.ofNat (i + 1)) < (3 : Int32)) := fun q => absurd ((own_ltN (n := 3) (by omega) (by omega)).mp q) (by omega)
              have O446 := lf10
              obtain ⟨c446, Ar446, S446, M446, V446⟩ := O446
              have ln446 : c446.slots.size.toInt32 = (3 : Int32) := by rw [S446]; try (first | rfl | decide | exact rfl)
              have O447 := lf10
              obtain ⟨c447, Ar447, S447, M447, V447⟩ := O447
              have at447 : c447.slots[((2 : Int32)).toNatClampNeg]? = some (.int (Int32.ofNat (own_S dg 2 2))) := own_at S447 V447 (own_ix (j := (2 : Int32)) (i := 2) (n := 3) (by decide) (by decide) (by decide)) (congrArg (fun q => Value.int (Int32.ofNat q)) (own_stf_le (by omega)))
              refine own_st (S' := T.setTop (mkF m 126 #[qA bu, qA de, qI (130 : Int32), qI (2 : Int32), qI (128 : Int32), qA b430, qN (own_S dg 2 2)] [])) (fun t k => XS.icmpYes X.here hx rfl (pc0 := 72) (pc' := 116) rfl (hb hby d27_72) rfl (flt hc445).2.1 (by decide) (by decide) (XS.aload X.here hx rfl (hb hby d27_116) rfl rfl (XS.aload X.here hx rfl (hb hby d27_118) rfl rfl (X.arraylength hx Ar446.1 (State.isArrayOf_alike hZ.alike Ar446.2.1) (g := (mkF m 120 #[qA bu, qA de, qI (130 : Int32), qI (2 : Int32), qI (128 : Int32), qA b430, qN i] [(.ref b430), (.ref b430)])) rfl rfl (hb hby d27_120) _ (by rw [ln446]; exact (XS.iconst X.here hx rfl (hb hby d27_121) (XS.isub X.here hx rfl (hb hby d27_122) rfl (X.iaload hx (j := (2 : Int32)) (v := (.int (Int32.ofNat (own_S dg 2 2)))) Ar447.1 (State.isArrayOf_alike hZ.alike Ar447.2.1) Ar447.2.2 (own_in S447 (own_ix (j := (2 : Int32)) (i := 2) (n := 3) (by decide) (by decide) (by decide))) at447 (g := (mkF m 123 #[qA bu, qA de, qI (130 : Int32), qI (2 : Int32), qI (128 : Int32), qA b430, qN i] [(.int (2 : Int32)), (.ref b430)])) rfl rfl (hb hby d27_123) _ (XS.istore X.here hx rfl (hb hby d27_124) rfl (l' := #[qA bu, qA de, qI (130 : Int32), qI (2 : Int32), qI (128 : Int32), qA b430, qN (own_S dg 2 2)]) rfl k))))))))) ?_
              refine own_st (S' := T.setTop (mkF m 127 #[qA bu, qA de, qI (130 : Int32), qI (2 : Int32), qI (128 : Int32), qA b430, qN (own_S dg 2 2)] [(.ref bu)])) (fun t k => XS.aloadN X.here hx rfl (hb hby d27_126) rfl rfl k) ?_
              obtain ⟨T448, X448, e448, st448⟩ := getF X hx hZ hown (host := "") (Or.inl (own_hw hw (i := 14) rfl)) Via.refl rfl lf1 (g := (mkF m 127 #[qA bu, qA de, qI (130 : Int32), qI (2 : Int32), qI (128 : Int32), qA b430, qN (own_S dg 2 2)] [(.ref bu)])) rfl rfl (hb hby d27_127)
              refine own_st st448 ?_
              refine own_st (S' := T448.setTop (mkF m 131 #[qA bu, qA de, qI (130 : Int32), qI (2 : Int32), qI (128 : Int32), qA b430, qN (own_S dg 2 2)] [(.int (2 : Int32)), (.ref b103)])) (fun t k => XS.iloadN X448.here hx rfl (hb hby d27_130) rfl k) ?_
              obtain ⟨T449, h449, X449, e449, E449, A449, D449, -, st449⟩ := newO X448 hx hZ hown (own_hw hw (i := 12) rfl) (own_hw hw (i := 22) rfl) (own_hw hw (i := 23) rfl) e448 (g := (mkF m 131 #[qA bu, qA de, qI (130 : Int32), qI (2 : Int32), qI (128 : Int32), qA b430, qN (own_S dg 2 2)] [(.int (2 : Int32)), (.ref b103)])) rfl (hb hby d27_131) (by decide) (by decide)
              obtain ⟨b449, g449⟩ : ∃ z, z = T.heap.size := ⟨_, rfl⟩
              rw [← g449] at A449 D449 st449
              have G_b449 : n0 ≤ b449 := Nat.le_trans Zz (Nat.le_of_eq g449.symm)
              have sz_b449 : h0.size ≤ b449 := Nat.le_trans K.1 (Nat.le_of_eq g449.symm)
              have ne_bu_b449 : bu ≠ b449 := Nat.ne_of_lt (Nat.lt_of_lt_of_le lf0.lt (Nat.le_of_eq g449.symm))
              have ne_de_b449 : de ≠ b449 := Nat.ne_of_lt (Nat.lt_of_lt_of_le lf4.lt (Nat.le_of_eq g449.symm))
              have ne_b430_b449 : b430 ≠ b449 := Nat.ne_of_lt (Nat.lt_of_lt_of_le lf10.lt (Nat.le_of_eq g449.symm))
              have ne_b103_b449 : b103 ≠ b449 := Nat.ne_of_lt (Nat.lt_of_lt_of_le lf5.lt (Nat.le_of_eq g449.symm))
              have ne_b118_b449 : b118 ≠ b449 := Nat.ne_of_lt (Nat.lt_of_lt_of_le lf7.lt (Nat.le_of_eq g449.symm))
              have M_b449 : own_Nm 2 ad2 b449 := own_P.nm lf9 (Nat.le_of_eq g449.symm)
              have f450 := lf0.ext E449
              have f451 := lf1.ext E449
              have f452 := lf2.ext E449
              have f453 := lf3.ext E449
              have f454 := lf4.ext E449
              have f455 := lf5.ext E449
              have f456 := lf6.ext E449
              have f457 := lf7.ext E449
              have f458 := lf8.ext E449
              have f459 := lf9.ext E449
              have f460 := lf10.ext E449
              have f461 := lf11.ext E449
              have Z449 : n0 ≤ h449.size := Nat.le_trans Zz E449.1
              have K449 : Keep h0 h449 [bu] := K.ext E449
              have f462 : Fld Z h449 b449 "kithrank/Graph$Page" "start" "[I" .null := D449 (Or.inr (own_hw hw (i := 35) rfl)) (ty := (.array .int)) (by decide)
              have f463 : Fld Z h449 b449 "kithrank/Graph$Page" "target" "[I" .null := D449 (Or.inr (own_hw hw (i := 37) rfl)) (ty := (.array .int)) (by decide)
              have f464 : Fld Z h449 b449 "kithrank/Graph$Page" "weight" "[D" .null := D449 (Or.inr (own_hw hw (i := 39) rfl)) (ty := (.array .double)) (by decide)
              have f465 : Fld Z h449 b449 "kithrank/Graph$Page" "apart" "[Lkithrank/Graph$OwnEdges;" .null := D449 (Or.inr (own_hw hw (i := 41) rfl)) (ty := (.array (.object "kithrank/Graph$OwnEdges"))) (by decide)
              refine own_st st449 ?_
              refine own_st (S' := T449.setTop (mkF m 139 #[qA bu, qA de, qI (130 : Int32), qI (2 : Int32), qI (128 : Int32), qA b430, qN (own_S dg 2 2)] [qV (own_S dg 2 2), (.ref b430), (.ref b449), (.ref b449), (.int (2 : Int32)), (.ref b103)])) (fun t k => XS.dup X449.here hx rfl (hb hby d27_134) rfl rfl (XS.aload X449.here hx rfl (hb hby d27_135) rfl rfl (XS.iload X449.here hx rfl (hb hby d27_137) rfl k))) ?_
              obtain ⟨T466, h466, k466, X466, e466, E466, A466, B466, st466⟩ := newPE X449 hx hZ (own_hw hw (i := 2) rfl) e449 (g := (mkF m 139 #[qA bu, qA de, qI (130 : Int32), qI (2 : Int32), qI (128 : Int32), qA b430, qN (own_S dg 2 2)] [qV (own_S dg 2 2), (.ref b430), (.ref b449), (.ref b449), (.int (2 : Int32)), (.ref b103)])) rfl (hb hby d27_139) rfl (own_nnN (by have := hS 2 2 (by decide) (by decide); omega)) (cap := 4) (by rw [own_natN (by have := hS 2 2 (by decide) (by decide); omega)]; exact hS 2 2 (by decide) (by decide)) (by decide) (by decide) (by decide) (ad := "[I") (by decide)
              obtain ⟨b466, g466⟩ : ∃ z, z = h449.size := ⟨_, rfl⟩
              rw [← g466] at A466 st466 B466
              have G_b466 : n0 ≤ b466 := Nat.le_trans Z449 (Nat.le_of_eq g466.symm)
              have sz_b466 : h0.size ≤ b466 := Nat.le_trans K449.1 (Nat.le_of_eq g466.symm)
              have ne_bu_b466 : bu ≠ b466 := Nat.ne_of_lt (Nat.lt_of_lt_of_le f450.lt (Nat.le_of_eq g466.symm))
              have ne_b449_b466 : b449 ≠ b466 := Nat.ne_of_lt (Nat.lt_of_lt_of_le A449.lt (Nat.le_of_eq g466.symm))
              have ne_de_b466 : de ≠ b466 := Nat.ne_of_lt (Nat.lt_of_lt_of_le f454.lt (Nat.le_of_eq g466.symm))
              have ne_b430_b466 : b430 ≠ b466 := Nat.ne_of_lt (Nat.lt_of_lt_of_le f460.lt (Nat.le_of_eq g466.symm))
              have ne_b103_b466 : b103 ≠ b466 := Nat.ne_of_lt (Nat.lt_of_lt_of_le f455.lt (Nat.le_of_eq g466.symm))
              have ne_b118_b466 : b118 ≠ b466 := Nat.ne_of_lt (Nat.lt_of_lt_of_le f457.lt (Nat.le_of_eq g466.symm))
              have M_b466 : own_Nm 2 ad2 b466 := own_P.nm f459 (Nat.le_of_eq g466.symm)
              have f467 := f450.ext E466
              have f468 := f451.ext E466
              have f469 := f452.ext E466
              have f470 := f453.ext E466
              have f471 := f454.ext E466
              have f472 := f455.ext E466
              have f473 := f456.ext E466
              have f474 := f457.ext E466
              have f475 := f458.ext E466
              have f476 := f459.ext E466
              have f477 := f460.ext E466
              have f478 := f461.ext E466
              have f479 := A449.ext E466
              have f480 := f462.ext E466
              have f481 := f463.ext E466
              have f482 := f464.ext E466
              have f483 := f465.ext E466
              have Z466 : n0 ≤ h466.size := Nat.le_trans Z449 E466.1
              have K466 : Keep h0 h466 [bu] := K449.ext E466
              have f484 : own_A Z h466 b466 .int (own_S dg 2 2) (fun _ => (.int (0 : Int32))) := own_A.new A466 (by first | rfl | decide | exact (own_natN (by have := hS 0 64 (by decide) (by decide); have := hS 1 64 (by decide) (by decide); have := hS 2 2 (by decide) (by decide); omega)))
              refine own_st st466 ?_
              refine own_st (S' := T466.setTop (mkF m 143 #[qA bu, qA de, qI (130 : Int32), qI (2 : Int32), qI (128 : Int32), qA b430, qN (own_S dg 2 2)] [qV (own_S dg 2 2), (.ref b466), (.ref b430), (.ref b449), (.ref b449), (.int (2 : Int32)), (.ref b103)])) (fun t k => XS.iload X466.here hx rfl (hb hby d27_141) rfl k) ?_
              obtain ⟨T485, h485, k485, X485, e485, E485, A485, B485, st485⟩ := newPE X466 hx hZ (own_hw hw (i := 24) rfl) e466 (g := (mkF m 143 #[qA bu, qA de, qI (130 : Int32), qI (2 : Int32), qI (128 : Int32), qA b430, qN (own_S dg 2 2)] [qV (own_S dg 2 2), (.ref b466), (.ref b430), (.ref b449), (.ref b449), (.int (2 : Int32)), (.ref b103)])) rfl (hb hby d27_143) rfl (own_nnN (by have := hS 2 2 (by decide) (by decide); omega)) (cap := 4) (by rw [own_natN (by have := hS 2 2 (by decide) (by decide); omega)]; exact hS 2 2 (by decide) (by decide)) (by decide) (by decide) (by decide) (ad := "[D") (by decide)
              obtain ⟨b485, g485⟩ : ∃ z, z = h466.size := ⟨_, rfl⟩
              rw [← g485] at A485 st485 B485
              have G_b485 : n0 ≤ b485 := Nat.le_trans Z466 (Nat.le_of_eq g485.symm)
              have sz_b485 : h0.size ≤ b485 := Nat.le_trans K466.1 (Nat.le_of_eq g485.symm)
              have ne_b466_b485 : b466 ≠ b485 := Nat.ne_of_lt (Nat.lt_of_lt_of_le f484.lt (Nat.le_of_eq g485.symm))
              have ne_bu_b485 : bu ≠ b485 := Nat.ne_of_lt (Nat.lt_of_lt_of_le f467.lt (Nat.le_of_eq g485.symm))
              have ne_b449_b485 : b449 ≠ b485 := Nat.ne_of_lt (Nat.lt_of_lt_of_le f479.lt (Nat.le_of_eq g485.symm))
              have ne_de_b485 : de ≠ b485 := Nat.ne_of_lt (Nat.lt_of_lt_of_le f471.lt (Nat.le_of_eq g485.symm))
              have ne_b430_b485 : b430 ≠ b485 := Nat.ne_of_lt (Nat.lt_of_lt_of_le f477.lt (Nat.le_of_eq g485.symm))
              have ne_b103_b485 : b103 ≠ b485 := Nat.ne_of_lt (Nat.lt_of_lt_of_le f472.lt (Nat.le_of_eq g485.symm))
              have ne_b118_b485 : b118 ≠ b485 := Nat.ne_of_lt (Nat.lt_of_lt_of_le f474.lt (Nat.le_of_eq g485.symm))
              have M_b485 : own_Nm 2 ad2 b485 := own_P.nm f476 (Nat.le_of_eq g485.symm)
              have f486 := f467.ext E485
              have f487 := f468.ext E485
              have f488 := f469.ext E485
              have f489 := f470.ext E485
              have f490 := f471.ext E485
              have f491 := f472.ext E485
              have f492 := f473.ext E485
              have f493 := f474.ext E485
              have f494 := f475.ext E485
              have f495 := f476.ext E485
              have f496 := f477.ext E485
              have f497 := f478.ext E485
              have f498 := f479.ext E485
              have f499 := f480.ext E485
              have f500 := f481.ext E485
              have f501 := f482.ext E485
              have f502 := f483.ext E485
              have f503 := f484.ext E485
              have f504 := B466.ext E485
              have Z485 : n0 ≤ h485.size := Nat.le_trans Z466 E485.1
              have K485 : Keep h0 h485 [bu] := K466.ext E485
              have f505 : own_A Z h485 b485 .double (own_S dg 2 2) (fun _ => (.double (0 : UInt64))) := own_A.new A485 (by first | rfl | decide | exact (own_natN (by have := hS 0 64 (by decide) (by decide); have := hS 1 64 (by decide) (by decide); have := hS 2 2 (by decide) (by decide); omega)))
              refine own_st st485 ?_
              refine own_st (S' := T485.setTop (mkF m 146 #[qA bu, qA de, qI (130 : Int32), qI (2 : Int32), qI (128 : Int32), qA b430, qN (own_S dg 2 2)] [.null, (.ref b485), (.ref b466), (.ref b430), (.ref b449), (.ref b449), (.int (2 : Int32)), (.ref b103)])) (fun t k => XS.aconstNull X485.here hx rfl (hb hby d27_145) k) ?_
              obtain ⟨_, _, ⟨T506, L506, k506, n506⟩, -, X506, ⟨Lc506, hQ506, l506, y506, z506⟩, st506⟩ := X485.specialBackNest hx (y := (⟨"kithrank/Graph$Page", "<init>", "([I[I[D[Lkithrank/Graph$OwnEdges;)V"⟩ : MethodName)) rfl hown (mvMN hZ (own_hw hw (i := 25) rfl)) (mvT hZ (own_hw hw (i := 26) rfl)) (mvT hZ (own_hw hw (i := 27) rfl)) (by decide) (backOf (W := 3) (rm12 l Z a0 hw [] b449 b430 b466 b485 h485 n0 Z485 f498 f499 f500 f501 f502 G_b449) hZ (own_hw hw (i := 27) rfl) (own_hw hw (i := 23) rfl) (by decide) (by decide)) (g := (mkF m 146 #[qA bu, qA de, qI (130 : Int32), qI (2 : Int32), qI (128 : Int32), qA b430, qN (own_S dg 2 2)] [.null, (.ref b485), (.ref b466), (.ref b430), (.ref b449), (.ref b449), (.int (2 : Int32)), (.ref b103)])) rfl (by rw [hml]; rfl) (Steps.refl _) (a := b449) (argsL := [(.ref b430), (.ref b466), (.ref b485), .null]) (rest := [(.ref b449), (.int (2 : Int32)), (.ref b103)]) (lenOf pd27_1 rfl) rfl (by show 2 * 0 + _ ≤ _; exact Nat.le_of_eq rfl) (hb hby d27_146) (fun _ _ => ⟨rfl, e485, (by decide : 14 + 0 ≤ _), (by decide : 302 + 0 ≤ _)⟩)
              dsimp only [Pt.U, Pt.locs, Pt.cells, Pt.slots] at X506 l506 y506 z506 st506 hQ506
              rw [l506, y506, z506] at X506
              obtain ⟨rfl, N506q, Kq506, g0_506, g1_506, g2_506, g3_506⟩ := hQ506
              have f507 := f486.keep Kq506
              have f508 := f487.keep Kq506 (ninS ne_bu_b449 nin0)
              have f509 := f488.keep Kq506 (ninS ne_bu_b449 nin0)
              have f510 := f489.keep Kq506 (ninS ne_bu_b449 nin0)
              have f511 := f490.keep Kq506 (ninS ne_de_b449 nin0)
              have f512 := f491.keep Kq506 (ninS ne_b103_b449 nin0)
              have f513 := f492.keep Kq506
              have f514 := f493.keep Kq506 (ninS ne_b118_b449 nin0)
              have f515 := f494.keep Kq506
              have f516 := f495.keep Kq506 (allS M_b449 all0)
              have f517 := f496.keep Kq506 (ninS ne_b430_b449 nin0)
              have f518 := f497.keep Kq506
              have f519 := f498.keep Kq506
              have f520 := f503.keep Kq506 (ninS (Ne.symm ne_b449_b466) nin0)
              have f521 := f504.keep Kq506
              have f522 := f505.keep Kq506 (ninS (Ne.symm ne_b449_b485) nin0)
              have f523 := B485.keep Kq506
              have Z506 : n0 ≤ T506.heap.size := Nat.le_trans Z485 Kq506.1
              have K506 : Keep h0 T506.heap [bu] := K485.trans Kq506 (allS (Or.inr sz_b449) all0)
              have N506 := Fr.app N N506q
              refine own_tr st506 ?_
              show own_Go p.tables e below _ (T506.setTop (mkF m 149 #[qA bu, qA de, qI (130 : Int32), qI (2 : Int32), qI (128 : Int32), qA b430, qN (own_S dg 2 2)] [(.ref b449), (.int (2 : Int32)), (.ref b103)]))
              have O524 := f512
              obtain ⟨c524, Ar524, S524, M524, V524⟩ := O524.toA
              obtain ⟨T524, h524, X524, e524, W524, st524⟩ := Jvm.RoadKit.stR X506 hx hZ rfl Ar524 (j := (2 : Int32)) (own_in S524 (own_ix (j := (2 : Int32)) (i := 2) (n := 3) (by decide) (by decide) (by decide))) rfl (O524.sto (Ins.self f519)) (g := (mkF m 149 #[qA bu, qA de, qI (130 : Int32), qI (2 : Int32), qI (128 : Int32), qA b430, qN (own_S dg 2 2)] [(.ref b449), (.int (2 : Int32)), (.ref b103)])) rfl rfl (hb hby d27_149)
              refine own_st st524 ?_
              have f525 := f507.wr W524
              have f526 := f508.other W524 (Or.inl ne_bu_b103)
              have f527 := f509.other W524 (Or.inl ne_bu_b103)
              have f528 := f510.other W524 (Or.inl ne_bu_b103)
              have f529 := f511.other W524 ne_de_b103
              have f530 := f513.wr W524
              have f531 := f514.other W524 (Ne.symm ne_b103_b118)
              have f532 := f515.wr W524
              have f533 := f516.other W524 M2_b103
              have f534 := f517.other W524 (Ne.symm ne_b103_b430)
              have f535 := f518.wr W524
              have f536 := f519.wr W524
              have f537 := f520.other W524 (Ne.symm ne_b103_b466)
              have f538 := f521.wr W524
              have f539 := f522.other W524 (Ne.symm ne_b103_b485)
              have f540 := f523.wr W524
              have f541 := g0_506.other W524 (Or.inl (Ne.symm ne_b103_b449))
              have f542 := g1_506.other W524 (Or.inl (Ne.symm ne_b103_b449))
              have f543 := g2_506.other W524 (Or.inl (Ne.symm ne_b103_b449))
              have f544 := g3_506.other W524 (Or.inl (Ne.symm ne_b103_b449))
              have Z524 : n0 ≤ h524.size := Nat.le_trans Z506 (Keep.of_wr W524).1
              have N524 := Fr.snoc X524 N506 G_b103
              have K524 : Keep h0 h524 [bu] := K506.wr W524 (Or.inr sz_b103)
              have f545 : own_R Z h524 b103 (.object "kithrank/Graph$Page") "kithrank/Graph$Page" 3 (own_V [(.ref b159), (.ref b304), (.ref b449)]) := (own_R.set O524 (own_ix (j := (2 : Int32)) (i := 2) (n := 3) (by decide) (by decide) (by decide)) W524).cong (fun j hj => by match j, hj with | 0, _ => rfl | 1, _ => rfl | 2, _ => rfl | j + 3, h => exact absurd h (by omega))
              refine own_st (S' := T524.setTop (mkF m 152 #[qA bu, qA de, qI (130 : Int32), qI (2 : Int32), qI (128 : Int32), qA b430, qN (own_S dg 2 2)] [(.ref bu), (.ref bu)])) (fun t k => XS.aloadN X524.here hx rfl (hb hby d27_150) rfl rfl (XS.dup X524.here hx rfl (hb hby d27_151) rfl rfl k)) ?_
              obtain ⟨T546, X546, e546, st546⟩ := getF X524 hx hZ hown (host := "") (Or.inl (own_hw hw (i := 43) rfl)) Via.refl e524 f528 (g := (mkF m 152 #[qA bu, qA de, qI (130 : Int32), qI (2 : Int32), qI (128 : Int32), qA b430, qN (own_S dg 2 2)] [(.ref bu), (.ref bu)])) rfl rfl (hb hby d27_152)
              refine own_st st546 ?_
              refine own_st (S' := T546.setTop (mkF m 159 #[qA bu, qA de, qI (130 : Int32), qI (2 : Int32), qI (128 : Int32), qA b430, qN (own_S dg 2 2)] [(.long (((en + (Int32.ofNat (own_S dg 0 64)).toInt64) + (Int32.ofNat (own_S dg 1 64)).toInt64) + (Int32.ofNat (own_S dg 2 2)).toInt64)), (.ref bu)])) (fun t k => XS.iload X546.here hx rfl (hb hby d27_155) rfl (XS.i2l X546.here hx rfl (hb hby d27_157) rfl (XS.ladd X546.here hx rfl (hb hby d27_158) rfl k))) ?_
              obtain ⟨T547, h547, X547, e547, W547, st547⟩ := putF X546 hx hZ hown (host := "") (Or.inl (own_hw hw (i := 43) rfl)) Via.refl e546 f528 f525 (Or.inl (own_hw hw (i := 44) rfl)) (own_hw hw (i := 4) rfl) (ty := .long) (by decide) rfl rfl (g := (mkF m 159 #[qA bu, qA de, qI (130 : Int32), qI (2 : Int32), qI (128 : Int32), qA b430, qN (own_S dg 2 2)] [(.long (((en + (Int32.ofNat (own_S dg 0 64)).toInt64) + (Int32.ofNat (own_S dg 1 64)).toInt64) + (Int32.ofNat (own_S dg 2 2)).toInt64)), (.ref bu)])) rfl rfl (hb hby d27_159)
              refine own_st st547 ?_
              have f548 := f525.wr W547
              have f549 := f526.other W547 (Or.inr (slot_ne (Or.inr (own_hw hw (i := 15) rfl)) (Or.inl (own_hw hw (i := 44) rfl)) (by decide) (t := (.array (.object "kithrank/Graph$Page"))) (t' := .long) (by decide) (by decide)))
              have f550 := f527.other W547 (Or.inr (slot_ne (Or.inr (own_hw hw (i := 17) rfl)) (Or.inl (own_hw hw (i := 44) rfl)) (by decide) (t := (.array .int)) (t' := .long) (by decide) (by decide)))
              have f551 := f529.other W547 (Ne.symm ne_bu_de)
              have f552 := f545.other W547 (Ne.symm ne_bu_b103)
              have f553 := f530.wr W547
              have f554 := f531.other W547 (Ne.symm ne_bu_b118)
              have f555 := f532.wr W547
              have f556 := f533.other W547 M2_bu
              have f557 := f534.other W547 (Ne.symm ne_bu_b430)
              have f558 := f535.wr W547
              have f559 := f536.wr W547
              have f560 := f537.other W547 (Ne.symm ne_bu_b466)
              have f561 := f538.wr W547
              have f562 := f539.other W547 (Ne.symm ne_bu_b485)
              have f563 := f540.wr W547
              have f564 := f541.other W547 (Or.inl (Ne.symm ne_bu_b449))
              have f565 := f542.other W547 (Or.inl (Ne.symm ne_bu_b449))
              have f566 := f543.other W547 (Or.inl (Ne.symm ne_bu_b449))
              have f567 := f544.other W547 (Or.inl (Ne.symm ne_bu_b449))
              have Z547 : n0 ≤ h547.size := Nat.le_trans Z524 (Keep.of_wr W547).1
              have N547 := Fr.snoc X547 N524 G_bu
              have K547 : Keep h0 h547 [bu] := K524.wr W547 (Or.inl (List.mem_of_getElem? (i := 0) rfl))
              have f568 : Fld Z h547 bu "kithrank/Graph$Builder" "entries" "J" (.long (((en + (Int32.ofNat (own_S dg 0 64)).toInt64) + (Int32.ofNat (own_S dg 1 64)).toInt64) + (Int32.ofNat (own_S dg 2 2)).toInt64)) := f528.same W547
              refine own_st (S' := T547.setTop (mkF m 32 #[qA bu, qA de, qI (130 : Int32), qI (3 : Int32), qI (128 : Int32), qA b430, qN (own_S dg 2 2)] [])) (fun t k => XS.iinc X547.here hx rfl (hb hby d27_162) rfl (l' := #[qA bu, qA de, qI (130 : Int32), qI (3 : Int32), qI (128 : Int32), qA b430, qN (own_S dg 2 2)]) rfl (XS.goto X547.here hx rfl (pc0 := 165) (pc' := 32) rfl (hb hby d27_165) (by decide) (by decide) k)) ?_
              have f569 : own_A Z h547 b430 .int (own_u 2 + 1) (own_N (own_S dg 2)) := own_A.cong (n := 3) f557 (fun j hj => congrArg (fun q => Value.int (Int32.ofNat q)) (own_stf_le (by omega)))
              have f570 : own_A Z h547 b466 .int (own_S dg 2 (own_u 2)) (own_I (own_zT 2)) := f560
              have f571 : own_A Z h547 b485 .double (own_S dg 2 (own_u 2)) (own_D (own_zW 2)) := f562
              obtain ⟨ad3, hd3⟩ : ∃ z : Nat → Nat → Addr, z = own_adS ad2 2 b449 b430 b466 b485 := ⟨_, rfl⟩
              have P3 : own_P Z h547 3 ad3 (own_S dg) own_zT own_zW := by rw [hd3]; exact own_P.snoc f556 f559 f558 f561 f563 f564 f565 f566 f567 f569 f570 f571
              have W3 : own_W n0 3 ad3 := by rw [hd3]; exact own_W.snoc W2 G_b449 G_b430 G_b466 G_b485 M_b449 M_b430 M_b466 M_b485 (Ne.symm ne_b430_b449) ne_b449_b466 ne_b449_b485 ne_b430_b466 ne_b430_b485 ne_b466_b485
              have M3_bu : own_Nm 3 ad3 bu := by rw [hd3]; exact own_Nm.snoc M2_bu ne_bu_b449 ne_bu_b430 ne_bu_b466 ne_bu_b485
              have M3_b118 : own_Nm 3 ad3 b118 := by rw [hd3]; exact own_Nm.snoc M2_b118 ne_b118_b449 ne_b118_b430 ne_b118_b466 ne_b118_b485
              have M3_b103 : own_Nm 3 ad3 b103 := by rw [hd3]; exact own_Nm.snoc M2_b103 ne_b103_b449 ne_b103_b430 ne_b103_b466 ne_b103_b485
              refine own_st (S' := T547.setTop (mkF m 34 #[qA bu, qA de, qI (130 : Int32), qI (3 : Int32), qI (128 : Int32), qA b430, qN (own_S dg 2 2)] [(.ref bu), (.int (3 : Int32))])) (fun t k => XS.iloadN X547.here hx rfl (hb hby d27_32) rfl (XS.aloadN X547.here hx rfl (hb hby d27_33) rfl rfl k)) ?_
              obtain ⟨T572, X572, e572, st572⟩ := getF X547 hx hZ hown (host := "") (Or.inl (own_hw hw (i := 14) rfl)) Via.refl e547 f549 (g := (mkF m 34 #[qA bu, qA de, qI (130 : Int32), qI (3 : Int32), qI (128 : Int32), qA b430, qN (own_S dg 2 2)] [(.ref bu), (.int (3 : Int32))])) rfl rfl (hb hby d27_34)
              refine own_st st572 ?_
              have O573 := f552.toA
              obtain ⟨c573, Ar573, S573, M573, V573⟩ := O573
              have ln573 : c573.slots.size.toInt32 = (3 : Int32) := by rw [S573]; try (first | rfl | decide | exact rfl)
              refine own_st (S' := T572.setTop (mkF m 168 #[qA bu, qA de, qI (130 : Int32), qI (3 : Int32), qI (128 : Int32), qA b430, qN (own_S dg 2 2)] [])) (fun t k => X572.arraylength hx (by rw [e572]; exact Ar573.1) (State.isArrayOf_alike hZ.alike Ar573.2.1) (g := (mkF m 37 #[qA bu, qA de, qI (130 : Int32), qI (3 : Int32), qI (128 : Int32), qA b430, qN (own_S dg 2 2)] [(.ref b103), (.int (3 : Int32))])) rfl rfl (hb hby d27_37) _ (by rw [ln573]; exact (XS.icmpYes X572.here hx rfl (pc0 := 38) (pc' := 168) rfl (hb hby d27_38) rfl (flt (by decide)).2.1 (by decide) (by decide) k))) ?_
              have f574 : own_A Z h547 b103 (.object "kithrank/Graph$Page") 3 (own_Rf (ad3 0)) := f552.toA.cong (fun j hj => by rw [hd3, hd2, hd1]; match j, hj with | 0, _ => rfl | 1, _ => rfl | 2, _ => rfl | j + 3, h => exact absurd h (by omega))
              have f575 : own_A Z h547 b118 .int 130 (own_N (own_nx0 dg)) := f554.cong (fun j hj => congrArg (fun q => Value.int (Int32.ofNat q)) (if_pos (by omega)))
              refine own_retV X572 hx hret hlk (hb hby d27_168) ?_ (by decide) (by decide)
              rw [e572]
              exact ⟨ad3, b103, b118, rfl, N547, K547, sz_b103, sz_b118, ne_b103_b118, f549, f550, f574, f575, P3, W3, M3_bu, M3_b103, M3_b118, ⟨_, f568⟩⟩
            | succ n ih =>
              intro T L i X N K Zz lf0 lf1 lf2 lf3 lf4 lf5 lf6 lf7 lf8 lf9 lf10 lf11 hi
              have O576 := lf10
              obtain ⟨c576, Ar576, S576, M576, V576⟩ := O576
              have ln576 : c576.slots.size.toInt32 = (3 : Int32) := by rw [S576]; try (first | rfl | decide | exact rfl)
              refine own_st (S' := T.setTop (mkF m 72 #[qA bu, qA de, qI (130 : Int32), qI (2 : Int32), qI (128 : Int32), qA b430, qN i] [(.int (3 : Int32)), (.int ((Int32.ofNat i) + (1 : Int32)))])) (fun t k => XS.iload X.here hx rfl (hb hby d27_65) rfl (XS.iconst X.here hx rfl (hb hby d27_67) (XS.iadd X.here hx rfl (hb hby d27_68) rfl (XS.aload X.here hx rfl (hb hby d27_69) rfl rfl (X.arraylength hx Ar576.1 (State.isArrayOf_alike hZ.alike Ar576.2.1) (g := (mkF m 71 #[qA bu, qA de, qI (130 : Int32), qI (2 : Int32), qI (128 : Int32), qA b430, qN i] [(.ref b430), (.int ((Int32.ofNat i) + (1 : Int32)))])) rfl rfl (hb hby d27_71) _ (by rw [ln576]; exact k)))))) ?_
              refine own_st (S' := T.setTop (mkF m 72 #[qA bu, qA de, qI (130 : Int32), qI (2 : Int32), qI (128 : Int32), qA b430, qN i] [(.int (3 : Int32)), qV (i + 1)])) (fun t k => by rw [own_incN (i := i) (by omega)]; exact k) ?_
              have hc577 : (Int32.ofNat (i + 1)) < (3 : Int32) := (own_ltN (n := 3) (by omega) (by omega)).mpr (by omega)
              refine own_st (S' := T.setTop (mkF m 76 #[qA bu, qA de, qI (130 : Int32), qI (2 : Int32), qI (128 : Int32), qA b430, qN i] [(.ref bu)])) (fun t k => XS.icmpNo X.here hx rfl (hb hby d27_72) rfl (tlt hc577).2.1 (XS.aloadN X.here hx rfl (hb hby d27_75) rfl rfl k)) ?_
              obtain ⟨T578, X578, e578, st578⟩ := getF X hx hZ hown (host := "") (Or.inl (own_hw hw (i := 16) rfl)) Via.refl rfl lf2 (g := (mkF m 76 #[qA bu, qA de, qI (130 : Int32), qI (2 : Int32), qI (128 : Int32), qA b430, qN i] [(.ref bu)])) rfl rfl (hb hby d27_76)
              refine own_st st578 ?_
              have O579 := lf10
              obtain ⟨c579, Ar579, S579, M579, V579⟩ := O579
              have at579 : c579.slots[((Int32.ofNat i)).toNatClampNeg]? = some (.int (Int32.ofNat (own_stf dg 2 i i))) := own_at S579 V579 (own_ixN (by omega) (by decide)) rfl
              refine own_st (S' := T578.setTop (mkF m 89 #[qA bu, qA de, qI (130 : Int32), qI (2 : Int32), qI (128 : Int32), qA b430, qN i] [qV (own_stf dg 2 i i), (.int ((128 : Int32) + (Int32.ofNat i))), (.ref b118)])) (fun t k => XS.iload X578.here hx rfl (hb hby d27_79) rfl (XS.iload X578.here hx rfl (hb hby d27_81) rfl (XS.iadd X578.here hx rfl (hb hby d27_83) rfl (XS.aload X578.here hx rfl (hb hby d27_84) rfl rfl (XS.iload X578.here hx rfl (hb hby d27_86) rfl (X578.iaload hx (j := (Int32.ofNat i)) (v := (.int (Int32.ofNat (own_stf dg 2 i i)))) (by rw [e578]; exact Ar579.1) (State.isArrayOf_alike hZ.alike Ar579.2.1) Ar579.2.2 (own_in S579 (own_ixN (by omega) (by decide))) at579 (g := (mkF m 88 #[qA bu, qA de, qI (130 : Int32), qI (2 : Int32), qI (128 : Int32), qA b430, qN i] [qV i, (.ref b430), (.int ((128 : Int32) + (Int32.ofNat i))), (.ref b118)])) rfl rfl (hb hby d27_88) _ k)))))) ?_
              have O580 := lf7
              obtain ⟨c580, Ar580, S580, M580, V580⟩ := O580
              obtain ⟨T580, h580, X580, e580, W580, st580⟩ := stI X578 hx hZ e578 Ar580 (j := ((128 : Int32) + (Int32.ofNat i))) (own_in S580 (by rw [show ((128 : Int32) + (Int32.ofNat i) : Int32) = Int32.ofNat (128 + i) from own_addN (i := 128) (by omega)]; exact own_ixN (by omega) (by decide))) (g := (mkF m 89 #[qA bu, qA de, qI (130 : Int32), qI (2 : Int32), qI (128 : Int32), qA b430, qN i] [qV (own_stf dg 2 i i), (.int ((128 : Int32) + (Int32.ofNat i))), (.ref b118)])) rfl rfl (hb hby d27_89)
              refine own_st st580 ?_
              have f581 := lf0.wr W580
              have f582 := lf1.other W580 (Or.inl ne_bu_b118)
              have f583 := lf2.other W580 (Or.inl ne_bu_b118)
              have f584 := lf3.other W580 (Or.inl ne_bu_b118)
              have f585 := lf4.other W580 ne_de_b118
              have f586 := lf5.other W580 ne_b103_b118
              have f587 := lf6.wr W580
              have f588 := lf8.wr W580
              have f589 := lf9.other W580 M2_b118
              have f590 := lf10.other W580 (Ne.symm ne_b118_b430)
              have f591 := lf11.wr W580
              have Z580 : n0 ≤ h580.size := Nat.le_trans Zz (Keep.of_wr W580).1
              have N580 := Fr.snoc X580 N G_b118
              have K580 : Keep h0 h580 [bu] := K.wr W580 (Or.inr sz_b118)
              have f592 : own_A Z h580 b118 .int 130 (own_N (own_uN (own_nxf dg (128 + i)) (128 + i) (own_stf dg 2 i i))) := (own_A.set ⟨c580, Ar580, S580, M580, V580⟩ (by rw [show ((128 : Int32) + (Int32.ofNat i) : Int32) = Int32.ofNat (128 + i) from own_addN (i := 128) (by omega)]; exact own_ixN (by omega) (by decide)) W580).cong (fun q _ => congrFun (own_upN (own_nxf dg (128 + i)) (128 + i) (own_stf dg 2 i i)) q)
              have O593 := f590
              obtain ⟨c593, Ar593, S593, M593, V593⟩ := O593
              have at593 : c593.slots[((Int32.ofNat i)).toNatClampNeg]? = some (.int (Int32.ofNat (own_stf dg 2 i i))) := own_at S593 V593 (own_ixN (by omega) (by decide)) rfl
              refine own_st (S' := T580.setTop (mkF m 102 #[qA bu, qA de, qI (130 : Int32), qI (2 : Int32), qI (128 : Int32), qA b430, qN i] [(.ref de), qV (own_stf dg 2 i i), (.int ((Int32.ofNat i) + (1 : Int32))), (.ref b430)])) (fun t k => XS.aload X580.here hx rfl (hb hby d27_90) rfl rfl (XS.iload X580.here hx rfl (hb hby d27_92) rfl (XS.iconst X580.here hx rfl (hb hby d27_94) (XS.iadd X580.here hx rfl (hb hby d27_95) rfl (XS.aload X580.here hx rfl (hb hby d27_96) rfl rfl (XS.iload X580.here hx rfl (hb hby d27_98) rfl (X580.iaload hx (j := (Int32.ofNat i)) (v := (.int (Int32.ofNat (own_stf dg 2 i i)))) (by rw [e580]; exact Ar593.1) (State.isArrayOf_alike hZ.alike Ar593.2.1) Ar593.2.2 (own_in S593 (own_ixN (by omega) (by decide))) at593 (g := (mkF m 100 #[qA bu, qA de, qI (130 : Int32), qI (2 : Int32), qI (128 : Int32), qA b430, qN i] [qV i, (.ref b430), (.int ((Int32.ofNat i) + (1 : Int32))), (.ref b430)])) rfl rfl (hb hby d27_100) _ (XS.aloadN X580.here hx rfl (hb hby d27_101) rfl rfl k)))))))) ?_
              have O594 := f585
              obtain ⟨c594, Ar594, S594, M594, V594⟩ := O594
              have at594 : c594.slots[(((128 : Int32) + (Int32.ofNat i))).toNatClampNeg]? = some (.int (Int32.ofNat (dg (128 + i)))) := own_at S594 V594 (by rw [show ((128 : Int32) + (Int32.ofNat i) : Int32) = Int32.ofNat (128 + i) from own_addN (i := 128) (by omega)]; exact own_ixN (by omega) (by decide)) rfl
              refine own_st (S' := T580.setTop (mkF m 109 #[qA bu, qA de, qI (130 : Int32), qI (2 : Int32), qI (128 : Int32), qA b430, qN i] [(.int ((Int32.ofNat (own_stf dg 2 i i)) + (Int32.ofNat (dg (128 + i))))), (.int ((Int32.ofNat i) + (1 : Int32))), (.ref b430)])) (fun t k => XS.iload X580.here hx rfl (hb hby d27_102) rfl (XS.iload X580.here hx rfl (hb hby d27_104) rfl (XS.iadd X580.here hx rfl (hb hby d27_106) rfl (X580.iaload hx (j := ((128 : Int32) + (Int32.ofNat i))) (v := (.int (Int32.ofNat (dg (128 + i))))) (by rw [e580]; exact Ar594.1) (State.isArrayOf_alike hZ.alike Ar594.2.1) Ar594.2.2 (own_in S594 (by rw [show ((128 : Int32) + (Int32.ofNat i) : Int32) = Int32.ofNat (128 + i) from own_addN (i := 128) (by omega)]; exact own_ixN (by omega) (by decide))) at594 (g := (mkF m 107 #[qA bu, qA de, qI (130 : Int32), qI (2 : Int32), qI (128 : Int32), qA b430, qN i] [(.int ((128 : Int32) + (Int32.ofNat i))), (.ref de), qV (own_stf dg 2 i i), (.int ((Int32.ofNat i) + (1 : Int32))), (.ref b430)])) rfl rfl (hb hby d27_107) _ (XS.iadd X580.here hx rfl (hb hby d27_108) rfl k))))) ?_
              refine own_st (S' := T580.setTop (mkF m 109 #[qA bu, qA de, qI (130 : Int32), qI (2 : Int32), qI (128 : Int32), qA b430, qN i] [(.int ((Int32.ofNat (own_stf dg 2 i i)) + (Int32.ofNat (dg (128 + i))))), qV (i + 1), (.ref b430)])) (fun t k => by rw [own_incN (i := i) (by omega)]; exact k) ?_
              have hs1 : own_stf dg 2 i i + dg (128 + i) = own_S dg 2 (i + 1) := by rw [own_stf_le (Nat.le_refl i)]; show _ = own_S dg 2 i + dg (64 * 2 + i); rw [show 64 * 2 = 128 from rfl]
              have hs2 := hS 2 (i + 1) (by decide) (by omega)
              refine own_st (S' := T580.setTop (mkF m 109 #[qA bu, qA de, qI (130 : Int32), qI (2 : Int32), qI (128 : Int32), qA b430, qN i] [qV (own_S dg 2 (i + 1)), qV (i + 1), (.ref b430)])) (fun t k => by rw [show (((Int32.ofNat (own_stf dg 2 i i)) + (Int32.ofNat (dg (128 + i)))) : Int32) = (Int32.ofNat (own_S dg 2 (i + 1))) from (own_addN (by omega)).trans (congrArg Int32.ofNat hs1)]; exact k) ?_
              have O595 := f590
              obtain ⟨c595, Ar595, S595, M595, V595⟩ := O595
              obtain ⟨T595, h595, X595, e595, W595, st595⟩ := stI X580 hx hZ e580 Ar595 (j := (Int32.ofNat (i + 1))) (own_in S595 (own_ixN (by omega) (by decide))) (g := (mkF m 109 #[qA bu, qA de, qI (130 : Int32), qI (2 : Int32), qI (128 : Int32), qA b430, qN i] [qV (own_S dg 2 (i + 1)), qV (i + 1), (.ref b430)])) rfl rfl (hb hby d27_109)
              refine own_st st595 ?_
              have f596 := f581.wr W595
              have f597 := f582.other W595 (Or.inl ne_bu_b430)
              have f598 := f583.other W595 (Or.inl ne_bu_b430)
              have f599 := f584.other W595 (Or.inl ne_bu_b430)
              have f600 := f585.other W595 ne_de_b430
              have f601 := f586.other W595 ne_b103_b430
              have f602 := f587.wr W595
              have f603 := f592.other W595 ne_b118_b430
              have f604 := f588.wr W595
              have f605 := f589.other W595 M_b430
              have f606 := f591.wr W595
              have Z595 : n0 ≤ h595.size := Nat.le_trans Z580 (Keep.of_wr W595).1
              have N595 := Fr.snoc X595 N580 G_b430
              have K595 : Keep h0 h595 [bu] := K580.wr W595 (Or.inr sz_b430)
              have f607 : own_A Z h595 b430 .int 3 (own_N (own_uN (own_stf dg 2 i) (i + 1) (own_S dg 2 (i + 1)))) := (own_A.set ⟨c595, Ar595, S595, M595, V595⟩ (own_ixN (by omega) (by decide)) W595).cong (fun q _ => congrFun (own_upN (own_stf dg 2 i) (i + 1) (own_S dg 2 (i + 1))) q)
              refine own_st (S' := T595.setTop (mkF m 65 #[qA bu, qA de, qI (130 : Int32), qI (2 : Int32), qI (128 : Int32), qA b430, qI ((Int32.ofNat i) + (1 : Int32))] [])) (fun t k => XS.iinc X595.here hx rfl (hb hby d27_110) rfl (l' := #[qA bu, qA de, qI (130 : Int32), qI (2 : Int32), qI (128 : Int32), qA b430, qI ((Int32.ofNat i) + (1 : Int32))]) rfl (XS.goto X595.here hx rfl (pc0 := 113) (pc' := 65) rfl (hb hby d27_113) (by decide) (by decide) k)) ?_
              have f608 : own_A Z h595 b430 .int 3 (own_N (own_stf dg 2 (i + 1))) := by rw [← own_stfU]; exact f607
              have f609 : own_A Z h595 b118 .int 130 (own_N (own_nxf dg (128 + (i + 1)))) := by rw [← Nat.add_assoc, ← own_nxfU (P := 2) (i := i) dg (by omega) (by omega)]; exact f603
              rw [own_incN (by omega)]
              exact ih _ _ (i + 1) X595 N595 (by rw [e595]; exact K595) (by rw [e595]; exact Z595) (by rw [e595]; exact f596) (by rw [e595]; exact f597) (by rw [e595]; exact f598) (by rw [e595]; exact f599) (by rw [e595]; exact f600) (by rw [e595]; exact f601) (by rw [e595]; exact f602) (by rw [e595]; exact f609) (by rw [e595]; exact f604) (by rw [e595]; exact f605) (by rw [e595]; exact f608) (by rw [e595]; exact f606) (by omega)
          exact loop 2 _ _ 0 X430 N429 (by rw [e430]; exact K430) (by rw [e430]; exact Z430) (by rw [e430]; exact f431) (by rw [e430]; exact f432) (by rw [e430]; exact f433) (by rw [e430]; exact f434) (by rw [e430]; exact f435) (by rw [e430]; exact f436) (by rw [e430]; exact f437) (by rw [e430]; exact f443) (by rw [e430]; exact f439) (by rw [e430]; exact f440) (by rw [e430]; exact f442) (by rw [e430]; exact B430) (by omega)
        | succ n ih =>
          intro T L i X N K Zz lf0 lf1 lf2 lf3 lf4 lf5 lf6 lf7 lf8 lf9 lf10 lf11 hi
          have O610 := lf10
          obtain ⟨c610, Ar610, S610, M610, V610⟩ := O610
          have ln610 : c610.slots.size.toInt32 = (65 : Int32) := by rw [S610]; try (first | rfl | decide | exact rfl)
          refine own_st (S' := T.setTop (mkF m 72 #[qA bu, qA de, qI (130 : Int32), qI (1 : Int32), qI (64 : Int32), qA b285, qN i] [(.int (65 : Int32)), (.int ((Int32.ofNat i) + (1 : Int32)))])) (fun t k => XS.iload X.here hx rfl (hb hby d27_65) rfl (XS.iconst X.here hx rfl (hb hby d27_67) (XS.iadd X.here hx rfl (hb hby d27_68) rfl (XS.aload X.here hx rfl (hb hby d27_69) rfl rfl (X.arraylength hx Ar610.1 (State.isArrayOf_alike hZ.alike Ar610.2.1) (g := (mkF m 71 #[qA bu, qA de, qI (130 : Int32), qI (1 : Int32), qI (64 : Int32), qA b285, qN i] [(.ref b285), (.int ((Int32.ofNat i) + (1 : Int32)))])) rfl rfl (hb hby d27_71) _ (by rw [ln610]; exact k)))))) ?_
          refine own_st (S' := T.setTop (mkF m 72 #[qA bu, qA de, qI (130 : Int32), qI (1 : Int32), qI (64 : Int32), qA b285, qN i] [(.int (65 : Int32)), qV (i + 1)])) (fun t k => by rw [own_incN (i := i) (by omega)]; exact k) ?_
          have hc611 : (Int32.ofNat (i + 1)) < (65 : Int32) := (own_ltN (n := 65) (by omega) (by omega)).mpr (by omega)
          refine own_st (S' := T.setTop (mkF m 76 #[qA bu, qA de, qI (130 : Int32), qI (1 : Int32), qI (64 : Int32), qA b285, qN i] [(.ref bu)])) (fun t k => XS.icmpNo X.here hx rfl (hb hby d27_72) rfl (tlt hc611).2.1 (XS.aloadN X.here hx rfl (hb hby d27_75) rfl rfl k)) ?_
          obtain ⟨T612, X612, e612, st612⟩ := getF X hx hZ hown (host := "") (Or.inl (own_hw hw (i := 16) rfl)) Via.refl rfl lf2 (g := (mkF m 76 #[qA bu, qA de, qI (130 : Int32), qI (1 : Int32), qI (64 : Int32), qA b285, qN i] [(.ref bu)])) rfl rfl (hb hby d27_76)
          refine own_st st612 ?_
          have O613 := lf10
          obtain ⟨c613, Ar613, S613, M613, V613⟩ := O613
          have at613 : c613.slots[((Int32.ofNat i)).toNatClampNeg]? = some (.int (Int32.ofNat (own_stf dg 1 i i))) := own_at S613 V613 (own_ixN (by omega) (by decide)) rfl
          refine own_st (S' := T612.setTop (mkF m 89 #[qA bu, qA de, qI (130 : Int32), qI (1 : Int32), qI (64 : Int32), qA b285, qN i] [qV (own_stf dg 1 i i), (.int ((64 : Int32) + (Int32.ofNat i))), (.ref b118)])) (fun t k => XS.iload X612.here hx rfl (hb hby d27_79) rfl (XS.iload X612.here hx rfl (hb hby d27_81) rfl (XS.iadd X612.here hx rfl (hb hby d27_83) rfl (XS.aload X612.here hx rfl (hb hby d27_84) rfl rfl (XS.iload X612.here hx rfl (hb hby d27_86) rfl (X612.iaload hx (j := (Int32.ofNat i)) (v := (.int (Int32.ofNat (own_stf dg 1 i i)))) (by rw [e612]; exact Ar613.1) (State.isArrayOf_alike hZ.alike Ar613.2.1) Ar613.2.2 (own_in S613 (own_ixN (by omega) (by decide))) at613 (g := (mkF m 88 #[qA bu, qA de, qI (130 : Int32), qI (1 : Int32), qI (64 : Int32), qA b285, qN i] [qV i, (.ref b285), (.int ((64 : Int32) + (Int32.ofNat i))), (.ref b118)])) rfl rfl (hb hby d27_88) _ k)))))) ?_
          have O614 := lf7
          obtain ⟨c614, Ar614, S614, M614, V614⟩ := O614
          obtain ⟨T614, h614, X614, e614, W614, st614⟩ := stI X612 hx hZ e612 Ar614 (j := ((64 : Int32) + (Int32.ofNat i))) (own_in S614 (by rw [show ((64 : Int32) + (Int32.ofNat i) : Int32) = Int32.ofNat (64 + i) from own_addN (i := 64) (by omega)]; exact own_ixN (by omega) (by decide))) (g := (mkF m 89 #[qA bu, qA de, qI (130 : Int32), qI (1 : Int32), qI (64 : Int32), qA b285, qN i] [qV (own_stf dg 1 i i), (.int ((64 : Int32) + (Int32.ofNat i))), (.ref b118)])) rfl rfl (hb hby d27_89)
          refine own_st st614 ?_
          have f615 := lf0.wr W614
          have f616 := lf1.other W614 (Or.inl ne_bu_b118)
          have f617 := lf2.other W614 (Or.inl ne_bu_b118)
          have f618 := lf3.other W614 (Or.inl ne_bu_b118)
          have f619 := lf4.other W614 ne_de_b118
          have f620 := lf5.other W614 ne_b103_b118
          have f621 := lf6.wr W614
          have f622 := lf8.wr W614
          have f623 := lf9.other W614 M1_b118
          have f624 := lf10.other W614 (Ne.symm ne_b118_b285)
          have f625 := lf11.wr W614
          have Z614 : n0 ≤ h614.size := Nat.le_trans Zz (Keep.of_wr W614).1
          have N614 := Fr.snoc X614 N G_b118
          have K614 : Keep h0 h614 [bu] := K.wr W614 (Or.inr sz_b118)
          have f626 : own_A Z h614 b118 .int 130 (own_N (own_uN (own_nxf dg (64 + i)) (64 + i) (own_stf dg 1 i i))) := (own_A.set ⟨c614, Ar614, S614, M614, V614⟩ (by rw [show ((64 : Int32) + (Int32.ofNat i) : Int32) = Int32.ofNat (64 + i) from own_addN (i := 64) (by omega)]; exact own_ixN (by omega) (by decide)) W614).cong (fun q _ => congrFun (own_upN (own_nxf dg (64 + i)) (64 + i) (own_stf dg 1 i i)) q)
          have O627 := f624
          obtain ⟨c627, Ar627, S627, M627, V627⟩ := O627
          have at627 : c627.slots[((Int32.ofNat i)).toNatClampNeg]? = some (.int (Int32.ofNat (own_stf dg 1 i i))) := own_at S627 V627 (own_ixN (by omega) (by decide)) rfl
          refine own_st (S' := T614.setTop (mkF m 102 #[qA bu, qA de, qI (130 : Int32), qI (1 : Int32), qI (64 : Int32), qA b285, qN i] [(.ref de), qV (own_stf dg 1 i i), (.int ((Int32.ofNat i) + (1 : Int32))), (.ref b285)])) (fun t k => XS.aload X614.here hx rfl (hb hby d27_90) rfl rfl (XS.iload X614.here hx rfl (hb hby d27_92) rfl (XS.iconst X614.here hx rfl (hb hby d27_94) (XS.iadd X614.here hx rfl (hb hby d27_95) rfl (XS.aload X614.here hx rfl (hb hby d27_96) rfl rfl (XS.iload X614.here hx rfl (hb hby d27_98) rfl (X614.iaload hx (j := (Int32.ofNat i)) (v := (.int (Int32.ofNat (own_stf dg 1 i i)))) (by rw [e614]; exact Ar627.1) (State.isArrayOf_alike hZ.alike Ar627.2.1) Ar627.2.2 (own_in S627 (own_ixN (by omega) (by decide))) at627 (g := (mkF m 100 #[qA bu, qA de, qI (130 : Int32), qI (1 : Int32), qI (64 : Int32), qA b285, qN i] [qV i, (.ref b285), (.int ((Int32.ofNat i) + (1 : Int32))), (.ref b285)])) rfl rfl (hb hby d27_100) _ (XS.aloadN X614.here hx rfl (hb hby d27_101) rfl rfl k)))))))) ?_
          have O628 := f619
          obtain ⟨c628, Ar628, S628, M628, V628⟩ := O628
          have at628 : c628.slots[(((64 : Int32) + (Int32.ofNat i))).toNatClampNeg]? = some (.int (Int32.ofNat (dg (64 + i)))) := own_at S628 V628 (by rw [show ((64 : Int32) + (Int32.ofNat i) : Int32) = Int32.ofNat (64 + i) from own_addN (i := 64) (by omega)]; exact own_ixN (by omega) (by decide)) rfl
          refine own_st (S' := T614.setTop (mkF m 109 #[qA bu, qA de, qI (130 : Int32), qI (1 : Int32), qI (64 : Int32), qA b285, qN i] [(.int ((Int32.ofNat (own_stf dg 1 i i)) + (Int32.ofNat (dg (64 + i))))), (.int ((Int32.ofNat i) + (1 : Int32))), (.ref b285)])) (fun t k => XS.iload X614.here hx rfl (hb hby d27_102) rfl (XS.iload X614.here hx rfl (hb hby d27_104) rfl (XS.iadd X614.here hx rfl (hb hby d27_106) rfl (X614.iaload hx (j := ((64 : Int32) + (Int32.ofNat i))) (v := (.int (Int32.ofNat (dg (64 + i))))) (by rw [e614]; exact Ar628.1) (State.isArrayOf_alike hZ.alike Ar628.2.1) Ar628.2.2 (own_in S628 (by rw [show ((64 : Int32) + (Int32.ofNat i) : Int32) = Int32.ofNat (64 + i) from own_addN (i := 64) (by omega)]; exact own_ixN (by omega) (by decide))) at628 (g := (mkF m 107 #[qA bu, qA de, qI (130 : Int32), qI (1 : Int32), qI (64 : Int32), qA b285, qN i] [(.int ((64 : Int32) + (Int32.ofNat i))), (.ref de), qV (own_stf dg 1 i i), (.int ((Int32.ofNat i) + (1 : Int32))), (.ref b285)])) rfl rfl (hb hby d27_107) _ (XS.iadd X614.here hx rfl (hb hby d27_108) rfl k))))) ?_
          refine own_st (S' := T614.setTop (mkF m 109 #[qA bu, qA de, qI (130 : Int32), qI (1 : Int32), qI (64 : Int32), qA b285, qN i] [(.int ((Int32.ofNat (own_stf dg 1 i i)) + (Int32.ofNat (dg (64 + i))))), qV (i + 1), (.ref b285)])) (fun t k => by rw [own_incN (i := i) (by omega)]; exact k) ?_
          have hs1 : own_stf dg 1 i i + dg (64 + i) = own_S dg 1 (i + 1) := by rw [own_stf_le (Nat.le_refl i)]; show _ = own_S dg 1 i + dg (64 * 1 + i); rw [show 64 * 1 = 64 from rfl]
          have hs2 := hS 1 (i + 1) (by decide) (by omega)
          refine own_st (S' := T614.setTop (mkF m 109 #[qA bu, qA de, qI (130 : Int32), qI (1 : Int32), qI (64 : Int32), qA b285, qN i] [qV (own_S dg 1 (i + 1)), qV (i + 1), (.ref b285)])) (fun t k => by rw [show (((Int32.ofNat (own_stf dg 1 i i)) + (Int32.ofNat (dg (64 + i)))) : Int32) = (Int32.ofNat (own_S dg 1 (i + 1))) from (own_addN (by omega)).trans (congrArg Int32.ofNat hs1)]; exact k) ?_
          have O629 := f624
          obtain ⟨c629, Ar629, S629, M629, V629⟩ := O629
          obtain ⟨T629, h629, X629, e629, W629, st629⟩ := stI X614 hx hZ e614 Ar629 (j := (Int32.ofNat (i + 1))) (own_in S629 (own_ixN (by omega) (by decide))) (g := (mkF m 109 #[qA bu, qA de, qI (130 : Int32), qI (1 : Int32), qI (64 : Int32), qA b285, qN i] [qV (own_S dg 1 (i + 1)), qV (i + 1), (.ref b285)])) rfl rfl (hb hby d27_109)
          refine own_st st629 ?_
          have f630 := f615.wr W629
          have f631 := f616.other W629 (Or.inl ne_bu_b285)
          have f632 := f617.other W629 (Or.inl ne_bu_b285)
          have f633 := f618.other W629 (Or.inl ne_bu_b285)
          have f634 := f619.other W629 ne_de_b285
          have f635 := f620.other W629 ne_b103_b285
          have f636 := f621.wr W629
          have f637 := f626.other W629 ne_b118_b285
          have f638 := f622.wr W629
          have f639 := f623.other W629 M_b285
          have f640 := f625.wr W629
          have Z629 : n0 ≤ h629.size := Nat.le_trans Z614 (Keep.of_wr W629).1
          have N629 := Fr.snoc X629 N614 G_b285
          have K629 : Keep h0 h629 [bu] := K614.wr W629 (Or.inr sz_b285)
          have f641 : own_A Z h629 b285 .int 65 (own_N (own_uN (own_stf dg 1 i) (i + 1) (own_S dg 1 (i + 1)))) := (own_A.set ⟨c629, Ar629, S629, M629, V629⟩ (own_ixN (by omega) (by decide)) W629).cong (fun q _ => congrFun (own_upN (own_stf dg 1 i) (i + 1) (own_S dg 1 (i + 1))) q)
          refine own_st (S' := T629.setTop (mkF m 65 #[qA bu, qA de, qI (130 : Int32), qI (1 : Int32), qI (64 : Int32), qA b285, qI ((Int32.ofNat i) + (1 : Int32))] [])) (fun t k => XS.iinc X629.here hx rfl (hb hby d27_110) rfl (l' := #[qA bu, qA de, qI (130 : Int32), qI (1 : Int32), qI (64 : Int32), qA b285, qI ((Int32.ofNat i) + (1 : Int32))]) rfl (XS.goto X629.here hx rfl (pc0 := 113) (pc' := 65) rfl (hb hby d27_113) (by decide) (by decide) k)) ?_
          have f642 : own_A Z h629 b285 .int 65 (own_N (own_stf dg 1 (i + 1))) := by rw [← own_stfU]; exact f641
          have f643 : own_A Z h629 b118 .int 130 (own_N (own_nxf dg (64 + (i + 1)))) := by rw [← Nat.add_assoc, ← own_nxfU (P := 1) (i := i) dg (by omega) (by omega)]; exact f637
          rw [own_incN (by omega)]
          exact ih _ _ (i + 1) X629 N629 (by rw [e629]; exact K629) (by rw [e629]; exact Z629) (by rw [e629]; exact f630) (by rw [e629]; exact f631) (by rw [e629]; exact f632) (by rw [e629]; exact f633) (by rw [e629]; exact f634) (by rw [e629]; exact f635) (by rw [e629]; exact f636) (by rw [e629]; exact f643) (by rw [e629]; exact f638) (by rw [e629]; exact f639) (by rw [e629]; exact f642) (by rw [e629]; exact f640) (by omega)
      exact loop 64 _ _ 0 X285 N284 (by rw [e285]; exact K285) (by rw [e285]; exact Z285) (by rw [e285]; exact f286) (by rw [e285]; exact f287) (by rw [e285]; exact f288) (by rw [e285]; exact f289) (by rw [e285]; exact f290) (by rw [e285]; exact f291) (by rw [e285]; exact f292) (by rw [e285]; exact f298) (by rw [e285]; exact f294) (by rw [e285]; exact f295) (by rw [e285]; exact f297) (by rw [e285]; exact B285) (by omega)
    | succ n ih =>
      intro T L i X N K Zz lf0 lf1 lf2 lf3 lf4 lf5 lf6 lf7 lf8 lf9 lf10 lf11 hi
      have O644 := lf10
      obtain ⟨c644, Ar644, S644, M644, V644⟩ := O644
      have ln644 : c644.slots.size.toInt32 = (65 : Int32) := by rw [S644]; try (first | rfl | decide | exact rfl)
      refine own_st (S' := T.setTop (mkF m 72 #[qA bu, qA de, qI (130 : Int32), qI (0 : Int32), qI (0 : Int32), qA b141, qN i] [(.int (65 : Int32)), (.int ((Int32.ofNat i) + (1 : Int32)))])) (fun t k => XS.iload X.here hx rfl (hb hby d27_65) rfl (XS.iconst X.here hx rfl (hb hby d27_67) (XS.iadd X.here hx rfl (hb hby d27_68) rfl (XS.aload X.here hx rfl (hb hby d27_69) rfl rfl (X.arraylength hx Ar644.1 (State.isArrayOf_alike hZ.alike Ar644.2.1) (g := (mkF m 71 #[qA bu, qA de, qI (130 : Int32), qI (0 : Int32), qI (0 : Int32), qA b141, qN i] [(.ref b141), (.int ((Int32.ofNat i) + (1 : Int32)))])) rfl rfl (hb hby d27_71) _ (by rw [ln644]; exact k)))))) ?_
      refine own_st (S' := T.setTop (mkF m 72 #[qA bu, qA de, qI (130 : Int32), qI (0 : Int32), qI (0 : Int32), qA b141, qN i] [(.int (65 : Int32)), qV (i + 1)])) (fun t k => by rw [own_incN (i := i) (by omega)]; exact k) ?_
      have hc645 : (Int32.ofNat (i + 1)) < (65 : Int32) := (own_ltN (n := 65) (by omega) (by omega)).mpr (by omega)
      refine own_st (S' := T.setTop (mkF m 76 #[qA bu, qA de, qI (130 : Int32), qI (0 : Int32), qI (0 : Int32), qA b141, qN i] [(.ref bu)])) (fun t k => XS.icmpNo X.here hx rfl (hb hby d27_72) rfl (tlt hc645).2.1 (XS.aloadN X.here hx rfl (hb hby d27_75) rfl rfl k)) ?_
      obtain ⟨T646, X646, e646, st646⟩ := getF X hx hZ hown (host := "") (Or.inl (own_hw hw (i := 16) rfl)) Via.refl rfl lf2 (g := (mkF m 76 #[qA bu, qA de, qI (130 : Int32), qI (0 : Int32), qI (0 : Int32), qA b141, qN i] [(.ref bu)])) rfl rfl (hb hby d27_76)
      refine own_st st646 ?_
      have O647 := lf10
      obtain ⟨c647, Ar647, S647, M647, V647⟩ := O647
      have at647 : c647.slots[((Int32.ofNat i)).toNatClampNeg]? = some (.int (Int32.ofNat (own_stf dg 0 i i))) := own_at S647 V647 (own_ixN (by omega) (by decide)) rfl
      refine own_st (S' := T646.setTop (mkF m 89 #[qA bu, qA de, qI (130 : Int32), qI (0 : Int32), qI (0 : Int32), qA b141, qN i] [qV (own_stf dg 0 i i), (.int ((0 : Int32) + (Int32.ofNat i))), (.ref b118)])) (fun t k => XS.iload X646.here hx rfl (hb hby d27_79) rfl (XS.iload X646.here hx rfl (hb hby d27_81) rfl (XS.iadd X646.here hx rfl (hb hby d27_83) rfl (XS.aload X646.here hx rfl (hb hby d27_84) rfl rfl (XS.iload X646.here hx rfl (hb hby d27_86) rfl (X646.iaload hx (j := (Int32.ofNat i)) (v := (.int (Int32.ofNat (own_stf dg 0 i i)))) (by rw [e646]; exact Ar647.1) (State.isArrayOf_alike hZ.alike Ar647.2.1) Ar647.2.2 (own_in S647 (own_ixN (by omega) (by decide))) at647 (g := (mkF m 88 #[qA bu, qA de, qI (130 : Int32), qI (0 : Int32), qI (0 : Int32), qA b141, qN i] [qV i, (.ref b141), (.int ((0 : Int32) + (Int32.ofNat i))), (.ref b118)])) rfl rfl (hb hby d27_88) _ k)))))) ?_
      have O648 := lf7
      obtain ⟨c648, Ar648, S648, M648, V648⟩ := O648
      obtain ⟨T648, h648, X648, e648, W648, st648⟩ := stI X646 hx hZ e646 Ar648 (j := ((0 : Int32) + (Int32.ofNat i))) (own_in S648 (by rw [show ((0 : Int32) + (Int32.ofNat i) : Int32) = Int32.ofNat (0 + i) from own_addN (i := 0) (by omega)]; exact own_ixN (by omega) (by decide))) (g := (mkF m 89 #[qA bu, qA de, qI (130 : Int32), qI (0 : Int32), qI (0 : Int32), qA b141, qN i] [qV (own_stf dg 0 i i), (.int ((0 : Int32) + (Int32.ofNat i))), (.ref b118)])) rfl rfl (hb hby d27_89)
      refine own_st st648 ?_
      have f649 := lf0.wr W648
      have f650 := lf1.other W648 (Or.inl ne_bu_b118)
      have f651 := lf2.other W648 (Or.inl ne_bu_b118)
      have f652 := lf3.other W648 (Or.inl ne_bu_b118)
      have f653 := lf4.other W648 ne_de_b118
      have f654 := lf5.other W648 ne_b103_b118
      have f655 := lf6.wr W648
      have f656 := lf8.wr W648
      have f657 := lf9.other W648 M0_b118
      have f658 := lf10.other W648 (Ne.symm ne_b118_b141)
      have f659 := lf11.wr W648
      have Z648 : n0 ≤ h648.size := Nat.le_trans Zz (Keep.of_wr W648).1
      have N648 := Fr.snoc X648 N G_b118
      have K648 : Keep h0 h648 [bu] := K.wr W648 (Or.inr sz_b118)
      have f660 : own_A Z h648 b118 .int 130 (own_N (own_uN (own_nxf dg (0 + i)) (0 + i) (own_stf dg 0 i i))) := (own_A.set ⟨c648, Ar648, S648, M648, V648⟩ (by rw [show ((0 : Int32) + (Int32.ofNat i) : Int32) = Int32.ofNat (0 + i) from own_addN (i := 0) (by omega)]; exact own_ixN (by omega) (by decide)) W648).cong (fun q _ => congrFun (own_upN (own_nxf dg (0 + i)) (0 + i) (own_stf dg 0 i i)) q)
      have O661 := f658
      obtain ⟨c661, Ar661, S661, M661, V661⟩ := O661
      have at661 : c661.slots[((Int32.ofNat i)).toNatClampNeg]? = some (.int (Int32.ofNat (own_stf dg 0 i i))) := own_at S661 V661 (own_ixN (by omega) (by decide)) rfl
      refine own_st (S' := T648.setTop (mkF m 102 #[qA bu, qA de, qI (130 : Int32), qI (0 : Int32), qI (0 : Int32), qA b141, qN i] [(.ref de), qV (own_stf dg 0 i i), (.int ((Int32.ofNat i) + (1 : Int32))), (.ref b141)])) (fun t k => XS.aload X648.here hx rfl (hb hby d27_90) rfl rfl (XS.iload X648.here hx rfl (hb hby d27_92) rfl (XS.iconst X648.here hx rfl (hb hby d27_94) (XS.iadd X648.here hx rfl (hb hby d27_95) rfl (XS.aload X648.here hx rfl (hb hby d27_96) rfl rfl (XS.iload X648.here hx rfl (hb hby d27_98) rfl (X648.iaload hx (j := (Int32.ofNat i)) (v := (.int (Int32.ofNat (own_stf dg 0 i i)))) (by rw [e648]; exact Ar661.1) (State.isArrayOf_alike hZ.alike Ar661.2.1) Ar661.2.2 (own_in S661 (own_ixN (by omega) (by decide))) at661 (g := (mkF m 100 #[qA bu, qA de, qI (130 : Int32), qI (0 : Int32), qI (0 : Int32), qA b141, qN i] [qV i, (.ref b141), (.int ((Int32.ofNat i) + (1 : Int32))), (.ref b141)])) rfl rfl (hb hby d27_100) _ (XS.aloadN X648.here hx rfl (hb hby d27_101) rfl rfl k)))))))) ?_
      have O662 := f653
      obtain ⟨c662, Ar662, S662, M662, V662⟩ := O662
      have at662 : c662.slots[(((0 : Int32) + (Int32.ofNat i))).toNatClampNeg]? = some (.int (Int32.ofNat (dg (0 + i)))) := own_at S662 V662 (by rw [show ((0 : Int32) + (Int32.ofNat i) : Int32) = Int32.ofNat (0 + i) from own_addN (i := 0) (by omega)]; exact own_ixN (by omega) (by decide)) rfl
      refine own_st (S' := T648.setTop (mkF m 109 #[qA bu, qA de, qI (130 : Int32), qI (0 : Int32), qI (0 : Int32), qA b141, qN i] [(.int ((Int32.ofNat (own_stf dg 0 i i)) + (Int32.ofNat (dg (0 + i))))), (.int ((Int32.ofNat i) + (1 : Int32))), (.ref b141)])) (fun t k => XS.iload X648.here hx rfl (hb hby d27_102) rfl (XS.iload X648.here hx rfl (hb hby d27_104) rfl (XS.iadd X648.here hx rfl (hb hby d27_106) rfl (X648.iaload hx (j := ((0 : Int32) + (Int32.ofNat i))) (v := (.int (Int32.ofNat (dg (0 + i))))) (by rw [e648]; exact Ar662.1) (State.isArrayOf_alike hZ.alike Ar662.2.1) Ar662.2.2 (own_in S662 (by rw [show ((0 : Int32) + (Int32.ofNat i) : Int32) = Int32.ofNat (0 + i) from own_addN (i := 0) (by omega)]; exact own_ixN (by omega) (by decide))) at662 (g := (mkF m 107 #[qA bu, qA de, qI (130 : Int32), qI (0 : Int32), qI (0 : Int32), qA b141, qN i] [(.int ((0 : Int32) + (Int32.ofNat i))), (.ref de), qV (own_stf dg 0 i i), (.int ((Int32.ofNat i) + (1 : Int32))), (.ref b141)])) rfl rfl (hb hby d27_107) _ (XS.iadd X648.here hx rfl (hb hby d27_108) rfl k))))) ?_
      refine own_st (S' := T648.setTop (mkF m 109 #[qA bu, qA de, qI (130 : Int32), qI (0 : Int32), qI (0 : Int32), qA b141, qN i] [(.int ((Int32.ofNat (own_stf dg 0 i i)) + (Int32.ofNat (dg (0 + i))))), qV (i + 1), (.ref b141)])) (fun t k => by rw [own_incN (i := i) (by omega)]; exact k) ?_
      have hs1 : own_stf dg 0 i i + dg (0 + i) = own_S dg 0 (i + 1) := by rw [own_stf_le (Nat.le_refl i)]; show _ = own_S dg 0 i + dg (64 * 0 + i); rw [show 64 * 0 = 0 from rfl]
      have hs2 := hS 0 (i + 1) (by decide) (by omega)
      refine own_st (S' := T648.setTop (mkF m 109 #[qA bu, qA de, qI (130 : Int32), qI (0 : Int32), qI (0 : Int32), qA b141, qN i] [qV (own_S dg 0 (i + 1)), qV (i + 1), (.ref b141)])) (fun t k => by rw [show (((Int32.ofNat (own_stf dg 0 i i)) + (Int32.ofNat (dg (0 + i)))) : Int32) = (Int32.ofNat (own_S dg 0 (i + 1))) from (own_addN (by omega)).trans (congrArg Int32.ofNat hs1)]; exact k) ?_
      have O663 := f658
      obtain ⟨c663, Ar663, S663, M663, V663⟩ := O663
      obtain ⟨T663, h663, X663, e663, W663, st663⟩ := stI X648 hx hZ e648 Ar663 (j := (Int32.ofNat (i + 1))) (own_in S663 (own_ixN (by omega) (by decide))) (g := (mkF m 109 #[qA bu, qA de, qI (130 : Int32), qI (0 : Int32), qI (0 : Int32), qA b141, qN i] [qV (own_S dg 0 (i + 1)), qV (i + 1), (.ref b141)])) rfl rfl (hb hby d27_109)
      refine own_st st663 ?_
      have f664 := f649.wr W663
      have f665 := f650.other W663 (Or.inl ne_bu_b141)
      have f666 := f651.other W663 (Or.inl ne_bu_b141)
      have f667 := f652.other W663 (Or.inl ne_bu_b141)
      have f668 := f653.other W663 ne_de_b141
      have f669 := f654.other W663 ne_b103_b141
      have f670 := f655.wr W663
      have f671 := f660.other W663 ne_b118_b141
      have f672 := f656.wr W663
      have f673 := f657.other W663 M_b141
      have f674 := f659.wr W663
      have Z663 : n0 ≤ h663.size := Nat.le_trans Z648 (Keep.of_wr W663).1
      have N663 := Fr.snoc X663 N648 G_b141
      have K663 : Keep h0 h663 [bu] := K648.wr W663 (Or.inr sz_b141)
      have f675 : own_A Z h663 b141 .int 65 (own_N (own_uN (own_stf dg 0 i) (i + 1) (own_S dg 0 (i + 1)))) := (own_A.set ⟨c663, Ar663, S663, M663, V663⟩ (own_ixN (by omega) (by decide)) W663).cong (fun q _ => congrFun (own_upN (own_stf dg 0 i) (i + 1) (own_S dg 0 (i + 1))) q)
      refine own_st (S' := T663.setTop (mkF m 65 #[qA bu, qA de, qI (130 : Int32), qI (0 : Int32), qI (0 : Int32), qA b141, qI ((Int32.ofNat i) + (1 : Int32))] [])) (fun t k => XS.iinc X663.here hx rfl (hb hby d27_110) rfl (l' := #[qA bu, qA de, qI (130 : Int32), qI (0 : Int32), qI (0 : Int32), qA b141, qI ((Int32.ofNat i) + (1 : Int32))]) rfl (XS.goto X663.here hx rfl (pc0 := 113) (pc' := 65) rfl (hb hby d27_113) (by decide) (by decide) k)) ?_
      have f676 : own_A Z h663 b141 .int 65 (own_N (own_stf dg 0 (i + 1))) := by rw [← own_stfU]; exact f675
      have f677 : own_A Z h663 b118 .int 130 (own_N (own_nxf dg (0 + (i + 1)))) := by rw [← Nat.add_assoc, ← own_nxfU (P := 0) (i := i) dg (by omega) (by omega)]; exact f671
      rw [own_incN (by omega)]
      exact ih _ _ (i + 1) X663 N663 (by rw [e663]; exact K663) (by rw [e663]; exact Z663) (by rw [e663]; exact f664) (by rw [e663]; exact f665) (by rw [e663]; exact f666) (by rw [e663]; exact f667) (by rw [e663]; exact f668) (by rw [e663]; exact f669) (by rw [e663]; exact f670) (by rw [e663]; exact f677) (by rw [e663]; exact f672) (by rw [e663]; exact f673) (by rw [e663]; exact f676) (by rw [e663]; exact f674) (by omega)
  exact loop 64 _ _ 0 X141 N140 (by rw [e141]; exact K141) (by rw [e141]; exact Z141) (by rw [e141]; exact f142) (by rw [e141]; exact f143) (by rw [e141]; exact f144) (by rw [e141]; exact f145) (by rw [e141]; exact f146) (by rw [e141]; exact f147) (by rw [e141]; exact f148) (by rw [e141]; exact f149) (by rw [e141]; exact f150) (by rw [e141]; exact f151) (by rw [e141]; exact f153) (by rw [e141]; exact B141) (by omega)
theorem d29_0 : decode prog_63_method_3_code 0 = .ok (.iconst 0, 1) := by decide +kernel
theorem d29_1 : decode prog_63_method_3_code 1 = .ok (.istore_n 1, 1) := by decide +kernel
theorem d29_2 : decode prog_63_method_3_code 2 = .ok (.aload_n 0, 1) := by decide +kernel
theorem d29_3 : decode prog_63_method_3_code 3 = .ok (.getfield 11, 3) := by decide +kernel
theorem d29_6 : decode prog_63_method_3_code 6 = .ok (.astore_n 2, 1) := by decide +kernel
theorem d29_7 : decode prog_63_method_3_code 7 = .ok (.aload_n 2, 1) := by decide +kernel
theorem d29_8 : decode prog_63_method_3_code 8 = .ok (.arraylength, 1) := by decide +kernel
theorem d29_9 : decode prog_63_method_3_code 9 = .ok (.istore_n 3, 1) := by decide +kernel
theorem d29_10 : decode prog_63_method_3_code 10 = .ok (.iconst 0, 1) := by decide +kernel
theorem d29_11 : decode prog_63_method_3_code 11 = .ok (.istore 4, 2) := by decide +kernel
theorem d29_13 : decode prog_63_method_3_code 13 = .ok (.iload 4, 2) := by decide +kernel
theorem d29_15 : decode prog_63_method_3_code 15 = .ok (.iload_n 3, 1) := by decide +kernel
theorem d29_16 : decode prog_63_method_3_code 16 = .ok (.if_icmp .ge 58, 3) := by decide +kernel
theorem d29_19 : decode prog_63_method_3_code 19 = .ok (.aload_n 2, 1) := by decide +kernel
theorem d29_20 : decode prog_63_method_3_code 20 = .ok (.iload 4, 2) := by decide +kernel
theorem d29_22 : decode prog_63_method_3_code 22 = .ok (.aaload, 1) := by decide +kernel
theorem d29_23 : decode prog_63_method_3_code 23 = .ok (.astore 5, 2) := by decide +kernel
theorem d29_25 : decode prog_63_method_3_code 25 = .ok (.iconst 0, 1) := by decide +kernel
theorem d29_26 : decode prog_63_method_3_code 26 = .ok (.istore 6, 2) := by decide +kernel
theorem d29_28 : decode prog_63_method_3_code 28 = .ok (.iload 6, 2) := by decide +kernel
theorem d29_30 : decode prog_63_method_3_code 30 = .ok (.aload 5, 2) := by decide +kernel
theorem d29_32 : decode prog_63_method_3_code 32 = .ok (.invokevirtual 41, 3) := by decide +kernel
theorem d29_35 : decode prog_63_method_3_code 35 = .ok (.if_icmp .ge 33, 3) := by decide +kernel
theorem d29_38 : decode prog_63_method_3_code 38 = .ok (.iload_n 1, 1) := by decide +kernel
theorem d29_39 : decode prog_63_method_3_code 39 = .ok (.aload 5, 2) := by decide +kernel
theorem d29_41 : decode prog_63_method_3_code 41 = .ok (.getfield 45, 3) := by decide +kernel
theorem d29_44 : decode prog_63_method_3_code 44 = .ok (.iload 6, 2) := by decide +kernel
theorem d29_46 : decode prog_63_method_3_code 46 = .ok (.iconst 1, 1) := by decide +kernel
theorem d29_47 : decode prog_63_method_3_code 47 = .ok (.iadd, 1) := by decide +kernel
theorem d29_48 : decode prog_63_method_3_code 48 = .ok (.iaload, 1) := by decide +kernel
theorem d29_49 : decode prog_63_method_3_code 49 = .ok (.aload 5, 2) := by decide +kernel
theorem d29_51 : decode prog_63_method_3_code 51 = .ok (.getfield 45, 3) := by decide +kernel
theorem d29_54 : decode prog_63_method_3_code 54 = .ok (.iload 6, 2) := by decide +kernel
theorem d29_56 : decode prog_63_method_3_code 56 = .ok (.iaload, 1) := by decide +kernel
theorem d29_57 : decode prog_63_method_3_code 57 = .ok (.isub, 1) := by decide +kernel
theorem d29_58 : decode prog_63_method_3_code 58 = .ok (.invokestatic 48, 3) := by decide +kernel
theorem d29_61 : decode prog_63_method_3_code 61 = .ok (.istore_n 1, 1) := by decide +kernel
theorem d29_62 : decode prog_63_method_3_code 62 = .ok (.iinc 6 1, 3) := by decide +kernel
theorem d29_65 : decode prog_63_method_3_code 65 = .ok (.goto (-37), 3) := by decide +kernel
theorem d29_68 : decode prog_63_method_3_code 68 = .ok (.iinc 4 1, 3) := by decide +kernel
theorem d29_71 : decode prog_63_method_3_code 71 = .ok (.goto (-58), 3) := by decide +kernel
theorem d29_74 : decode prog_63_method_3_code 74 = .ok (.new 51, 3) := by decide +kernel
theorem d29_77 : decode prog_63_method_3_code 77 = .ok (.dup, 1) := by decide +kernel
theorem d29_78 : decode prog_63_method_3_code 78 = .ok (.iload_n 1, 1) := by decide +kernel
theorem d29_79 : decode prog_63_method_3_code 79 = .ok (.invokespecial 53, 3) := by decide +kernel
theorem d29_82 : decode prog_63_method_3_code 82 = .ok (.astore_n 2, 1) := by decide +kernel
theorem d29_83 : decode prog_63_method_3_code 83 = .ok (.lconst 0, 1) := by decide +kernel
theorem d29_84 : decode prog_63_method_3_code 84 = .ok (.lstore_n 3, 1) := by decide +kernel
theorem d29_85 : decode prog_63_method_3_code 85 = .ok (.aload_n 0, 1) := by decide +kernel
theorem d29_86 : decode prog_63_method_3_code 86 = .ok (.getfield 11, 3) := by decide +kernel
theorem d29_89 : decode prog_63_method_3_code 89 = .ok (.astore 5, 2) := by decide +kernel
theorem d29_91 : decode prog_63_method_3_code 91 = .ok (.aload 5, 2) := by decide +kernel
theorem d29_93 : decode prog_63_method_3_code 93 = .ok (.arraylength, 1) := by decide +kernel
theorem d29_94 : decode prog_63_method_3_code 94 = .ok (.istore 6, 2) := by decide +kernel
theorem d29_96 : decode prog_63_method_3_code 96 = .ok (.iconst 0, 1) := by decide +kernel
theorem d29_97 : decode prog_63_method_3_code 97 = .ok (.istore 7, 2) := by decide +kernel
theorem d29_99 : decode prog_63_method_3_code 99 = .ok (.iload 7, 2) := by decide +kernel
theorem d29_101 : decode prog_63_method_3_code 101 = .ok (.iload 6, 2) := by decide +kernel
theorem d29_103 : decode prog_63_method_3_code 103 = .ok (.if_icmp .ge 78, 3) := by decide +kernel
theorem d29_106 : decode prog_63_method_3_code 106 = .ok (.aload 5, 2) := by decide +kernel
theorem d29_108 : decode prog_63_method_3_code 108 = .ok (.iload 7, 2) := by decide +kernel
theorem d29_110 : decode prog_63_method_3_code 110 = .ok (.aaload, 1) := by decide +kernel
theorem d29_111 : decode prog_63_method_3_code 111 = .ok (.astore 8, 2) := by decide +kernel
theorem d29_113 : decode prog_63_method_3_code 113 = .ok (.iconst 0, 1) := by decide +kernel
theorem d29_114 : decode prog_63_method_3_code 114 = .ok (.istore 9, 2) := by decide +kernel
theorem d29_116 : decode prog_63_method_3_code 116 = .ok (.iload 9, 2) := by decide +kernel
theorem d29_118 : decode prog_63_method_3_code 118 = .ok (.aload 8, 2) := by decide +kernel
theorem d29_120 : decode prog_63_method_3_code 120 = .ok (.invokevirtual 41, 3) := by decide +kernel
theorem d29_123 : decode prog_63_method_3_code 123 = .ok (.if_icmp .ge 41, 3) := by decide +kernel
theorem d29_126 : decode prog_63_method_3_code 126 = .ok (.aload_n 2, 1) := by decide +kernel
theorem d29_127 : decode prog_63_method_3_code 127 = .ok (.aload 8, 2) := by decide +kernel
theorem d29_129 : decode prog_63_method_3_code 129 = .ok (.getfield 34, 3) := by decide +kernel
theorem d29_132 : decode prog_63_method_3_code 132 = .ok (.aload 8, 2) := by decide +kernel
theorem d29_134 : decode prog_63_method_3_code 134 = .ok (.getfield 37, 3) := by decide +kernel
theorem d29_137 : decode prog_63_method_3_code 137 = .ok (.aload 8, 2) := by decide +kernel
theorem d29_139 : decode prog_63_method_3_code 139 = .ok (.getfield 45, 3) := by decide +kernel
theorem d29_142 : decode prog_63_method_3_code 142 = .ok (.iload 9, 2) := by decide +kernel
theorem d29_144 : decode prog_63_method_3_code 144 = .ok (.iaload, 1) := by decide +kernel
theorem d29_145 : decode prog_63_method_3_code 145 = .ok (.aload 8, 2) := by decide +kernel
theorem d29_147 : decode prog_63_method_3_code 147 = .ok (.getfield 45, 3) := by decide +kernel
theorem d29_150 : decode prog_63_method_3_code 150 = .ok (.iload 9, 2) := by decide +kernel
theorem d29_152 : decode prog_63_method_3_code 152 = .ok (.iconst 1, 1) := by decide +kernel
theorem d29_153 : decode prog_63_method_3_code 153 = .ok (.iadd, 1) := by decide +kernel
theorem d29_154 : decode prog_63_method_3_code 154 = .ok (.iaload, 1) := by decide +kernel
theorem d29_155 : decode prog_63_method_3_code 155 = .ok (.invokevirtual 56, 3) := by decide +kernel
theorem d29_158 : decode prog_63_method_3_code 158 = .ok (.iinc 9 1, 3) := by decide +kernel
theorem d29_161 : decode prog_63_method_3_code 161 = .ok (.goto (-45), 3) := by decide +kernel
theorem d29_164 : decode prog_63_method_3_code 164 = .ok (.lload_n 3, 1) := by decide +kernel
theorem d29_165 : decode prog_63_method_3_code 165 = .ok (.aload 8, 2) := by decide +kernel
theorem d29_167 : decode prog_63_method_3_code 167 = .ok (.getfield 37, 3) := by decide +kernel
theorem d29_170 : decode prog_63_method_3_code 170 = .ok (.invokestatic 60, 3) := by decide +kernel
theorem d29_173 : decode prog_63_method_3_code 173 = .ok (.ladd, 1) := by decide +kernel
theorem d29_174 : decode prog_63_method_3_code 174 = .ok (.lstore_n 3, 1) := by decide +kernel
theorem d29_175 : decode prog_63_method_3_code 175 = .ok (.iinc 7 1, 3) := by decide +kernel
theorem d29_178 : decode prog_63_method_3_code 178 = .ok (.goto (-79), 3) := by decide +kernel
theorem d29_181 : decode prog_63_method_3_code 181 = .ok (.new 1, 3) := by decide +kernel
theorem d29_184 : decode prog_63_method_3_code 184 = .ok (.dup, 1) := by decide +kernel
theorem d29_185 : decode prog_63_method_3_code 185 = .ok (.aload_n 0, 1) := by decide +kernel
theorem d29_186 : decode prog_63_method_3_code 186 = .ok (.getfield 11, 3) := by decide +kernel
theorem d29_189 : decode prog_63_method_3_code 189 = .ok (.aload_n 0, 1) := by decide +kernel
theorem d29_190 : decode prog_63_method_3_code 190 = .ok (.getfield 17, 3) := by decide +kernel
theorem d29_193 : decode prog_63_method_3_code 193 = .ok (.arraylength, 1) := by decide +kernel
theorem d29_194 : decode prog_63_method_3_code 194 = .ok (.aload_n 0, 1) := by decide +kernel
theorem d29_195 : decode prog_63_method_3_code 195 = .ok (.getfield 30, 3) := by decide +kernel
theorem d29_198 : decode prog_63_method_3_code 198 = .ok (.ldc2_w 64, 3) := by decide +kernel
theorem d29_201 : decode prog_63_method_3_code 201 = .ok (.ldiv, 1) := by decide +kernel
theorem d29_202 : decode prog_63_method_3_code 202 = .ok (.l2i, 1) := by decide +kernel
theorem d29_203 : decode prog_63_method_3_code 203 = .ok (.lload_n 3, 1) := by decide +kernel
theorem d29_204 : decode prog_63_method_3_code 204 = .ok (.invokespecial 66, 3) := by decide +kernel
theorem d29_207 : decode prog_63_method_3_code 207 = .ok (.areturn, 1) := by decide +kernel
theorem pd29_0 : parseMethodDescriptor "()I" = some ⟨[], some .int⟩ := by decide +kernel
theorem pd29_1 : parseMethodDescriptor "(II)I" = some ⟨[.int, .int], some .int⟩ := by decide +kernel
theorem pd29_2 : parseMethodDescriptor "(I)V" = some ⟨[.int], none⟩ := by decide +kernel
theorem pd29_3 : parseMethodDescriptor "([I[DII)V" = some ⟨[(.array .int), (.array .double), .int, .int], none⟩ := by decide +kernel
theorem pd29_4 : parseMethodDescriptor "([D)J" = some ⟨[(.array .double)], some .long⟩ := by decide +kernel
theorem pd29_5 : parseMethodDescriptor "([Lkithrank/Graph$Page;IIJ)V" = some ⟨[(.array (.object "kithrank/Graph$Page")), .int, .int, .long], none⟩ := by decide +kernel
theorem pn29 : plainName "kithrank/Graph$Builder" = true := by first | (simp [plainName, overriddenIn]; done) | decide +kernel
theorem ef29 (m : MethodId) (bu : Addr) : entryFrame m #[(.ref bu)] 10 = mkF m 0 #[.val (.ref bu), .unset, .unset, .unset, .unset, .unset, .unset, .unset, .unset, .unset] [] := by first | (simp [entryFrame, mkF, argsToLocals, Value.category]; done) | rfl
def Q29 (Z : State) (bu : Addr) (ad : Nat → Nat → Addr) (sN : Nat → Nat → Nat) (tF : Nat → Nat → Int32) (wF : Nat → Nat → UInt64) (pa : Addr) (nx : Addr) (en : Int64) (nf : Nat → Nat) (pA : Nat) (iA : Nat) (k1 : Nat) (k2 : Nat) (a1 : Nat) (a2 : Nat) (d : Nat) (t1 : Nat) (t2 : Nat) (h0 : Heap) (n0 : Nat) (v : Option Value) (h : Heap) (L : List Loc) : Prop := ∃ (gr sa ta wa : Addr), v = some (.ref gr) ∧ Fr n0 L ∧ Keep h0 h [(ad 2 0), (ad 3 0), (ad 2 1), (ad 3 1), (ad 2 2), (ad 3 2)] ∧ h0.size ≤ gr ∧ h0.size ≤ sa ∧ h0.size ≤ ta ∧ h0.size ≤ wa ∧ gr ≠ sa ∧ gr ≠ ta ∧ gr ≠ wa ∧ sa ≠ ta ∧ sa ≠ wa ∧ ta ≠ wa ∧ Exa Z h gr "kithrank/Graph" ∧ Fld Z h gr "kithrank/Graph" "starts" "[[I" (.ref sa) ∧ Fld Z h gr "kithrank/Graph" "targets" "[[I" (.ref ta) ∧ Fld Z h gr "kithrank/Graph" "weights" "[[D" (.ref wa) ∧ Fld Z h gr "kithrank/Graph" "apart" "[[Lkithrank/Graph$OwnEdges;" .null ∧ own_A Z h sa (.array .int) 3 (own_Rf (ad 1)) ∧ own_A Z h ta (.array .int) 3 (own_Rf (ad 2)) ∧ own_A Z h wa (.array .double) 3 (own_Rf (ad 3)) ∧ own_P Z h 3 ad sN (own_f2 tF pA (own_sw (tF pA) (sN pA iA) t1)) (own_f2 wF pA (own_sw (wF pA) (sN pA iA) t1))
set_option maxRecDepth 65536 in
set_option maxHeartbeats 40000000 in
theorem rm29 (l : Launch) (Z : State) (a0 : Array Value) (hw : ∀ d ∈ tables_1, d.before a0 Z = true) (ws : List Jvm.Cond) (bu : Addr) (ad : Nat → Nat → Addr) (sN : Nat → Nat → Nat) (tF : Nat → Nat → Int32) (wF : Nat → Nat → UInt64) (pa : Addr) (nx : Addr) (en : Int64) (nf : Nat → Nat) (pA : Nat) (iA : Nat) (k1 : Nat) (k2 : Nat) (a1 : Nat) (a2 : Nat) (d : Nat) (t1 : Nat) (t2 : Nat) (h0 : Heap) (n0 : Nat) (Z0 : n0 ≤ h0.size) (P__ : own_P Z h0 3 ad sN tF wF) (W__ : own_W n0 3 ad) (E_bu : Exa Z h0 bu "kithrank/Graph$Builder") (F_bu_pages : Fld Z h0 bu "kithrank/Graph$Builder" "pages" "[Lkithrank/Graph$Page;" (.ref pa)) (F_bu_next : Fld Z h0 bu "kithrank/Graph$Builder" "next" "[I" (.ref nx)) (M_bu : own_Nm 3 ad bu) (M_pa : own_Nm 3 ad pa) (M_nx : own_Nm 3 ad nx) (F_bu_entries : Fld Z h0 bu "kithrank/Graph$Builder" "entries" "J" (.long en)) (A_pa : own_A Z h0 pa (.object "kithrank/Graph$Page") 3 (own_Rf (ad 0))) (A_nx : own_A Z h0 nx .int 130 (own_N nf)) (S___HEAVIEST_CLASS : Sta Z h0 "kithrank/Graph" "HEAVIEST_CLASS" "I" (.int (16368 : Int32))) (hA : pA < 3) (hiA : iA < own_u pA) (hm : ∀ P i, P < 3 → i < own_u P → sN P i ≤ sN P (i + 1) ∧ sN P (i + 1) ≤ sN P (own_u P)) (hM : ∀ P, P < 3 → sN P (own_u P) ≤ 4) (hd2 : sN pA (iA + 1) = sN pA iA + 2) (hd1 : ∀ P i, P < 3 → i < own_u P → ¬ (P = pA ∧ i = iA) → sN P (i + 1) = sN P i ∨ sN P (i + 1) = sN P i + 1) (hk : ∀ P j, P < 3 → j < sN P (own_u P) → ∃ k, k ≤ 16368 ∧ own_wc (wF P j) = Int32.ofNat k) (hv1 : own_wc (wF pA (sN pA iA)) = Int32.ofNat k1) (hv2 : own_wc (wF pA (sN pA iA + 1)) = Int32.ofNat k2) (hk1 : k1 ≤ 16368) (hk2 : k2 ≤ 16368) (ha1 : a1 + k1 = max k1 k2) (ha2 : a2 + k2 = max k1 k2) (hd : d + min k1 k2 = max k1 k2) (ht1 : t1 = if k1 < k2 then 1 else 0) (ht2 : t1 + t2 = 1) :
    MetFree l (⟨"kithrank/Graph$Builder", "build", "()Lkithrank/Graph;"⟩ : MethodName) (head1 (Jvm.Cond.code (⟨"kithrank/Graph$Builder", "build", "()Lkithrank/Graph;"⟩ : MethodName) prog_63_method_3_code 10 (some (.object "kithrank/Graph")) :: ws) ({ frames := 3, cells := 8, slots := 16393, locals := 51 } : Room)) (fun as' U => as' = #[(.ref bu)] ∧ Z.Warmed39 U.vm ∧ U.heap = h0) (fun _ _ _ _ _ => True) (fun _ U o U' => ∃ v L, o = .returned v ∧ Q29 Z bu ad sN tF wF pa nx en nf pA iA k1 k2 a1 a2 d t1 t2 h0 n0 v U'.heap L ∧ FrameEnd U o U' L ({ frames := 3, cells := 8, slots := 16393, locals := 51 } : Room).cells ({ frames := 3, cells := 8, slots := 16393, locals := 51 } : Room).slots) := by
  refine own_body (plainFor_of_name pn29) ?_
  intro p e s m below meth c s₁ hx hby hml hown0 hnm hret hlk hZ X0 e0
  have hown : s.vm.findClass "kithrank/Graph$Builder" = some m.cls := hown0
  have N0 := Fr.nil n0
  rw [ef29]
  have K0 : Keep h0 h0 [(ad 2 0), (ad 3 0), (ad 2 1), (ad 3 1), (ad 2 2), (ad 3 2)] := Keep.refl h0 [(ad 2 0), (ad 3 0), (ad 2 1), (ad 3 1), (ad 2 2), (ad 3 2)]
  have hxA : sN pA iA + 1 < sN pA (own_u pA) := by have := hm pA iA hA hiA; omega
  refine own_st (S' := s₁.setTop (mkF m 3 #[qA bu, qI (0 : Int32), qU, qU, qU, qU, qU, qU, qU, qU] [(.ref bu)])) (fun t k => XS.iconst X0.here hx rfl (hb hby d29_0) (XS.istoreN X0.here hx rfl (hb hby d29_1) rfl (l' := #[qA bu, qI (0 : Int32), qU, qU, qU, qU, qU, qU, qU, qU]) rfl (XS.aloadN X0.here hx rfl (hb hby d29_2) rfl rfl k))) ?_
  obtain ⟨T101, X101, e101, st101⟩ := getF X0 hx hZ hown (host := "") (Or.inl (own_hw hw (i := 14) rfl)) Via.refl e0 F_bu_pages (g := (mkF m 3 #[qA bu, qI (0 : Int32), qU, qU, qU, qU, qU, qU, qU, qU] [(.ref bu)])) rfl rfl (hb hby d29_3)
  refine own_st st101 ?_
  have O102 := A_pa
  obtain ⟨c102, Ar102, S102, M102, V102⟩ := O102
  have ln102 : c102.slots.size.toInt32 = (3 : Int32) := by rw [S102]; try (first | rfl | decide | exact rfl)
  refine own_st (S' := T101.setTop (mkF m 16 #[qA bu, qI (0 : Int32), qA pa, qI (3 : Int32), qI (0 : Int32), qU, qU, qU, qU, qU] [(.int (3 : Int32)), (.int (0 : Int32))])) (fun t k => XS.astoreN X101.here hx rfl (hb hby d29_6) rfl rfl (l' := #[qA bu, qI (0 : Int32), qA pa, qU, qU, qU, qU, qU, qU, qU]) rfl (XS.aloadN X101.here hx rfl (hb hby d29_7) rfl rfl (X101.arraylength hx (by rw [e101]; exact Ar102.1) (State.isArrayOf_alike hZ.alike Ar102.2.1) (g := (mkF m 8 #[qA bu, qI (0 : Int32), qA pa, qU, qU, qU, qU, qU, qU, qU] [(.ref pa)])) rfl rfl (hb hby d29_8) _ (by rw [ln102]; exact (XS.istoreN X101.here hx rfl (hb hby d29_9) rfl (l' := #[qA bu, qI (0 : Int32), qA pa, qI (3 : Int32), qU, qU, qU, qU, qU, qU]) rfl (XS.iconst X101.here hx rfl (hb hby d29_10) (XS.istore X101.here hx rfl (hb hby d29_11) rfl (l' := #[qA bu, qI (0 : Int32), qA pa, qI (3 : Int32), qI (0 : Int32), qU, qU, qU, qU, qU]) rfl (XS.iload X101.here hx rfl (hb hby d29_13) rfl (XS.iloadN X101.here hx rfl (hb hby d29_15) rfl k))))))))) ?_
  have O103 := A_pa
  obtain ⟨c103, Ar103, S103, M103, V103⟩ := O103
  have at103 : c103.slots[((0 : Int32)).toNatClampNeg]? = some (.ref (ad 0 0)) := own_at S103 V103 (own_ix (j := (0 : Int32)) (i := 0) (n := 3) (by decide) (by decide) (by decide)) rfl
  refine own_st (S' := T101.setTop (mkF m 28 #[qA bu, qI (0 : Int32), qA pa, qI (3 : Int32), qI (0 : Int32), qA (ad 0 0), qI (0 : Int32), qU, qU, qU] [])) (fun t k => XS.icmpNo X101.here hx rfl (hb hby d29_16) rfl (tlt (by decide)).2.1 (XS.aloadN X101.here hx rfl (hb hby d29_19) rfl rfl (XS.iload X101.here hx rfl (hb hby d29_20) rfl (X101.aaload hx (j := (0 : Int32)) (v := (.ref (ad 0 0))) (by rw [e101]; exact Ar103.1) (State.isArrayOf_alike hZ.alike Ar103.2.1) rfl Ar103.2.2 (own_in S103 (own_ix (j := (0 : Int32)) (i := 0) (n := 3) (by decide) (by decide) (by decide))) at103 (g := (mkF m 22 #[qA bu, qI (0 : Int32), qA pa, qI (3 : Int32), qI (0 : Int32), qU, qU, qU, qU, qU] [(.int (0 : Int32)), (.ref pa)])) rfl rfl (hb hby d29_22) _ (XS.astore X101.here hx rfl (hb hby d29_23) rfl rfl (l' := #[qA bu, qI (0 : Int32), qA pa, qI (3 : Int32), qI (0 : Int32), qA (ad 0 0), qU, qU, qU, qU]) rfl (XS.iconst X101.here hx rfl (hb hby d29_25) (XS.istore X101.here hx rfl (hb hby d29_26) rfl (l' := #[qA bu, qI (0 : Int32), qA pa, qI (3 : Int32), qI (0 : Int32), qA (ad 0 0), qI (0 : Int32), qU, qU, qU]) rfl k))))))) ?_
  have loop : ∀ (n : Nat) (T : State) (L : List Loc) (P i mo : Nat), Stand p l e ({ frames := 3, cells := 8, slots := 16393, locals := 51 } : Room) s m #[(.ref bu)] below meth c T L 0 0 → Fr n0 L → Keep h0 T.heap [(ad 2 0), (ad 3 0), (ad 2 1), (ad 3 1), (ad 2 2), (ad 3 2)] →  n0 ≤ T.heap.size → own_P Z T.heap 3 ad sN tF wF → Exa Z T.heap bu "kithrank/Graph$Builder" → Fld Z T.heap bu "kithrank/Graph$Builder" "pages" "[Lkithrank/Graph$Page;" (.ref pa) → Fld Z T.heap bu "kithrank/Graph$Builder" "next" "[I" (.ref nx) → Fld Z T.heap bu "kithrank/Graph$Builder" "entries" "J" (.long en) → own_A Z T.heap pa (.object "kithrank/Graph$Page") 3 (own_Rf (ad 0)) → own_A Z T.heap nx .int 130 (own_N nf) → Sta Z T.heap "kithrank/Graph" "HEAVIEST_CLASS" "I" (.int (16368 : Int32)) → (195 ≤ 65 * P + i + n) → (P < 3) → (i ≤ own_u P) → (mo ≤ 2) → ((P = pA ∧ iA < i) ∨ pA < P → mo = 2) →  own_Go p.tables e below (own_F s (Q29 Z bu ad sN tF wF pa nx en nf pA iA k1 k2 a1 a2 d t1 t2 h0 n0) 8 16393) (T.setTop (mkF m 28 #[qA bu, qN mo, qA pa, qI (3 : Int32), qN P, qA (ad 0 P), qN i, qU, qU, qU] [])) := by
    intro n
    induction n with
    | zero =>
      intro T L P i mo X N K Zz lf0 lf1 lf2 lf3 lf4 lf5 lf6 lf7 hn hP hi hmo hpas
      exact absurd hn (by have := own_u_le P; omega)
    | succ n ih =>
      intro T L P i mo X N K Zz lf0 lf1 lf2 lf3 lf4 lf5 lf6 lf7 hn hP hi hmo hpas
      have hU := own_u_le P
      show own_Go p.tables e below _ (T.setTop (mkF m 28 #[qA bu, qN mo, qA pa, qI (3 : Int32), qN P, qA (ad 0 P), qN i, qU, qU, qU] []))
      by_cases hc104 : i < own_u P
      · refine own_st (S' := T.setTop (mkF m 32 #[qA bu, qN mo, qA pa, qI (3 : Int32), qN P, qA (ad 0 P), qN i, qU, qU, qU] [(.ref (ad 0 P)), qV i])) (fun t k => XS.iload X.here hx rfl (hb hby d29_28) rfl (XS.aload X.here hx rfl (hb hby d29_30) rfl rfl k)) ?_
        obtain ⟨cq105, q105, q105'⟩ := (lf0 P hP).1.cell
        obtain ⟨_, _, ⟨T105, L105, k105, n105⟩, -, X105, ⟨Lc105, hQ105, l105, y105, z105⟩, st105⟩ := own_privNest X hx (y := (⟨"kithrank/Graph$Page", "users", "()I"⟩ : MethodName)) hown (mvMN hZ (own_hw hw (i := 57) rfl)) (mvT hZ (own_hw hw (i := 58) rfl)) (mvT hZ (own_hw hw (i := 22) rfl)) (Cond.privateMethod_at (mvP hZ (own_hw hw (i := 59) rfl) (args := #[]))) (mvT hZ (own_hw hw (i := 60) rfl)) (by decide) (backOf (W := 1) (rm10 l Z a0 hw [] (ad 0 P) (ad 1 P) (own_N (sN P)) (own_u P) T.heap n0 Zz (lf0 P hP).1 (lf0 P hP).2.2.2.2.1 (lf0 P hP).2.2.2.2.2.2.2.2.1 (own_u_le P)) hZ (own_hw hw (i := 60) rfl) (own_hw hw (i := 23) rfl) (by decide) (by decide)) (g := (mkF m 32 #[qA bu, qN mo, qA pa, qI (3 : Int32), qN P, qA (ad 0 P), qN i, qU, qU, qU] [(.ref (ad 0 P)), qV i])) rfl (by rw [hml]; rfl) (a := (ad 0 P)) q105 q105' (argsL := []) (rest := [(.int (Int32.ofNat i))]) (lenOf pd29_0 rfl) rfl (by show 2 * 0 + _ ≤ _; exact Nat.le_of_eq rfl) (hb hby d29_32) (fun _ _ => ⟨rfl, rfl, (by decide : 0 + 0 ≤ _), (by decide : 0 + 0 ≤ _)⟩)
        dsimp only [Pt.U, Pt.locs, Pt.cells, Pt.slots] at X105 l105 y105 z105 st105 hQ105
        rw [l105, y105, z105] at X105
        obtain ⟨rfl, N105q, hh105⟩ := hQ105
        have N105 := Fr.app N N105q
        refine own_tr st105 ?_
        have hc106 : (Int32.ofNat i) < (Int32.ofNat (own_u P)) := (own_ltN (by omega) (by omega)).mpr hc104
        refine own_st (S' := T105.setTop (mkF m 38 #[qA bu, qN mo, qA pa, qI (3 : Int32), qN P, qA (ad 0 P), qN i, qU, qU, qU] [])) (fun t k => XS.icmpNo X105.here hx rfl (hb hby d29_35) rfl (tlt hc106).2.1 k) ?_
        have hm1 := hm P i hP hc104
        have hM1 := hM P hP
        have hdd : sN P (i + 1) - sN P i ≤ 2 := by
          by_cases q : P = pA ∧ i = iA
          · rw [q.1, q.2]; omega
          · rcases hd1 P i hP hc104 q with e | e <;> omega
        refine own_st (S' := T105.setTop (mkF m 41 #[qA bu, qN mo, qA pa, qI (3 : Int32), qN P, qA (ad 0 P), qN i, qU, qU, qU] [(.ref (ad 0 P)), qV mo])) (fun t k => XS.iloadN X105.here hx rfl (hb hby d29_38) rfl (XS.aload X105.here hx rfl (hb hby d29_39) rfl rfl k)) ?_
        obtain ⟨T107, X107, e107, st107⟩ := getF X105 hx hZ hown (Or.inr (own_hw hw (i := 61) rfl)) Via.refl hh105 (lf0 P hP).2.2.2.2.1 (g := (mkF m 41 #[qA bu, qN mo, qA pa, qI (3 : Int32), qN P, qA (ad 0 P), qN i, qU, qU, qU] [(.ref (ad 0 P)), qV mo])) rfl rfl (hb hby d29_41)
        refine own_st st107 ?_
        refine own_st (S' := T107.setTop (mkF m 48 #[qA bu, qN mo, qA pa, qI (3 : Int32), qN P, qA (ad 0 P), qN i, qU, qU, qU] [(.int ((Int32.ofNat i) + (1 : Int32))), (.ref (ad 1 P)), qV mo])) (fun t k => XS.iload X107.here hx rfl (hb hby d29_44) rfl (XS.iconst X107.here hx rfl (hb hby d29_46) (XS.iadd X107.here hx rfl (hb hby d29_47) rfl k))) ?_
        refine own_st (S' := T107.setTop (mkF m 48 #[qA bu, qN mo, qA pa, qI (3 : Int32), qN P, qA (ad 0 P), qN i, qU, qU, qU] [qV (i + 1), (.ref (ad 1 P)), qV mo])) (fun t k => by rw [own_incN (i := i) (by omega)]; exact k) ?_
        have O108 := (lf0 P hP).2.2.2.2.2.2.2.2.1
        obtain ⟨c108, Ar108, S108, M108, V108⟩ := O108
        have at108 : c108.slots[((Int32.ofNat (i + 1))).toNatClampNeg]? = some (.int (Int32.ofNat (sN P (i + 1)))) := own_at S108 V108 (own_ixN (by omega) (by omega)) rfl
        refine own_st (S' := T107.setTop (mkF m 51 #[qA bu, qN mo, qA pa, qI (3 : Int32), qN P, qA (ad 0 P), qN i, qU, qU, qU] [(.ref (ad 0 P)), qV (sN P (i + 1)), qV mo])) (fun t k => X107.iaload hx (j := (Int32.ofNat (i + 1))) (v := (.int (Int32.ofNat (sN P (i + 1))))) (by rw [e107]; exact Ar108.1) (State.isArrayOf_alike hZ.alike Ar108.2.1) Ar108.2.2 (own_in S108 (own_ixN (by omega) (by omega))) at108 (g := (mkF m 48 #[qA bu, qN mo, qA pa, qI (3 : Int32), qN P, qA (ad 0 P), qN i, qU, qU, qU] [qV (i + 1), (.ref (ad 1 P)), qV mo])) rfl rfl (hb hby d29_48) _ (XS.aload X107.here hx rfl (hb hby d29_49) rfl rfl k)) ?_
        obtain ⟨T109, X109, e109, st109⟩ := getF X107 hx hZ hown (Or.inr (own_hw hw (i := 61) rfl)) Via.refl e107 (lf0 P hP).2.2.2.2.1 (g := (mkF m 51 #[qA bu, qN mo, qA pa, qI (3 : Int32), qN P, qA (ad 0 P), qN i, qU, qU, qU] [(.ref (ad 0 P)), qV (sN P (i + 1)), qV mo])) rfl rfl (hb hby d29_51)
        refine own_st st109 ?_
        have O110 := (lf0 P hP).2.2.2.2.2.2.2.2.1
        obtain ⟨c110, Ar110, S110, M110, V110⟩ := O110
        have at110 : c110.slots[((Int32.ofNat i)).toNatClampNeg]? = some (.int (Int32.ofNat (sN P i))) := own_at S110 V110 (own_ixN (by omega) (by omega)) rfl
        refine own_st (S' := T109.setTop (mkF m 58 #[qA bu, qN mo, qA pa, qI (3 : Int32), qN P, qA (ad 0 P), qN i, qU, qU, qU] [(.int ((Int32.ofNat (sN P (i + 1))) - (Int32.ofNat (sN P i)))), qV mo])) (fun t k => XS.iload X109.here hx rfl (hb hby d29_54) rfl (X109.iaload hx (j := (Int32.ofNat i)) (v := (.int (Int32.ofNat (sN P i)))) (by rw [e109]; exact Ar110.1) (State.isArrayOf_alike hZ.alike Ar110.2.1) Ar110.2.2 (own_in S110 (own_ixN (by omega) (by omega))) at110 (g := (mkF m 56 #[qA bu, qN mo, qA pa, qI (3 : Int32), qN P, qA (ad 0 P), qN i, qU, qU, qU] [qV i, (.ref (ad 1 P)), qV (sN P (i + 1)), qV mo])) rfl rfl (hb hby d29_56) _ (XS.isub X109.here hx rfl (hb hby d29_57) rfl k))) ?_
        refine own_st (S' := T109.setTop (mkF m 58 #[qA bu, qN mo, qA pa, qI (3 : Int32), qN P, qA (ad 0 P), qN i, qU, qU, qU] [qV (sN P (i + 1) - sN P i), qV mo])) (fun t k => by rw [show (((Int32.ofNat (sN P (i + 1))) - (Int32.ofNat (sN P i))) : Int32) = (Int32.ofNat (sN P (i + 1) - sN P i)) from own_subN (by omega) (by omega)]; exact k) ?_
        obtain ⟨_, _, ⟨T111, L111, k111, n111⟩, -, X111, ⟨Lc111, hQ111, l111, y111, z111⟩, st111⟩ := Jvm.LawKit.callS X109 hx (y := (⟨"java/lang/Math", "max", "(II)I"⟩ : MethodName)) hown (mvT hZ (own_hw hw (i := 62) rfl)) (mvT hZ (own_hw hw (i := 63) rfl)) (mvT hZ (own_hw hw (i := 20) rfl)) (mvT hZ (own_hw hw (i := 64) rfl)) (by decide) (backOf (W := 0) (rm2 l Z a0 hw [] (Int32.ofNat mo) (Int32.ofNat (sN P (i + 1) - sN P i)) T.heap n0 Zz ) hZ (own_hw hw (i := 64) rfl) (own_hw hw (i := 20) rfl) (by decide) (by decide)) (g := (mkF m 58 #[qA bu, qN mo, qA pa, qI (3 : Int32), qN P, qA (ad 0 P), qN i, qU, qU, qU] [qV (sN P (i + 1) - sN P i), qV mo])) rfl (by rw [hml]; rfl) (argsL := [(.int (Int32.ofNat mo)), (.int (Int32.ofNat (sN P (i + 1) - sN P i)))]) (rest := []) (lenOf pd29_1 rfl) rfl (by show 2 * 0 + _ ≤ _; exact Nat.le_of_eq rfl) (hb hby d29_58) (fun _ _ => ⟨rfl, e109, (by decide : 0 + 0 ≤ _), (by decide : 0 + 0 ≤ _)⟩)
        dsimp only [Pt.U, Pt.locs, Pt.cells, Pt.slots] at X111 l111 y111 z111 st111 hQ111
        rw [l111, y111, z111] at X111
        obtain ⟨rfl, N111q, hh111⟩ := hQ111
        have N111 := Fr.app N105 N111q
        refine own_st st111 ?_
        show own_Go p.tables e below _ (T111.setTop (mkF m 61 #[qA bu, qN mo, qA pa, qI (3 : Int32), qN P, qA (ad 0 P), qN i, qU, qU, qU] [(.int (if (Int32.ofNat mo) < (Int32.ofNat (sN P (i + 1) - sN P i)) then (Int32.ofNat (sN P (i + 1) - sN P i)) else (Int32.ofNat mo)))]))
        refine own_st (S' := T111.setTop (mkF m 61 #[qA bu, qN mo, qA pa, qI (3 : Int32), qN P, qA (ad 0 P), qN i, qU, qU, qU] [qV (max mo (sN P (i + 1) - sN P i))])) (fun t k => by rw [show ((if (Int32.ofNat mo) < (Int32.ofNat (sN P (i + 1) - sN P i)) then (Int32.ofNat (sN P (i + 1) - sN P i)) else (Int32.ofNat mo)) : Int32) = (Int32.ofNat (max mo (sN P (i + 1) - sN P i))) from own_mxN (by omega) (by omega)]; exact k) ?_
        refine own_st (S' := T111.setTop (mkF m 28 #[qA bu, qN (max mo (sN P (i + 1) - sN P i)), qA pa, qI (3 : Int32), qN P, qA (ad 0 P), qI ((Int32.ofNat i) + (1 : Int32)), qU, qU, qU] [])) (fun t k => XS.istoreN X111.here hx rfl (hb hby d29_61) rfl (l' := #[qA bu, qN (max mo (sN P (i + 1) - sN P i)), qA pa, qI (3 : Int32), qN P, qA (ad 0 P), qN i, qU, qU, qU]) rfl (XS.iinc X111.here hx rfl (hb hby d29_62) rfl (l' := #[qA bu, qN (max mo (sN P (i + 1) - sN P i)), qA pa, qI (3 : Int32), qN P, qA (ad 0 P), qI ((Int32.ofNat i) + (1 : Int32)), qU, qU, qU]) rfl (XS.goto X111.here hx rfl (pc0 := 65) (pc' := 28) rfl (hb hby d29_65) (by decide) (by decide) k))) ?_
        rw [own_incN (by omega)]
        exact ih _ _ P (i + 1) (max mo (sN P (i + 1) - sN P i)) X111 N111 (by rw [hh111]; exact K) (by rw [hh111]; exact Zz) (by rw [hh111]; exact lf0) (by rw [hh111]; exact lf1) (by rw [hh111]; exact lf2) (by rw [hh111]; exact lf3) (by rw [hh111]; exact lf4) (by rw [hh111]; exact lf5) (by rw [hh111]; exact lf6) (by rw [hh111]; exact lf7) (by omega) hP (by omega) (by omega) (fun z => by
          have h2 : (P = pA ∧ i = iA) ∨ ((P = pA ∧ iA < i) ∨ pA < P) := by omega
          rcases h2 with h2 | h2
          · have e2 : sN P (i + 1) - sN P i = 2 := by rw [h2.1, h2.2]; omega
            omega
          · have := hpas h2
            omega)
      · refine own_st (S' := T.setTop (mkF m 32 #[qA bu, qN mo, qA pa, qI (3 : Int32), qN P, qA (ad 0 P), qN i, qU, qU, qU] [(.ref (ad 0 P)), qV i])) (fun t k => XS.iload X.here hx rfl (hb hby d29_28) rfl (XS.aload X.here hx rfl (hb hby d29_30) rfl rfl k)) ?_
        obtain ⟨cq112, q112, q112'⟩ := (lf0 P hP).1.cell
        obtain ⟨_, _, ⟨T112, L112, k112, n112⟩, -, X112, ⟨Lc112, hQ112, l112, y112, z112⟩, st112⟩ := own_privNest X hx (y := (⟨"kithrank/Graph$Page", "users", "()I"⟩ : MethodName)) hown (mvMN hZ (own_hw hw (i := 57) rfl)) (mvT hZ (own_hw hw (i := 58) rfl)) (mvT hZ (own_hw hw (i := 22) rfl)) (Cond.privateMethod_at (mvP hZ (own_hw hw (i := 59) rfl) (args := #[]))) (mvT hZ (own_hw hw (i := 60) rfl)) (by decide) (backOf (W := 1) (rm10 l Z a0 hw [] (ad 0 P) (ad 1 P) (own_N (sN P)) (own_u P) T.heap n0 Zz (lf0 P hP).1 (lf0 P hP).2.2.2.2.1 (lf0 P hP).2.2.2.2.2.2.2.2.1 (own_u_le P)) hZ (own_hw hw (i := 60) rfl) (own_hw hw (i := 23) rfl) (by decide) (by decide)) (g := (mkF m 32 #[qA bu, qN mo, qA pa, qI (3 : Int32), qN P, qA (ad 0 P), qN i, qU, qU, qU] [(.ref (ad 0 P)), qV i])) rfl (by rw [hml]; rfl) (a := (ad 0 P)) q112 q112' (argsL := []) (rest := [(.int (Int32.ofNat i))]) (lenOf pd29_0 rfl) rfl (by show 2 * 0 + _ ≤ _; exact Nat.le_of_eq rfl) (hb hby d29_32) (fun _ _ => ⟨rfl, rfl, (by decide : 0 + 0 ≤ _), (by decide : 0 + 0 ≤ _)⟩)
        dsimp only [Pt.U, Pt.locs, Pt.cells, Pt.slots] at X112 l112 y112 z112 st112 hQ112
        rw [l112, y112, z112] at X112
        obtain ⟨rfl, N112q, hh112⟩ := hQ112
        have N112 := Fr.app N N112q
        refine own_tr st112 ?_
        have hc113 : ¬ ((Int32.ofNat i) < (Int32.ofNat (own_u P))) := fun q => hc104 ((own_ltN (by omega) (by omega)).mp q)
        refine own_st (S' := T112.setTop (mkF m 68 #[qA bu, qN mo, qA pa, qI (3 : Int32), qN P, qA (ad 0 P), qN i, qU, qU, qU] [])) (fun t k => XS.icmpYes X112.here hx rfl (pc0 := 35) (pc' := 68) rfl (hb hby d29_35) rfl (flt hc113).2.1 (by decide) (by decide) k) ?_
        have hpass : pA < P + 1 → (P = pA ∧ iA < i) ∨ pA < P := fun z => by
          rcases Nat.lt_or_ge pA P with q | q
          · exact Or.inr q
          · have e : P = pA := by omega
            have hiA' := hiA
            rw [← e] at hiA'
            exact Or.inl ⟨e, by omega⟩
        refine own_st (S' := T112.setTop (mkF m 13 #[qA bu, qN mo, qA pa, qI (3 : Int32), qI ((Int32.ofNat P) + (1 : Int32)), qA (ad 0 P), qN i, qU, qU, qU] [])) (fun t k => XS.iinc X112.here hx rfl (hb hby d29_68) rfl (l' := #[qA bu, qN mo, qA pa, qI (3 : Int32), qI ((Int32.ofNat P) + (1 : Int32)), qA (ad 0 P), qN i, qU, qU, qU]) rfl (XS.goto X112.here hx rfl (pc0 := 71) (pc' := 13) rfl (hb hby d29_71) (by decide) (by decide) k)) ?_
        obtain ⟨Pn, hPn⟩ : ∃ z : Nat, z = P + 1 := ⟨_, rfl⟩
        refine own_st (S' := T112.setTop (mkF m 13 #[qA bu, qN mo, qA pa, qI (3 : Int32), qN Pn, qA (ad 0 P), qN i, qU, qU, qU] [])) (fun t k => by rw [own_incN (i := P) (by omega), ← hPn]; exact k) ?_
        by_cases hc114 : Pn < 3
        · have hc115 : (Int32.ofNat Pn) < (3 : Int32) := (own_ltN (n := 3) (by omega) (by omega)).mpr hc114
          refine own_st (S' := T112.setTop (mkF m 19 #[qA bu, qN mo, qA pa, qI (3 : Int32), qN Pn, qA (ad 0 P), qN i, qU, qU, qU] [])) (fun t k => XS.iload X112.here hx rfl (hb hby d29_13) rfl (XS.iloadN X112.here hx rfl (hb hby d29_15) rfl (XS.icmpNo X112.here hx rfl (hb hby d29_16) rfl (tlt hc115).2.1 k))) ?_
          have hPn3 : Pn < 3 := hc114
          have O116 := lf5
          obtain ⟨c116, Ar116, S116, M116, V116⟩ := O116
          have at116 : c116.slots[((Int32.ofNat Pn)).toNatClampNeg]? = some (.ref (ad 0 Pn)) := own_at S116 V116 (own_ixN (by omega) (by decide)) rfl
          refine own_st (S' := T112.setTop (mkF m 28 #[qA bu, qN mo, qA pa, qI (3 : Int32), qN Pn, qA (ad 0 Pn), qI (0 : Int32), qU, qU, qU] [])) (fun t k => XS.aloadN X112.here hx rfl (hb hby d29_19) rfl rfl (XS.iload X112.here hx rfl (hb hby d29_20) rfl (X112.aaload hx (j := (Int32.ofNat Pn)) (v := (.ref (ad 0 Pn))) (by rw [hh112]; exact Ar116.1) (State.isArrayOf_alike hZ.alike Ar116.2.1) rfl Ar116.2.2 (own_in S116 (own_ixN (by omega) (by decide))) at116 (g := (mkF m 22 #[qA bu, qN mo, qA pa, qI (3 : Int32), qN Pn, qA (ad 0 P), qN i, qU, qU, qU] [qV Pn, (.ref pa)])) rfl rfl (hb hby d29_22) _ (XS.astore X112.here hx rfl (hb hby d29_23) rfl rfl (l' := #[qA bu, qN mo, qA pa, qI (3 : Int32), qN Pn, qA (ad 0 Pn), qN i, qU, qU, qU]) rfl (XS.iconst X112.here hx rfl (hb hby d29_25) (XS.istore X112.here hx rfl (hb hby d29_26) rfl (l' := #[qA bu, qN mo, qA pa, qI (3 : Int32), qN Pn, qA (ad 0 Pn), qI (0 : Int32), qU, qU, qU]) rfl k)))))) ?_
          exact ih _ _ Pn 0 mo X112 N112 (by rw [hh112]; exact K) (by rw [hh112]; exact Zz) (by rw [hh112]; exact lf0) (by rw [hh112]; exact lf1) (by rw [hh112]; exact lf2) (by rw [hh112]; exact lf3) (by rw [hh112]; exact lf4) (by rw [hh112]; exact lf5) (by rw [hh112]; exact lf6) (by rw [hh112]; exact lf7) (by omega) hPn3 (Nat.zero_le _) hmo (fun z => hpas (hpass (by omega)))
        · have hc117 : ¬ ((Int32.ofNat Pn) < (3 : Int32)) := fun q => hc114 ((own_ltN (n := 3) (by omega) (by omega)).mp q)
          refine own_st (S' := T112.setTop (mkF m 74 #[qA bu, qN mo, qA pa, qI (3 : Int32), qN Pn, qA (ad 0 P), qN i, qU, qU, qU] [])) (fun t k => XS.iload X112.here hx rfl (hb hby d29_13) rfl (XS.iloadN X112.here hx rfl (hb hby d29_15) rfl (XS.icmpYes X112.here hx rfl (pc0 := 16) (pc' := 74) rfl (hb hby d29_16) rfl (flt hc117).2.1 (by decide) (by decide) k))) ?_
          have hm2 : mo = 2 := hpas (hpass (by omega))
          refine own_st (S' := T112.setTop (mkF m 74 #[qA bu, qI (2 : Int32), qA pa, qI (3 : Int32), qN Pn, qA (ad 0 P), qN i, qU, qU, qU] [])) (fun t k => by show Steps p.tables e below (T112.setTop (mkF m 74 #[.val (.ref bu), .val (.int (Int32.ofNat mo)), .val (.ref pa), .val (.int (3 : Int32)), .val (.int (Int32.ofNat Pn)), .val (.ref (ad 0 P)), .val (.int (Int32.ofNat i)), .unset, .unset, .unset] [])) t; rw [show ((Int32.ofNat mo) : Int32) = (2 : Int32) from by rw [hm2]; rfl]; exact k) ?_
          obtain ⟨T118, h118, X118, e118, E118, A118, D118, -, st118⟩ := newO X112 hx hZ hown (own_hw hw (i := 65) rfl) (own_hw hw (i := 66) rfl) (own_hw hw (i := 67) rfl) hh112 (g := (mkF m 74 #[qA bu, qI (2 : Int32), qA pa, qI (3 : Int32), qN Pn, qA (ad 0 P), qN i, qU, qU, qU] [])) rfl (hb hby d29_74) (by decide) (by decide)
          obtain ⟨b118, g118⟩ : ∃ z, z = T.heap.size := ⟨_, rfl⟩
          rw [← g118] at A118 D118 st118
          have G_b118 : n0 ≤ b118 := Nat.le_trans Zz (Nat.le_of_eq g118.symm)
          have sz_b118 : h0.size ≤ b118 := Nat.le_trans K.1 (Nat.le_of_eq g118.symm)
          have ne_pa_b118 : pa ≠ b118 := Nat.ne_of_lt (Nat.lt_of_lt_of_le lf5.lt (Nat.le_of_eq g118.symm))
          have ne_nx_b118 : nx ≠ b118 := Nat.ne_of_lt (Nat.lt_of_lt_of_le lf6.lt (Nat.le_of_eq g118.symm))
          have ne_bu_b118 : bu ≠ b118 := Nat.ne_of_lt (Nat.lt_of_lt_of_le lf1.lt (Nat.le_of_eq g118.symm))
          have M_b118 : own_Nm 3 ad b118 := own_P.nm lf0 (Nat.le_of_eq g118.symm)
          have f119 := lf0.ext E118
          have f120 := lf1.ext E118
          have f121 := lf2.ext E118
          have f122 := lf3.ext E118
          have f123 := lf4.ext E118
          have f124 := lf5.ext E118
          have f125 := lf6.ext E118
          have f126 := Sta.ext E118 lf7
          have Z118 : n0 ≤ h118.size := Nat.le_trans Zz E118.1
          have K118 : Keep h0 h118 [(ad 2 0), (ad 3 0), (ad 2 1), (ad 3 1), (ad 2 2), (ad 3 2)] := K.ext E118
          have f127 : Fld Z h118 b118 "kithrank/Graph$ClassSort" "place" "[I" .null := D118 (Or.inr (own_hw hw (i := 76) rfl)) (ty := (.array .int)) (by decide)
          have f128 : Fld Z h118 b118 "kithrank/Graph$ClassSort" "sortedTarget" "[I" .null := D118 (Or.inr (own_hw hw (i := 78) rfl)) (ty := (.array .int)) (by decide)
          have f129 : Fld Z h118 b118 "kithrank/Graph$ClassSort" "sortedWeight" "[D" .null := D118 (Or.inr (own_hw hw (i := 80) rfl)) (ty := (.array .double)) (by decide)
          refine own_st st118 ?_
          refine own_st (S' := T118.setTop (mkF m 79 #[qA bu, qI (2 : Int32), qA pa, qI (3 : Int32), qN Pn, qA (ad 0 P), qN i, qU, qU, qU] [(.int (2 : Int32)), (.ref b118), (.ref b118)])) (fun t k => XS.dup X118.here hx rfl (hb hby d29_77) rfl rfl (XS.iloadN X118.here hx rfl (hb hby d29_78) rfl k)) ?_
          obtain ⟨_, _, ⟨T130, L130, k130, n130⟩, -, X130, ⟨Lc130, hQ130, l130, y130, z130⟩, st130⟩ := X118.specialBack hx (y := (⟨"kithrank/Graph$ClassSort", "<init>", "(I)V"⟩ : MethodName)) rfl hown (mvT hZ (own_hw hw (i := 68) rfl)) (mvT hZ (own_hw hw (i := 69) rfl)) (mvT hZ (own_hw hw (i := 70) rfl)) (by decide) (backOf (W := 1) (rm13 l Z a0 hw [] b118 h118 n0 Z118 A118 f127 f128 f129 G_b118 f126) hZ (own_hw hw (i := 70) rfl) (own_hw hw (i := 67) rfl) (by decide) (by decide)) (g := (mkF m 79 #[qA bu, qI (2 : Int32), qA pa, qI (3 : Int32), qN Pn, qA (ad 0 P), qN i, qU, qU, qU] [(.int (2 : Int32)), (.ref b118), (.ref b118)])) rfl (by rw [hml]; rfl) (Steps.refl _) (a := b118) (argsL := [(.int (2 : Int32))]) (rest := [(.ref b118)]) (lenOf pd29_2 rfl) rfl (by show 2 * 0 + _ ≤ _; exact Nat.le_of_eq rfl) (hb hby d29_79) (fun _ _ => ⟨rfl, e118, (by decide : 1 + 3 ≤ _), (by decide : 3 + 16374 ≤ _)⟩)
          dsimp only [Pt.U, Pt.locs, Pt.cells, Pt.slots] at X130 l130 y130 z130 st130 hQ130
          rw [l130, y130, z130] at X130
          obtain ⟨pl130, sT130, sW130, rfl, N130q, Kq130, sq_pl130, sq_sT130, sq_sW130, ne_pl130_sT130, ne_pl130_sW130, ne_sT130_sW130, g0_130, g1_130, g2_130, g3_130, g4_130, g5_130⟩ := hQ130
          have G_pl130 : n0 ≤ pl130 := Nat.le_trans Z118 sq_pl130
          have sz_pl130 : h0.size ≤ pl130 := Nat.le_trans K118.1 sq_pl130
          have ne_b118_pl130 : b118 ≠ pl130 := Nat.ne_of_lt (Nat.lt_of_lt_of_le A118.lt sq_pl130)
          have ne_pa_pl130 : pa ≠ pl130 := Nat.ne_of_lt (Nat.lt_of_lt_of_le f124.lt sq_pl130)
          have ne_nx_pl130 : nx ≠ pl130 := Nat.ne_of_lt (Nat.lt_of_lt_of_le f125.lt sq_pl130)
          have ne_bu_pl130 : bu ≠ pl130 := Nat.ne_of_lt (Nat.lt_of_lt_of_le f120.lt sq_pl130)
          have G_sT130 : n0 ≤ sT130 := Nat.le_trans Z118 sq_sT130
          have sz_sT130 : h0.size ≤ sT130 := Nat.le_trans K118.1 sq_sT130
          have ne_b118_sT130 : b118 ≠ sT130 := Nat.ne_of_lt (Nat.lt_of_lt_of_le A118.lt sq_sT130)
          have ne_pa_sT130 : pa ≠ sT130 := Nat.ne_of_lt (Nat.lt_of_lt_of_le f124.lt sq_sT130)
          have ne_nx_sT130 : nx ≠ sT130 := Nat.ne_of_lt (Nat.lt_of_lt_of_le f125.lt sq_sT130)
          have ne_bu_sT130 : bu ≠ sT130 := Nat.ne_of_lt (Nat.lt_of_lt_of_le f120.lt sq_sT130)
          have G_sW130 : n0 ≤ sW130 := Nat.le_trans Z118 sq_sW130
          have sz_sW130 : h0.size ≤ sW130 := Nat.le_trans K118.1 sq_sW130
          have ne_b118_sW130 : b118 ≠ sW130 := Nat.ne_of_lt (Nat.lt_of_lt_of_le A118.lt sq_sW130)
          have ne_pa_sW130 : pa ≠ sW130 := Nat.ne_of_lt (Nat.lt_of_lt_of_le f124.lt sq_sW130)
          have ne_nx_sW130 : nx ≠ sW130 := Nat.ne_of_lt (Nat.lt_of_lt_of_le f125.lt sq_sW130)
          have ne_bu_sW130 : bu ≠ sW130 := Nat.ne_of_lt (Nat.lt_of_lt_of_le f120.lt sq_sW130)
          have M_pl130 : own_Nm 3 ad pl130 := own_P.nm f119 sq_pl130
          have M_sT130 : own_Nm 3 ad sT130 := own_P.nm f119 sq_sT130
          have M_sW130 : own_Nm 3 ad sW130 := own_P.nm f119 sq_sW130
          have f131 := f119.keep Kq130 (allS M_b118 all0)
          have f132 := f120.keep Kq130
          have f133 := f121.keep Kq130 (ninS ne_bu_b118 nin0)
          have f134 := f122.keep Kq130 (ninS ne_bu_b118 nin0)
          have f135 := f123.keep Kq130 (ninS ne_bu_b118 nin0)
          have f136 := f124.keep Kq130 (ninS ne_pa_b118 nin0)
          have f137 := f125.keep Kq130 (ninS ne_nx_b118 nin0)
          have f138 := A118.keep Kq130
          have Z130 : n0 ≤ T130.heap.size := Nat.le_trans Z118 Kq130.1
          have K130 : Keep h0 T130.heap [(ad 2 0), (ad 3 0), (ad 2 1), (ad 3 1), (ad 2 2), (ad 3 2)] := K118.trans Kq130 (allS (Or.inr sz_b118) all0)
          have N130 := Fr.app N112 N130q
          refine own_tr st130 ?_
          refine own_st (S' := T130.setTop (mkF m 86 #[qA bu, qI (2 : Int32), qA b118, qL (0 : Int64), qZ, qA (ad 0 P), qN i, qU, qU, qU] [(.ref bu)])) (fun t k => XS.astoreN X130.here hx rfl (hb hby d29_82) rfl rfl (l' := #[qA bu, qI (2 : Int32), qA b118, qI (3 : Int32), qN Pn, qA (ad 0 P), qN i, qU, qU, qU]) rfl (XS.lconst X130.here hx rfl (hb hby d29_83) (XS.lstoreN X130.here hx rfl (hb hby d29_84) rfl (l' := #[qA bu, qI (2 : Int32), qA b118, qL (0 : Int64), qZ, qA (ad 0 P), qN i, qU, qU, qU]) rfl (XS.aloadN X130.here hx rfl (hb hby d29_85) rfl rfl k)))) ?_
          obtain ⟨T139, X139, e139, st139⟩ := getF X130 hx hZ hown (host := "") (Or.inl (own_hw hw (i := 14) rfl)) Via.refl rfl f133 (g := (mkF m 86 #[qA bu, qI (2 : Int32), qA b118, qL (0 : Int64), qZ, qA (ad 0 P), qN i, qU, qU, qU] [(.ref bu)])) rfl rfl (hb hby d29_86)
          refine own_st st139 ?_
          have O140 := f136
          obtain ⟨c140, Ar140, S140, M140, V140⟩ := O140
          have ln140 : c140.slots.size.toInt32 = (3 : Int32) := by rw [S140]; try (first | rfl | decide | exact rfl)
          refine own_st (S' := T139.setTop (mkF m 103 #[qA bu, qI (2 : Int32), qA b118, qL (0 : Int64), qZ, qA pa, qI (3 : Int32), qI (0 : Int32), qU, qU] [(.int (3 : Int32)), (.int (0 : Int32))])) (fun t k => XS.astore X139.here hx rfl (hb hby d29_89) rfl rfl (l' := #[qA bu, qI (2 : Int32), qA b118, qL (0 : Int64), qZ, qA pa, qN i, qU, qU, qU]) rfl (XS.aload X139.here hx rfl (hb hby d29_91) rfl rfl (X139.arraylength hx (by rw [e139]; exact Ar140.1) (State.isArrayOf_alike hZ.alike Ar140.2.1) (g := (mkF m 93 #[qA bu, qI (2 : Int32), qA b118, qL (0 : Int64), qZ, qA pa, qN i, qU, qU, qU] [(.ref pa)])) rfl rfl (hb hby d29_93) _ (by rw [ln140]; exact (XS.istore X139.here hx rfl (hb hby d29_94) rfl (l' := #[qA bu, qI (2 : Int32), qA b118, qL (0 : Int64), qZ, qA pa, qI (3 : Int32), qU, qU, qU]) rfl (XS.iconst X139.here hx rfl (hb hby d29_96) (XS.istore X139.here hx rfl (hb hby d29_97) rfl (l' := #[qA bu, qI (2 : Int32), qA b118, qL (0 : Int64), qZ, qA pa, qI (3 : Int32), qI (0 : Int32), qU, qU]) rfl (XS.iload X139.here hx rfl (hb hby d29_99) rfl (XS.iload X139.here hx rfl (hb hby d29_101) rfl k))))))))) ?_
          have O141 := f136
          obtain ⟨c141, Ar141, S141, M141, V141⟩ := O141
          have at141 : c141.slots[((0 : Int32)).toNatClampNeg]? = some (.ref (ad 0 0)) := own_at S141 V141 (own_ix (j := (0 : Int32)) (i := 0) (n := 3) (by decide) (by decide) (by decide)) rfl
          refine own_st (S' := T139.setTop (mkF m 116 #[qA bu, qI (2 : Int32), qA b118, qL (0 : Int64), qZ, qA pa, qI (3 : Int32), qI (0 : Int32), qA (ad 0 0), qI (0 : Int32)] [])) (fun t k => XS.icmpNo X139.here hx rfl (hb hby d29_103) rfl (tlt (by decide)).2.1 (XS.aload X139.here hx rfl (hb hby d29_106) rfl rfl (XS.iload X139.here hx rfl (hb hby d29_108) rfl (X139.aaload hx (j := (0 : Int32)) (v := (.ref (ad 0 0))) (by rw [e139]; exact Ar141.1) (State.isArrayOf_alike hZ.alike Ar141.2.1) rfl Ar141.2.2 (own_in S141 (own_ix (j := (0 : Int32)) (i := 0) (n := 3) (by decide) (by decide) (by decide))) at141 (g := (mkF m 110 #[qA bu, qI (2 : Int32), qA b118, qL (0 : Int64), qZ, qA pa, qI (3 : Int32), qI (0 : Int32), qU, qU] [(.int (0 : Int32)), (.ref pa)])) rfl rfl (hb hby d29_110) _ (XS.astore X139.here hx rfl (hb hby d29_111) rfl rfl (l' := #[qA bu, qI (2 : Int32), qA b118, qL (0 : Int64), qZ, qA pa, qI (3 : Int32), qI (0 : Int32), qA (ad 0 0), qU]) rfl (XS.iconst X139.here hx rfl (hb hby d29_113) (XS.istore X139.here hx rfl (hb hby d29_114) rfl (l' := #[qA bu, qI (2 : Int32), qA b118, qL (0 : Int64), qZ, qA pa, qI (3 : Int32), qI (0 : Int32), qA (ad 0 0), qI (0 : Int32)]) rfl k))))))) ?_
          have loop : ∀ (n : Nat) (T : State) (L : List Loc) (P i : Nat) (lg : Int64) (tq : Nat → Nat → Int32) (wq : Nat → Nat → UInt64) (fa1 : Nat → Int32) (fb1 : Nat → UInt64), Stand p l e ({ frames := 3, cells := 8, slots := 16393, locals := 51 } : Room) s m #[(.ref bu)] below meth c T L 4 16377 → Fr n0 L → Keep h0 T.heap [(ad 2 0), (ad 3 0), (ad 2 1), (ad 3 1), (ad 2 2), (ad 3 2)] →  n0 ≤ T.heap.size → own_P Z T.heap 3 ad sN tq wq → Exa Z T.heap bu "kithrank/Graph$Builder" → Fld Z T.heap bu "kithrank/Graph$Builder" "pages" "[Lkithrank/Graph$Page;" (.ref pa) → Fld Z T.heap bu "kithrank/Graph$Builder" "next" "[I" (.ref nx) → Fld Z T.heap bu "kithrank/Graph$Builder" "entries" "J" (.long en) → own_A Z T.heap pa (.object "kithrank/Graph$Page") 3 (own_Rf (ad 0)) → own_A Z T.heap nx .int 130 (own_N nf) → Exa Z T.heap b118 "kithrank/Graph$ClassSort" → Fld Z T.heap b118 "kithrank/Graph$ClassSort" "place" "[I" (.ref pl130) → Fld Z T.heap b118 "kithrank/Graph$ClassSort" "sortedTarget" "[I" (.ref sT130) → Fld Z T.heap b118 "kithrank/Graph$ClassSort" "sortedWeight" "[D" (.ref sW130) → own_A Z T.heap pl130 .int 16370 (own_I own_z) → own_A Z T.heap sT130 .int 2 (own_I fa1) → own_A Z T.heap sW130 .double 2 (own_D fb1) → (195 ≤ 65 * P + i + n) → (P < 3) → (i ≤ own_u P) → (¬ ((P = pA ∧ iA < i) ∨ pA < P) → tq = tF ∧ wq = wF) → ((P = pA ∧ iA < i) ∨ pA < P → tq = (own_f2 tF pA (own_sw (tF pA) (sN pA iA) t1)) ∧ wq = (own_f2 wF pA (own_sw (wF pA) (sN pA iA) t1))) →  own_Go p.tables e below (own_F s (Q29 Z bu ad sN tF wF pa nx en nf pA iA k1 k2 a1 a2 d t1 t2 h0 n0) 8 16393) (T.setTop (mkF m 116 #[qA bu, qI (2 : Int32), qA b118, qL lg, qZ, qA pa, qI (3 : Int32), qN P, qA (ad 0 P), qN i] [])) := by
            intro n
            induction n with
            | zero =>
              intro T L P i lg tq wq fa1 fb1 X N K Zz lf0 lf1 lf2 lf3 lf4 lf5 lf6 lf7 lf8 lf9 lf10 lf11 lf12 lf13 hn hP hi hq0 hq1
              exact absurd hn (by have := own_u_le P; omega)
            | succ n ih =>
              intro T L P i lg tq wq fa1 fb1 X N K Zz lf0 lf1 lf2 lf3 lf4 lf5 lf6 lf7 lf8 lf9 lf10 lf11 lf12 lf13 hn hP hi hq0 hq1
              have hU := own_u_le P
              show own_Go p.tables e below _ (T.setTop (mkF m 116 #[qA bu, qI (2 : Int32), qA b118, qL lg, qZ, qA pa, qI (3 : Int32), qN P, qA (ad 0 P), qN i] []))
              by_cases hc142 : i < own_u P
              · refine own_st (S' := T.setTop (mkF m 120 #[qA bu, qI (2 : Int32), qA b118, qL lg, qZ, qA pa, qI (3 : Int32), qN P, qA (ad 0 P), qN i] [(.ref (ad 0 P)), qV i])) (fun t k => XS.iload X.here hx rfl (hb hby d29_116) rfl (XS.aload X.here hx rfl (hb hby d29_118) rfl rfl k)) ?_
                obtain ⟨cq143, q143, q143'⟩ := (lf0 P hP).1.cell
                obtain ⟨_, _, ⟨T143, L143, k143, n143⟩, -, X143, ⟨Lc143, hQ143, l143, y143, z143⟩, st143⟩ := own_privNest X hx (y := (⟨"kithrank/Graph$Page", "users", "()I"⟩ : MethodName)) hown (mvMN hZ (own_hw hw (i := 57) rfl)) (mvT hZ (own_hw hw (i := 58) rfl)) (mvT hZ (own_hw hw (i := 22) rfl)) (Cond.privateMethod_at (mvP hZ (own_hw hw (i := 59) rfl) (args := #[]))) (mvT hZ (own_hw hw (i := 60) rfl)) (by decide) (backOf (W := 1) (rm10 l Z a0 hw [] (ad 0 P) (ad 1 P) (own_N (sN P)) (own_u P) T.heap n0 Zz (lf0 P hP).1 (lf0 P hP).2.2.2.2.1 (lf0 P hP).2.2.2.2.2.2.2.2.1 (own_u_le P)) hZ (own_hw hw (i := 60) rfl) (own_hw hw (i := 23) rfl) (by decide) (by decide)) (g := (mkF m 120 #[qA bu, qI (2 : Int32), qA b118, qL lg, qZ, qA pa, qI (3 : Int32), qN P, qA (ad 0 P), qN i] [(.ref (ad 0 P)), qV i])) rfl (by rw [hml]; rfl) (a := (ad 0 P)) q143 q143' (argsL := []) (rest := [(.int (Int32.ofNat i))]) (lenOf pd29_0 rfl) rfl (by show 2 * 0 + _ ≤ _; exact Nat.le_of_eq rfl) (hb hby d29_120) (fun _ _ => ⟨rfl, rfl, (by decide : 4 + 0 ≤ _), (by decide : 16377 + 0 ≤ _)⟩)
                dsimp only [Pt.U, Pt.locs, Pt.cells, Pt.slots] at X143 l143 y143 z143 st143 hQ143
                rw [l143, y143, z143] at X143
                obtain ⟨rfl, N143q, hh143⟩ := hQ143
                have N143 := Fr.app N N143q
                refine own_tr st143 ?_
                have hc144 : (Int32.ofNat i) < (Int32.ofNat (own_u P)) := (own_ltN (by omega) (by omega)).mpr hc142
                refine own_st (S' := T143.setTop (mkF m 126 #[qA bu, qI (2 : Int32), qA b118, qL lg, qZ, qA pa, qI (3 : Int32), qN P, qA (ad 0 P), qN i] [])) (fun t k => XS.icmpNo X143.here hx rfl (hb hby d29_123) rfl (tlt hc144).2.1 k) ?_
                have hm1 := hm P i hP hc142
                have hM1 := hM P hP
                by_cases hc145 : P = pA ∧ i = iA
                · refine own_st (S' := T143.setTop (mkF m 129 #[qA bu, qI (2 : Int32), qA b118, qL lg, qZ, qA pa, qI (3 : Int32), qN P, qA (ad 0 P), qN i] [(.ref (ad 0 P)), (.ref b118)])) (fun t k => XS.aloadN X143.here hx rfl (hb hby d29_126) rfl rfl (XS.aload X143.here hx rfl (hb hby d29_127) rfl rfl k)) ?_
                  obtain ⟨T146, X146, e146, st146⟩ := getF X143 hx hZ hown (Or.inr (own_hw hw (i := 50) rfl)) Via.refl hh143 (lf0 P hP).2.2.2.2.2.1 (g := (mkF m 129 #[qA bu, qI (2 : Int32), qA b118, qL lg, qZ, qA pa, qI (3 : Int32), qN P, qA (ad 0 P), qN i] [(.ref (ad 0 P)), (.ref b118)])) rfl rfl (hb hby d29_129)
                  refine own_st st146 ?_
                  refine own_st (S' := T146.setTop (mkF m 134 #[qA bu, qI (2 : Int32), qA b118, qL lg, qZ, qA pa, qI (3 : Int32), qN P, qA (ad 0 P), qN i] [(.ref (ad 0 P)), (.ref (ad 2 P)), (.ref b118)])) (fun t k => XS.aload X146.here hx rfl (hb hby d29_132) rfl rfl k) ?_
                  obtain ⟨T147, X147, e147, st147⟩ := getF X146 hx hZ hown (Or.inr (own_hw hw (i := 51) rfl)) Via.refl e146 (lf0 P hP).2.2.2.2.2.2.1 (g := (mkF m 134 #[qA bu, qI (2 : Int32), qA b118, qL lg, qZ, qA pa, qI (3 : Int32), qN P, qA (ad 0 P), qN i] [(.ref (ad 0 P)), (.ref (ad 2 P)), (.ref b118)])) rfl rfl (hb hby d29_134)
                  refine own_st st147 ?_
                  refine own_st (S' := T147.setTop (mkF m 139 #[qA bu, qI (2 : Int32), qA b118, qL lg, qZ, qA pa, qI (3 : Int32), qN P, qA (ad 0 P), qN i] [(.ref (ad 0 P)), (.ref (ad 3 P)), (.ref (ad 2 P)), (.ref b118)])) (fun t k => XS.aload X147.here hx rfl (hb hby d29_137) rfl rfl k) ?_
                  have hnp : ¬ ((P = pA ∧ iA < i) ∨ pA < P) := by omega
                  have hE2 : sN P (i + 1) = sN P i + 1 + 1 := by rw [hc145.1, hc145.2]; omega
                  obtain ⟨T148, X148, e148, st148⟩ := getF X147 hx hZ hown (Or.inr (own_hw hw (i := 61) rfl)) Via.refl e147 (lf0 P hP).2.2.2.2.1 (g := (mkF m 139 #[qA bu, qI (2 : Int32), qA b118, qL lg, qZ, qA pa, qI (3 : Int32), qN P, qA (ad 0 P), qN i] [(.ref (ad 0 P)), (.ref (ad 3 P)), (.ref (ad 2 P)), (.ref b118)])) rfl rfl (hb hby d29_139)
                  refine own_st st148 ?_
                  have O149 := (lf0 P hP).2.2.2.2.2.2.2.2.1
                  obtain ⟨c149, Ar149, S149, M149, V149⟩ := O149
                  have at149 : c149.slots[((Int32.ofNat i)).toNatClampNeg]? = some (.int (Int32.ofNat (sN P i))) := own_at S149 V149 (own_ixN (by omega) (by omega)) rfl
                  refine own_st (S' := T148.setTop (mkF m 147 #[qA bu, qI (2 : Int32), qA b118, qL lg, qZ, qA pa, qI (3 : Int32), qN P, qA (ad 0 P), qN i] [(.ref (ad 0 P)), qV (sN P i), (.ref (ad 3 P)), (.ref (ad 2 P)), (.ref b118)])) (fun t k => XS.iload X148.here hx rfl (hb hby d29_142) rfl (X148.iaload hx (j := (Int32.ofNat i)) (v := (.int (Int32.ofNat (sN P i)))) (by rw [e148]; exact Ar149.1) (State.isArrayOf_alike hZ.alike Ar149.2.1) Ar149.2.2 (own_in S149 (own_ixN (by omega) (by omega))) at149 (g := (mkF m 144 #[qA bu, qI (2 : Int32), qA b118, qL lg, qZ, qA pa, qI (3 : Int32), qN P, qA (ad 0 P), qN i] [qV i, (.ref (ad 1 P)), (.ref (ad 3 P)), (.ref (ad 2 P)), (.ref b118)])) rfl rfl (hb hby d29_144) _ (XS.aload X148.here hx rfl (hb hby d29_145) rfl rfl k))) ?_
                  obtain ⟨T150, X150, e150, st150⟩ := getF X148 hx hZ hown (Or.inr (own_hw hw (i := 61) rfl)) Via.refl e148 (lf0 P hP).2.2.2.2.1 (g := (mkF m 147 #[qA bu, qI (2 : Int32), qA b118, qL lg, qZ, qA pa, qI (3 : Int32), qN P, qA (ad 0 P), qN i] [(.ref (ad 0 P)), qV (sN P i), (.ref (ad 3 P)), (.ref (ad 2 P)), (.ref b118)])) rfl rfl (hb hby d29_147)
                  refine own_st st150 ?_
                  refine own_st (S' := T150.setTop (mkF m 154 #[qA bu, qI (2 : Int32), qA b118, qL lg, qZ, qA pa, qI (3 : Int32), qN P, qA (ad 0 P), qN i] [(.int ((Int32.ofNat i) + (1 : Int32))), (.ref (ad 1 P)), qV (sN P i), (.ref (ad 3 P)), (.ref (ad 2 P)), (.ref b118)])) (fun t k => XS.iload X150.here hx rfl (hb hby d29_150) rfl (XS.iconst X150.here hx rfl (hb hby d29_152) (XS.iadd X150.here hx rfl (hb hby d29_153) rfl k))) ?_
                  refine own_st (S' := T150.setTop (mkF m 154 #[qA bu, qI (2 : Int32), qA b118, qL lg, qZ, qA pa, qI (3 : Int32), qN P, qA (ad 0 P), qN i] [qV (i + 1), (.ref (ad 1 P)), qV (sN P i), (.ref (ad 3 P)), (.ref (ad 2 P)), (.ref b118)])) (fun t k => by rw [own_incN (i := i) (by omega)]; exact k) ?_
                  have O151 := (lf0 P hP).2.2.2.2.2.2.2.2.1
                  obtain ⟨c151, Ar151, S151, M151, V151⟩ := O151
                  have at151 : c151.slots[((Int32.ofNat (i + 1))).toNatClampNeg]? = some (.int (Int32.ofNat (sN P (i + 1)))) := own_at S151 V151 (own_ixN (by omega) (by omega)) rfl
                  refine own_st (S' := T150.setTop (mkF m 155 #[qA bu, qI (2 : Int32), qA b118, qL lg, qZ, qA pa, qI (3 : Int32), qN P, qA (ad 0 P), qN i] [qV (sN P (i + 1)), qV (sN P i), (.ref (ad 3 P)), (.ref (ad 2 P)), (.ref b118)])) (fun t k => X150.iaload hx (j := (Int32.ofNat (i + 1))) (v := (.int (Int32.ofNat (sN P (i + 1))))) (by rw [e150]; exact Ar151.1) (State.isArrayOf_alike hZ.alike Ar151.2.1) Ar151.2.2 (own_in S151 (own_ixN (by omega) (by omega))) at151 (g := (mkF m 154 #[qA bu, qI (2 : Int32), qA b118, qL lg, qZ, qA pa, qI (3 : Int32), qN P, qA (ad 0 P), qN i] [qV (i + 1), (.ref (ad 1 P)), qV (sN P i), (.ref (ad 3 P)), (.ref (ad 2 P)), (.ref b118)])) rfl rfl (hb hby d29_154) _ k) ?_
                  obtain ⟨cq152, kq152, q152a, q152b, q152c⟩ := isOf hZ e150 lf7
                  obtain ⟨_, _, ⟨T152, L152, k152, n152⟩, -, X152, ⟨Lc152, hQ152, l152, y152, z152⟩, st152⟩ := X150.virtualBack hx (y := (⟨"kithrank/Graph$ClassSort", "sort", "([I[DII)V"⟩ : MethodName)) (z := (⟨"kithrank/Graph$ClassSort", "sort", "([I[DII)V"⟩ : MethodName)) hown (mvT hZ (own_hw hw (i := 81) rfl)) (mvT hZ (own_hw hw (i := 82) rfl)) (notFace_of_selects (args := #[]) (mvT hZ (own_hw hw (i := 84) rfl))) (mvT hZ (own_hw hw (i := 84) rfl)) (mvT hZ (own_hw hw (i := 83) rfl)) (by decide) (backOf (W := 0) (rm9 l Z a0 hw [] b118 (ad 2 P) (ad 3 P) (Int32.ofNat (sN P i)) (Int32.ofNat (sN P (i + 1))) pl130 sT130 sW130 (sN P (own_u P)) fa1 fb1 (tq P) (wq P) (sN P i) k1 k2 a1 a2 d t1 t2 T.heap n0 Zz lf7 lf8 lf9 lf10 lf11 lf12 lf13 (lf0 P hP).2.2.2.2.2.2.2.2.2.1 (lf0 P hP).2.2.2.2.2.2.2.2.2.2 G_pl130 G_sT130 G_sW130 (W__.1 2 P (by decide) hP) (W__.1 3 P (by decide) hP) ne_b118_pl130 ne_b118_sT130 ne_b118_sW130 (M_b118 2 P (by decide) hP) (M_b118 3 P (by decide) hP) ne_pl130_sT130 ne_pl130_sW130 (M_pl130 2 P (by decide) hP) (M_pl130 3 P (by decide) hP) ne_sT130_sW130 (M_sT130 2 P (by decide) hP) (M_sT130 3 P (by decide) hP) (M_sW130 2 P (by decide) hP) (M_sW130 3 P (by decide) hP) (fun q => absurd (W__.2 2 3 P P (by decide) (by decide) hP hP q).1 (by decide)) rfl (congrArg Int32.ofNat hE2) (by omega) (by omega) (by rw [(hq0 hnp).2, hc145.1, hc145.2]; exact hv1) (by rw [(hq0 hnp).2, hc145.1, hc145.2]; exact hv2) hk1 hk2 ha1 ha2 hd ht1 ht2) hZ (own_hw hw (i := 85) rfl) (own_hw hw (i := 67) rfl) (by decide) (by decide)) q152a q152c (g := (mkF m 155 #[qA bu, qI (2 : Int32), qA b118, qL lg, qZ, qA pa, qI (3 : Int32), qN P, qA (ad 0 P), qN i] [qV (sN P (i + 1)), qV (sN P i), (.ref (ad 3 P)), (.ref (ad 2 P)), (.ref b118)])) rfl (by rw [hml]; rfl) (Steps.refl _) (argsL := [(.ref (ad 2 P)), (.ref (ad 3 P)), (.int (Int32.ofNat (sN P i))), (.int (Int32.ofNat (sN P (i + 1))))]) (rest := []) (lenOf pd29_3 rfl) rfl (by show 2 * 0 + _ ≤ _; exact Nat.le_of_eq rfl) (hb hby d29_155) (fun _ _ => ⟨rfl, e150, (by decide : 4 + 0 ≤ _), (by decide : 16377 + 0 ≤ _)⟩)
                  dsimp only [Pt.U, Pt.locs, Pt.cells, Pt.slots] at X152 l152 y152 z152 st152 hQ152
                  rw [l152, y152, z152] at X152
                  obtain ⟨rfl, N152q, Kq152, g0_152, g1_152, g2_152, g3_152, g4_152⟩ := hQ152
                  have f153 := lf1.keep Kq152
                  have f154 := lf2.keep Kq152 (ninS ne_bu_pl130 (ninS ne_bu_sT130 (ninS ne_bu_sW130 (ninS (M_bu 2 P (by decide) hP) (ninS (M_bu 3 P (by decide) hP) nin0)))))
                  have f155 := lf3.keep Kq152 (ninS ne_bu_pl130 (ninS ne_bu_sT130 (ninS ne_bu_sW130 (ninS (M_bu 2 P (by decide) hP) (ninS (M_bu 3 P (by decide) hP) nin0)))))
                  have f156 := lf4.keep Kq152 (ninS ne_bu_pl130 (ninS ne_bu_sT130 (ninS ne_bu_sW130 (ninS (M_bu 2 P (by decide) hP) (ninS (M_bu 3 P (by decide) hP) nin0)))))
                  have f157 := lf5.keep Kq152 (ninS ne_pa_pl130 (ninS ne_pa_sT130 (ninS ne_pa_sW130 (ninS (M_pa 2 P (by decide) hP) (ninS (M_pa 3 P (by decide) hP) nin0)))))
                  have f158 := lf6.keep Kq152 (ninS ne_nx_pl130 (ninS ne_nx_sT130 (ninS ne_nx_sW130 (ninS (M_nx 2 P (by decide) hP) (ninS (M_nx 3 P (by decide) hP) nin0)))))
                  have f159 := lf7.keep Kq152
                  have f160 := lf8.keep Kq152 (ninS ne_b118_pl130 (ninS ne_b118_sT130 (ninS ne_b118_sW130 (ninS (M_b118 2 P (by decide) hP) (ninS (M_b118 3 P (by decide) hP) nin0)))))
                  have f161 := lf9.keep Kq152 (ninS ne_b118_pl130 (ninS ne_b118_sT130 (ninS ne_b118_sW130 (ninS (M_b118 2 P (by decide) hP) (ninS (M_b118 3 P (by decide) hP) nin0)))))
                  have f162 := lf10.keep Kq152 (ninS ne_b118_pl130 (ninS ne_b118_sT130 (ninS ne_b118_sW130 (ninS (M_b118 2 P (by decide) hP) (ninS (M_b118 3 P (by decide) hP) nin0)))))
                  have f163 : own_P Z T152.heap 3 ad sN (own_f2 tq P (own_sw (tq P) (sN P i) t1)) (own_f2 wq P (own_sw (wq P) (sN P i) t1)) := own_P.keepTW lf0 W__ hP Kq152 (allS (Or.inr (Or.inr M_pl130)) (allS (Or.inr (Or.inr M_sT130)) (allS (Or.inr (Or.inr M_sW130)) (allS (Or.inl rfl) (allS (Or.inr (Or.inl rfl)) all0))))) g3_152 g4_152
                  have Z152 : n0 ≤ T152.heap.size := Nat.le_trans Zz Kq152.1
                  have K152 : Keep h0 T152.heap [(ad 2 0), (ad 3 0), (ad 2 1), (ad 3 1), (ad 2 2), (ad 3 2)] := K.trans Kq152 (allS (Or.inr sz_pl130) (allS (Or.inr sz_sT130) (allS (Or.inr sz_sW130) (allS (Or.inl (own_mem6 ad (by decide) hP)) (allS (Or.inl (own_mem6 ad (by decide) hP)) all0)))))
                  have N152 := Fr.app N143 N152q
                  refine own_tr st152 ?_
                  refine own_st (S' := T152.setTop (mkF m 116 #[qA bu, qI (2 : Int32), qA b118, qL lg, qZ, qA pa, qI (3 : Int32), qN P, qA (ad 0 P), qI ((Int32.ofNat i) + (1 : Int32))] [])) (fun t k => XS.iinc X152.here hx rfl (hb hby d29_158) rfl (l' := #[qA bu, qI (2 : Int32), qA b118, qL lg, qZ, qA pa, qI (3 : Int32), qN P, qA (ad 0 P), qI ((Int32.ofNat i) + (1 : Int32))]) rfl (XS.goto X152.here hx rfl (pc0 := 161) (pc' := 116) rfl (hb hby d29_161) (by decide) (by decide) k)) ?_
                  rw [own_incN (by omega)]
                  exact ih _ _ P (i + 1) lg (own_f2 tq P (own_sw (tq P) (sN P i) t1)) (own_f2 wq P (own_sw (wq P) (sN P i) t1)) (own_uI (own_uI fa1 t1 ((tq P) (sN P i))) t2 ((tq P) ((sN P i) + 1))) (own_uD (own_uD fb1 t1 ((wq P) (sN P i))) t2 ((wq P) ((sN P i) + 1))) X152 N152 K152 Z152 f163 f153 f154 f155 f156 f157 f158 f159 f160 f161 f162 g0_152 g1_152 g2_152 (by omega) hP (by omega) (fun z => absurd (Or.inl ⟨hc145.1, by omega⟩) z) (fun _ => ⟨by rw [(hq0 hnp).1, hc145.1, hc145.2], by rw [(hq0 hnp).2, hc145.1, hc145.2]⟩)
                · refine own_st (S' := T143.setTop (mkF m 129 #[qA bu, qI (2 : Int32), qA b118, qL lg, qZ, qA pa, qI (3 : Int32), qN P, qA (ad 0 P), qN i] [(.ref (ad 0 P)), (.ref b118)])) (fun t k => XS.aloadN X143.here hx rfl (hb hby d29_126) rfl rfl (XS.aload X143.here hx rfl (hb hby d29_127) rfl rfl k)) ?_
                  obtain ⟨T164, X164, e164, st164⟩ := getF X143 hx hZ hown (Or.inr (own_hw hw (i := 50) rfl)) Via.refl hh143 (lf0 P hP).2.2.2.2.2.1 (g := (mkF m 129 #[qA bu, qI (2 : Int32), qA b118, qL lg, qZ, qA pa, qI (3 : Int32), qN P, qA (ad 0 P), qN i] [(.ref (ad 0 P)), (.ref b118)])) rfl rfl (hb hby d29_129)
                  refine own_st st164 ?_
                  show own_Go p.tables e below _ (T164.setTop (mkF m 132 #[qA bu, qI (2 : Int32), qA b118, qL lg, qZ, qA pa, qI (3 : Int32), qN P, qA (ad 0 P), qN i] [(.ref (ad 2 P)), (.ref b118)]))
                  by_cases hc165 : sN P (i + 1) = sN P i
                  · refine own_st (S' := T164.setTop (mkF m 134 #[qA bu, qI (2 : Int32), qA b118, qL lg, qZ, qA pa, qI (3 : Int32), qN P, qA (ad 0 P), qN i] [(.ref (ad 0 P)), (.ref (ad 2 P)), (.ref b118)])) (fun t k => XS.aload X164.here hx rfl (hb hby d29_132) rfl rfl k) ?_
                    obtain ⟨T166, X166, e166, st166⟩ := getF X164 hx hZ hown (Or.inr (own_hw hw (i := 51) rfl)) Via.refl e164 (lf0 P hP).2.2.2.2.2.2.1 (g := (mkF m 134 #[qA bu, qI (2 : Int32), qA b118, qL lg, qZ, qA pa, qI (3 : Int32), qN P, qA (ad 0 P), qN i] [(.ref (ad 0 P)), (.ref (ad 2 P)), (.ref b118)])) rfl rfl (hb hby d29_134)
                    refine own_st st166 ?_
                    refine own_st (S' := T166.setTop (mkF m 139 #[qA bu, qI (2 : Int32), qA b118, qL lg, qZ, qA pa, qI (3 : Int32), qN P, qA (ad 0 P), qN i] [(.ref (ad 0 P)), (.ref (ad 3 P)), (.ref (ad 2 P)), (.ref b118)])) (fun t k => XS.aload X166.here hx rfl (hb hby d29_137) rfl rfl k) ?_
                    obtain ⟨T167, X167, e167, st167⟩ := getF X166 hx hZ hown (Or.inr (own_hw hw (i := 61) rfl)) Via.refl e166 (lf0 P hP).2.2.2.2.1 (g := (mkF m 139 #[qA bu, qI (2 : Int32), qA b118, qL lg, qZ, qA pa, qI (3 : Int32), qN P, qA (ad 0 P), qN i] [(.ref (ad 0 P)), (.ref (ad 3 P)), (.ref (ad 2 P)), (.ref b118)])) rfl rfl (hb hby d29_139)
                    refine own_st st167 ?_
                    have O168 := (lf0 P hP).2.2.2.2.2.2.2.2.1
                    obtain ⟨c168, Ar168, S168, M168, V168⟩ := O168
                    have at168 : c168.slots[((Int32.ofNat i)).toNatClampNeg]? = some (.int (Int32.ofNat (sN P i))) := own_at S168 V168 (own_ixN (by omega) (by omega)) rfl
                    refine own_st (S' := T167.setTop (mkF m 147 #[qA bu, qI (2 : Int32), qA b118, qL lg, qZ, qA pa, qI (3 : Int32), qN P, qA (ad 0 P), qN i] [(.ref (ad 0 P)), qV (sN P i), (.ref (ad 3 P)), (.ref (ad 2 P)), (.ref b118)])) (fun t k => XS.iload X167.here hx rfl (hb hby d29_142) rfl (X167.iaload hx (j := (Int32.ofNat i)) (v := (.int (Int32.ofNat (sN P i)))) (by rw [e167]; exact Ar168.1) (State.isArrayOf_alike hZ.alike Ar168.2.1) Ar168.2.2 (own_in S168 (own_ixN (by omega) (by omega))) at168 (g := (mkF m 144 #[qA bu, qI (2 : Int32), qA b118, qL lg, qZ, qA pa, qI (3 : Int32), qN P, qA (ad 0 P), qN i] [qV i, (.ref (ad 1 P)), (.ref (ad 3 P)), (.ref (ad 2 P)), (.ref b118)])) rfl rfl (hb hby d29_144) _ (XS.aload X167.here hx rfl (hb hby d29_145) rfl rfl k))) ?_
                    obtain ⟨T169, X169, e169, st169⟩ := getF X167 hx hZ hown (Or.inr (own_hw hw (i := 61) rfl)) Via.refl e167 (lf0 P hP).2.2.2.2.1 (g := (mkF m 147 #[qA bu, qI (2 : Int32), qA b118, qL lg, qZ, qA pa, qI (3 : Int32), qN P, qA (ad 0 P), qN i] [(.ref (ad 0 P)), qV (sN P i), (.ref (ad 3 P)), (.ref (ad 2 P)), (.ref b118)])) rfl rfl (hb hby d29_147)
                    refine own_st st169 ?_
                    refine own_st (S' := T169.setTop (mkF m 154 #[qA bu, qI (2 : Int32), qA b118, qL lg, qZ, qA pa, qI (3 : Int32), qN P, qA (ad 0 P), qN i] [(.int ((Int32.ofNat i) + (1 : Int32))), (.ref (ad 1 P)), qV (sN P i), (.ref (ad 3 P)), (.ref (ad 2 P)), (.ref b118)])) (fun t k => XS.iload X169.here hx rfl (hb hby d29_150) rfl (XS.iconst X169.here hx rfl (hb hby d29_152) (XS.iadd X169.here hx rfl (hb hby d29_153) rfl k))) ?_
                    refine own_st (S' := T169.setTop (mkF m 154 #[qA bu, qI (2 : Int32), qA b118, qL lg, qZ, qA pa, qI (3 : Int32), qN P, qA (ad 0 P), qN i] [qV (i + 1), (.ref (ad 1 P)), qV (sN P i), (.ref (ad 3 P)), (.ref (ad 2 P)), (.ref b118)])) (fun t k => by rw [own_incN (i := i) (by omega)]; exact k) ?_
                    have O170 := (lf0 P hP).2.2.2.2.2.2.2.2.1
                    obtain ⟨c170, Ar170, S170, M170, V170⟩ := O170
                    have at170 : c170.slots[((Int32.ofNat (i + 1))).toNatClampNeg]? = some (.int (Int32.ofNat (sN P (i + 1)))) := own_at S170 V170 (own_ixN (by omega) (by omega)) rfl
                    refine own_st (S' := T169.setTop (mkF m 155 #[qA bu, qI (2 : Int32), qA b118, qL lg, qZ, qA pa, qI (3 : Int32), qN P, qA (ad 0 P), qN i] [qV (sN P (i + 1)), qV (sN P i), (.ref (ad 3 P)), (.ref (ad 2 P)), (.ref b118)])) (fun t k => X169.iaload hx (j := (Int32.ofNat (i + 1))) (v := (.int (Int32.ofNat (sN P (i + 1))))) (by rw [e169]; exact Ar170.1) (State.isArrayOf_alike hZ.alike Ar170.2.1) Ar170.2.2 (own_in S170 (own_ixN (by omega) (by omega))) at170 (g := (mkF m 154 #[qA bu, qI (2 : Int32), qA b118, qL lg, qZ, qA pa, qI (3 : Int32), qN P, qA (ad 0 P), qN i] [qV (i + 1), (.ref (ad 1 P)), qV (sN P i), (.ref (ad 3 P)), (.ref (ad 2 P)), (.ref b118)])) rfl rfl (hb hby d29_154) _ k) ?_
                    obtain ⟨cq171, kq171, q171a, q171b, q171c⟩ := isOf hZ e169 lf7
                    obtain ⟨_, _, ⟨T171, L171, k171, n171⟩, -, X171, ⟨Lc171, hQ171, l171, y171, z171⟩, st171⟩ := X169.virtualBack hx (y := (⟨"kithrank/Graph$ClassSort", "sort", "([I[DII)V"⟩ : MethodName)) (z := (⟨"kithrank/Graph$ClassSort", "sort", "([I[DII)V"⟩ : MethodName)) hown (mvT hZ (own_hw hw (i := 81) rfl)) (mvT hZ (own_hw hw (i := 82) rfl)) (notFace_of_selects (args := #[]) (mvT hZ (own_hw hw (i := 84) rfl))) (mvT hZ (own_hw hw (i := 84) rfl)) (mvT hZ (own_hw hw (i := 83) rfl)) (by decide) (backOf (W := 0) (rm7 l Z a0 hw [] b118 (ad 2 P) (ad 3 P) (Int32.ofNat (sN P i)) (Int32.ofNat (sN P (i + 1))) pl130 sT130 sW130 (sN P (own_u P)) fa1 fb1 (tq P) (wq P) (sN P i) T.heap n0 Zz lf7 lf8 lf9 lf10 lf11 lf12 lf13 (lf0 P hP).2.2.2.2.2.2.2.2.2.1 (lf0 P hP).2.2.2.2.2.2.2.2.2.2 G_pl130 G_sT130 G_sW130 (W__.1 2 P (by decide) hP) (W__.1 3 P (by decide) hP) ne_b118_pl130 ne_b118_sT130 ne_b118_sW130 (M_b118 2 P (by decide) hP) (M_b118 3 P (by decide) hP) ne_pl130_sT130 ne_pl130_sW130 (M_pl130 2 P (by decide) hP) (M_pl130 3 P (by decide) hP) ne_sT130_sW130 (M_sT130 2 P (by decide) hP) (M_sT130 3 P (by decide) hP) (M_sW130 2 P (by decide) hP) (M_sW130 3 P (by decide) hP) (fun q => absurd (W__.2 2 3 P P (by decide) (by decide) hP hP q).1 (by decide)) rfl (congrArg Int32.ofNat hc165) (by omega)) hZ (own_hw hw (i := 85) rfl) (own_hw hw (i := 67) rfl) (by decide) (by decide)) q171a q171c (g := (mkF m 155 #[qA bu, qI (2 : Int32), qA b118, qL lg, qZ, qA pa, qI (3 : Int32), qN P, qA (ad 0 P), qN i] [qV (sN P (i + 1)), qV (sN P i), (.ref (ad 3 P)), (.ref (ad 2 P)), (.ref b118)])) rfl (by rw [hml]; rfl) (Steps.refl _) (argsL := [(.ref (ad 2 P)), (.ref (ad 3 P)), (.int (Int32.ofNat (sN P i))), (.int (Int32.ofNat (sN P (i + 1))))]) (rest := []) (lenOf pd29_3 rfl) rfl (by show 2 * 0 + _ ≤ _; exact Nat.le_of_eq rfl) (hb hby d29_155) (fun _ _ => ⟨rfl, e169, (by decide : 4 + 0 ≤ _), (by decide : 16377 + 0 ≤ _)⟩)
                    dsimp only [Pt.U, Pt.locs, Pt.cells, Pt.slots] at X171 l171 y171 z171 st171 hQ171
                    rw [l171, y171, z171] at X171
                    obtain ⟨rfl, N171q, Kq171, g0_171, g1_171, g2_171⟩ := hQ171
                    have f172 := lf1.keep Kq171
                    have f173 := lf2.keep Kq171 (ninS ne_bu_pl130 (ninS (M_bu 2 P (by decide) hP) (ninS (M_bu 3 P (by decide) hP) nin0)))
                    have f174 := lf3.keep Kq171 (ninS ne_bu_pl130 (ninS (M_bu 2 P (by decide) hP) (ninS (M_bu 3 P (by decide) hP) nin0)))
                    have f175 := lf4.keep Kq171 (ninS ne_bu_pl130 (ninS (M_bu 2 P (by decide) hP) (ninS (M_bu 3 P (by decide) hP) nin0)))
                    have f176 := lf5.keep Kq171 (ninS ne_pa_pl130 (ninS (M_pa 2 P (by decide) hP) (ninS (M_pa 3 P (by decide) hP) nin0)))
                    have f177 := lf6.keep Kq171 (ninS ne_nx_pl130 (ninS (M_nx 2 P (by decide) hP) (ninS (M_nx 3 P (by decide) hP) nin0)))
                    have f178 := lf7.keep Kq171
                    have f179 := lf8.keep Kq171 (ninS ne_b118_pl130 (ninS (M_b118 2 P (by decide) hP) (ninS (M_b118 3 P (by decide) hP) nin0)))
                    have f180 := lf9.keep Kq171 (ninS ne_b118_pl130 (ninS (M_b118 2 P (by decide) hP) (ninS (M_b118 3 P (by decide) hP) nin0)))
                    have f181 := lf10.keep Kq171 (ninS ne_b118_pl130 (ninS (M_b118 2 P (by decide) hP) (ninS (M_b118 3 P (by decide) hP) nin0)))
                    have f182 := lf12.keep Kq171 (ninS (Ne.symm ne_pl130_sT130) (ninS (M_sT130 2 P (by decide) hP) (ninS (M_sT130 3 P (by decide) hP) nin0)))
                    have f183 := lf13.keep Kq171 (ninS (Ne.symm ne_pl130_sW130) (ninS (M_sW130 2 P (by decide) hP) (ninS (M_sW130 3 P (by decide) hP) nin0)))
                    have f184 : own_P Z T171.heap 3 ad sN (own_f2 tq P (tq P)) (own_f2 wq P (wq P)) := own_P.keepTW lf0 W__ hP Kq171 (allS (Or.inr (Or.inr M_pl130)) (allS (Or.inl rfl) (allS (Or.inr (Or.inl rfl)) all0))) g1_171 g2_171
                    have Z171 : n0 ≤ T171.heap.size := Nat.le_trans Zz Kq171.1
                    have K171 : Keep h0 T171.heap [(ad 2 0), (ad 3 0), (ad 2 1), (ad 3 1), (ad 2 2), (ad 3 2)] := K.trans Kq171 (allS (Or.inr sz_pl130) (allS (Or.inl (own_mem6 ad (by decide) hP)) (allS (Or.inl (own_mem6 ad (by decide) hP)) all0)))
                    have N171 := Fr.app N143 N171q
                    refine own_tr st171 ?_
                    refine own_st (S' := T171.setTop (mkF m 116 #[qA bu, qI (2 : Int32), qA b118, qL lg, qZ, qA pa, qI (3 : Int32), qN P, qA (ad 0 P), qI ((Int32.ofNat i) + (1 : Int32))] [])) (fun t k => XS.iinc X171.here hx rfl (hb hby d29_158) rfl (l' := #[qA bu, qI (2 : Int32), qA b118, qL lg, qZ, qA pa, qI (3 : Int32), qN P, qA (ad 0 P), qI ((Int32.ofNat i) + (1 : Int32))]) rfl (XS.goto X171.here hx rfl (pc0 := 161) (pc' := 116) rfl (hb hby d29_161) (by decide) (by decide) k)) ?_
                    have f185 : own_P Z T171.heap 3 ad sN tq wq := by have q := f184; rw [own_f2_self, own_f2_self] at q; exact q
                    rw [own_incN (by omega)]
                    exact ih _ _ P (i + 1) lg tq wq fa1 fb1 X171 N171 K171 Z171 f185 f172 f173 f174 f175 f176 f177 f178 f179 f180 f181 g0_171 f182 f183 (by omega) hP (by omega) (fun z => hq0 (fun y => z (by omega))) (fun z => hq1 (by omega))
                  · refine own_st (S' := T164.setTop (mkF m 134 #[qA bu, qI (2 : Int32), qA b118, qL lg, qZ, qA pa, qI (3 : Int32), qN P, qA (ad 0 P), qN i] [(.ref (ad 0 P)), (.ref (ad 2 P)), (.ref b118)])) (fun t k => XS.aload X164.here hx rfl (hb hby d29_132) rfl rfl k) ?_
                    obtain ⟨T186, X186, e186, st186⟩ := getF X164 hx hZ hown (Or.inr (own_hw hw (i := 51) rfl)) Via.refl e164 (lf0 P hP).2.2.2.2.2.2.1 (g := (mkF m 134 #[qA bu, qI (2 : Int32), qA b118, qL lg, qZ, qA pa, qI (3 : Int32), qN P, qA (ad 0 P), qN i] [(.ref (ad 0 P)), (.ref (ad 2 P)), (.ref b118)])) rfl rfl (hb hby d29_134)
                    refine own_st st186 ?_
                    refine own_st (S' := T186.setTop (mkF m 139 #[qA bu, qI (2 : Int32), qA b118, qL lg, qZ, qA pa, qI (3 : Int32), qN P, qA (ad 0 P), qN i] [(.ref (ad 0 P)), (.ref (ad 3 P)), (.ref (ad 2 P)), (.ref b118)])) (fun t k => XS.aload X186.here hx rfl (hb hby d29_137) rfl rfl k) ?_
                    have hE1 : sN P (i + 1) = sN P i + 1 := by rcases hd1 P i hP hc142 hc145 with q | q <;> omega
                    have hkq : ∃ k, k ≤ 16368 ∧ own_wc (wq P (sN P i)) = Int32.ofNat k := by
                      by_cases z : (P = pA ∧ iA < i) ∨ pA < P
                      · rw [(hq1 z).2]; exact own_hkW hk hA hxA P (sN P i) hP (by omega)
                      · rw [(hq0 z).2]; exact hk P (sN P i) hP (by omega)
                    obtain ⟨kk, hkk1, hkk2⟩ := hkq
                    obtain ⟨T187, X187, e187, st187⟩ := getF X186 hx hZ hown (Or.inr (own_hw hw (i := 61) rfl)) Via.refl e186 (lf0 P hP).2.2.2.2.1 (g := (mkF m 139 #[qA bu, qI (2 : Int32), qA b118, qL lg, qZ, qA pa, qI (3 : Int32), qN P, qA (ad 0 P), qN i] [(.ref (ad 0 P)), (.ref (ad 3 P)), (.ref (ad 2 P)), (.ref b118)])) rfl rfl (hb hby d29_139)
                    refine own_st st187 ?_
                    have O188 := (lf0 P hP).2.2.2.2.2.2.2.2.1
                    obtain ⟨c188, Ar188, S188, M188, V188⟩ := O188
                    have at188 : c188.slots[((Int32.ofNat i)).toNatClampNeg]? = some (.int (Int32.ofNat (sN P i))) := own_at S188 V188 (own_ixN (by omega) (by omega)) rfl
                    refine own_st (S' := T187.setTop (mkF m 147 #[qA bu, qI (2 : Int32), qA b118, qL lg, qZ, qA pa, qI (3 : Int32), qN P, qA (ad 0 P), qN i] [(.ref (ad 0 P)), qV (sN P i), (.ref (ad 3 P)), (.ref (ad 2 P)), (.ref b118)])) (fun t k => XS.iload X187.here hx rfl (hb hby d29_142) rfl (X187.iaload hx (j := (Int32.ofNat i)) (v := (.int (Int32.ofNat (sN P i)))) (by rw [e187]; exact Ar188.1) (State.isArrayOf_alike hZ.alike Ar188.2.1) Ar188.2.2 (own_in S188 (own_ixN (by omega) (by omega))) at188 (g := (mkF m 144 #[qA bu, qI (2 : Int32), qA b118, qL lg, qZ, qA pa, qI (3 : Int32), qN P, qA (ad 0 P), qN i] [qV i, (.ref (ad 1 P)), (.ref (ad 3 P)), (.ref (ad 2 P)), (.ref b118)])) rfl rfl (hb hby d29_144) _ (XS.aload X187.here hx rfl (hb hby d29_145) rfl rfl k))) ?_
                    obtain ⟨T189, X189, e189, st189⟩ := getF X187 hx hZ hown (Or.inr (own_hw hw (i := 61) rfl)) Via.refl e187 (lf0 P hP).2.2.2.2.1 (g := (mkF m 147 #[qA bu, qI (2 : Int32), qA b118, qL lg, qZ, qA pa, qI (3 : Int32), qN P, qA (ad 0 P), qN i] [(.ref (ad 0 P)), qV (sN P i), (.ref (ad 3 P)), (.ref (ad 2 P)), (.ref b118)])) rfl rfl (hb hby d29_147)
                    refine own_st st189 ?_
                    refine own_st (S' := T189.setTop (mkF m 154 #[qA bu, qI (2 : Int32), qA b118, qL lg, qZ, qA pa, qI (3 : Int32), qN P, qA (ad 0 P), qN i] [(.int ((Int32.ofNat i) + (1 : Int32))), (.ref (ad 1 P)), qV (sN P i), (.ref (ad 3 P)), (.ref (ad 2 P)), (.ref b118)])) (fun t k => XS.iload X189.here hx rfl (hb hby d29_150) rfl (XS.iconst X189.here hx rfl (hb hby d29_152) (XS.iadd X189.here hx rfl (hb hby d29_153) rfl k))) ?_
                    refine own_st (S' := T189.setTop (mkF m 154 #[qA bu, qI (2 : Int32), qA b118, qL lg, qZ, qA pa, qI (3 : Int32), qN P, qA (ad 0 P), qN i] [qV (i + 1), (.ref (ad 1 P)), qV (sN P i), (.ref (ad 3 P)), (.ref (ad 2 P)), (.ref b118)])) (fun t k => by rw [own_incN (i := i) (by omega)]; exact k) ?_
                    have O190 := (lf0 P hP).2.2.2.2.2.2.2.2.1
                    obtain ⟨c190, Ar190, S190, M190, V190⟩ := O190
                    have at190 : c190.slots[((Int32.ofNat (i + 1))).toNatClampNeg]? = some (.int (Int32.ofNat (sN P (i + 1)))) := own_at S190 V190 (own_ixN (by omega) (by omega)) rfl
                    refine own_st (S' := T189.setTop (mkF m 155 #[qA bu, qI (2 : Int32), qA b118, qL lg, qZ, qA pa, qI (3 : Int32), qN P, qA (ad 0 P), qN i] [qV (sN P (i + 1)), qV (sN P i), (.ref (ad 3 P)), (.ref (ad 2 P)), (.ref b118)])) (fun t k => X189.iaload hx (j := (Int32.ofNat (i + 1))) (v := (.int (Int32.ofNat (sN P (i + 1))))) (by rw [e189]; exact Ar190.1) (State.isArrayOf_alike hZ.alike Ar190.2.1) Ar190.2.2 (own_in S190 (own_ixN (by omega) (by omega))) at190 (g := (mkF m 154 #[qA bu, qI (2 : Int32), qA b118, qL lg, qZ, qA pa, qI (3 : Int32), qN P, qA (ad 0 P), qN i] [qV (i + 1), (.ref (ad 1 P)), qV (sN P i), (.ref (ad 3 P)), (.ref (ad 2 P)), (.ref b118)])) rfl rfl (hb hby d29_154) _ k) ?_
                    obtain ⟨cq191, kq191, q191a, q191b, q191c⟩ := isOf hZ e189 lf7
                    obtain ⟨_, _, ⟨T191, L191, k191, n191⟩, -, X191, ⟨Lc191, hQ191, l191, y191, z191⟩, st191⟩ := X189.virtualBack hx (y := (⟨"kithrank/Graph$ClassSort", "sort", "([I[DII)V"⟩ : MethodName)) (z := (⟨"kithrank/Graph$ClassSort", "sort", "([I[DII)V"⟩ : MethodName)) hown (mvT hZ (own_hw hw (i := 81) rfl)) (mvT hZ (own_hw hw (i := 82) rfl)) (notFace_of_selects (args := #[]) (mvT hZ (own_hw hw (i := 84) rfl))) (mvT hZ (own_hw hw (i := 84) rfl)) (mvT hZ (own_hw hw (i := 83) rfl)) (by decide) (backOf (W := 0) (rm8 l Z a0 hw [] b118 (ad 2 P) (ad 3 P) (Int32.ofNat (sN P i)) (Int32.ofNat (sN P (i + 1))) pl130 sT130 sW130 (sN P (own_u P)) fa1 fb1 (tq P) (wq P) (sN P i) kk T.heap n0 Zz lf7 lf8 lf9 lf10 lf11 lf12 lf13 (lf0 P hP).2.2.2.2.2.2.2.2.2.1 (lf0 P hP).2.2.2.2.2.2.2.2.2.2 G_pl130 G_sT130 G_sW130 (W__.1 2 P (by decide) hP) (W__.1 3 P (by decide) hP) ne_b118_pl130 ne_b118_sT130 ne_b118_sW130 (M_b118 2 P (by decide) hP) (M_b118 3 P (by decide) hP) ne_pl130_sT130 ne_pl130_sW130 (M_pl130 2 P (by decide) hP) (M_pl130 3 P (by decide) hP) ne_sT130_sW130 (M_sT130 2 P (by decide) hP) (M_sT130 3 P (by decide) hP) (M_sW130 2 P (by decide) hP) (M_sW130 3 P (by decide) hP) (fun q => absurd (W__.2 2 3 P P (by decide) (by decide) hP hP q).1 (by decide)) rfl (congrArg Int32.ofNat hE1) (by omega) (by omega) hkk2 hkk1) hZ (own_hw hw (i := 85) rfl) (own_hw hw (i := 67) rfl) (by decide) (by decide)) q191a q191c (g := (mkF m 155 #[qA bu, qI (2 : Int32), qA b118, qL lg, qZ, qA pa, qI (3 : Int32), qN P, qA (ad 0 P), qN i] [qV (sN P (i + 1)), qV (sN P i), (.ref (ad 3 P)), (.ref (ad 2 P)), (.ref b118)])) rfl (by rw [hml]; rfl) (Steps.refl _) (argsL := [(.ref (ad 2 P)), (.ref (ad 3 P)), (.int (Int32.ofNat (sN P i))), (.int (Int32.ofNat (sN P (i + 1))))]) (rest := []) (lenOf pd29_3 rfl) rfl (by show 2 * 0 + _ ≤ _; exact Nat.le_of_eq rfl) (hb hby d29_155) (fun _ _ => ⟨rfl, e189, (by decide : 4 + 0 ≤ _), (by decide : 16377 + 0 ≤ _)⟩)
                    dsimp only [Pt.U, Pt.locs, Pt.cells, Pt.slots] at X191 l191 y191 z191 st191 hQ191
                    rw [l191, y191, z191] at X191
                    obtain ⟨rfl, N191q, Kq191, g0_191, g1_191, g2_191, g3_191, g4_191⟩ := hQ191
                    have f192 := lf1.keep Kq191
                    have f193 := lf2.keep Kq191 (ninS ne_bu_pl130 (ninS ne_bu_sT130 (ninS ne_bu_sW130 (ninS (M_bu 2 P (by decide) hP) (ninS (M_bu 3 P (by decide) hP) nin0)))))
                    have f194 := lf3.keep Kq191 (ninS ne_bu_pl130 (ninS ne_bu_sT130 (ninS ne_bu_sW130 (ninS (M_bu 2 P (by decide) hP) (ninS (M_bu 3 P (by decide) hP) nin0)))))
                    have f195 := lf4.keep Kq191 (ninS ne_bu_pl130 (ninS ne_bu_sT130 (ninS ne_bu_sW130 (ninS (M_bu 2 P (by decide) hP) (ninS (M_bu 3 P (by decide) hP) nin0)))))
                    have f196 := lf5.keep Kq191 (ninS ne_pa_pl130 (ninS ne_pa_sT130 (ninS ne_pa_sW130 (ninS (M_pa 2 P (by decide) hP) (ninS (M_pa 3 P (by decide) hP) nin0)))))
                    have f197 := lf6.keep Kq191 (ninS ne_nx_pl130 (ninS ne_nx_sT130 (ninS ne_nx_sW130 (ninS (M_nx 2 P (by decide) hP) (ninS (M_nx 3 P (by decide) hP) nin0)))))
                    have f198 := lf7.keep Kq191
                    have f199 := lf8.keep Kq191 (ninS ne_b118_pl130 (ninS ne_b118_sT130 (ninS ne_b118_sW130 (ninS (M_b118 2 P (by decide) hP) (ninS (M_b118 3 P (by decide) hP) nin0)))))
                    have f200 := lf9.keep Kq191 (ninS ne_b118_pl130 (ninS ne_b118_sT130 (ninS ne_b118_sW130 (ninS (M_b118 2 P (by decide) hP) (ninS (M_b118 3 P (by decide) hP) nin0)))))
                    have f201 := lf10.keep Kq191 (ninS ne_b118_pl130 (ninS ne_b118_sT130 (ninS ne_b118_sW130 (ninS (M_b118 2 P (by decide) hP) (ninS (M_b118 3 P (by decide) hP) nin0)))))
                    have f202 : own_P Z T191.heap 3 ad sN (own_f2 tq P (tq P)) (own_f2 wq P (wq P)) := own_P.keepTW lf0 W__ hP Kq191 (allS (Or.inr (Or.inr M_pl130)) (allS (Or.inr (Or.inr M_sT130)) (allS (Or.inr (Or.inr M_sW130)) (allS (Or.inl rfl) (allS (Or.inr (Or.inl rfl)) all0))))) g3_191 g4_191
                    have Z191 : n0 ≤ T191.heap.size := Nat.le_trans Zz Kq191.1
                    have K191 : Keep h0 T191.heap [(ad 2 0), (ad 3 0), (ad 2 1), (ad 3 1), (ad 2 2), (ad 3 2)] := K.trans Kq191 (allS (Or.inr sz_pl130) (allS (Or.inr sz_sT130) (allS (Or.inr sz_sW130) (allS (Or.inl (own_mem6 ad (by decide) hP)) (allS (Or.inl (own_mem6 ad (by decide) hP)) all0)))))
                    have N191 := Fr.app N143 N191q
                    refine own_tr st191 ?_
                    refine own_st (S' := T191.setTop (mkF m 116 #[qA bu, qI (2 : Int32), qA b118, qL lg, qZ, qA pa, qI (3 : Int32), qN P, qA (ad 0 P), qI ((Int32.ofNat i) + (1 : Int32))] [])) (fun t k => XS.iinc X191.here hx rfl (hb hby d29_158) rfl (l' := #[qA bu, qI (2 : Int32), qA b118, qL lg, qZ, qA pa, qI (3 : Int32), qN P, qA (ad 0 P), qI ((Int32.ofNat i) + (1 : Int32))]) rfl (XS.goto X191.here hx rfl (pc0 := 161) (pc' := 116) rfl (hb hby d29_161) (by decide) (by decide) k)) ?_
                    have f203 : own_P Z T191.heap 3 ad sN tq wq := by have q := f202; rw [own_f2_self, own_f2_self] at q; exact q
                    rw [own_incN (by omega)]
                    exact ih _ _ P (i + 1) lg tq wq (own_uI fa1 0 ((tq P) (sN P i))) (own_uD fb1 0 ((wq P) (sN P i))) X191 N191 K191 Z191 f203 f192 f193 f194 f195 f196 f197 f198 f199 f200 f201 g0_191 g1_191 g2_191 (by omega) hP (by omega) (fun z => hq0 (fun y => z (by omega))) (fun z => hq1 (by omega))
              · refine own_st (S' := T.setTop (mkF m 120 #[qA bu, qI (2 : Int32), qA b118, qL lg, qZ, qA pa, qI (3 : Int32), qN P, qA (ad 0 P), qN i] [(.ref (ad 0 P)), qV i])) (fun t k => XS.iload X.here hx rfl (hb hby d29_116) rfl (XS.aload X.here hx rfl (hb hby d29_118) rfl rfl k)) ?_
                obtain ⟨cq204, q204, q204'⟩ := (lf0 P hP).1.cell
                obtain ⟨_, _, ⟨T204, L204, k204, n204⟩, -, X204, ⟨Lc204, hQ204, l204, y204, z204⟩, st204⟩ := own_privNest X hx (y := (⟨"kithrank/Graph$Page", "users", "()I"⟩ : MethodName)) hown (mvMN hZ (own_hw hw (i := 57) rfl)) (mvT hZ (own_hw hw (i := 58) rfl)) (mvT hZ (own_hw hw (i := 22) rfl)) (Cond.privateMethod_at (mvP hZ (own_hw hw (i := 59) rfl) (args := #[]))) (mvT hZ (own_hw hw (i := 60) rfl)) (by decide) (backOf (W := 1) (rm10 l Z a0 hw [] (ad 0 P) (ad 1 P) (own_N (sN P)) (own_u P) T.heap n0 Zz (lf0 P hP).1 (lf0 P hP).2.2.2.2.1 (lf0 P hP).2.2.2.2.2.2.2.2.1 (own_u_le P)) hZ (own_hw hw (i := 60) rfl) (own_hw hw (i := 23) rfl) (by decide) (by decide)) (g := (mkF m 120 #[qA bu, qI (2 : Int32), qA b118, qL lg, qZ, qA pa, qI (3 : Int32), qN P, qA (ad 0 P), qN i] [(.ref (ad 0 P)), qV i])) rfl (by rw [hml]; rfl) (a := (ad 0 P)) q204 q204' (argsL := []) (rest := [(.int (Int32.ofNat i))]) (lenOf pd29_0 rfl) rfl (by show 2 * 0 + _ ≤ _; exact Nat.le_of_eq rfl) (hb hby d29_120) (fun _ _ => ⟨rfl, rfl, (by decide : 4 + 0 ≤ _), (by decide : 16377 + 0 ≤ _)⟩)
                dsimp only [Pt.U, Pt.locs, Pt.cells, Pt.slots] at X204 l204 y204 z204 st204 hQ204
                rw [l204, y204, z204] at X204
                obtain ⟨rfl, N204q, hh204⟩ := hQ204
                have N204 := Fr.app N N204q
                refine own_tr st204 ?_
                have hc205 : ¬ ((Int32.ofNat i) < (Int32.ofNat (own_u P))) := fun q => hc142 ((own_ltN (by omega) (by omega)).mp q)
                refine own_st (S' := T204.setTop (mkF m 164 #[qA bu, qI (2 : Int32), qA b118, qL lg, qZ, qA pa, qI (3 : Int32), qN P, qA (ad 0 P), qN i] [])) (fun t k => XS.icmpYes X204.here hx rfl (pc0 := 123) (pc' := 164) rfl (hb hby d29_123) rfl (flt hc205).2.1 (by decide) (by decide) k) ?_
                have hpass : pA < P + 1 → (P = pA ∧ iA < i) ∨ pA < P := fun z => by
                  rcases Nat.lt_or_ge pA P with q | q
                  · exact Or.inr q
                  · have e : P = pA := by omega
                    have hiA' := hiA
                    rw [← e] at hiA'
                    exact Or.inl ⟨e, by omega⟩
                refine own_st (S' := T204.setTop (mkF m 167 #[qA bu, qI (2 : Int32), qA b118, qL lg, qZ, qA pa, qI (3 : Int32), qN P, qA (ad 0 P), qN i] [(.ref (ad 0 P)), (.long lg)])) (fun t k => XS.lloadN X204.here hx rfl (hb hby d29_164) rfl (XS.aload X204.here hx rfl (hb hby d29_165) rfl rfl k)) ?_
                obtain ⟨T206, X206, e206, st206⟩ := getF X204 hx hZ hown (Or.inr (own_hw hw (i := 51) rfl)) Via.refl hh204 (lf0 P hP).2.2.2.2.2.2.1 (g := (mkF m 167 #[qA bu, qI (2 : Int32), qA b118, qL lg, qZ, qA pa, qI (3 : Int32), qN P, qA (ad 0 P), qN i] [(.ref (ad 0 P)), (.long lg)])) rfl rfl (hb hby d29_167)
                refine own_st st206 ?_
                show own_Go p.tables e below _ (T206.setTop (mkF m 170 #[qA bu, qI (2 : Int32), qA b118, qL lg, qZ, qA pa, qI (3 : Int32), qN P, qA (ad 0 P), qN i] [(.ref (ad 3 P)), (.long lg)]))
                obtain ⟨_, _, ⟨T207, L207, k207, n207⟩, -, X207, ⟨Lc207, hQ207, l207, y207, z207⟩, st207⟩ := own_callSN X206 hx (y := (⟨"kithrank/Graph", "lightEntries", "([D)J"⟩ : MethodName)) hown (mvMN hZ (own_hw hw (i := 106) rfl)) (mvT hZ (own_hw hw (i := 107) rfl)) (mvT hZ (own_hw hw (i := 73) rfl)) (mvT hZ (own_hw hw (i := 108) rfl)) (by decide) (backOf (W := 2) (rm14 l Z a0 hw [] (ad 3 P) (sN P (own_u P)) (wq P) T.heap n0 Zz (lf0 P hP).2.2.2.2.2.2.2.2.2.2) hZ (own_hw hw (i := 108) rfl) (own_hw hw (i := 73) rfl) (by decide) (by decide)) (g := (mkF m 170 #[qA bu, qI (2 : Int32), qA b118, qL lg, qZ, qA pa, qI (3 : Int32), qN P, qA (ad 0 P), qN i] [(.ref (ad 3 P)), (.long lg)])) rfl (by rw [hml]; rfl) (argsL := [(.ref (ad 3 P))]) (rest := [(.long lg)]) (lenOf pd29_4 rfl) rfl (by show 2 * 0 + _ ≤ _; exact Nat.le_of_eq rfl) (hb hby d29_170) (fun _ _ => ⟨rfl, e206, (by decide : 4 + 0 ≤ _), (by decide : 16377 + 0 ≤ _)⟩)
                dsimp only [Pt.U, Pt.locs, Pt.cells, Pt.slots] at X207 l207 y207 z207 st207 hQ207
                rw [l207, y207, z207] at X207
                obtain ⟨r207, rfl, N207q, Kq207⟩ := hQ207
                have f208 := lf0.keep Kq207 all0
                have f209 := lf1.keep Kq207
                have f210 := lf2.keep Kq207 nin0
                have f211 := lf3.keep Kq207 nin0
                have f212 := lf4.keep Kq207 nin0
                have f213 := lf5.keep Kq207 nin0
                have f214 := lf6.keep Kq207 nin0
                have f215 := lf7.keep Kq207
                have f216 := lf8.keep Kq207 nin0
                have f217 := lf9.keep Kq207 nin0
                have f218 := lf10.keep Kq207 nin0
                have f219 := lf11.keep Kq207 nin0
                have f220 := lf12.keep Kq207 nin0
                have f221 := lf13.keep Kq207 nin0
                have Z207 : n0 ≤ T207.heap.size := Nat.le_trans Zz Kq207.1
                have K207 : Keep h0 T207.heap [(ad 2 0), (ad 3 0), (ad 2 1), (ad 3 1), (ad 2 2), (ad 3 2)] := K.trans Kq207 all0
                have N207 := Fr.app N204 N207q
                refine own_st st207 ?_
                refine own_st (S' := T207.setTop (mkF m 174 #[qA bu, qI (2 : Int32), qA b118, qL lg, qZ, qA pa, qI (3 : Int32), qN P, qA (ad 0 P), qN i] [(.long (lg + r207))])) (fun t k => XS.ladd X207.here hx rfl (hb hby d29_173) rfl k) ?_
                obtain ⟨v222, qv222⟩ : ∃ z : Int64, z = (lg + r207) := ⟨_, rfl⟩
                show own_Go p.tables e below _ (T207.setTop (mkF m 174 #[qA bu, qI (2 : Int32), qA b118, qL lg, qZ, qA pa, qI (3 : Int32), qN P, qA (ad 0 P), qN i] [(.long (lg + r207))]))
                rw [← qv222]
                refine own_st (S' := T207.setTop (mkF m 99 #[qA bu, qI (2 : Int32), qA b118, qL v222, qZ, qA pa, qI (3 : Int32), qI ((Int32.ofNat P) + (1 : Int32)), qA (ad 0 P), qN i] [])) (fun t k => XS.lstoreN X207.here hx rfl (hb hby d29_174) rfl (l' := #[qA bu, qI (2 : Int32), qA b118, qL v222, qZ, qA pa, qI (3 : Int32), qN P, qA (ad 0 P), qN i]) rfl (XS.iinc X207.here hx rfl (hb hby d29_175) rfl (l' := #[qA bu, qI (2 : Int32), qA b118, qL v222, qZ, qA pa, qI (3 : Int32), qI ((Int32.ofNat P) + (1 : Int32)), qA (ad 0 P), qN i]) rfl (XS.goto X207.here hx rfl (pc0 := 178) (pc' := 99) rfl (hb hby d29_178) (by decide) (by decide) k))) ?_
                obtain ⟨Pm, hPm⟩ : ∃ z : Nat, z = P + 1 := ⟨_, rfl⟩
                refine own_st (S' := T207.setTop (mkF m 99 #[qA bu, qI (2 : Int32), qA b118, qL v222, qZ, qA pa, qI (3 : Int32), qN Pm, qA (ad 0 P), qN i] [])) (fun t k => by rw [own_incN (i := P) (by omega), ← hPm]; exact k) ?_
                by_cases hc223 : Pm < 3
                · have hc224 : (Int32.ofNat Pm) < (3 : Int32) := (own_ltN (n := 3) (by omega) (by omega)).mpr hc223
                  refine own_st (S' := T207.setTop (mkF m 106 #[qA bu, qI (2 : Int32), qA b118, qL v222, qZ, qA pa, qI (3 : Int32), qN Pm, qA (ad 0 P), qN i] [])) (fun t k => XS.iload X207.here hx rfl (hb hby d29_99) rfl (XS.iload X207.here hx rfl (hb hby d29_101) rfl (XS.icmpNo X207.here hx rfl (hb hby d29_103) rfl (tlt hc224).2.1 k))) ?_
                  have hPm3 : Pm < 3 := hc223
                  have O225 := f213
                  obtain ⟨c225, Ar225, S225, M225, V225⟩ := O225
                  have at225 : c225.slots[((Int32.ofNat Pm)).toNatClampNeg]? = some (.ref (ad 0 Pm)) := own_at S225 V225 (own_ixN (by omega) (by decide)) rfl
                  refine own_st (S' := T207.setTop (mkF m 116 #[qA bu, qI (2 : Int32), qA b118, qL v222, qZ, qA pa, qI (3 : Int32), qN Pm, qA (ad 0 Pm), qI (0 : Int32)] [])) (fun t k => XS.aload X207.here hx rfl (hb hby d29_106) rfl rfl (XS.iload X207.here hx rfl (hb hby d29_108) rfl (X207.aaload hx (j := (Int32.ofNat Pm)) (v := (.ref (ad 0 Pm))) Ar225.1 (State.isArrayOf_alike hZ.alike Ar225.2.1) rfl Ar225.2.2 (own_in S225 (own_ixN (by omega) (by decide))) at225 (g := (mkF m 110 #[qA bu, qI (2 : Int32), qA b118, qL v222, qZ, qA pa, qI (3 : Int32), qN Pm, qA (ad 0 P), qN i] [qV Pm, (.ref pa)])) rfl rfl (hb hby d29_110) _ (XS.astore X207.here hx rfl (hb hby d29_111) rfl rfl (l' := #[qA bu, qI (2 : Int32), qA b118, qL v222, qZ, qA pa, qI (3 : Int32), qN Pm, qA (ad 0 Pm), qN i]) rfl (XS.iconst X207.here hx rfl (hb hby d29_113) (XS.istore X207.here hx rfl (hb hby d29_114) rfl (l' := #[qA bu, qI (2 : Int32), qA b118, qL v222, qZ, qA pa, qI (3 : Int32), qN Pm, qA (ad 0 Pm), qI (0 : Int32)]) rfl k)))))) ?_
                  exact ih _ _ Pm 0 v222 tq wq fa1 fb1 X207 N207 K207 Z207 f208 f209 f210 f211 f212 f213 f214 f215 f216 f217 f218 f219 f220 f221 (by omega) hPm3 (Nat.zero_le _) (fun z => hq0 (fun y => z (Or.inr (by omega)))) (fun z => hq1 (hpass (by omega)))
                · have hc226 : ¬ ((Int32.ofNat Pm) < (3 : Int32)) := fun q => hc223 ((own_ltN (n := 3) (by omega) (by omega)).mp q)
                  refine own_st (S' := T207.setTop (mkF m 181 #[qA bu, qI (2 : Int32), qA b118, qL v222, qZ, qA pa, qI (3 : Int32), qN Pm, qA (ad 0 P), qN i] [])) (fun t k => XS.iload X207.here hx rfl (hb hby d29_99) rfl (XS.iload X207.here hx rfl (hb hby d29_101) rfl (XS.icmpYes X207.here hx rfl (pc0 := 103) (pc' := 181) rfl (hb hby d29_103) rfl (flt hc226).2.1 (by decide) (by decide) k))) ?_
                  obtain ⟨T227, h227, X227, e227, E227, A227, D227, -, st227⟩ := newO X207 hx hZ hown (own_hw hw (i := 109) rfl) (own_hw hw (i := 110) rfl) (own_hw hw (i := 73) rfl) rfl (g := (mkF m 181 #[qA bu, qI (2 : Int32), qA b118, qL v222, qZ, qA pa, qI (3 : Int32), qN Pm, qA (ad 0 P), qN i] [])) rfl (hb hby d29_181) (by decide) (by decide)
                  obtain ⟨b227, g227⟩ : ∃ z, z = T207.heap.size := ⟨_, rfl⟩
                  rw [← g227] at A227 D227 st227
                  have G_b227 : n0 ≤ b227 := Nat.le_trans Z207 (Nat.le_of_eq g227.symm)
                  have sz_b227 : h0.size ≤ b227 := Nat.le_trans K207.1 (Nat.le_of_eq g227.symm)
                  have ne_sW130_b227 : sW130 ≠ b227 := Nat.ne_of_lt (Nat.lt_of_lt_of_le f221.lt (Nat.le_of_eq g227.symm))
                  have ne_bu_b227 : bu ≠ b227 := Nat.ne_of_lt (Nat.lt_of_lt_of_le f209.lt (Nat.le_of_eq g227.symm))
                  have ne_pa_b227 : pa ≠ b227 := Nat.ne_of_lt (Nat.lt_of_lt_of_le f213.lt (Nat.le_of_eq g227.symm))
                  have ne_pl130_b227 : pl130 ≠ b227 := Nat.ne_of_lt (Nat.lt_of_lt_of_le f219.lt (Nat.le_of_eq g227.symm))
                  have ne_nx_b227 : nx ≠ b227 := Nat.ne_of_lt (Nat.lt_of_lt_of_le f214.lt (Nat.le_of_eq g227.symm))
                  have ne_sT130_b227 : sT130 ≠ b227 := Nat.ne_of_lt (Nat.lt_of_lt_of_le f220.lt (Nat.le_of_eq g227.symm))
                  have ne_b118_b227 : b118 ≠ b227 := Nat.ne_of_lt (Nat.lt_of_lt_of_le f215.lt (Nat.le_of_eq g227.symm))
                  have M_b227 : own_Nm 3 ad b227 := own_P.nm f208 (Nat.le_of_eq g227.symm)
                  have f228 := f208.ext E227
                  have f229 := f209.ext E227
                  have f230 := f210.ext E227
                  have f231 := f211.ext E227
                  have f232 := f212.ext E227
                  have f233 := f213.ext E227
                  have f234 := f214.ext E227
                  have f235 := f215.ext E227
                  have f236 := f216.ext E227
                  have f237 := f217.ext E227
                  have f238 := f218.ext E227
                  have f239 := f219.ext E227
                  have f240 := f220.ext E227
                  have f241 := f221.ext E227
                  have Z227 : n0 ≤ h227.size := Nat.le_trans Z207 E227.1
                  have K227 : Keep h0 h227 [(ad 2 0), (ad 3 0), (ad 2 1), (ad 3 1), (ad 2 2), (ad 3 2)] := K207.ext E227
                  have f242 : Fld Z h227 b227 "kithrank/Graph" "starts" "[[I" .null := D227 (Or.inr (own_hw hw (i := 132) rfl)) (ty := (.array (.array .int))) (by decide)
                  have f243 : Fld Z h227 b227 "kithrank/Graph" "targets" "[[I" .null := D227 (Or.inr (own_hw hw (i := 134) rfl)) (ty := (.array (.array .int))) (by decide)
                  have f244 : Fld Z h227 b227 "kithrank/Graph" "weights" "[[D" .null := D227 (Or.inr (own_hw hw (i := 136) rfl)) (ty := (.array (.array .double))) (by decide)
                  have f245 : Fld Z h227 b227 "kithrank/Graph" "apart" "[[Lkithrank/Graph$OwnEdges;" .null := D227 (Or.inr (own_hw hw (i := 138) rfl)) (ty := (.array (.array (.object "kithrank/Graph$OwnEdges")))) (by decide)
                  have f246 : Fld Z h227 b227 "kithrank/Graph" "userCount" "I" (.int (0 : Int32)) := D227 (Or.inr (own_hw hw (i := 140) rfl)) (ty := .int) (by decide)
                  have f247 : Fld Z h227 b227 "kithrank/Graph" "edgeCount" "I" (.int (0 : Int32)) := D227 (Or.inr (own_hw hw (i := 142) rfl)) (ty := .int) (by decide)
                  have f248 : Fld Z h227 b227 "kithrank/Graph" "lightEntries" "J" (.long (0 : Int64)) := D227 (Or.inr (own_hw hw (i := 144) rfl)) (ty := .long) (by decide)
                  refine own_st st227 ?_
                  refine own_st (S' := T227.setTop (mkF m 186 #[qA bu, qI (2 : Int32), qA b118, qL v222, qZ, qA pa, qI (3 : Int32), qN Pm, qA (ad 0 P), qN i] [(.ref bu), (.ref b227), (.ref b227)])) (fun t k => XS.dup X227.here hx rfl (hb hby d29_184) rfl rfl (XS.aloadN X227.here hx rfl (hb hby d29_185) rfl rfl k)) ?_
                  obtain ⟨T249, X249, e249, st249⟩ := getF X227 hx hZ hown (host := "") (Or.inl (own_hw hw (i := 14) rfl)) Via.refl e227 f230 (g := (mkF m 186 #[qA bu, qI (2 : Int32), qA b118, qL v222, qZ, qA pa, qI (3 : Int32), qN Pm, qA (ad 0 P), qN i] [(.ref bu), (.ref b227), (.ref b227)])) rfl rfl (hb hby d29_186)
                  refine own_st st249 ?_
                  refine own_st (S' := T249.setTop (mkF m 190 #[qA bu, qI (2 : Int32), qA b118, qL v222, qZ, qA pa, qI (3 : Int32), qN Pm, qA (ad 0 P), qN i] [(.ref bu), (.ref pa), (.ref b227), (.ref b227)])) (fun t k => XS.aloadN X249.here hx rfl (hb hby d29_189) rfl rfl k) ?_
                  obtain ⟨T250, X250, e250, st250⟩ := getF X249 hx hZ hown (host := "") (Or.inl (own_hw hw (i := 16) rfl)) Via.refl e249 f231 (g := (mkF m 190 #[qA bu, qI (2 : Int32), qA b118, qL v222, qZ, qA pa, qI (3 : Int32), qN Pm, qA (ad 0 P), qN i] [(.ref bu), (.ref pa), (.ref b227), (.ref b227)])) rfl rfl (hb hby d29_190)
                  refine own_st st250 ?_
                  have O251 := f234
                  obtain ⟨c251, Ar251, S251, M251, V251⟩ := O251
                  have ln251 : c251.slots.size.toInt32 = (130 : Int32) := by rw [S251]; try (first | rfl | decide | exact rfl)
                  refine own_st (S' := T250.setTop (mkF m 195 #[qA bu, qI (2 : Int32), qA b118, qL v222, qZ, qA pa, qI (3 : Int32), qN Pm, qA (ad 0 P), qN i] [(.ref bu), (.int (130 : Int32)), (.ref pa), (.ref b227), (.ref b227)])) (fun t k => X250.arraylength hx (by rw [e250]; exact Ar251.1) (State.isArrayOf_alike hZ.alike Ar251.2.1) (g := (mkF m 193 #[qA bu, qI (2 : Int32), qA b118, qL v222, qZ, qA pa, qI (3 : Int32), qN Pm, qA (ad 0 P), qN i] [(.ref nx), (.ref pa), (.ref b227), (.ref b227)])) rfl rfl (hb hby d29_193) _ (by rw [ln251]; exact (XS.aloadN X250.here hx rfl (hb hby d29_194) rfl rfl k))) ?_
                  obtain ⟨T252, X252, e252, st252⟩ := getF X250 hx hZ hown (host := "") (Or.inl (own_hw hw (i := 43) rfl)) Via.refl e250 f232 (g := (mkF m 195 #[qA bu, qI (2 : Int32), qA b118, qL v222, qZ, qA pa, qI (3 : Int32), qN Pm, qA (ad 0 P), qN i] [(.ref bu), (.int (130 : Int32)), (.ref pa), (.ref b227), (.ref b227)])) rfl rfl (hb hby d29_195)
                  refine own_st st252 ?_
                  refine own_st (S' := T252.setTop (mkF m 204 #[qA bu, qI (2 : Int32), qA b118, qL v222, qZ, qA pa, qI (3 : Int32), qN Pm, qA (ad 0 P), qN i] [(.long v222), (.int (en / (2 : Int64)).toInt32), (.int (130 : Int32)), (.ref pa), (.ref b227), (.ref b227)])) (fun t k => X252.ldc2Long hx hown (mvT hZ (own_hw hw (i := 111) rfl)) (g := (mkF m 198 #[qA bu, qI (2 : Int32), qA b118, qL v222, qZ, qA pa, qI (3 : Int32), qN Pm, qA (ad 0 P), qN i] [(.long en), (.int (130 : Int32)), (.ref pa), (.ref b227), (.ref b227)])) rfl (hb hby d29_198) _ (XS.ldiv X252.here hx rfl (hb hby d29_201) rfl (by decide) (XS.l2i X252.here hx rfl (hb hby d29_202) rfl (XS.lloadN X252.here hx rfl (hb hby d29_203) rfl k)))) ?_
                  obtain ⟨_, _, ⟨T253, L253, k253, n253⟩, -, X253, ⟨Lc253, hQ253, l253, y253, z253⟩, st253⟩ := X252.specialBackNest hx (y := (⟨"kithrank/Graph", "<init>", "([Lkithrank/Graph$Page;IIJ)V"⟩ : MethodName)) rfl hown (mvMN hZ (own_hw hw (i := 112) rfl)) (mvT hZ (own_hw hw (i := 113) rfl)) (mvT hZ (own_hw hw (i := 114) rfl)) (by decide) (backOf (W := 1) (rm21 l Z a0 hw [] b227 pa (130 : Int32) ((en / (2 : Int64)).toInt32) v222 ad sN tq wq h227 n0 Z227 f228 A227 f242 f243 f244 f245 f246 f247 f248 G_b227 M_b227 f233 (Ne.symm ne_pa_b227)) hZ (own_hw hw (i := 114) rfl) (own_hw hw (i := 73) rfl) (by decide) (by decide)) (g := (mkF m 204 #[qA bu, qI (2 : Int32), qA b118, qL v222, qZ, qA pa, qI (3 : Int32), qN Pm, qA (ad 0 P), qN i] [(.long v222), (.int (en / (2 : Int64)).toInt32), (.int (130 : Int32)), (.ref pa), (.ref b227), (.ref b227)])) rfl (by rw [hml]; rfl) (Steps.refl _) (a := b227) (argsL := [(.ref pa), (.int (130 : Int32)), (.int (en / (2 : Int64)).toInt32), (.long v222)]) (rest := [(.ref b227)]) (lenOf pd29_5 rfl) rfl (by show 2 * 0 + _ ≤ _; exact Nat.le_of_eq rfl) (hb hby d29_204) (fun _ _ => ⟨rfl, e252, (by decide : 5 + 3 ≤ _), (by decide : 16384 + 9 ≤ _)⟩)
                  dsimp only [Pt.U, Pt.locs, Pt.cells, Pt.slots] at X253 l253 y253 z253 st253 hQ253
                  rw [l253, y253, z253] at X253
                  obtain ⟨sa253, ta253, wa253, rfl, N253q, Kq253, sq_sa253, sq_ta253, sq_wa253, ne_sa253_ta253, ne_sa253_wa253, ne_ta253_wa253, g0_253, g1_253, g2_253, g3_253, g4_253, g5_253, g6_253⟩ := hQ253
                  have G_sa253 : n0 ≤ sa253 := Nat.le_trans Z227 sq_sa253
                  have sz_sa253 : h0.size ≤ sa253 := Nat.le_trans K227.1 sq_sa253
                  have ne_sW130_sa253 : sW130 ≠ sa253 := Nat.ne_of_lt (Nat.lt_of_lt_of_le f241.lt sq_sa253)
                  have ne_bu_sa253 : bu ≠ sa253 := Nat.ne_of_lt (Nat.lt_of_lt_of_le f229.lt sq_sa253)
                  have ne_b227_sa253 : b227 ≠ sa253 := Nat.ne_of_lt (Nat.lt_of_lt_of_le A227.lt sq_sa253)
                  have ne_pa_sa253 : pa ≠ sa253 := Nat.ne_of_lt (Nat.lt_of_lt_of_le f233.lt sq_sa253)
                  have ne_pl130_sa253 : pl130 ≠ sa253 := Nat.ne_of_lt (Nat.lt_of_lt_of_le f239.lt sq_sa253)
                  have ne_nx_sa253 : nx ≠ sa253 := Nat.ne_of_lt (Nat.lt_of_lt_of_le f234.lt sq_sa253)
                  have ne_sT130_sa253 : sT130 ≠ sa253 := Nat.ne_of_lt (Nat.lt_of_lt_of_le f240.lt sq_sa253)
                  have ne_b118_sa253 : b118 ≠ sa253 := Nat.ne_of_lt (Nat.lt_of_lt_of_le f235.lt sq_sa253)
                  have G_ta253 : n0 ≤ ta253 := Nat.le_trans Z227 sq_ta253
                  have sz_ta253 : h0.size ≤ ta253 := Nat.le_trans K227.1 sq_ta253
                  have ne_sW130_ta253 : sW130 ≠ ta253 := Nat.ne_of_lt (Nat.lt_of_lt_of_le f241.lt sq_ta253)
                  have ne_bu_ta253 : bu ≠ ta253 := Nat.ne_of_lt (Nat.lt_of_lt_of_le f229.lt sq_ta253)
                  have ne_b227_ta253 : b227 ≠ ta253 := Nat.ne_of_lt (Nat.lt_of_lt_of_le A227.lt sq_ta253)
                  have ne_pa_ta253 : pa ≠ ta253 := Nat.ne_of_lt (Nat.lt_of_lt_of_le f233.lt sq_ta253)
                  have ne_pl130_ta253 : pl130 ≠ ta253 := Nat.ne_of_lt (Nat.lt_of_lt_of_le f239.lt sq_ta253)
                  have ne_nx_ta253 : nx ≠ ta253 := Nat.ne_of_lt (Nat.lt_of_lt_of_le f234.lt sq_ta253)
                  have ne_sT130_ta253 : sT130 ≠ ta253 := Nat.ne_of_lt (Nat.lt_of_lt_of_le f240.lt sq_ta253)
                  have ne_b118_ta253 : b118 ≠ ta253 := Nat.ne_of_lt (Nat.lt_of_lt_of_le f235.lt sq_ta253)
                  have G_wa253 : n0 ≤ wa253 := Nat.le_trans Z227 sq_wa253
                  have sz_wa253 : h0.size ≤ wa253 := Nat.le_trans K227.1 sq_wa253
                  have ne_sW130_wa253 : sW130 ≠ wa253 := Nat.ne_of_lt (Nat.lt_of_lt_of_le f241.lt sq_wa253)
                  have ne_bu_wa253 : bu ≠ wa253 := Nat.ne_of_lt (Nat.lt_of_lt_of_le f229.lt sq_wa253)
                  have ne_b227_wa253 : b227 ≠ wa253 := Nat.ne_of_lt (Nat.lt_of_lt_of_le A227.lt sq_wa253)
                  have ne_pa_wa253 : pa ≠ wa253 := Nat.ne_of_lt (Nat.lt_of_lt_of_le f233.lt sq_wa253)
                  have ne_pl130_wa253 : pl130 ≠ wa253 := Nat.ne_of_lt (Nat.lt_of_lt_of_le f239.lt sq_wa253)
                  have ne_nx_wa253 : nx ≠ wa253 := Nat.ne_of_lt (Nat.lt_of_lt_of_le f234.lt sq_wa253)
                  have ne_sT130_wa253 : sT130 ≠ wa253 := Nat.ne_of_lt (Nat.lt_of_lt_of_le f240.lt sq_wa253)
                  have ne_b118_wa253 : b118 ≠ wa253 := Nat.ne_of_lt (Nat.lt_of_lt_of_le f235.lt sq_wa253)
                  have M_sa253 : own_Nm 3 ad sa253 := own_P.nm f228 sq_sa253
                  have M_ta253 : own_Nm 3 ad ta253 := own_P.nm f228 sq_ta253
                  have M_wa253 : own_Nm 3 ad wa253 := own_P.nm f228 sq_wa253
                  have f254 := f228.keep Kq253 (allS M_b227 all0)
                  have f255 := f229.keep Kq253
                  have f256 := f230.keep Kq253 (ninS ne_bu_b227 nin0)
                  have f257 := f231.keep Kq253 (ninS ne_bu_b227 nin0)
                  have f258 := f232.keep Kq253 (ninS ne_bu_b227 nin0)
                  have f259 := f233.keep Kq253 (ninS ne_pa_b227 nin0)
                  have f260 := f234.keep Kq253 (ninS ne_nx_b227 nin0)
                  have f261 := f235.keep Kq253
                  have f262 := f236.keep Kq253 (ninS ne_b118_b227 nin0)
                  have f263 := f237.keep Kq253 (ninS ne_b118_b227 nin0)
                  have f264 := f238.keep Kq253 (ninS ne_b118_b227 nin0)
                  have f265 := f239.keep Kq253 (ninS ne_pl130_b227 nin0)
                  have f266 := f240.keep Kq253 (ninS ne_sT130_b227 nin0)
                  have f267 := f241.keep Kq253 (ninS ne_sW130_b227 nin0)
                  have f268 := A227.keep Kq253
                  have Z253 : n0 ≤ T253.heap.size := Nat.le_trans Z227 Kq253.1
                  have K253 : Keep h0 T253.heap [(ad 2 0), (ad 3 0), (ad 2 1), (ad 3 1), (ad 2 2), (ad 3 2)] := K227.trans Kq253 (allS (Or.inr sz_b227) all0)
                  have N253 := Fr.app N207 N253q
                  refine own_tr st253 ?_
                  show own_Go p.tables e below _ (T253.setTop (mkF m 207 #[qA bu, qI (2 : Int32), qA b118, qL v222, qZ, qA pa, qI (3 : Int32), qN Pm, qA (ad 0 P), qN i] [(.ref b227)]))
                  have f269 : own_P Z T253.heap 3 ad sN (own_f2 tF pA (own_sw (tF pA) (sN pA iA) t1)) (own_f2 wF pA (own_sw (wF pA) (sN pA iA) t1)) := by have q := hq1 (hpass (by omega)); rw [← q.1, ← q.2]; exact f254
                  refine own_retA X253 hx hret rfl rfl rfl hlk (hb hby d29_207) ?_ (by decide) (by decide)
                  exact ⟨b227, sa253, ta253, wa253, rfl, N253, K253, sz_b227, sz_sa253, sz_ta253, sz_wa253, ne_b227_sa253, ne_b227_ta253, ne_b227_wa253, ne_sa253_ta253, ne_sa253_wa253, ne_ta253_wa253, f268, g0_253, g1_253, g2_253, g3_253, g4_253, g5_253, g6_253, f269⟩
          exact loop 195 _ _ 0 0 (0 : Int64) tF wF own_z own_zD X139 N130 (by rw [e139]; exact K130) (by rw [e139]; exact Z130) (by rw [e139]; exact f131) (by rw [e139]; exact f132) (by rw [e139]; exact f133) (by rw [e139]; exact f134) (by rw [e139]; exact f135) (by rw [e139]; exact f136) (by rw [e139]; exact f137) (by rw [e139]; exact f138) (by rw [e139]; exact g0_130) (by rw [e139]; exact g1_130) (by rw [e139]; exact g2_130) (by rw [e139]; exact g3_130) (by rw [e139]; exact g4_130) (by rw [e139]; exact g5_130) (by omega) (by decide) (Nat.zero_le _) (fun _ => ⟨rfl, rfl⟩) (fun z => absurd z (by omega))
  exact loop 195 _ _ 0 0 0 X101 N0 (by rw [e101]; exact K0) (by rw [e101]; exact Z0) (by rw [e101]; exact P__) (by rw [e101]; exact E_bu) (by rw [e101]; exact F_bu_pages) (by rw [e101]; exact F_bu_next) (by rw [e101]; exact F_bu_entries) (by rw [e101]; exact A_pa) (by rw [e101]; exact A_nx) (by rw [e101]; exact S___HEAVIEST_CLASS) (by omega) (by decide) (Nat.zero_le _) (by decide) (fun z => absurd z (by omega))
theorem pd0_0 : parseMethodDescriptor "([I)V" = some ⟨[(.array .int)], none⟩ := by decide +kernel
theorem pd0_1 : parseMethodDescriptor "()Lkithrank/Graph;" = some ⟨[], some (.object "kithrank/Graph")⟩ := by decide +kernel
theorem pd0_2 : parseMethodDescriptor "(I)I" = some ⟨[.int], some .int⟩ := by decide +kernel
theorem pd0_3 : parseMethodDescriptor "(I)[I" = some ⟨[.int], some (.array .int)⟩ := by decide +kernel
theorem pd0_4 : parseMethodDescriptor "(I)[D" = some ⟨[.int], some (.array .double)⟩ := by decide +kernel
theorem pd0_5 : parseMethodDescriptor "(IID)V" = some ⟨[.int, .int, .double], none⟩ := by decide +kernel
theorem pn0 : plainName "kithrank/BuilderAddPinLaw" = true := by first | (simp [plainName, overriddenIn]; done) | decide +kernel
theorem ef0 (m : MethodId) (p0 : Int32) (p1 : Int32) (p2 : Int32) (p3 : Int32) (p4 : Int32) (p5 : Int32) : entryFrame m #[(.int p0), (.int p1), (.int p2), (.int p3), (.int p4), (.int p5)] maxLocals = mkF m 0 #[.val (.int p0), .val (.int p1), .val (.int p2), .val (.int p3), .val (.int p4), .val (.int p5), .unset, .unset, .unset, .unset, .unset, .unset, .unset, .unset, .unset, .unset, .unset, .unset, .unset, .unset, .unset, .unset, .unset, .unset, .unset, .unset, .unset, .unset, .unset, .unset, .unset, .unset, .unset, .unset, .unset] [] := by first | (simp [entryFrame, mkF, argsToLocals, Value.category, maxLocals]; done) | rfl
def Q0 (n0 : Nat) (v : Option Value) (h : Heap) (L : List Loc) : Prop := v = some (.int 1) ∧ Fr n0 L
set_option maxRecDepth 65536 in
set_option maxHeartbeats 40000000 in
theorem rm0 (l : Launch) (Z : State) (a0 : Array Value) (hw : ∀ d ∈ tables_1, d.before a0 Z = true) (ws : List Jvm.Cond) (p0 : Int32) (p1 : Int32) (p2 : Int32) (p3 : Int32) (p4 : Int32) (p5 : Int32) (h0 : Heap) (n0 : Nat) (Z0 : n0 ≤ h0.size) (hn0 : h0.size ≤ n0) (SN : Sta Z h0 "kithrank/Graph" "HEAVIEST_CLASS" "I" (.int (16368 : Int32))) :
    MetFree l x (head1 (Jvm.Cond.code x code maxLocals ret :: ws) room_1) (fun as' U => as' = #[(.int p0), (.int p1), (.int p2), (.int p3), (.int p4), (.int p5)] ∧ Z.Warmed39 U.vm ∧ U.heap = h0) (fun _ _ _ _ _ => True) (fun _ U o U' => ∃ v L, o = .returned v ∧ Q0 n0 v U'.heap L ∧ FrameEnd U o U' L room_1.cells room_1.slots) := by
  refine own_body (plainFor_of_name pn0) ?_
  intro p e s m below meth c s₁ hx hby hml hown0 hnm hret hlk hZ X0 e0
  have hown : s.vm.findClass "kithrank/BuilderAddPinLaw" = some m.cls := hown0
  have N0 := Fr.nil n0
  rw [ef0]
  have K0 : Keep h0 h0 [] := Keep.refl h0 []
  refine own_st (S' := s₁.setTop (mkF m 8 #[qI p0, qI p1, qI p2, qI p3, qI p4, qI p5, qU, qU, qU, qU, qU, qU, qU, qU, qU, qU, qU, qU, qU, qU, qU, qU, qU, qU, qU, qU, qU, qU, qU, qU, qU, qU, qU, qU, qU] [(.int ((p0 &&& (2147483647 : Int32)) % (130 : Int32)))])) (fun t k => XS.iloadN X0.here hx rfl (hb hby at_0) rfl (X0.ldcInt hx hown (mvT hZ (own_hw hw (i := 0) rfl)) (g := (mkF m 1 #[qI p0, qI p1, qI p2, qI p3, qI p4, qI p5, qU, qU, qU, qU, qU, qU, qU, qU, qU, qU, qU, qU, qU, qU, qU, qU, qU, qU, qU, qU, qU, qU, qU, qU, qU, qU, qU, qU, qU] [(.int p0)])) rfl (hb hby at_1) _ (XS.iand X0.here hx rfl (hb hby at_3) rfl (XS.sipush X0.here hx rfl (hb hby at_4) (Jvm.RoadKit.iremM X0 hx rfl (hb hby at_7) rfl (by decide) k))))) ?_
  obtain ⟨v101, qv101⟩ : ∃ z : Int32, z = ((p0 &&& (2147483647 : Int32)) % (130 : Int32)) := ⟨_, rfl⟩
  show own_Go p.tables e below _ (s₁.setTop (mkF m 8 #[qI p0, qI p1, qI p2, qI p3, qI p4, qI p5, qU, qU, qU, qU, qU, qU, qU, qU, qU, qU, qU, qU, qU, qU, qU, qU, qU, qU, qU, qU, qU, qU, qU, qU, qU, qU, qU, qU, qU] [(.int ((p0 &&& (2147483647 : Int32)) % (130 : Int32)))]))
  rw [← qv101]
  refine own_st (S' := s₁.setTop (mkF m 20 #[qI p0, qI p1, qI p2, qI p3, qI p4, qI p5, qI v101, qU, qU, qU, qU, qU, qU, qU, qU, qU, qU, qU, qU, qU, qU, qU, qU, qU, qU, qU, qU, qU, qU, qU, qU, qU, qU, qU, qU] [(.int ((1 : Int32) + ((p1 &&& (2147483647 : Int32)) % (129 : Int32))))])) (fun t k => XS.istore X0.here hx rfl (hb hby at_8) rfl (l' := #[qI p0, qI p1, qI p2, qI p3, qI p4, qI p5, qI v101, qU, qU, qU, qU, qU, qU, qU, qU, qU, qU, qU, qU, qU, qU, qU, qU, qU, qU, qU, qU, qU, qU, qU, qU, qU, qU, qU, qU]) rfl (XS.iconst X0.here hx rfl (hb hby at_10) (XS.iloadN X0.here hx rfl (hb hby at_11) rfl (X0.ldcInt hx hown (mvT hZ (own_hw hw (i := 0) rfl)) (g := (mkF m 12 #[qI p0, qI p1, qI p2, qI p3, qI p4, qI p5, qI v101, qU, qU, qU, qU, qU, qU, qU, qU, qU, qU, qU, qU, qU, qU, qU, qU, qU, qU, qU, qU, qU, qU, qU, qU, qU, qU, qU, qU] [(.int p1), (.int (1 : Int32))])) rfl (hb hby at_12) _ (XS.iand X0.here hx rfl (hb hby at_14) rfl (XS.sipush X0.here hx rfl (hb hby at_15) (Jvm.RoadKit.iremM X0 hx rfl (hb hby at_18) rfl (by decide) (XS.iadd X0.here hx rfl (hb hby at_19) rfl k)))))))) ?_
  obtain ⟨v102, qv102⟩ : ∃ z : Int32, z = ((1 : Int32) + ((p1 &&& (2147483647 : Int32)) % (129 : Int32))) := ⟨_, rfl⟩
  show own_Go p.tables e below _ (s₁.setTop (mkF m 20 #[qI p0, qI p1, qI p2, qI p3, qI p4, qI p5, qI v101, qU, qU, qU, qU, qU, qU, qU, qU, qU, qU, qU, qU, qU, qU, qU, qU, qU, qU, qU, qU, qU, qU, qU, qU, qU, qU, qU, qU] [(.int ((1 : Int32) + ((p1 &&& (2147483647 : Int32)) % (129 : Int32))))]))
  rw [← qv102]
  refine own_st (S' := s₁.setTop (mkF m 32 #[qI p0, qI p1, qI p2, qI p3, qI p4, qI p5, qI v101, qI v102, qU, qU, qU, qU, qU, qU, qU, qU, qU, qU, qU, qU, qU, qU, qU, qU, qU, qU, qU, qU, qU, qU, qU, qU, qU, qU, qU] [(.int ((1 : Int32) + ((p2 &&& (2147483647 : Int32)) % (128 : Int32))))])) (fun t k => XS.istore X0.here hx rfl (hb hby at_20) rfl (l' := #[qI p0, qI p1, qI p2, qI p3, qI p4, qI p5, qI v101, qI v102, qU, qU, qU, qU, qU, qU, qU, qU, qU, qU, qU, qU, qU, qU, qU, qU, qU, qU, qU, qU, qU, qU, qU, qU, qU, qU, qU]) rfl (XS.iconst X0.here hx rfl (hb hby at_22) (XS.iloadN X0.here hx rfl (hb hby at_23) rfl (X0.ldcInt hx hown (mvT hZ (own_hw hw (i := 0) rfl)) (g := (mkF m 24 #[qI p0, qI p1, qI p2, qI p3, qI p4, qI p5, qI v101, qI v102, qU, qU, qU, qU, qU, qU, qU, qU, qU, qU, qU, qU, qU, qU, qU, qU, qU, qU, qU, qU, qU, qU, qU, qU, qU, qU, qU] [(.int p2), (.int (1 : Int32))])) rfl (hb hby at_24) _ (XS.iand X0.here hx rfl (hb hby at_26) rfl (XS.sipush X0.here hx rfl (hb hby at_27) (Jvm.RoadKit.iremM X0 hx rfl (hb hby at_30) rfl (by decide) (XS.iadd X0.here hx rfl (hb hby at_31) rfl k)))))))) ?_
  obtain ⟨v103, qv103⟩ : ∃ z : Int32, z = ((1 : Int32) + ((p2 &&& (2147483647 : Int32)) % (128 : Int32))) := ⟨_, rfl⟩
  show own_Go p.tables e below _ (s₁.setTop (mkF m 32 #[qI p0, qI p1, qI p2, qI p3, qI p4, qI p5, qI v101, qI v102, qU, qU, qU, qU, qU, qU, qU, qU, qU, qU, qU, qU, qU, qU, qU, qU, qU, qU, qU, qU, qU, qU, qU, qU, qU, qU, qU] [(.int ((1 : Int32) + ((p2 &&& (2147483647 : Int32)) % (128 : Int32))))]))
  rw [← qv103]
  refine own_st (S' := s₁.setTop (mkF m 38 #[qI p0, qI p1, qI p2, qI p3, qI p4, qI p5, qI v101, qI v102, qI v103, qU, qU, qU, qU, qU, qU, qU, qU, qU, qU, qU, qU, qU, qU, qU, qU, qU, qU, qU, qU, qU, qU, qU, qU, qU, qU] [(.int v102), (.int v103)])) (fun t k => XS.istore X0.here hx rfl (hb hby at_32) rfl (l' := #[qI p0, qI p1, qI p2, qI p3, qI p4, qI p5, qI v101, qI v102, qI v103, qU, qU, qU, qU, qU, qU, qU, qU, qU, qU, qU, qU, qU, qU, qU, qU, qU, qU, qU, qU, qU, qU, qU, qU, qU, qU]) rfl (XS.iload X0.here hx rfl (hb hby at_34) rfl (XS.iload X0.here hx rfl (hb hby at_36) rfl k))) ?_
  obtain ⟨v104, qv104⟩ : ∃ z : Int32, z = (if v103 < v102 then v103 else (v103 + (1 : Int32))) := ⟨_, rfl⟩
  refine own_st (S' := s₁.setTop (mkF m 44 #[qI p0, qI p1, qI p2, qI p3, qI p4, qI p5, qI v101, qI v102, qI v104, qU, qU, qU, qU, qU, qU, qU, qU, qU, qU, qU, qU, qU, qU, qU, qU, qU, qU, qU, qU, qU, qU, qU, qU, qU, qU] [])) (fun t k => ?_) ?_
  · show Steps p.tables e below (s₁.setTop (mkF m 38 #[qI p0, qI p1, qI p2, qI p3, qI p4, qI p5, qI v101, qI v102, qI v103, qU, qU, qU, qU, qU, qU, qU, qU, qU, qU, qU, qU, qU, qU, qU, qU, qU, qU, qU, qU, qU, qU, qU, qU, qU, qU] [(.int v102), (.int v103)])) _
    by_cases hc105 : v103 < v102
    · rw [if_pos hc105] at qv104
      replace qv104 := Eq.symm qv104
      subst qv104
      refine XS.icmpYes X0.here hx rfl (pc0 := 38) (pc' := 44) rfl (hb hby at_38) rfl (tlt hc105).1 (by decide) (by decide) ?_
      show Steps p.tables e below (s₁.setTop (mkF m 44 #[qI p0, qI p1, qI p2, qI p3, qI p4, qI p5, qI v101, qI v102, qI v103, qU, qU, qU, qU, qU, qU, qU, qU, qU, qU, qU, qU, qU, qU, qU, qU, qU, qU, qU, qU, qU, qU, qU, qU, qU, qU] [])) _
      exact k
    · rw [if_neg hc105] at qv104
      replace qv104 := Eq.symm qv104
      subst qv104
      refine XS.icmpNo X0.here hx rfl (hb hby at_38) rfl (flt hc105).1 ?_
      show Steps p.tables e below (s₁.setTop (mkF m 41 #[qI p0, qI p1, qI p2, qI p3, qI p4, qI p5, qI v101, qI v102, qI v103, qU, qU, qU, qU, qU, qU, qU, qU, qU, qU, qU, qU, qU, qU, qU, qU, qU, qU, qU, qU, qU, qU, qU, qU, qU, qU] [])) _
      refine XS.iinc X0.here hx rfl (hb hby at_41) rfl (l' := #[qI p0, qI p1, qI p2, qI p3, qI p4, qI p5, qI v101, qI v102, qI (v103 + (1 : Int32)), qU, qU, qU, qU, qU, qU, qU, qU, qU, qU, qU, qU, qU, qU, qU, qU, qU, qU, qU, qU, qU, qU, qU, qU, qU, qU]) rfl ?_
      show Steps p.tables e below (s₁.setTop (mkF m 44 #[qI p0, qI p1, qI p2, qI p3, qI p4, qI p5, qI v101, qI v102, qI (v103 + (1 : Int32)), qU, qU, qU, qU, qU, qU, qU, qU, qU, qU, qU, qU, qU, qU, qU, qU, qU, qU, qU, qU, qU, qU, qU, qU, qU, qU] [])) _
      exact k
  refine own_st (S' := s₁.setTop (mkF m 53 #[qI p0, qI p1, qI p2, qI p3, qI p4, qI p5, qI v101, qI v102, qI v104, qU, qU, qU, qU, qU, qU, qU, qU, qU, qU, qU, qU, qU, qU, qU, qU, qU, qU, qU, qU, qU, qU, qU, qU, qU, qU] [(.int ((v101 + v102) % (130 : Int32)))])) (fun t k => XS.iload X0.here hx rfl (hb hby at_44) rfl (XS.iload X0.here hx rfl (hb hby at_46) rfl (XS.iadd X0.here hx rfl (hb hby at_48) rfl (XS.sipush X0.here hx rfl (hb hby at_49) (Jvm.RoadKit.iremM X0 hx rfl (hb hby at_52) rfl (by decide) k))))) ?_
  obtain ⟨v106, qv106⟩ : ∃ z : Int32, z = ((v101 + v102) % (130 : Int32)) := ⟨_, rfl⟩
  show own_Go p.tables e below _ (s₁.setTop (mkF m 53 #[qI p0, qI p1, qI p2, qI p3, qI p4, qI p5, qI v101, qI v102, qI v104, qU, qU, qU, qU, qU, qU, qU, qU, qU, qU, qU, qU, qU, qU, qU, qU, qU, qU, qU, qU, qU, qU, qU, qU, qU, qU] [(.int ((v101 + v102) % (130 : Int32)))]))
  rw [← qv106]
  refine own_st (S' := s₁.setTop (mkF m 64 #[qI p0, qI p1, qI p2, qI p3, qI p4, qI p5, qI v101, qI v102, qI v104, qI v106, qU, qU, qU, qU, qU, qU, qU, qU, qU, qU, qU, qU, qU, qU, qU, qU, qU, qU, qU, qU, qU, qU, qU, qU, qU] [(.int ((v101 + v104) % (130 : Int32)))])) (fun t k => XS.istore X0.here hx rfl (hb hby at_53) rfl (l' := #[qI p0, qI p1, qI p2, qI p3, qI p4, qI p5, qI v101, qI v102, qI v104, qI v106, qU, qU, qU, qU, qU, qU, qU, qU, qU, qU, qU, qU, qU, qU, qU, qU, qU, qU, qU, qU, qU, qU, qU, qU, qU]) rfl (XS.iload X0.here hx rfl (hb hby at_55) rfl (XS.iload X0.here hx rfl (hb hby at_57) rfl (XS.iadd X0.here hx rfl (hb hby at_59) rfl (XS.sipush X0.here hx rfl (hb hby at_60) (Jvm.RoadKit.iremM X0 hx rfl (hb hby at_63) rfl (by decide) k)))))) ?_
  obtain ⟨v107, qv107⟩ : ∃ z : Int32, z = ((v101 + v104) % (130 : Int32)) := ⟨_, rfl⟩
  show own_Go p.tables e below _ (s₁.setTop (mkF m 64 #[qI p0, qI p1, qI p2, qI p3, qI p4, qI p5, qI v101, qI v102, qI v104, qI v106, qU, qU, qU, qU, qU, qU, qU, qU, qU, qU, qU, qU, qU, qU, qU, qU, qU, qU, qU, qU, qU, qU, qU, qU, qU] [(.int ((v101 + v104) % (130 : Int32)))]))
  rw [← qv107]
  refine own_st (S' := s₁.setTop (mkF m 72 #[qI p0, qI p1, qI p2, qI p3, qI p4, qI p5, qI v101, qI v102, qI v104, qI v106, qI v107, qU, qU, qU, qU, qU, qU, qU, qU, qU, qU, qU, qU, qU, qU, qU, qU, qU, qU, qU, qU, qU, qU, qU, qU] [(.int ((1 : Int32) + (p3 &&& (63 : Int32))))])) (fun t k => XS.istore X0.here hx rfl (hb hby at_64) rfl (l' := #[qI p0, qI p1, qI p2, qI p3, qI p4, qI p5, qI v101, qI v102, qI v104, qI v106, qI v107, qU, qU, qU, qU, qU, qU, qU, qU, qU, qU, qU, qU, qU, qU, qU, qU, qU, qU, qU, qU, qU, qU, qU, qU]) rfl (XS.iconst X0.here hx rfl (hb hby at_66) (XS.iloadN X0.here hx rfl (hb hby at_67) rfl (XS.bipush X0.here hx rfl (hb hby at_68) (XS.iand X0.here hx rfl (hb hby at_70) rfl (XS.iadd X0.here hx rfl (hb hby at_71) rfl k)))))) ?_
  obtain ⟨v108, qv108⟩ : ∃ z : Int32, z = ((1 : Int32) + (p3 &&& (63 : Int32))) := ⟨_, rfl⟩
  show own_Go p.tables e below _ (s₁.setTop (mkF m 72 #[qI p0, qI p1, qI p2, qI p3, qI p4, qI p5, qI v101, qI v102, qI v104, qI v106, qI v107, qU, qU, qU, qU, qU, qU, qU, qU, qU, qU, qU, qU, qU, qU, qU, qU, qU, qU, qU, qU, qU, qU, qU, qU] [(.int ((1 : Int32) + (p3 &&& (63 : Int32))))]))
  rw [← qv108]
  refine own_st (S' := s₁.setTop (mkF m 81 #[qI p0, qI p1, qI p2, qI p3, qI p4, qI p5, qI v101, qI v102, qI v104, qI v106, qI v107, qI v108, qU, qU, qU, qU, qU, qU, qU, qU, qU, qU, qU, qU, qU, qU, qU, qU, qU, qU, qU, qU, qU, qU, qU] [(.int ((1 : Int32) + (p4 &&& (63 : Int32))))])) (fun t k => XS.istore X0.here hx rfl (hb hby at_72) rfl (l' := #[qI p0, qI p1, qI p2, qI p3, qI p4, qI p5, qI v101, qI v102, qI v104, qI v106, qI v107, qI v108, qU, qU, qU, qU, qU, qU, qU, qU, qU, qU, qU, qU, qU, qU, qU, qU, qU, qU, qU, qU, qU, qU, qU]) rfl (XS.iconst X0.here hx rfl (hb hby at_74) (XS.iload X0.here hx rfl (hb hby at_75) rfl (XS.bipush X0.here hx rfl (hb hby at_77) (XS.iand X0.here hx rfl (hb hby at_79) rfl (XS.iadd X0.here hx rfl (hb hby at_80) rfl k)))))) ?_
  obtain ⟨v109, qv109⟩ : ∃ z : Int32, z = ((1 : Int32) + (p4 &&& (63 : Int32))) := ⟨_, rfl⟩
  show own_Go p.tables e below _ (s₁.setTop (mkF m 81 #[qI p0, qI p1, qI p2, qI p3, qI p4, qI p5, qI v101, qI v102, qI v104, qI v106, qI v107, qI v108, qU, qU, qU, qU, qU, qU, qU, qU, qU, qU, qU, qU, qU, qU, qU, qU, qU, qU, qU, qU, qU, qU, qU] [(.int ((1 : Int32) + (p4 &&& (63 : Int32))))]))
  rw [← qv109]
  refine own_st (S' := s₁.setTop (mkF m 83 #[qI p0, qI p1, qI p2, qI p3, qI p4, qI p5, qI v101, qI v102, qI v104, qI v106, qI v107, qI v108, qI v109, qU, qU, qU, qU, qU, qU, qU, qU, qU, qU, qU, qU, qU, qU, qU, qU, qU, qU, qU, qU, qU, qU] [])) (fun t k => XS.istore X0.here hx rfl (hb hby at_81) rfl (l' := #[qI p0, qI p1, qI p2, qI p3, qI p4, qI p5, qI v101, qI v102, qI v104, qI v106, qI v107, qI v108, qI v109, qU, qU, qU, qU, qU, qU, qU, qU, qU, qU, qU, qU, qU, qU, qU, qU, qU, qU, qU, qU, qU, qU]) rfl k) ?_
  obtain ⟨K1, hK1a, hK1b, eK1⟩ := own_kk qv108
  obtain ⟨K2, hK2a, hK2b, eK2⟩ := own_kk qv109
  refine own_st (S' := s₁.setTop (mkF m 90 #[qI p0, qI p1, qI p2, qI p3, qI p4, qI p5, qI v101, qI v102, qI v104, qI v106, qI v107, qI v108, qI v109, qU, qU, qU, qU, qU, qU, qU, qU, qU, qU, qU, qU, qU, qU, qU, qU, qU, qU, qU, qU, qU, qU] [(.double (FP.ddiv (FP.i2d v108) (4634204016564240384 : UInt64)))])) (fun t k => XS.iload X0.here hx rfl (hb hby at_83) rfl (XS.i2dS X0.here hx rfl (hb hby at_85) rfl rfl (X0.ldc2DoubleC hx hown (mvT hZ (own_hw hw (i := 1) rfl)) (g := (mkF m 86 #[qI p0, qI p1, qI p2, qI p3, qI p4, qI p5, qI v101, qI v102, qI v104, qI v106, qI v107, qI v108, qI v109, qU, qU, qU, qU, qU, qU, qU, qU, qU, qU, qU, qU, qU, qU, qU, qU, qU, qU, qU, qU, qU, qU] [(.double (FP.i2d v108))])) rfl (hb hby at_86) _ (XS.ddivS X0.here hx rfl (hb hby at_89) rfl (by rw [eK1]; exact own_w2 hK1a hK1b) rfl k)))) ?_
  obtain ⟨v110, qv110⟩ : ∃ z : UInt64, z = (FP.ddiv (FP.i2d v108) (4634204016564240384 : UInt64)) := ⟨_, rfl⟩
  show own_Go p.tables e below _ (s₁.setTop (mkF m 90 #[qI p0, qI p1, qI p2, qI p3, qI p4, qI p5, qI v101, qI v102, qI v104, qI v106, qI v107, qI v108, qI v109, qU, qU, qU, qU, qU, qU, qU, qU, qU, qU, qU, qU, qU, qU, qU, qU, qU, qU, qU, qU, qU, qU] [(.double (FP.ddiv (FP.i2d v108) (4634204016564240384 : UInt64)))]))
  rw [← qv110]
  refine own_st (S' := s₁.setTop (mkF m 99 #[qI p0, qI p1, qI p2, qI p3, qI p4, qI p5, qI v101, qI v102, qI v104, qI v106, qI v107, qI v108, qI v109, qD v110, qZ, qU, qU, qU, qU, qU, qU, qU, qU, qU, qU, qU, qU, qU, qU, qU, qU, qU, qU, qU, qU] [(.double (FP.ddiv (FP.i2d v109) (4634204016564240384 : UInt64)))])) (fun t k => XS.dstore X0.here hx rfl (hb hby at_90) rfl (l' := #[qI p0, qI p1, qI p2, qI p3, qI p4, qI p5, qI v101, qI v102, qI v104, qI v106, qI v107, qI v108, qI v109, qD v110, qZ, qU, qU, qU, qU, qU, qU, qU, qU, qU, qU, qU, qU, qU, qU, qU, qU, qU, qU, qU, qU]) rfl (XS.iload X0.here hx rfl (hb hby at_92) rfl (XS.i2dS X0.here hx rfl (hb hby at_94) rfl rfl (X0.ldc2DoubleC hx hown (mvT hZ (own_hw hw (i := 1) rfl)) (g := (mkF m 95 #[qI p0, qI p1, qI p2, qI p3, qI p4, qI p5, qI v101, qI v102, qI v104, qI v106, qI v107, qI v108, qI v109, qD v110, qZ, qU, qU, qU, qU, qU, qU, qU, qU, qU, qU, qU, qU, qU, qU, qU, qU, qU, qU, qU, qU] [(.double (FP.i2d v109))])) rfl (hb hby at_95) _ (XS.ddivS X0.here hx rfl (hb hby at_98) rfl (by rw [eK2]; exact own_w2 hK2a hK2b) rfl k))))) ?_
  obtain ⟨v111, qv111⟩ : ∃ z : UInt64, z = (FP.ddiv (FP.i2d v109) (4634204016564240384 : UInt64)) := ⟨_, rfl⟩
  show own_Go p.tables e below _ (s₁.setTop (mkF m 99 #[qI p0, qI p1, qI p2, qI p3, qI p4, qI p5, qI v101, qI v102, qI v104, qI v106, qI v107, qI v108, qI v109, qD v110, qZ, qU, qU, qU, qU, qU, qU, qU, qU, qU, qU, qU, qU, qU, qU, qU, qU, qU, qU, qU, qU] [(.double (FP.ddiv (FP.i2d v109) (4634204016564240384 : UInt64)))]))
  rw [← qv111]
  refine own_st (S' := s₁.setTop (mkF m 101 #[qI p0, qI p1, qI p2, qI p3, qI p4, qI p5, qI v101, qI v102, qI v104, qI v106, qI v107, qI v108, qI v109, qD v110, qZ, qD v111, qZ, qU, qU, qU, qU, qU, qU, qU, qU, qU, qU, qU, qU, qU, qU, qU, qU, qU, qU] [])) (fun t k => XS.dstore X0.here hx rfl (hb hby at_99) rfl (l' := #[qI p0, qI p1, qI p2, qI p3, qI p4, qI p5, qI v101, qI v102, qI v104, qI v106, qI v107, qI v108, qI v109, qD v110, qZ, qD v111, qZ, qU, qU, qU, qU, qU, qU, qU, qU, qU, qU, qU, qU, qU, qU, qU, qU, qU, qU]) rfl k) ?_
  have eW1 : v110 = own_w K1 := by rw [qv110, eK1]; rfl
  have eW2 : v111 = own_w K2 := by rw [qv111, eK2]; rfl
  obtain ⟨A, B, C, hA, hB, hC, hBA, hCA, hCB, eA, eB, eC⟩ := own_abc qv101 qv102 qv103 qv104 qv106 qv107
  refine own_st (S' := s₁.setTop (mkF m 101 #[qI p0, qI p1, qI p2, qI p3, qI p4, qI p5, qN A, qI v102, qI v104, qN B, qN C, qN K1, qN K2, qD (own_w K1), qZ, qD (own_w K2), qZ, qU, qU, qU, qU, qU, qU, qU, qU, qU, qU, qU, qU, qU, qU, qU, qU, qU, qU] [])) (fun t k => by rw [eW1, eW2, eA, eB, eC, eK1, eK2]; exact k) ?_
  refine own_st (S' := s₁.setTop (mkF m 104 #[qI p0, qI p1, qI p2, qI p3, qI p4, qI p5, qN A, qI v102, qI v104, qN B, qN C, qN K1, qN K2, qD (own_w K1), qZ, qD (own_w K2), qZ, qU, qU, qU, qU, qU, qU, qU, qU, qU, qU, qU, qU, qU, qU, qU, qU, qU, qU] [(.int (130 : Int32))])) (fun t k => XS.sipush X0.here hx rfl (hb hby at_101) k) ?_
  obtain ⟨T112, h112, k112, X112, e112, E112, A112, st112⟩ := newP X0 hx hZ (own_hw hw (i := 2) rfl) e0 (g := (mkF m 104 #[qI p0, qI p1, qI p2, qI p3, qI p4, qI p5, qN A, qI v102, qI v104, qN B, qN C, qN K1, qN K2, qD (own_w K1), qZ, qD (own_w K2), qZ, qU, qU, qU, qU, qU, qU, qU, qU, qU, qU, qU, qU, qU, qU, qU, qU, qU, qU] [(.int (130 : Int32))])) rfl (hb hby at_104) rfl (by decide) (cap := 130) (by decide) (by decide) (by decide) (by decide)
  obtain ⟨b112, g112⟩ : ∃ z, z = h0.size := ⟨_, rfl⟩
  rw [← g112] at A112 st112
  have G_b112 : n0 ≤ b112 := Nat.le_trans Z0 (Nat.le_of_eq g112.symm)
  have sz_b112 : h0.size ≤ b112 := Nat.le_trans K0.1 (Nat.le_of_eq g112.symm)
  have Z112 : n0 ≤ h112.size := Nat.le_trans Z0 E112.1
  have K112 : Keep h0 h112 [] := K0.ext E112
  have f113 : own_A Z h112 b112 .int 130 (fun _ => (.int (0 : Int32))) := own_A.new A112 (by first | rfl | decide | exact rfl)
  refine own_st st112 ?_
  refine own_st (S' := T112.setTop (mkF m 108 #[qI p0, qI p1, qI p2, qI p3, qI p4, qI p5, qN A, qI v102, qI v104, qN B, qN C, qN K1, qN K2, qD (own_w K1), qZ, qD (own_w K2), qZ, qA b112, qU, qU, qU, qU, qU, qU, qU, qU, qU, qU, qU, qU, qU, qU, qU, qU, qU] [])) (fun t k => XS.astore X112.here hx rfl (hb hby at_106) rfl rfl (l' := #[qI p0, qI p1, qI p2, qI p3, qI p4, qI p5, qN A, qI v102, qI v104, qN B, qN C, qN K1, qN K2, qD (own_w K1), qZ, qD (own_w K2), qZ, qA b112, qU, qU, qU, qU, qU, qU, qU, qU, qU, qU, qU, qU, qU, qU, qU, qU, qU]) rfl k) ?_
  have f114 : own_A Z h112 b112 .int 130 (own_N own_zN) := f113.cong (fun _ _ => rfl)
  refine own_st (S' := T112.setTop (mkF m 113 #[qI p0, qI p1, qI p2, qI p3, qI p4, qI p5, qN A, qI v102, qI v104, qN B, qN C, qN K1, qN K2, qD (own_w K1), qZ, qD (own_w K2), qZ, qA b112, qU, qU, qU, qU, qU, qU, qU, qU, qU, qU, qU, qU, qU, qU, qU, qU, qU] [(.int (2 : Int32)), qV A, (.ref b112)])) (fun t k => XS.aload X112.here hx rfl (hb hby at_108) rfl rfl (XS.iload X112.here hx rfl (hb hby at_110) rfl (XS.iconst X112.here hx rfl (hb hby at_112) k))) ?_
  have O115 := f114
  obtain ⟨c115, Ar115, S115, M115, V115⟩ := O115
  obtain ⟨T115, h115, X115, e115, W115, st115⟩ := stI X112 hx hZ e112 Ar115 (j := (Int32.ofNat A)) (own_in S115 (own_ixN (by omega) (by decide))) (g := (mkF m 113 #[qI p0, qI p1, qI p2, qI p3, qI p4, qI p5, qN A, qI v102, qI v104, qN B, qN C, qN K1, qN K2, qD (own_w K1), qZ, qD (own_w K2), qZ, qA b112, qU, qU, qU, qU, qU, qU, qU, qU, qU, qU, qU, qU, qU, qU, qU, qU, qU] [(.int (2 : Int32)), qV A, (.ref b112)])) rfl rfl (hb hby at_113)
  refine own_st st115 ?_
  have Z115 : n0 ≤ h115.size := Nat.le_trans Z112 (Keep.of_wr W115).1
  have N115 := Fr.snoc X115 N0 G_b112
  have K115 : Keep h0 h115 [] := K112.wr W115 (Or.inr sz_b112)
  have f116 : own_A Z h115 b112 .int 130 (own_N (own_uN own_zN A 2)) := (own_A.set ⟨c115, Ar115, S115, M115, V115⟩ (own_ixN (by omega) (by decide)) W115).cong (fun q _ => congrFun (own_upN own_zN A 2) q)
  refine own_st (S' := T115.setTop (mkF m 119 #[qI p0, qI p1, qI p2, qI p3, qI p4, qI p5, qN A, qI v102, qI v104, qN B, qN C, qN K1, qN K2, qD (own_w K1), qZ, qD (own_w K2), qZ, qA b112, qU, qU, qU, qU, qU, qU, qU, qU, qU, qU, qU, qU, qU, qU, qU, qU, qU] [(.int (1 : Int32)), qV B, (.ref b112)])) (fun t k => XS.aload X115.here hx rfl (hb hby at_114) rfl rfl (XS.iload X115.here hx rfl (hb hby at_116) rfl (XS.iconst X115.here hx rfl (hb hby at_118) k))) ?_
  have O117 := f116
  obtain ⟨c117, Ar117, S117, M117, V117⟩ := O117
  obtain ⟨T117, h117, X117, e117, W117, st117⟩ := stI X115 hx hZ e115 Ar117 (j := (Int32.ofNat B)) (own_in S117 (own_ixN (by omega) (by decide))) (g := (mkF m 119 #[qI p0, qI p1, qI p2, qI p3, qI p4, qI p5, qN A, qI v102, qI v104, qN B, qN C, qN K1, qN K2, qD (own_w K1), qZ, qD (own_w K2), qZ, qA b112, qU, qU, qU, qU, qU, qU, qU, qU, qU, qU, qU, qU, qU, qU, qU, qU, qU] [(.int (1 : Int32)), qV B, (.ref b112)])) rfl rfl (hb hby at_119)
  refine own_st st117 ?_
  have Z117 : n0 ≤ h117.size := Nat.le_trans Z115 (Keep.of_wr W117).1
  have N117 := Fr.snoc X117 N115 G_b112
  have K117 : Keep h0 h117 [] := K115.wr W117 (Or.inr sz_b112)
  have f118 : own_A Z h117 b112 .int 130 (own_N (own_uN (own_uN own_zN A 2) B 1)) := (own_A.set ⟨c117, Ar117, S117, M117, V117⟩ (own_ixN (by omega) (by decide)) W117).cong (fun q _ => congrFun (own_upN (own_uN own_zN A 2) B 1) q)
  refine own_st (S' := T117.setTop (mkF m 125 #[qI p0, qI p1, qI p2, qI p3, qI p4, qI p5, qN A, qI v102, qI v104, qN B, qN C, qN K1, qN K2, qD (own_w K1), qZ, qD (own_w K2), qZ, qA b112, qU, qU, qU, qU, qU, qU, qU, qU, qU, qU, qU, qU, qU, qU, qU, qU, qU] [(.int (1 : Int32)), qV C, (.ref b112)])) (fun t k => XS.aload X117.here hx rfl (hb hby at_120) rfl rfl (XS.iload X117.here hx rfl (hb hby at_122) rfl (XS.iconst X117.here hx rfl (hb hby at_124) k))) ?_
  have O119 := f118
  obtain ⟨c119, Ar119, S119, M119, V119⟩ := O119
  obtain ⟨T119, h119, X119, e119, W119, st119⟩ := stI X117 hx hZ e117 Ar119 (j := (Int32.ofNat C)) (own_in S119 (own_ixN (by omega) (by decide))) (g := (mkF m 125 #[qI p0, qI p1, qI p2, qI p3, qI p4, qI p5, qN A, qI v102, qI v104, qN B, qN C, qN K1, qN K2, qD (own_w K1), qZ, qD (own_w K2), qZ, qA b112, qU, qU, qU, qU, qU, qU, qU, qU, qU, qU, qU, qU, qU, qU, qU, qU, qU] [(.int (1 : Int32)), qV C, (.ref b112)])) rfl rfl (hb hby at_125)
  refine own_st st119 ?_
  have Z119 : n0 ≤ h119.size := Nat.le_trans Z117 (Keep.of_wr W119).1
  have N119 := Fr.snoc X119 N117 G_b112
  have K119 : Keep h0 h119 [] := K117.wr W119 (Or.inr sz_b112)
  have f120 : own_A Z h119 b112 .int 130 (own_N (own_uN (own_uN (own_uN own_zN A 2) B 1) C 1)) := (own_A.set ⟨c119, Ar119, S119, M119, V119⟩ (own_ixN (by omega) (by decide)) W119).cong (fun q _ => congrFun (own_upN (own_uN (own_uN own_zN A 2) B 1) C 1) q)
  show own_Go p.tables e below _ (T119.setTop (mkF m 126 #[qI p0, qI p1, qI p2, qI p3, qI p4, qI p5, qN A, qI v102, qI v104, qN B, qN C, qN K1, qN K2, qD (own_w K1), qZ, qD (own_w K2), qZ, qA b112, qU, qU, qU, qU, qU, qU, qU, qU, qU, qU, qU, qU, qU, qU, qU, qU, qU] []))
  obtain ⟨dg, qdg⟩ : ∃ z : Nat → Nat, z = own_uN (own_uN (own_uN own_zN A 2) B 1) C 1 := ⟨_, rfl⟩
  have f121 : own_A Z h119 b112 .int 130 (own_N dg) := by rw [qdg]; exact f120
  obtain ⟨T122, h122, X122, e122, E122, A122, D122, -, st122⟩ := newO X119 hx hZ hown (own_hw hw (i := 3) rfl) (own_hw hw (i := 4) rfl) (own_hw hw (i := 5) rfl) e119 (g := (mkF m 126 #[qI p0, qI p1, qI p2, qI p3, qI p4, qI p5, qN A, qI v102, qI v104, qN B, qN C, qN K1, qN K2, qD (own_w K1), qZ, qD (own_w K2), qZ, qA b112, qU, qU, qU, qU, qU, qU, qU, qU, qU, qU, qU, qU, qU, qU, qU, qU, qU] [])) rfl (hb hby at_126) (by decide) (by decide)
  obtain ⟨b122, g122⟩ : ∃ z, z = h119.size := ⟨_, rfl⟩
  rw [← g122] at A122 D122 st122
  have G_b122 : n0 ≤ b122 := Nat.le_trans Z119 (Nat.le_of_eq g122.symm)
  have sz_b122 : h0.size ≤ b122 := Nat.le_trans K119.1 (Nat.le_of_eq g122.symm)
  have ne_b112_b122 : b112 ≠ b122 := Nat.ne_of_lt (Nat.lt_of_lt_of_le f121.lt (Nat.le_of_eq g122.symm))
  have f123 := f121.ext E122
  have Z122 : n0 ≤ h122.size := Nat.le_trans Z119 E122.1
  have K122 : Keep h0 h122 [] := K119.ext E122
  have f124 : Fld Z h122 b122 "kithrank/Graph$Builder" "pages" "[Lkithrank/Graph$Page;" .null := D122 (Or.inr (own_hw hw (i := 15) rfl)) (ty := (.array (.object "kithrank/Graph$Page"))) (by decide)
  have f125 : Fld Z h122 b122 "kithrank/Graph$Builder" "next" "[I" .null := D122 (Or.inr (own_hw hw (i := 17) rfl)) (ty := (.array .int)) (by decide)
  have f126 : Fld Z h122 b122 "kithrank/Graph$Builder" "entries" "J" (.long (0 : Int64)) := D122 (Or.inl (own_hw hw (i := 44) rfl)) (ty := .long) (by decide)
  refine own_st st122 ?_
  refine own_st (S' := T122.setTop (mkF m 132 #[qI p0, qI p1, qI p2, qI p3, qI p4, qI p5, qN A, qI v102, qI v104, qN B, qN C, qN K1, qN K2, qD (own_w K1), qZ, qD (own_w K2), qZ, qA b112, qU, qU, qU, qU, qU, qU, qU, qU, qU, qU, qU, qU, qU, qU, qU, qU, qU] [(.ref b112), (.ref b122), (.ref b122)])) (fun t k => XS.dup X122.here hx rfl (hb hby at_129) rfl rfl (XS.aload X122.here hx rfl (hb hby at_130) rfl rfl k)) ?_
  obtain ⟨_, _, ⟨T127, L127, k127, n127⟩, -, X127, ⟨Lc127, hQ127, l127, y127, z127⟩, st127⟩ := X122.specialBack hx (y := (⟨"kithrank/Graph$Builder", "<init>", "([I)V"⟩ : MethodName)) rfl hown (mvT hZ (own_hw hw (i := 6) rfl)) (mvT hZ (own_hw hw (i := 7) rfl)) (mvT hZ (own_hw hw (i := 8) rfl)) (by decide) (backOf (W := 1) (rm27 l Z a0 hw [] b122 b112 (0 : Int64) dg h122 n0 Z122 A122 f124 f125 f126 G_b122 f123 (Ne.symm ne_b112_b122) (own_hS qdg)) hZ (own_hw hw (i := 8) rfl) (own_hw hw (i := 5) rfl) (by decide) (by decide)) (g := (mkF m 132 #[qI p0, qI p1, qI p2, qI p3, qI p4, qI p5, qN A, qI v102, qI v104, qN B, qN C, qN K1, qN K2, qD (own_w K1), qZ, qD (own_w K2), qZ, qA b112, qU, qU, qU, qU, qU, qU, qU, qU, qU, qU, qU, qU, qU, qU, qU, qU, qU] [(.ref b112), (.ref b122), (.ref b122)])) rfl (by rw [hml]; rfl) (Steps.refl _) (a := b122) (argsL := [(.ref b112)]) (rest := [(.ref b122)]) (lenOf pd0_0 rfl) rfl (by show 2 * 0 + _ ≤ _; exact Nat.le_of_eq rfl) (hb hby at_132) (fun _ _ => ⟨rfl, e122, (by decide : 2 + 14 ≤ _), (by decide : 133 + 302 ≤ _)⟩)
  dsimp only [Pt.U, Pt.locs, Pt.cells, Pt.slots] at X127 l127 y127 z127 st127 hQ127
  rw [l127, y127, z127] at X127
  obtain ⟨ad127, pa127, nx127, rfl, N127q, Kq127, sq_pa127, sq_nx127, ne_pa127_nx127, g0_127, g1_127, g2_127, g3_127, g4_127, gW127, gMb127, gMp127, gMn127, gEn127⟩ := hQ127
  have G_pa127 : n0 ≤ pa127 := Nat.le_trans Z122 sq_pa127
  have sz_pa127 : h0.size ≤ pa127 := Nat.le_trans K122.1 sq_pa127
  have ne_b122_pa127 : b122 ≠ pa127 := Nat.ne_of_lt (Nat.lt_of_lt_of_le A122.lt sq_pa127)
  have ne_b112_pa127 : b112 ≠ pa127 := Nat.ne_of_lt (Nat.lt_of_lt_of_le f123.lt sq_pa127)
  have G_nx127 : n0 ≤ nx127 := Nat.le_trans Z122 sq_nx127
  have sz_nx127 : h0.size ≤ nx127 := Nat.le_trans K122.1 sq_nx127
  have ne_b122_nx127 : b122 ≠ nx127 := Nat.ne_of_lt (Nat.lt_of_lt_of_le A122.lt sq_nx127)
  have ne_b112_nx127 : b112 ≠ nx127 := Nat.ne_of_lt (Nat.lt_of_lt_of_le f123.lt sq_nx127)
  have f128 := f123.keep Kq127 (ninS ne_b112_b122 nin0)
  have f129 := A122.keep Kq127
  have Z127 : n0 ≤ T127.heap.size := Nat.le_trans Z122 Kq127.1
  have K127 : Keep h0 T127.heap [] := K122.trans Kq127 (allS (Or.inr sz_b122) all0)
  have N127 := Fr.app N119 N127q
  refine own_tr st127 ?_
  show own_Go p.tables e below _ (T127.setTop (mkF m 135 #[qI p0, qI p1, qI p2, qI p3, qI p4, qI p5, qN A, qI v102, qI v104, qN B, qN C, qN K1, qN K2, qD (own_w K1), qZ, qD (own_w K2), qZ, qA b112, qU, qU, qU, qU, qU, qU, qU, qU, qU, qU, qU, qU, qU, qU, qU, qU, qU] [(.ref b122)]))
  obtain ⟨en, fen⟩ := gEn127
  refine own_st (S' := T127.setTop (mkF m 137 #[qI p0, qI p1, qI p2, qI p3, qI p4, qI p5, qN A, qI v102, qI v104, qN B, qN C, qN K1, qN K2, qD (own_w K1), qZ, qD (own_w K2), qZ, qA b112, qA b122, qU, qU, qU, qU, qU, qU, qU, qU, qU, qU, qU, qU, qU, qU, qU, qU] [])) (fun t k => XS.astore X127.here hx rfl (hb hby at_135) rfl rfl (l' := #[qI p0, qI p1, qI p2, qI p3, qI p4, qI p5, qN A, qI v102, qI v104, qN B, qN C, qN K1, qN K2, qD (own_w K1), qZ, qD (own_w K2), qZ, qA b112, qA b122, qU, qU, qU, qU, qU, qU, qU, qU, qU, qU, qU, qU, qU, qU, qU, qU]) rfl k) ?_
  obtain ⟨pA, hpA⟩ : ∃ z : Nat, z = A / 64 := ⟨_, rfl⟩
  obtain ⟨iA, hiA⟩ : ∃ z : Nat, z = A % 64 := ⟨_, rfl⟩
  obtain ⟨pB, hpB⟩ : ∃ z : Nat, z = B / 64 := ⟨_, rfl⟩
  obtain ⟨iB, hiB⟩ : ∃ z : Nat, z = B % 64 := ⟨_, rfl⟩
  obtain ⟨pC, hpC⟩ : ∃ z : Nat, z = C / 64 := ⟨_, rfl⟩
  obtain ⟨iC, hiC⟩ : ∃ z : Nat, z = C % 64 := ⟨_, rfl⟩
  obtain ⟨hpA3, hiAu⟩ := own_iu hA hpA hiA
  obtain ⟨hpB3, hiBu⟩ := own_iu hB hpB hiB
  obtain ⟨hpC3, hiCu⟩ := own_iu hC hpC hiC
  obtain ⟨sA, hsA⟩ : ∃ z : Nat, z = own_S dg pA iA := ⟨_, rfl⟩
  obtain ⟨sB, hsB⟩ : ∃ z : Nat, z = own_S dg pB iB := ⟨_, rfl⟩
  obtain ⟨sC, hsC⟩ : ∃ z : Nat, z = own_S dg pC iC := ⟨_, rfl⟩
  have hnA : own_nx0 dg A = sA := by rw [hsA, hpA, hiA]; rfl
  have hnB : own_nx0 dg B = sB := by rw [hsB, hpB, hiB]; rfl
  have hnC : own_nx0 dg C = sC := by rw [hsC, hpC, hiC]; rfl
  have hSA : own_S dg pA (iA + 1) = sA + 2 := by rw [own_Sn hpA hiA, own_dgA qdg hBA hCA, hsA]
  have hSB : own_S dg pB (iB + 1) = sB + 1 := by rw [own_Sn hpB hiB, own_dgB qdg hCB, hsB]
  have hSC : own_S dg pC (iC + 1) = sC + 1 := by rw [own_Sn hpC hiC, own_dgC qdg, hsC]
  have hMM : ∀ P, P < 3 → own_S dg P (own_u P) ≤ 4 := fun P hP => own_hS qdg P _ hP (own_u_le P)
  have hMA := hMM pA hpA3
  have hMB := hMM pB hpB3
  have hMC := hMM pC hpC3
  have hmA : sA + 2 ≤ own_S dg pA (own_u pA) := by rw [← hSA]; exact own_S_mono dg pA hiAu
  have hmB : sB + 1 ≤ own_S dg pB (own_u pB) := by rw [← hSB]; exact own_S_mono dg pB hiBu
  have hmC : sC + 1 ≤ own_S dg pC (own_u pC) := by rw [← hSC]; exact own_S_mono dg pC hiCu
  obtain ⟨dB, dC, dBC⟩ := own_dist qdg hBA hCA hCB hpA hiA hsA hpB hiB hsB hpC hiC hsC
  have hN1A : (own_uN (own_uN (own_nx0 dg) A (sA + 1)) B (sB + 1)) A = sA + 1 := by unfold own_uN; rw [if_neg (Ne.symm hBA), if_pos rfl]
  have hN1C : (own_uN (own_uN (own_nx0 dg) A (sA + 1)) B (sB + 1)) C = sC := by unfold own_uN; rw [if_neg hCB, if_neg hCA]; exact hnC
  obtain ⟨tt2, htt2⟩ : ∃ z : Nat → Nat → Int32, z = (own_s2 (own_s2 (own_s2 (own_s2 own_zT pA sA (Int32.ofNat B)) pB sB (Int32.ofNat A)) pA (sA + 1) (Int32.ofNat C)) pC sC (Int32.ofNat A)) := ⟨_, rfl⟩
  obtain ⟨ww2, hww2⟩ : ∃ z : Nat → Nat → UInt64, z = (own_s2 (own_s2 (own_s2 (own_s2 own_zW pA sA (own_w K1)) pB sB (own_w K1)) pA (sA + 1) (own_w K2)) pC sC (own_w K2)) := ⟨_, rfl⟩
  have rT := own_read dB dC dBC htt2
  have rW := own_read dB dC dBC hww2
  obtain ⟨c1, hv1⟩ : ∃ z : Nat, z = own_cl K1 := ⟨_, rfl⟩
  obtain ⟨c2, hv2⟩ : ∃ z : Nat, z = own_cl K2 := ⟨_, rfl⟩
  obtain ⟨a1, ha1⟩ : ∃ z : Nat, z + c1 = max c1 c2 := ⟨max c1 c2 - c1, by omega⟩
  obtain ⟨a2, ha2⟩ : ∃ z : Nat, z + c2 = max c1 c2 := ⟨max c1 c2 - c2, by omega⟩
  obtain ⟨d, hd⟩ : ∃ z : Nat, z + min c1 c2 = max c1 c2 := ⟨max c1 c2 - min c1 c2, by omega⟩
  obtain ⟨t1, ht1⟩ : ∃ z : Nat, z = if c1 < c2 then 1 else 0 := ⟨_, rfl⟩
  obtain ⟨t2, ht2⟩ : ∃ z : Nat, t1 + z = 1 := ⟨1 - t1, by rw [ht1]; split <;> omega⟩
  have j201 : ∀ (T : State) (L : List Loc) , Stand p l e room_1 s m #[(.int p0), (.int p1), (.int p2), (.int p3), (.int p4), (.int p5)] below meth c T L 16 435 → Fr n0 L → Keep h0 T.heap [] →  n0 ≤ T.heap.size → Exa Z T.heap b122 "kithrank/Graph$Builder" → Fld Z T.heap b122 "kithrank/Graph$Builder" "pages" "[Lkithrank/Graph$Page;" (.ref pa127) → Fld Z T.heap b122 "kithrank/Graph$Builder" "next" "[I" (.ref nx127) → Fld Z T.heap b122 "kithrank/Graph$Builder" "entries" "J" (.long en) → own_A Z T.heap pa127 (.object "kithrank/Graph$Page") 3 (own_Rf (ad127 0)) → own_A Z T.heap nx127 .int 130 (own_N (own_uN (own_uN (own_uN (own_uN (own_nx0 dg) A (sA + 1)) B (sB + 1)) A (sA + 1 + 1)) C (sC + 1))) → own_P Z T.heap 3 ad127 (own_S dg) tt2 ww2 →  own_Go p.tables e below (own_F s (Q0 n0) room_1.cells room_1.slots) (T.setTop (mkF m 201 #[qI p0, qI p1, qI p2, qI p3, qI p4, qI p5, qN A, qI v102, qI v104, qN B, qN C, qN K1, qN K2, qD (own_w K1), qZ, qD (own_w K2), qZ, qA b112, qA b122, qU, qU, qU, qU, qU, qU, qU, qU, qU, qU, qU, qU, qU, qU, qU, qU] [])) := by
    intro T L  X N K Zz jf0 jf1 jf2 jf3 jf4 jf5 jf6
    refine own_st (S' := T.setTop (mkF m 203 #[qI p0, qI p1, qI p2, qI p3, qI p4, qI p5, qN A, qI v102, qI v104, qN B, qN C, qN K1, qN K2, qD (own_w K1), qZ, qD (own_w K2), qZ, qA b112, qA b122, qU, qU, qU, qU, qU, qU, qU, qU, qU, qU, qU, qU, qU, qU, qU, qU] [(.ref b122)])) (fun t k => XS.aload X.here hx rfl (hb hby at_201) rfl rfl k) ?_
    obtain ⟨cq130, kq130, q130a, q130b, q130c⟩ := isOf hZ rfl jf0
    obtain ⟨_, _, ⟨T130, L130, k130, n130⟩, -, X130, ⟨Lc130, hQ130, l130, y130, z130⟩, st130⟩ := X.virtualBack hx (y := (⟨"kithrank/Graph$Builder", "build", "()Lkithrank/Graph;"⟩ : MethodName)) (z := (⟨"kithrank/Graph$Builder", "build", "()Lkithrank/Graph;"⟩ : MethodName)) hown (mvT hZ (own_hw hw (i := 52) rfl)) (mvT hZ (own_hw hw (i := 53) rfl)) (notFace_of_selects (args := #[]) (mvT hZ (own_hw hw (i := 55) rfl))) (mvT hZ (own_hw hw (i := 55) rfl)) (mvT hZ (own_hw hw (i := 54) rfl)) (by decide) (backOf (W := 0) (rm29 l Z a0 hw [] b122 ad127 (own_S dg) tt2 ww2 pa127 nx127 en (own_uN (own_uN (own_uN (own_uN (own_nx0 dg) A (sA + 1)) B (sB + 1)) A (sA + 1 + 1)) C (sC + 1)) pA iA c1 c2 a1 a2 d t1 t2 T.heap n0 Zz jf6 gW127 jf0 jf1 jf2 gMb127 gMp127 gMn127 jf3 jf4 jf5 (Sta.ext ⟨K.1, fun a c q => K.2.1 a c q nin0⟩ SN) hpA3 hiAu (fun P i hP hi => ⟨own_S_mono dg P (Nat.le_succ i), own_S_mono dg P hi⟩) hMM (by rw [hSA, hsA]) (fun P i _ hi hne => own_hd1 qdg hpA hiA P i hi hne) (fun P j _ _ => own_hk2 hK1a hK1b hK2a hK2b hww2 P j) (by rw [← hsA, rW.1, hv1]; exact (own_w1 hK1a hK1b).1) (by rw [← hsA, rW.2.1, hv2]; exact (own_w1 hK2a hK2b).1) (by rw [hv1]; exact (own_w1 hK1a hK1b).2) (by rw [hv2]; exact (own_w1 hK2a hK2b).2) ha1 ha2 hd ht1 ht2) hZ (own_hw hw (i := 56) rfl) (own_hw hw (i := 5) rfl) (by decide) (by decide)) q130a q130c (g := (mkF m 203 #[qI p0, qI p1, qI p2, qI p3, qI p4, qI p5, qN A, qI v102, qI v104, qN B, qN C, qN K1, qN K2, qD (own_w K1), qZ, qD (own_w K2), qZ, qA b112, qA b122, qU, qU, qU, qU, qU, qU, qU, qU, qU, qU, qU, qU, qU, qU, qU, qU] [(.ref b122)])) rfl (by rw [hml]; rfl) (Steps.refl _) (argsL := []) (rest := []) (lenOf pd0_1 rfl) rfl (by show 2 * 0 + _ ≤ _; exact Nat.le_of_eq rfl) (hb hby at_203) (fun _ _ => ⟨rfl, rfl, (by decide : 16 + 8 ≤ _), (by decide : 435 + 16393 ≤ _)⟩)
    dsimp only [Pt.U, Pt.locs, Pt.cells, Pt.slots] at X130 l130 y130 z130 st130 hQ130
    rw [l130, y130, z130] at X130
    obtain ⟨gr130, sa130, ta130, wa130, rfl, N130q, Kq130, sq_gr130, sq_sa130, sq_ta130, sq_wa130, ne_gr130_sa130, ne_gr130_ta130, ne_gr130_wa130, ne_sa130_ta130, ne_sa130_wa130, ne_ta130_wa130, g0_130, g1_130, g2_130, g3_130, g4_130, g5_130, g6_130, g7_130, g8_130⟩ := hQ130
    have G_gr130 : n0 ≤ gr130 := Nat.le_trans Zz sq_gr130
    have sz_gr130 : h0.size ≤ gr130 := Nat.le_trans K.1 sq_gr130
    have ne_pa127_gr130 : pa127 ≠ gr130 := Nat.ne_of_lt (Nat.lt_of_lt_of_le jf4.lt sq_gr130)
    have ne_nx127_gr130 : nx127 ≠ gr130 := Nat.ne_of_lt (Nat.lt_of_lt_of_le jf5.lt sq_gr130)
    have ne_b122_gr130 : b122 ≠ gr130 := Nat.ne_of_lt (Nat.lt_of_lt_of_le jf0.lt sq_gr130)
    have G_sa130 : n0 ≤ sa130 := Nat.le_trans Zz sq_sa130
    have sz_sa130 : h0.size ≤ sa130 := Nat.le_trans K.1 sq_sa130
    have ne_pa127_sa130 : pa127 ≠ sa130 := Nat.ne_of_lt (Nat.lt_of_lt_of_le jf4.lt sq_sa130)
    have ne_nx127_sa130 : nx127 ≠ sa130 := Nat.ne_of_lt (Nat.lt_of_lt_of_le jf5.lt sq_sa130)
    have ne_b122_sa130 : b122 ≠ sa130 := Nat.ne_of_lt (Nat.lt_of_lt_of_le jf0.lt sq_sa130)
    have G_ta130 : n0 ≤ ta130 := Nat.le_trans Zz sq_ta130
    have sz_ta130 : h0.size ≤ ta130 := Nat.le_trans K.1 sq_ta130
    have ne_pa127_ta130 : pa127 ≠ ta130 := Nat.ne_of_lt (Nat.lt_of_lt_of_le jf4.lt sq_ta130)
    have ne_nx127_ta130 : nx127 ≠ ta130 := Nat.ne_of_lt (Nat.lt_of_lt_of_le jf5.lt sq_ta130)
    have ne_b122_ta130 : b122 ≠ ta130 := Nat.ne_of_lt (Nat.lt_of_lt_of_le jf0.lt sq_ta130)
    have G_wa130 : n0 ≤ wa130 := Nat.le_trans Zz sq_wa130
    have sz_wa130 : h0.size ≤ wa130 := Nat.le_trans K.1 sq_wa130
    have ne_pa127_wa130 : pa127 ≠ wa130 := Nat.ne_of_lt (Nat.lt_of_lt_of_le jf4.lt sq_wa130)
    have ne_nx127_wa130 : nx127 ≠ wa130 := Nat.ne_of_lt (Nat.lt_of_lt_of_le jf5.lt sq_wa130)
    have ne_b122_wa130 : b122 ≠ wa130 := Nat.ne_of_lt (Nat.lt_of_lt_of_le jf0.lt sq_wa130)
    have M_gr130 : own_Nm 3 ad127 gr130 := own_P.nm jf6 sq_gr130
    have M_sa130 : own_Nm 3 ad127 sa130 := own_P.nm jf6 sq_sa130
    have M_ta130 : own_Nm 3 ad127 ta130 := own_P.nm jf6 sq_ta130
    have M_wa130 : own_Nm 3 ad127 wa130 := own_P.nm jf6 sq_wa130
    have Z130 : n0 ≤ T130.heap.size := Nat.le_trans Zz Kq130.1
    have K130 : Keep h0 T130.heap [] := K.trans Kq130 (allS (Or.inr (Nat.le_trans hn0 (gW127.1 2 0 (by decide) (by decide)))) (allS (Or.inr (Nat.le_trans hn0 (gW127.1 3 0 (by decide) (by decide)))) (allS (Or.inr (Nat.le_trans hn0 (gW127.1 2 1 (by decide) (by decide)))) (allS (Or.inr (Nat.le_trans hn0 (gW127.1 3 1 (by decide) (by decide)))) (allS (Or.inr (Nat.le_trans hn0 (gW127.1 2 2 (by decide) (by decide)))) (allS (Or.inr (Nat.le_trans hn0 (gW127.1 3 2 (by decide) (by decide)))) all0))))))
    have N130 := Fr.app N N130q
    refine own_tr st130 ?_
    show own_Go p.tables e below _ (T130.setTop (mkF m 206 #[qI p0, qI p1, qI p2, qI p3, qI p4, qI p5, qN A, qI v102, qI v104, qN B, qN C, qN K1, qN K2, qD (own_w K1), qZ, qD (own_w K2), qZ, qA b112, qA b122, qU, qU, qU, qU, qU, qU, qU, qU, qU, qU, qU, qU, qU, qU, qU, qU] [(.ref gr130)]))
    have f131 : own_P Z T130.heap 3 ad127 (own_S dg) (own_f2 tt2 pA (own_sw (tt2 pA) sA t1)) (own_f2 ww2 pA (own_sw (ww2 pA) sA t1)) := by have q := g8_130; rw [← hsA] at q; exact q
    refine own_st (S' := T130.setTop (mkF m 212 #[qI p0, qI p1, qI p2, qI p3, qI p4, qI p5, qN A, qI v102, qI v104, qN B, qN C, qN K1, qN K2, qD (own_w K1), qZ, qD (own_w K2), qZ, qA b112, qA b122, qA gr130, qU, qU, qU, qU, qU, qU, qU, qU, qU, qU, qU, qU, qU, qU, qU] [qV A, (.ref gr130)])) (fun t k => XS.astore X130.here hx rfl (hb hby at_206) rfl rfl (l' := #[qI p0, qI p1, qI p2, qI p3, qI p4, qI p5, qN A, qI v102, qI v104, qN B, qN C, qN K1, qN K2, qD (own_w K1), qZ, qD (own_w K2), qZ, qA b112, qA b122, qA gr130, qU, qU, qU, qU, qU, qU, qU, qU, qU, qU, qU, qU, qU, qU, qU]) rfl (XS.aload X130.here hx rfl (hb hby at_208) rfl rfl (XS.iload X130.here hx rfl (hb hby at_210) rfl k))) ?_
    obtain ⟨cq132, kq132, q132a, q132b, q132c⟩ := isOf hZ rfl g0_130
    obtain ⟨_, _, ⟨T132, L132, k132, n132⟩, -, X132, ⟨Lc132, hQ132, l132, y132, z132⟩, st132⟩ := X130.virtualBack hx (y := (⟨"kithrank/Graph", "first", "(I)I"⟩ : MethodName)) (z := (⟨"kithrank/Graph", "first", "(I)I"⟩ : MethodName)) hown (mvT hZ (own_hw hw (i := 162) rfl)) (mvT hZ (own_hw hw (i := 163) rfl)) (notFace_of_selects (args := #[]) (mvT hZ (own_hw hw (i := 165) rfl))) (mvT hZ (own_hw hw (i := 165) rfl)) (mvT hZ (own_hw hw (i := 164) rfl)) (by decide) (backOf (W := 0) (rm23 l Z a0 hw [] gr130 (Int32.ofNat A) ad127 (own_S dg) (own_f2 tt2 pA (own_sw (tt2 pA) sA t1)) (own_f2 ww2 pA (own_sw (ww2 pA) sA t1)) sa130 A pA iA T130.heap n0 Z130 f131 g0_130 g4_130 g1_130 g5_130 rfl hA hpA hiA) hZ (own_hw hw (i := 166) rfl) (own_hw hw (i := 73) rfl) (by decide) (by decide)) q132a q132c (g := (mkF m 212 #[qI p0, qI p1, qI p2, qI p3, qI p4, qI p5, qN A, qI v102, qI v104, qN B, qN C, qN K1, qN K2, qD (own_w K1), qZ, qD (own_w K2), qZ, qA b112, qA b122, qA gr130, qU, qU, qU, qU, qU, qU, qU, qU, qU, qU, qU, qU, qU, qU, qU] [qV A, (.ref gr130)])) rfl (by rw [hml]; rfl) (Steps.refl _) (argsL := [(.int (Int32.ofNat A))]) (rest := []) (lenOf pd0_2 rfl) rfl (by show 2 * 0 + _ ≤ _; exact Nat.le_of_eq rfl) (hb hby at_212) (fun _ _ => ⟨rfl, rfl, (by decide : 24 + 0 ≤ _), (by decide : 16828 + 0 ≤ _)⟩)
    dsimp only [Pt.U, Pt.locs, Pt.cells, Pt.slots] at X132 l132 y132 z132 st132 hQ132
    rw [l132, y132, z132] at X132
    obtain ⟨rfl, N132q, hh132⟩ := hQ132
    have N132 := Fr.app N130 N132q
    refine own_tr st132 ?_
    show own_Go p.tables e below _ (T132.setTop (mkF m 215 #[qI p0, qI p1, qI p2, qI p3, qI p4, qI p5, qN A, qI v102, qI v104, qN B, qN C, qN K1, qN K2, qD (own_w K1), qZ, qD (own_w K2), qZ, qA b112, qA b122, qA gr130, qU, qU, qU, qU, qU, qU, qU, qU, qU, qU, qU, qU, qU, qU, qU] [qV ((own_S dg) pA iA)]))
    refine own_st (S' := T132.setTop (mkF m 215 #[qI p0, qI p1, qI p2, qI p3, qI p4, qI p5, qN A, qI v102, qI v104, qN B, qN C, qN K1, qN K2, qD (own_w K1), qZ, qD (own_w K2), qZ, qA b112, qA b122, qA gr130, qU, qU, qU, qU, qU, qU, qU, qU, qU, qU, qU, qU, qU, qU, qU] [qV sA])) (fun t k => by show Steps p.tables e below (T132.setTop (mkF m 215 #[.val (.int p0), .val (.int p1), .val (.int p2), .val (.int p3), .val (.int p4), .val (.int p5), .val (.int (Int32.ofNat A)), .val (.int v102), .val (.int v104), .val (.int (Int32.ofNat B)), .val (.int (Int32.ofNat C)), .val (.int (Int32.ofNat K1)), .val (.int (Int32.ofNat K2)), .val (.double (own_w K1)), .second, .val (.double (own_w K2)), .second, .val (.ref b112), .val (.ref b122), .val (.ref gr130), .unset, .unset, .unset, .unset, .unset, .unset, .unset, .unset, .unset, .unset, .unset, .unset, .unset, .unset, .unset] [(.int (Int32.ofNat ((own_S dg) pA iA)))])) t; rw [show ((Int32.ofNat ((own_S dg) pA iA)) : Int32) = (Int32.ofNat sA) from congrArg Int32.ofNat hsA.symm]; exact k) ?_
    refine own_st (S' := T132.setTop (mkF m 221 #[qI p0, qI p1, qI p2, qI p3, qI p4, qI p5, qN A, qI v102, qI v104, qN B, qN C, qN K1, qN K2, qD (own_w K1), qZ, qD (own_w K2), qZ, qA b112, qA b122, qA gr130, qN sA, qU, qU, qU, qU, qU, qU, qU, qU, qU, qU, qU, qU, qU, qU] [qV A, (.ref gr130)])) (fun t k => XS.istore X132.here hx rfl (hb hby at_215) rfl (l' := #[qI p0, qI p1, qI p2, qI p3, qI p4, qI p5, qN A, qI v102, qI v104, qN B, qN C, qN K1, qN K2, qD (own_w K1), qZ, qD (own_w K2), qZ, qA b112, qA b122, qA gr130, qN sA, qU, qU, qU, qU, qU, qU, qU, qU, qU, qU, qU, qU, qU, qU]) rfl (XS.aload X132.here hx rfl (hb hby at_217) rfl rfl (XS.iload X132.here hx rfl (hb hby at_219) rfl k))) ?_
    obtain ⟨cq133, kq133, q133a, q133b, q133c⟩ := isOf hZ hh132 g0_130
    obtain ⟨_, _, ⟨T133, L133, k133, n133⟩, -, X133, ⟨Lc133, hQ133, l133, y133, z133⟩, st133⟩ := X132.virtualBack hx (y := (⟨"kithrank/Graph", "end", "(I)I"⟩ : MethodName)) (z := (⟨"kithrank/Graph", "end", "(I)I"⟩ : MethodName)) hown (mvT hZ (own_hw hw (i := 171) rfl)) (mvT hZ (own_hw hw (i := 172) rfl)) (notFace_of_selects (args := #[]) (mvT hZ (own_hw hw (i := 174) rfl))) (mvT hZ (own_hw hw (i := 174) rfl)) (mvT hZ (own_hw hw (i := 173) rfl)) (by decide) (backOf (W := 0) (rm24 l Z a0 hw [] gr130 (Int32.ofNat A) ad127 (own_S dg) (own_f2 tt2 pA (own_sw (tt2 pA) sA t1)) (own_f2 ww2 pA (own_sw (ww2 pA) sA t1)) sa130 A pA iA T130.heap n0 Z130 f131 g0_130 g4_130 g1_130 g5_130 rfl hA hpA hiA) hZ (own_hw hw (i := 175) rfl) (own_hw hw (i := 73) rfl) (by decide) (by decide)) q133a q133c (g := (mkF m 221 #[qI p0, qI p1, qI p2, qI p3, qI p4, qI p5, qN A, qI v102, qI v104, qN B, qN C, qN K1, qN K2, qD (own_w K1), qZ, qD (own_w K2), qZ, qA b112, qA b122, qA gr130, qN sA, qU, qU, qU, qU, qU, qU, qU, qU, qU, qU, qU, qU, qU, qU] [qV A, (.ref gr130)])) rfl (by rw [hml]; rfl) (Steps.refl _) (argsL := [(.int (Int32.ofNat A))]) (rest := []) (lenOf pd0_2 rfl) rfl (by show 2 * 0 + _ ≤ _; exact Nat.le_of_eq rfl) (hb hby at_221) (fun _ _ => ⟨rfl, hh132, (by decide : 24 + 0 ≤ _), (by decide : 16828 + 0 ≤ _)⟩)
    dsimp only [Pt.U, Pt.locs, Pt.cells, Pt.slots] at X133 l133 y133 z133 st133 hQ133
    rw [l133, y133, z133] at X133
    obtain ⟨rfl, N133q, hh133⟩ := hQ133
    have N133 := Fr.app N132 N133q
    refine own_tr st133 ?_
    show own_Go p.tables e below _ (T133.setTop (mkF m 224 #[qI p0, qI p1, qI p2, qI p3, qI p4, qI p5, qN A, qI v102, qI v104, qN B, qN C, qN K1, qN K2, qD (own_w K1), qZ, qD (own_w K2), qZ, qA b112, qA b122, qA gr130, qN sA, qU, qU, qU, qU, qU, qU, qU, qU, qU, qU, qU, qU, qU, qU] [qV ((own_S dg) pA (iA + 1))]))
    refine own_st (S' := T133.setTop (mkF m 224 #[qI p0, qI p1, qI p2, qI p3, qI p4, qI p5, qN A, qI v102, qI v104, qN B, qN C, qN K1, qN K2, qD (own_w K1), qZ, qD (own_w K2), qZ, qA b112, qA b122, qA gr130, qN sA, qU, qU, qU, qU, qU, qU, qU, qU, qU, qU, qU, qU, qU, qU] [qV (sA + 2)])) (fun t k => by show Steps p.tables e below (T133.setTop (mkF m 224 #[.val (.int p0), .val (.int p1), .val (.int p2), .val (.int p3), .val (.int p4), .val (.int p5), .val (.int (Int32.ofNat A)), .val (.int v102), .val (.int v104), .val (.int (Int32.ofNat B)), .val (.int (Int32.ofNat C)), .val (.int (Int32.ofNat K1)), .val (.int (Int32.ofNat K2)), .val (.double (own_w K1)), .second, .val (.double (own_w K2)), .second, .val (.ref b112), .val (.ref b122), .val (.ref gr130), .val (.int (Int32.ofNat sA)), .unset, .unset, .unset, .unset, .unset, .unset, .unset, .unset, .unset, .unset, .unset, .unset, .unset, .unset] [(.int (Int32.ofNat ((own_S dg) pA (iA + 1))))])) t; rw [show ((Int32.ofNat ((own_S dg) pA (iA + 1))) : Int32) = (Int32.ofNat (sA + 2)) from congrArg Int32.ofNat hSA]; exact k) ?_
    refine own_st (S' := T133.setTop (mkF m 227 #[qI p0, qI p1, qI p2, qI p3, qI p4, qI p5, qN A, qI v102, qI v104, qN B, qN C, qN K1, qN K2, qD (own_w K1), qZ, qD (own_w K2), qZ, qA b112, qA b122, qA gr130, qN sA, qU, qU, qU, qU, qU, qU, qU, qU, qU, qU, qU, qU, qU, qU] [(.int ((Int32.ofNat (sA + 2)) - (Int32.ofNat sA)))])) (fun t k => XS.iload X133.here hx rfl (hb hby at_224) rfl (XS.isub X133.here hx rfl (hb hby at_226) rfl k)) ?_
    refine own_st (S' := T133.setTop (mkF m 227 #[qI p0, qI p1, qI p2, qI p3, qI p4, qI p5, qN A, qI v102, qI v104, qN B, qN C, qN K1, qN K2, qD (own_w K1), qZ, qD (own_w K2), qZ, qA b112, qA b122, qA gr130, qN sA, qU, qU, qU, qU, qU, qU, qU, qU, qU, qU, qU, qU, qU, qU] [(.int (2 : Int32))])) (fun t k => by rw [show (((Int32.ofNat (sA + 2)) - (Int32.ofNat sA)) : Int32) = (2 : Int32) from by rw [own_subN (by omega) (by omega)]; exact congrArg Int32.ofNat (by omega : sA + 2 - sA = 2)]; exact k) ?_
    refine own_st (S' := T133.setTop (mkF m 237 #[qI p0, qI p1, qI p2, qI p3, qI p4, qI p5, qN A, qI v102, qI v104, qN B, qN C, qN K1, qN K2, qD (own_w K1), qZ, qD (own_w K2), qZ, qA b112, qA b122, qA gr130, qN sA, qU, qU, qU, qU, qU, qU, qU, qU, qU, qU, qU, qU, qU, qU] [qV A, (.ref gr130)])) (fun t k => XS.iconst X133.here hx rfl (hb hby at_227) (XS.icmpYes X133.here hx rfl (pc0 := 228) (pc' := 233) rfl (hb hby at_228) rfl (teq (by decide)).1 (by decide) (by decide) (XS.aload X133.here hx rfl (hb hby at_233) rfl rfl (XS.iload X133.here hx rfl (hb hby at_235) rfl k)))) ?_
    obtain ⟨cq134, kq134, q134a, q134b, q134c⟩ := isOf hZ hh133 g0_130
    obtain ⟨_, _, ⟨T134, L134, k134, n134⟩, -, X134, ⟨Lc134, hQ134, l134, y134, z134⟩, st134⟩ := X133.virtualBack hx (y := (⟨"kithrank/Graph", "pageTargets", "(I)[I"⟩ : MethodName)) (z := (⟨"kithrank/Graph", "pageTargets", "(I)[I"⟩ : MethodName)) hown (mvT hZ (own_hw hw (i := 176) rfl)) (mvT hZ (own_hw hw (i := 177) rfl)) (notFace_of_selects (args := #[]) (mvT hZ (own_hw hw (i := 179) rfl))) (mvT hZ (own_hw hw (i := 179) rfl)) (mvT hZ (own_hw hw (i := 178) rfl)) (by decide) (backOf (W := 0) (rm25 l Z a0 hw [] gr130 (Int32.ofNat A) ad127 (own_S dg) (own_f2 tt2 pA (own_sw (tt2 pA) sA t1)) (own_f2 ww2 pA (own_sw (ww2 pA) sA t1)) ta130 A pA iA T130.heap n0 Z130 f131 g0_130 g4_130 g2_130 g6_130 rfl hA hpA hiA) hZ (own_hw hw (i := 180) rfl) (own_hw hw (i := 73) rfl) (by decide) (by decide)) q134a q134c (g := (mkF m 237 #[qI p0, qI p1, qI p2, qI p3, qI p4, qI p5, qN A, qI v102, qI v104, qN B, qN C, qN K1, qN K2, qD (own_w K1), qZ, qD (own_w K2), qZ, qA b112, qA b122, qA gr130, qN sA, qU, qU, qU, qU, qU, qU, qU, qU, qU, qU, qU, qU, qU, qU] [qV A, (.ref gr130)])) rfl (by rw [hml]; rfl) (Steps.refl _) (argsL := [(.int (Int32.ofNat A))]) (rest := []) (lenOf pd0_3 rfl) rfl (by show 2 * 0 + _ ≤ _; exact Nat.le_of_eq rfl) (hb hby at_237) (fun _ _ => ⟨rfl, hh133, (by decide : 24 + 0 ≤ _), (by decide : 16828 + 0 ≤ _)⟩)
    dsimp only [Pt.U, Pt.locs, Pt.cells, Pt.slots] at X134 l134 y134 z134 st134 hQ134
    rw [l134, y134, z134] at X134
    obtain ⟨rfl, N134q, hh134⟩ := hQ134
    have N134 := Fr.app N133 N134q
    refine own_tr st134 ?_
    refine own_st (S' := T134.setTop (mkF m 246 #[qI p0, qI p1, qI p2, qI p3, qI p4, qI p5, qN A, qI v102, qI v104, qN B, qN C, qN K1, qN K2, qD (own_w K1), qZ, qD (own_w K2), qZ, qA b112, qA b122, qA gr130, qN sA, qA (ad127 2 pA), qU, qU, qU, qU, qU, qU, qU, qU, qU, qU, qU, qU, qU] [qV A, (.ref gr130)])) (fun t k => XS.astore X134.here hx rfl (hb hby at_240) rfl rfl (l' := #[qI p0, qI p1, qI p2, qI p3, qI p4, qI p5, qN A, qI v102, qI v104, qN B, qN C, qN K1, qN K2, qD (own_w K1), qZ, qD (own_w K2), qZ, qA b112, qA b122, qA gr130, qN sA, qA (ad127 2 pA), qU, qU, qU, qU, qU, qU, qU, qU, qU, qU, qU, qU, qU]) rfl (XS.aload X134.here hx rfl (hb hby at_242) rfl rfl (XS.iload X134.here hx rfl (hb hby at_244) rfl k))) ?_
    obtain ⟨cq135, kq135, q135a, q135b, q135c⟩ := isOf hZ hh134 g0_130
    obtain ⟨_, _, ⟨T135, L135, k135, n135⟩, -, X135, ⟨Lc135, hQ135, l135, y135, z135⟩, st135⟩ := X134.virtualBack hx (y := (⟨"kithrank/Graph", "pageWeights", "(I)[D"⟩ : MethodName)) (z := (⟨"kithrank/Graph", "pageWeights", "(I)[D"⟩ : MethodName)) hown (mvT hZ (own_hw hw (i := 181) rfl)) (mvT hZ (own_hw hw (i := 182) rfl)) (notFace_of_selects (args := #[]) (mvT hZ (own_hw hw (i := 184) rfl))) (mvT hZ (own_hw hw (i := 184) rfl)) (mvT hZ (own_hw hw (i := 183) rfl)) (by decide) (backOf (W := 0) (rm26 l Z a0 hw [] gr130 (Int32.ofNat A) ad127 (own_S dg) (own_f2 tt2 pA (own_sw (tt2 pA) sA t1)) (own_f2 ww2 pA (own_sw (ww2 pA) sA t1)) wa130 A pA iA T130.heap n0 Z130 f131 g0_130 g4_130 g3_130 g7_130 rfl hA hpA hiA) hZ (own_hw hw (i := 185) rfl) (own_hw hw (i := 73) rfl) (by decide) (by decide)) q135a q135c (g := (mkF m 246 #[qI p0, qI p1, qI p2, qI p3, qI p4, qI p5, qN A, qI v102, qI v104, qN B, qN C, qN K1, qN K2, qD (own_w K1), qZ, qD (own_w K2), qZ, qA b112, qA b122, qA gr130, qN sA, qA (ad127 2 pA), qU, qU, qU, qU, qU, qU, qU, qU, qU, qU, qU, qU, qU] [qV A, (.ref gr130)])) rfl (by rw [hml]; rfl) (Steps.refl _) (argsL := [(.int (Int32.ofNat A))]) (rest := []) (lenOf pd0_4 rfl) rfl (by show 2 * 0 + _ ≤ _; exact Nat.le_of_eq rfl) (hb hby at_246) (fun _ _ => ⟨rfl, hh134, (by decide : 24 + 0 ≤ _), (by decide : 16828 + 0 ≤ _)⟩)
    dsimp only [Pt.U, Pt.locs, Pt.cells, Pt.slots] at X135 l135 y135 z135 st135 hQ135
    rw [l135, y135, z135] at X135
    obtain ⟨rfl, N135q, hh135⟩ := hQ135
    have N135 := Fr.app N134 N135q
    refine own_tr st135 ?_
    refine own_st (S' := T135.setTop (mkF m 253 #[qI p0, qI p1, qI p2, qI p3, qI p4, qI p5, qN A, qI v102, qI v104, qN B, qN C, qN K1, qN K2, qD (own_w K1), qZ, qD (own_w K2), qZ, qA b112, qA b122, qA gr130, qN sA, qA (ad127 2 pA), qA (ad127 3 pA), qU, qU, qU, qU, qU, qU, qU, qU, qU, qU, qU, qU] [qV K1])) (fun t k => XS.astore X135.here hx rfl (hb hby at_249) rfl rfl (l' := #[qI p0, qI p1, qI p2, qI p3, qI p4, qI p5, qN A, qI v102, qI v104, qN B, qN C, qN K1, qN K2, qD (own_w K1), qZ, qD (own_w K2), qZ, qA b112, qA b122, qA gr130, qN sA, qA (ad127 2 pA), qA (ad127 3 pA), qU, qU, qU, qU, qU, qU, qU, qU, qU, qU, qU, qU]) rfl (XS.iload X135.here hx rfl (hb hby at_251) rfl k)) ?_
    obtain ⟨_, _, ⟨T136, L136, k136, n136⟩, -, X136, ⟨Lc136, hQ136, l136, y136, z136⟩, st136⟩ := Jvm.LawKit.callS X135 hx (y := (⟨"kithrank/BuilderAddPinLaw", "key", "(I)I"⟩ : MethodName)) hown (mvT hZ (own_hw hw (i := 186) rfl)) (mvT hZ (own_hw hw (i := 187) rfl)) (mvT hZ (own_hw hw (i := 188) rfl)) (mvT hZ (own_hw hw (i := 189) rfl)) (by decide) (backOf (W := 0) (rm3 l Z a0 hw [] (Int32.ofNat K1) T130.heap n0 Z130 ) hZ (own_hw hw (i := 189) rfl) (own_hw hw (i := 188) rfl) (by decide) (by decide)) (g := (mkF m 253 #[qI p0, qI p1, qI p2, qI p3, qI p4, qI p5, qN A, qI v102, qI v104, qN B, qN C, qN K1, qN K2, qD (own_w K1), qZ, qD (own_w K2), qZ, qA b112, qA b122, qA gr130, qN sA, qA (ad127 2 pA), qA (ad127 3 pA), qU, qU, qU, qU, qU, qU, qU, qU, qU, qU, qU, qU] [qV K1])) rfl (by rw [hml]; rfl) (argsL := [(.int (Int32.ofNat K1))]) (rest := []) (lenOf pd0_2 rfl) rfl (by show 2 * 0 + _ ≤ _; exact Nat.le_of_eq rfl) (hb hby at_253) (fun _ _ => ⟨rfl, hh135, (by decide : 24 + 0 ≤ _), (by decide : 16828 + 0 ≤ _)⟩)
    dsimp only [Pt.U, Pt.locs, Pt.cells, Pt.slots] at X136 l136 y136 z136 st136 hQ136
    rw [l136, y136, z136] at X136
    obtain ⟨rfl, N136q, hh136⟩ := hQ136
    have N136 := Fr.app N135 N136q
    refine own_st st136 ?_
    show own_Go p.tables e below _ (T136.setTop (mkF m 256 #[qI p0, qI p1, qI p2, qI p3, qI p4, qI p5, qN A, qI v102, qI v104, qN B, qN C, qN K1, qN K2, qD (own_w K1), qZ, qD (own_w K2), qZ, qA b112, qA b122, qA gr130, qN sA, qA (ad127 2 pA), qA (ad127 3 pA), qU, qU, qU, qU, qU, qU, qU, qU, qU, qU, qU, qU] [(.int (if (Int32.ofNat K1) < (32 : Int32) then (Int32.ofNat K1) else ((Int32.ofNat K1) &&& (-2 : Int32))))]))
    refine own_st (S' := T136.setTop (mkF m 256 #[qI p0, qI p1, qI p2, qI p3, qI p4, qI p5, qN A, qI v102, qI v104, qN B, qN C, qN K1, qN K2, qD (own_w K1), qZ, qD (own_w K2), qZ, qA b112, qA b122, qA gr130, qN sA, qA (ad127 2 pA), qA (ad127 3 pA), qU, qU, qU, qU, qU, qU, qU, qU, qU, qU, qU, qU] [(.int (own_key K1))])) (fun t k => by rw [show ((if (Int32.ofNat K1) < (32 : Int32) then (Int32.ofNat K1) else ((Int32.ofNat K1) &&& (-2 : Int32))) : Int32) = (own_key K1) from rfl]; exact k) ?_
    refine own_st (S' := T136.setTop (mkF m 258 #[qI p0, qI p1, qI p2, qI p3, qI p4, qI p5, qN A, qI v102, qI v104, qN B, qN C, qN K1, qN K2, qD (own_w K1), qZ, qD (own_w K2), qZ, qA b112, qA b122, qA gr130, qN sA, qA (ad127 2 pA), qA (ad127 3 pA), qU, qU, qU, qU, qU, qU, qU, qU, qU, qU, qU, qU] [qV K2, (.int (own_key K1))])) (fun t k => XS.iload X136.here hx rfl (hb hby at_256) rfl k) ?_
    obtain ⟨_, _, ⟨T137, L137, k137, n137⟩, -, X137, ⟨Lc137, hQ137, l137, y137, z137⟩, st137⟩ := Jvm.LawKit.callS X136 hx (y := (⟨"kithrank/BuilderAddPinLaw", "key", "(I)I"⟩ : MethodName)) hown (mvT hZ (own_hw hw (i := 186) rfl)) (mvT hZ (own_hw hw (i := 187) rfl)) (mvT hZ (own_hw hw (i := 188) rfl)) (mvT hZ (own_hw hw (i := 189) rfl)) (by decide) (backOf (W := 1) (rm3 l Z a0 hw [] (Int32.ofNat K2) T130.heap n0 Z130 ) hZ (own_hw hw (i := 189) rfl) (own_hw hw (i := 188) rfl) (by decide) (by decide)) (g := (mkF m 258 #[qI p0, qI p1, qI p2, qI p3, qI p4, qI p5, qN A, qI v102, qI v104, qN B, qN C, qN K1, qN K2, qD (own_w K1), qZ, qD (own_w K2), qZ, qA b112, qA b122, qA gr130, qN sA, qA (ad127 2 pA), qA (ad127 3 pA), qU, qU, qU, qU, qU, qU, qU, qU, qU, qU, qU, qU] [qV K2, (.int (own_key K1))])) rfl (by rw [hml]; rfl) (argsL := [(.int (Int32.ofNat K2))]) (rest := [(.int (own_key K1))]) (lenOf pd0_2 rfl) rfl (by show 2 * 0 + _ ≤ _; exact Nat.le_of_eq rfl) (hb hby at_258) (fun _ _ => ⟨rfl, hh136, (by decide : 24 + 0 ≤ _), (by decide : 16828 + 0 ≤ _)⟩)
    dsimp only [Pt.U, Pt.locs, Pt.cells, Pt.slots] at X137 l137 y137 z137 st137 hQ137
    rw [l137, y137, z137] at X137
    obtain ⟨rfl, N137q, hh137⟩ := hQ137
    have N137 := Fr.app N136 N137q
    refine own_st st137 ?_
    show own_Go p.tables e below _ (T137.setTop (mkF m 261 #[qI p0, qI p1, qI p2, qI p3, qI p4, qI p5, qN A, qI v102, qI v104, qN B, qN C, qN K1, qN K2, qD (own_w K1), qZ, qD (own_w K2), qZ, qA b112, qA b122, qA gr130, qN sA, qA (ad127 2 pA), qA (ad127 3 pA), qU, qU, qU, qU, qU, qU, qU, qU, qU, qU, qU, qU] [(.int (if (Int32.ofNat K2) < (32 : Int32) then (Int32.ofNat K2) else ((Int32.ofNat K2) &&& (-2 : Int32)))), (.int (own_key K1))]))
    refine own_st (S' := T137.setTop (mkF m 261 #[qI p0, qI p1, qI p2, qI p3, qI p4, qI p5, qN A, qI v102, qI v104, qN B, qN C, qN K1, qN K2, qD (own_w K1), qZ, qD (own_w K2), qZ, qA b112, qA b122, qA gr130, qN sA, qA (ad127 2 pA), qA (ad127 3 pA), qU, qU, qU, qU, qU, qU, qU, qU, qU, qU, qU, qU] [(.int (own_key K2)), (.int (own_key K1))])) (fun t k => by rw [show ((if (Int32.ofNat K2) < (32 : Int32) then (Int32.ofNat K2) else ((Int32.ofNat K2) &&& (-2 : Int32))) : Int32) = (own_key K2) from rfl]; exact k) ?_
    by_cases hc138 : (own_key K1) < (own_key K2)
    · refine own_st (S' := T137.setTop (mkF m 287 #[qI p0, qI p1, qI p2, qI p3, qI p4, qI p5, qN A, qI v102, qI v104, qN B, qN C, qN K1, qN K2, qD (own_w K1), qZ, qD (own_w K2), qZ, qA b112, qA b122, qA gr130, qN sA, qA (ad127 2 pA), qA (ad127 3 pA), qI (0 : Int32), qN C, qU, qU, qU, qU, qU, qU, qU, qU, qU, qU] [(.int (0 : Int32))])) (fun t k => XS.icmpYes X137.here hx rfl (pc0 := 261) (pc' := 268) rfl (hb hby at_261) rfl (tlt hc138).1 (by decide) (by decide) (XS.iconst X137.here hx rfl (hb hby at_268) (XS.istore X137.here hx rfl (hb hby at_269) rfl (l' := #[qI p0, qI p1, qI p2, qI p3, qI p4, qI p5, qN A, qI v102, qI v104, qN B, qN C, qN K1, qN K2, qD (own_w K1), qZ, qD (own_w K2), qZ, qA b112, qA b122, qA gr130, qN sA, qA (ad127 2 pA), qA (ad127 3 pA), qI (0 : Int32), qU, qU, qU, qU, qU, qU, qU, qU, qU, qU, qU]) rfl (XS.iload X137.here hx rfl (hb hby at_271) rfl (XS.ifYes X137.here hx rfl (pc0 := 273) (pc' := 281) rfl (hb hby at_273) rfl ((if0 _ _).trans (teq (by decide)).1) (by decide) (by decide) (XS.iload X137.here hx rfl (hb hby at_281) rfl (XS.istore X137.here hx rfl (hb hby at_283) rfl (l' := #[qI p0, qI p1, qI p2, qI p3, qI p4, qI p5, qN A, qI v102, qI v104, qN B, qN C, qN K1, qN K2, qD (own_w K1), qZ, qD (own_w K2), qZ, qA b112, qA b122, qA gr130, qN sA, qA (ad127 2 pA), qA (ad127 3 pA), qI (0 : Int32), qN C, qU, qU, qU, qU, qU, qU, qU, qU, qU, qU]) rfl (XS.iload X137.here hx rfl (hb hby at_285) rfl k)))))))) ?_
      refine own_st (S' := T137.setTop (mkF m 315 #[qI p0, qI p1, qI p2, qI p3, qI p4, qI p5, qN A, qI v102, qI v104, qN B, qN C, qN K1, qN K2, qD (own_w K1), qZ, qD (own_w K2), qZ, qA b112, qA b122, qA gr130, qN sA, qA (ad127 2 pA), qA (ad127 3 pA), qI (0 : Int32), qN C, qD (own_w K2), qZ, qN B, qU, qU, qU, qU, qU, qU, qU] [(.int (0 : Int32))])) (fun t k => XS.ifYes X137.here hx rfl (pc0 := 287) (pc' := 295) rfl (hb hby at_287) rfl ((if0 _ _).trans (teq (by decide)).1) (by decide) (by decide) (XS.dload X137.here hx rfl (hb hby at_295) rfl (XS.dstore X137.here hx rfl (hb hby at_297) rfl (l' := #[qI p0, qI p1, qI p2, qI p3, qI p4, qI p5, qN A, qI v102, qI v104, qN B, qN C, qN K1, qN K2, qD (own_w K1), qZ, qD (own_w K2), qZ, qA b112, qA b122, qA gr130, qN sA, qA (ad127 2 pA), qA (ad127 3 pA), qI (0 : Int32), qN C, qD (own_w K2), qZ, qU, qU, qU, qU, qU, qU, qU, qU]) rfl (XS.iload X137.here hx rfl (hb hby at_299) rfl (XS.ifYes X137.here hx rfl (pc0 := 301) (pc' := 309) rfl (hb hby at_301) rfl ((if0 _ _).trans (teq (by decide)).1) (by decide) (by decide) (XS.iload X137.here hx rfl (hb hby at_309) rfl (XS.istore X137.here hx rfl (hb hby at_311) rfl (l' := #[qI p0, qI p1, qI p2, qI p3, qI p4, qI p5, qN A, qI v102, qI v104, qN B, qN C, qN K1, qN K2, qD (own_w K1), qZ, qD (own_w K2), qZ, qA b112, qA b122, qA gr130, qN sA, qA (ad127 2 pA), qA (ad127 3 pA), qI (0 : Int32), qN C, qD (own_w K2), qZ, qN B, qU, qU, qU, qU, qU, qU, qU]) rfl (XS.iload X137.here hx rfl (hb hby at_313) rfl k)))))))) ?_
      refine own_st (S' := T137.setTop (mkF m 327 #[qI p0, qI p1, qI p2, qI p3, qI p4, qI p5, qN A, qI v102, qI v104, qN B, qN C, qN K1, qN K2, qD (own_w K1), qZ, qD (own_w K2), qZ, qA b112, qA b122, qA gr130, qN sA, qA (ad127 2 pA), qA (ad127 3 pA), qI (0 : Int32), qN C, qD (own_w K2), qZ, qN B, qD (own_w K1), qZ, qU, qU, qU, qU, qU] [])) (fun t k => XS.ifYes X137.here hx rfl (pc0 := 315) (pc' := 323) rfl (hb hby at_315) rfl ((if0 _ _).trans (teq (by decide)).1) (by decide) (by decide) (XS.dload X137.here hx rfl (hb hby at_323) rfl (XS.dstore X137.here hx rfl (hb hby at_325) rfl (l' := #[qI p0, qI p1, qI p2, qI p3, qI p4, qI p5, qN A, qI v102, qI v104, qN B, qN C, qN K1, qN K2, qD (own_w K1), qZ, qD (own_w K2), qZ, qA b112, qA b122, qA gr130, qN sA, qA (ad127 2 pA), qA (ad127 3 pA), qI (0 : Int32), qN C, qD (own_w K2), qZ, qN B, qD (own_w K1), qZ, qU, qU, qU, qU, qU]) rfl k))) ?_
      have ht : t1 = 1 := by rw [ht1, if_pos (by rw [hv1, hv2]; exact (own_w4 hK1a hK1b hK2a hK2b).mp hc138)]
      have rt1 : (own_f2 tt2 pA (own_sw (tt2 pA) sA t1)) pA sA = (Int32.ofNat C) := by rw [(own_readS (pA := pA) (sA := sA) (pB := pB) (sB := sB) tt2 t1).1, if_pos ht]; exact rT.2.1
      have rt2 : (own_f2 tt2 pA (own_sw (tt2 pA) sA t1)) pA (sA + 1) = (Int32.ofNat B) := by rw [(own_readS (pA := pA) (sA := sA) (pB := pB) (sB := sB) tt2 t1).2.1, if_pos ht]; exact rT.1
      have rt3 : (own_f2 tt2 pA (own_sw (tt2 pA) sA t1)) pB sB = (Int32.ofNat A) := by rw [(own_readS (pA := pA) (sA := sA) (pB := pB) (sB := sB) tt2 t1).2.2 dB]; exact rT.2.2.1
      have rt4 : (own_f2 tt2 pA (own_sw (tt2 pA) sA t1)) pC sC = (Int32.ofNat A) := by rw [(own_readS (pA := pA) (sA := sA) (pB := pC) (sB := sC) tt2 t1).2.2 dC]; exact rT.2.2.2
      have rw1 : (own_f2 ww2 pA (own_sw (ww2 pA) sA t1)) pA sA = (own_w K2) := by rw [(own_readS (pA := pA) (sA := sA) (pB := pB) (sB := sB) ww2 t1).1, if_pos ht]; exact rW.2.1
      have rw2 : (own_f2 ww2 pA (own_sw (ww2 pA) sA t1)) pA (sA + 1) = (own_w K1) := by rw [(own_readS (pA := pA) (sA := sA) (pB := pB) (sB := sB) ww2 t1).2.1, if_pos ht]; exact rW.1
      have rw3 : (own_f2 ww2 pA (own_sw (ww2 pA) sA t1)) pB sB = (own_w K1) := by rw [(own_readS (pA := pA) (sA := sA) (pB := pB) (sB := sB) ww2 t1).2.2 dB]; exact rW.2.2.1
      have rw4 : (own_f2 ww2 pA (own_sw (ww2 pA) sA t1)) pC sC = (own_w K2) := by rw [(own_readS (pA := pA) (sA := sA) (pB := pC) (sB := sC) ww2 t1).2.2 dC]; exact rW.2.2.2
      have O139 := (f131 pA hpA3).2.2.2.2.2.2.2.2.2.1
      obtain ⟨c139, Ar139, S139, M139, V139⟩ := O139
      have at139 : c139.slots[((Int32.ofNat sA)).toNatClampNeg]? = some (.int (Int32.ofNat C)) := own_at S139 V139 (own_ixN (by omega) (by omega)) (congrArg Value.int rt1)
      have hc140 : (Int32.ofNat C) = (Int32.ofNat C) := rfl
      have O141 := (f131 pA hpA3).2.2.2.2.2.2.2.2.2.2
      obtain ⟨c141, Ar141, S141, M141, V141⟩ := O141
      have at141 : c141.slots[((Int32.ofNat sA)).toNatClampNeg]? = some (.double (own_w K2)) := own_at S141 V141 (own_ixN (by omega) (by omega)) (congrArg Value.double rw1)
      refine own_st (S' := T137.setTop (mkF m 342 #[qI p0, qI p1, qI p2, qI p3, qI p4, qI p5, qN A, qI v102, qI v104, qN B, qN C, qN K1, qN K2, qD (own_w K1), qZ, qD (own_w K2), qZ, qA b112, qA b122, qA gr130, qN sA, qA (ad127 2 pA), qA (ad127 3 pA), qI (0 : Int32), qN C, qD (own_w K2), qZ, qN B, qD (own_w K1), qZ, qU, qU, qU, qU, qU] [(.double (own_w K2))])) (fun t k => XS.aload X137.here hx rfl (hb hby at_327) rfl rfl (XS.iload X137.here hx rfl (hb hby at_329) rfl (X137.iaload hx (j := (Int32.ofNat sA)) (v := (.int (Int32.ofNat C))) (by rw [hh137]; exact Ar139.1) (State.isArrayOf_alike hZ.alike Ar139.2.1) Ar139.2.2 (own_in S139 (own_ixN (by omega) (by omega))) at139 (g := (mkF m 331 #[qI p0, qI p1, qI p2, qI p3, qI p4, qI p5, qN A, qI v102, qI v104, qN B, qN C, qN K1, qN K2, qD (own_w K1), qZ, qD (own_w K2), qZ, qA b112, qA b122, qA gr130, qN sA, qA (ad127 2 pA), qA (ad127 3 pA), qI (0 : Int32), qN C, qD (own_w K2), qZ, qN B, qD (own_w K1), qZ, qU, qU, qU, qU, qU] [qV sA, (.ref (ad127 2 pA))])) rfl rfl (hb hby at_331) _ (XS.iload X137.here hx rfl (hb hby at_332) rfl (XS.icmpNo X137.here hx rfl (hb hby at_334) rfl (teq hc140).2 (XS.aload X137.here hx rfl (hb hby at_337) rfl rfl (XS.iload X137.here hx rfl (hb hby at_339) rfl (X137.daload hx (j := (Int32.ofNat sA)) (v := (.double (own_w K2))) (by rw [hh137]; exact Ar141.1) (State.isArrayOf_alike hZ.alike Ar141.2.1) Ar141.2.2 (own_in S141 (own_ixN (by omega) (by omega))) at141 (g := (mkF m 341 #[qI p0, qI p1, qI p2, qI p3, qI p4, qI p5, qN A, qI v102, qI v104, qN B, qN C, qN K1, qN K2, qD (own_w K1), qZ, qD (own_w K2), qZ, qA b112, qA b122, qA gr130, qN sA, qA (ad127 2 pA), qA (ad127 3 pA), qI (0 : Int32), qN C, qD (own_w K2), qZ, qN B, qD (own_w K1), qZ, qU, qU, qU, qU, qU] [qV sA, (.ref (ad127 3 pA))])) rfl rfl (hb hby at_341) _ k)))))))) ?_
      refine own_st (S' := T137.setTop (mkF m 345 #[qI p0, qI p1, qI p2, qI p3, qI p4, qI p5, qN A, qI v102, qI v104, qN B, qN C, qN K1, qN K2, qD (own_w K1), qZ, qD (own_w K2), qZ, qA b112, qA b122, qA gr130, qN sA, qA (ad127 2 pA), qA (ad127 3 pA), qI (0 : Int32), qN C, qD (own_w K2), qZ, qN B, qD (own_w K1), qZ, qU, qU, qU, qU, qU] [(.int (cmpValue (FP.dcmp (own_w K2) (own_w K2)) .l))])) (fun t k => XS.dload X137.here hx rfl (hb hby at_342) rfl (XS.dcmpS X137.here hx rfl (hb hby at_344) rfl rfl k)) ?_
      refine own_st (S' := T137.setTop (mkF m 345 #[qI p0, qI p1, qI p2, qI p3, qI p4, qI p5, qN A, qI v102, qI v104, qN B, qN C, qN K1, qN K2, qD (own_w K1), qZ, qD (own_w K2), qZ, qA b112, qA b122, qA gr130, qN sA, qA (ad127 2 pA), qA (ad127 3 pA), qI (0 : Int32), qN C, qD (own_w K2), qZ, qN B, qD (own_w K1), qZ, qU, qU, qU, qU, qU] [(.int (0 : Int32))])) (fun t k => by rw [show ((cmpValue (FP.dcmp (own_w K2) (own_w K2)) .l) : Int32) = (0 : Int32) from own_w3 hK2a hK2b]; exact k) ?_
      refine own_st (S' := T137.setTop (mkF m 354 #[qI p0, qI p1, qI p2, qI p3, qI p4, qI p5, qN A, qI v102, qI v104, qN B, qN C, qN K1, qN K2, qD (own_w K1), qZ, qD (own_w K2), qZ, qA b112, qA b122, qA gr130, qN sA, qA (ad127 2 pA), qA (ad127 3 pA), qI (0 : Int32), qN C, qD (own_w K2), qZ, qN B, qD (own_w K1), qZ, qU, qU, qU, qU, qU] [(.int ((Int32.ofNat sA) + (1 : Int32))), (.ref (ad127 2 pA))])) (fun t k => XS.ifNo X137.here hx rfl (hb hby at_345) rfl ((if0 _ _).trans (teq (by decide)).2) (XS.aload X137.here hx rfl (hb hby at_348) rfl rfl (XS.iload X137.here hx rfl (hb hby at_350) rfl (XS.iconst X137.here hx rfl (hb hby at_352) (XS.iadd X137.here hx rfl (hb hby at_353) rfl k))))) ?_
      refine own_st (S' := T137.setTop (mkF m 354 #[qI p0, qI p1, qI p2, qI p3, qI p4, qI p5, qN A, qI v102, qI v104, qN B, qN C, qN K1, qN K2, qD (own_w K1), qZ, qD (own_w K2), qZ, qA b112, qA b122, qA gr130, qN sA, qA (ad127 2 pA), qA (ad127 3 pA), qI (0 : Int32), qN C, qD (own_w K2), qZ, qN B, qD (own_w K1), qZ, qU, qU, qU, qU, qU] [qV (sA + 1), (.ref (ad127 2 pA))])) (fun t k => by rw [own_incN (i := sA) (by omega)]; exact k) ?_
      have O142 := (f131 pA hpA3).2.2.2.2.2.2.2.2.2.1
      obtain ⟨c142, Ar142, S142, M142, V142⟩ := O142
      have at142 : c142.slots[((Int32.ofNat (sA + 1))).toNatClampNeg]? = some (.int (Int32.ofNat B)) := own_at S142 V142 (own_ixN (by omega) (by omega)) (congrArg Value.int rt2)
      have hc143 : (Int32.ofNat B) = (Int32.ofNat B) := rfl
      refine own_st (S' := T137.setTop (mkF m 366 #[qI p0, qI p1, qI p2, qI p3, qI p4, qI p5, qN A, qI v102, qI v104, qN B, qN C, qN K1, qN K2, qD (own_w K1), qZ, qD (own_w K2), qZ, qA b112, qA b122, qA gr130, qN sA, qA (ad127 2 pA), qA (ad127 3 pA), qI (0 : Int32), qN C, qD (own_w K2), qZ, qN B, qD (own_w K1), qZ, qU, qU, qU, qU, qU] [(.int ((Int32.ofNat sA) + (1 : Int32))), (.ref (ad127 3 pA))])) (fun t k => X137.iaload hx (j := (Int32.ofNat (sA + 1))) (v := (.int (Int32.ofNat B))) (by rw [hh137]; exact Ar142.1) (State.isArrayOf_alike hZ.alike Ar142.2.1) Ar142.2.2 (own_in S142 (own_ixN (by omega) (by omega))) at142 (g := (mkF m 354 #[qI p0, qI p1, qI p2, qI p3, qI p4, qI p5, qN A, qI v102, qI v104, qN B, qN C, qN K1, qN K2, qD (own_w K1), qZ, qD (own_w K2), qZ, qA b112, qA b122, qA gr130, qN sA, qA (ad127 2 pA), qA (ad127 3 pA), qI (0 : Int32), qN C, qD (own_w K2), qZ, qN B, qD (own_w K1), qZ, qU, qU, qU, qU, qU] [qV (sA + 1), (.ref (ad127 2 pA))])) rfl rfl (hb hby at_354) _ (XS.iload X137.here hx rfl (hb hby at_355) rfl (XS.icmpNo X137.here hx rfl (hb hby at_357) rfl (teq hc143).2 (XS.aload X137.here hx rfl (hb hby at_360) rfl rfl (XS.iload X137.here hx rfl (hb hby at_362) rfl (XS.iconst X137.here hx rfl (hb hby at_364) (XS.iadd X137.here hx rfl (hb hby at_365) rfl k))))))) ?_
      refine own_st (S' := T137.setTop (mkF m 366 #[qI p0, qI p1, qI p2, qI p3, qI p4, qI p5, qN A, qI v102, qI v104, qN B, qN C, qN K1, qN K2, qD (own_w K1), qZ, qD (own_w K2), qZ, qA b112, qA b122, qA gr130, qN sA, qA (ad127 2 pA), qA (ad127 3 pA), qI (0 : Int32), qN C, qD (own_w K2), qZ, qN B, qD (own_w K1), qZ, qU, qU, qU, qU, qU] [qV (sA + 1), (.ref (ad127 3 pA))])) (fun t k => by rw [own_incN (i := sA) (by omega)]; exact k) ?_
      have O144 := (f131 pA hpA3).2.2.2.2.2.2.2.2.2.2
      obtain ⟨c144, Ar144, S144, M144, V144⟩ := O144
      have at144 : c144.slots[((Int32.ofNat (sA + 1))).toNatClampNeg]? = some (.double (own_w K1)) := own_at S144 V144 (own_ixN (by omega) (by omega)) (congrArg Value.double rw2)
      refine own_st (S' := T137.setTop (mkF m 370 #[qI p0, qI p1, qI p2, qI p3, qI p4, qI p5, qN A, qI v102, qI v104, qN B, qN C, qN K1, qN K2, qD (own_w K1), qZ, qD (own_w K2), qZ, qA b112, qA b122, qA gr130, qN sA, qA (ad127 2 pA), qA (ad127 3 pA), qI (0 : Int32), qN C, qD (own_w K2), qZ, qN B, qD (own_w K1), qZ, qU, qU, qU, qU, qU] [(.int (cmpValue (FP.dcmp (own_w K1) (own_w K1)) .l))])) (fun t k => X137.daload hx (j := (Int32.ofNat (sA + 1))) (v := (.double (own_w K1))) (by rw [hh137]; exact Ar144.1) (State.isArrayOf_alike hZ.alike Ar144.2.1) Ar144.2.2 (own_in S144 (own_ixN (by omega) (by omega))) at144 (g := (mkF m 366 #[qI p0, qI p1, qI p2, qI p3, qI p4, qI p5, qN A, qI v102, qI v104, qN B, qN C, qN K1, qN K2, qD (own_w K1), qZ, qD (own_w K2), qZ, qA b112, qA b122, qA gr130, qN sA, qA (ad127 2 pA), qA (ad127 3 pA), qI (0 : Int32), qN C, qD (own_w K2), qZ, qN B, qD (own_w K1), qZ, qU, qU, qU, qU, qU] [qV (sA + 1), (.ref (ad127 3 pA))])) rfl rfl (hb hby at_366) _ (XS.dload X137.here hx rfl (hb hby at_367) rfl (XS.dcmpS X137.here hx rfl (hb hby at_369) rfl rfl k))) ?_
      refine own_st (S' := T137.setTop (mkF m 370 #[qI p0, qI p1, qI p2, qI p3, qI p4, qI p5, qN A, qI v102, qI v104, qN B, qN C, qN K1, qN K2, qD (own_w K1), qZ, qD (own_w K2), qZ, qA b112, qA b122, qA gr130, qN sA, qA (ad127 2 pA), qA (ad127 3 pA), qI (0 : Int32), qN C, qD (own_w K2), qZ, qN B, qD (own_w K1), qZ, qU, qU, qU, qU, qU] [(.int (0 : Int32))])) (fun t k => by rw [show ((cmpValue (FP.dcmp (own_w K1) (own_w K1)) .l) : Int32) = (0 : Int32) from own_w3 hK1a hK1b]; exact k) ?_
      refine own_st (S' := T137.setTop (mkF m 384 #[qI p0, qI p1, qI p2, qI p3, qI p4, qI p5, qN A, qI v102, qI v104, qN B, qN C, qN K1, qN K2, qD (own_w K1), qZ, qD (own_w K2), qZ, qA b112, qA b122, qA gr130, qN sA, qA (ad127 2 pA), qA (ad127 3 pA), qI (0 : Int32), qN C, qD (own_w K2), qZ, qN B, qD (own_w K1), qZ, qI (1 : Int32), qU, qU, qU, qU] [qV B, (.ref gr130)])) (fun t k => XS.ifNo X137.here hx rfl (hb hby at_370) rfl ((if0 _ _).trans (teq (by decide)).2) (XS.iconst X137.here hx rfl (hb hby at_373) (XS.goto X137.here hx rfl (pc0 := 374) (pc' := 378) rfl (hb hby at_374) (by decide) (by decide) (XS.istore X137.here hx rfl (hb hby at_378) rfl (l' := #[qI p0, qI p1, qI p2, qI p3, qI p4, qI p5, qN A, qI v102, qI v104, qN B, qN C, qN K1, qN K2, qD (own_w K1), qZ, qD (own_w K2), qZ, qA b112, qA b122, qA gr130, qN sA, qA (ad127 2 pA), qA (ad127 3 pA), qI (0 : Int32), qN C, qD (own_w K2), qZ, qN B, qD (own_w K1), qZ, qI (1 : Int32), qU, qU, qU, qU]) rfl (XS.aload X137.here hx rfl (hb hby at_380) rfl rfl (XS.iload X137.here hx rfl (hb hby at_382) rfl k)))))) ?_
      obtain ⟨cq145, kq145, q145a, q145b, q145c⟩ := isOf hZ hh137 g0_130
      obtain ⟨_, _, ⟨T145, L145, k145, n145⟩, -, X145, ⟨Lc145, hQ145, l145, y145, z145⟩, st145⟩ := X137.virtualBack hx (y := (⟨"kithrank/Graph", "first", "(I)I"⟩ : MethodName)) (z := (⟨"kithrank/Graph", "first", "(I)I"⟩ : MethodName)) hown (mvT hZ (own_hw hw (i := 162) rfl)) (mvT hZ (own_hw hw (i := 163) rfl)) (notFace_of_selects (args := #[]) (mvT hZ (own_hw hw (i := 165) rfl))) (mvT hZ (own_hw hw (i := 165) rfl)) (mvT hZ (own_hw hw (i := 164) rfl)) (by decide) (backOf (W := 0) (rm23 l Z a0 hw [] gr130 (Int32.ofNat B) ad127 (own_S dg) (own_f2 tt2 pA (own_sw (tt2 pA) sA t1)) (own_f2 ww2 pA (own_sw (ww2 pA) sA t1)) sa130 B pB iB T130.heap n0 Z130 f131 g0_130 g4_130 g1_130 g5_130 rfl hB hpB hiB) hZ (own_hw hw (i := 166) rfl) (own_hw hw (i := 73) rfl) (by decide) (by decide)) q145a q145c (g := (mkF m 384 #[qI p0, qI p1, qI p2, qI p3, qI p4, qI p5, qN A, qI v102, qI v104, qN B, qN C, qN K1, qN K2, qD (own_w K1), qZ, qD (own_w K2), qZ, qA b112, qA b122, qA gr130, qN sA, qA (ad127 2 pA), qA (ad127 3 pA), qI (0 : Int32), qN C, qD (own_w K2), qZ, qN B, qD (own_w K1), qZ, qI (1 : Int32), qU, qU, qU, qU] [qV B, (.ref gr130)])) rfl (by rw [hml]; rfl) (Steps.refl _) (argsL := [(.int (Int32.ofNat B))]) (rest := []) (lenOf pd0_2 rfl) rfl (by show 2 * 0 + _ ≤ _; exact Nat.le_of_eq rfl) (hb hby at_384) (fun _ _ => ⟨rfl, hh137, (by decide : 24 + 0 ≤ _), (by decide : 16828 + 0 ≤ _)⟩)
      dsimp only [Pt.U, Pt.locs, Pt.cells, Pt.slots] at X145 l145 y145 z145 st145 hQ145
      rw [l145, y145, z145] at X145
      obtain ⟨rfl, N145q, hh145⟩ := hQ145
      have N145 := Fr.app N137 N145q
      refine own_tr st145 ?_
      show own_Go p.tables e below _ (T145.setTop (mkF m 387 #[qI p0, qI p1, qI p2, qI p3, qI p4, qI p5, qN A, qI v102, qI v104, qN B, qN C, qN K1, qN K2, qD (own_w K1), qZ, qD (own_w K2), qZ, qA b112, qA b122, qA gr130, qN sA, qA (ad127 2 pA), qA (ad127 3 pA), qI (0 : Int32), qN C, qD (own_w K2), qZ, qN B, qD (own_w K1), qZ, qI (1 : Int32), qU, qU, qU, qU] [qV ((own_S dg) pB iB)]))
      refine own_st (S' := T145.setTop (mkF m 387 #[qI p0, qI p1, qI p2, qI p3, qI p4, qI p5, qN A, qI v102, qI v104, qN B, qN C, qN K1, qN K2, qD (own_w K1), qZ, qD (own_w K2), qZ, qA b112, qA b122, qA gr130, qN sA, qA (ad127 2 pA), qA (ad127 3 pA), qI (0 : Int32), qN C, qD (own_w K2), qZ, qN B, qD (own_w K1), qZ, qI (1 : Int32), qU, qU, qU, qU] [qV sB])) (fun t k => by show Steps p.tables e below (T145.setTop (mkF m 387 #[.val (.int p0), .val (.int p1), .val (.int p2), .val (.int p3), .val (.int p4), .val (.int p5), .val (.int (Int32.ofNat A)), .val (.int v102), .val (.int v104), .val (.int (Int32.ofNat B)), .val (.int (Int32.ofNat C)), .val (.int (Int32.ofNat K1)), .val (.int (Int32.ofNat K2)), .val (.double (own_w K1)), .second, .val (.double (own_w K2)), .second, .val (.ref b112), .val (.ref b122), .val (.ref gr130), .val (.int (Int32.ofNat sA)), .val (.ref (ad127 2 pA)), .val (.ref (ad127 3 pA)), .val (.int (0 : Int32)), .val (.int (Int32.ofNat C)), .val (.double (own_w K2)), .second, .val (.int (Int32.ofNat B)), .val (.double (own_w K1)), .second, .val (.int (1 : Int32)), .unset, .unset, .unset, .unset] [(.int (Int32.ofNat ((own_S dg) pB iB)))])) t; rw [show ((Int32.ofNat ((own_S dg) pB iB)) : Int32) = (Int32.ofNat sB) from congrArg Int32.ofNat hsB.symm]; exact k) ?_
      refine own_st (S' := T145.setTop (mkF m 393 #[qI p0, qI p1, qI p2, qI p3, qI p4, qI p5, qN A, qI v102, qI v104, qN B, qN C, qN K1, qN K2, qD (own_w K1), qZ, qD (own_w K2), qZ, qA b112, qA b122, qA gr130, qN sA, qA (ad127 2 pA), qA (ad127 3 pA), qI (0 : Int32), qN C, qD (own_w K2), qZ, qN B, qD (own_w K1), qZ, qI (1 : Int32), qN sB, qU, qU, qU] [qV B, (.ref gr130)])) (fun t k => XS.istore X145.here hx rfl (hb hby at_387) rfl (l' := #[qI p0, qI p1, qI p2, qI p3, qI p4, qI p5, qN A, qI v102, qI v104, qN B, qN C, qN K1, qN K2, qD (own_w K1), qZ, qD (own_w K2), qZ, qA b112, qA b122, qA gr130, qN sA, qA (ad127 2 pA), qA (ad127 3 pA), qI (0 : Int32), qN C, qD (own_w K2), qZ, qN B, qD (own_w K1), qZ, qI (1 : Int32), qN sB, qU, qU, qU]) rfl (XS.aload X145.here hx rfl (hb hby at_389) rfl rfl (XS.iload X145.here hx rfl (hb hby at_391) rfl k))) ?_
      obtain ⟨cq146, kq146, q146a, q146b, q146c⟩ := isOf hZ hh145 g0_130
      obtain ⟨_, _, ⟨T146, L146, k146, n146⟩, -, X146, ⟨Lc146, hQ146, l146, y146, z146⟩, st146⟩ := X145.virtualBack hx (y := (⟨"kithrank/Graph", "pageTargets", "(I)[I"⟩ : MethodName)) (z := (⟨"kithrank/Graph", "pageTargets", "(I)[I"⟩ : MethodName)) hown (mvT hZ (own_hw hw (i := 176) rfl)) (mvT hZ (own_hw hw (i := 177) rfl)) (notFace_of_selects (args := #[]) (mvT hZ (own_hw hw (i := 179) rfl))) (mvT hZ (own_hw hw (i := 179) rfl)) (mvT hZ (own_hw hw (i := 178) rfl)) (by decide) (backOf (W := 0) (rm25 l Z a0 hw [] gr130 (Int32.ofNat B) ad127 (own_S dg) (own_f2 tt2 pA (own_sw (tt2 pA) sA t1)) (own_f2 ww2 pA (own_sw (ww2 pA) sA t1)) ta130 B pB iB T130.heap n0 Z130 f131 g0_130 g4_130 g2_130 g6_130 rfl hB hpB hiB) hZ (own_hw hw (i := 180) rfl) (own_hw hw (i := 73) rfl) (by decide) (by decide)) q146a q146c (g := (mkF m 393 #[qI p0, qI p1, qI p2, qI p3, qI p4, qI p5, qN A, qI v102, qI v104, qN B, qN C, qN K1, qN K2, qD (own_w K1), qZ, qD (own_w K2), qZ, qA b112, qA b122, qA gr130, qN sA, qA (ad127 2 pA), qA (ad127 3 pA), qI (0 : Int32), qN C, qD (own_w K2), qZ, qN B, qD (own_w K1), qZ, qI (1 : Int32), qN sB, qU, qU, qU] [qV B, (.ref gr130)])) rfl (by rw [hml]; rfl) (Steps.refl _) (argsL := [(.int (Int32.ofNat B))]) (rest := []) (lenOf pd0_3 rfl) rfl (by show 2 * 0 + _ ≤ _; exact Nat.le_of_eq rfl) (hb hby at_393) (fun _ _ => ⟨rfl, hh145, (by decide : 24 + 0 ≤ _), (by decide : 16828 + 0 ≤ _)⟩)
      dsimp only [Pt.U, Pt.locs, Pt.cells, Pt.slots] at X146 l146 y146 z146 st146 hQ146
      rw [l146, y146, z146] at X146
      obtain ⟨rfl, N146q, hh146⟩ := hQ146
      have N146 := Fr.app N145 N146q
      refine own_tr st146 ?_
      have O147 := (f131 pB hpB3).2.2.2.2.2.2.2.2.2.1
      obtain ⟨c147, Ar147, S147, M147, V147⟩ := O147
      have at147 : c147.slots[((Int32.ofNat sB)).toNatClampNeg]? = some (.int (Int32.ofNat A)) := own_at S147 V147 (own_ixN (by omega) (by omega)) (congrArg Value.int rt3)
      have hc148 : (Int32.ofNat A) = (Int32.ofNat A) := rfl
      refine own_st (S' := T146.setTop (mkF m 408 #[qI p0, qI p1, qI p2, qI p3, qI p4, qI p5, qN A, qI v102, qI v104, qN B, qN C, qN K1, qN K2, qD (own_w K1), qZ, qD (own_w K2), qZ, qA b112, qA b122, qA gr130, qN sA, qA (ad127 2 pA), qA (ad127 3 pA), qI (0 : Int32), qN C, qD (own_w K2), qZ, qN B, qD (own_w K1), qZ, qI (1 : Int32), qN sB, qU, qU, qU] [qV B, (.ref gr130)])) (fun t k => XS.iload X146.here hx rfl (hb hby at_396) rfl (X146.iaload hx (j := (Int32.ofNat sB)) (v := (.int (Int32.ofNat A))) (by rw [hh146]; exact Ar147.1) (State.isArrayOf_alike hZ.alike Ar147.2.1) Ar147.2.2 (own_in S147 (own_ixN (by omega) (by omega))) at147 (g := (mkF m 398 #[qI p0, qI p1, qI p2, qI p3, qI p4, qI p5, qN A, qI v102, qI v104, qN B, qN C, qN K1, qN K2, qD (own_w K1), qZ, qD (own_w K2), qZ, qA b112, qA b122, qA gr130, qN sA, qA (ad127 2 pA), qA (ad127 3 pA), qI (0 : Int32), qN C, qD (own_w K2), qZ, qN B, qD (own_w K1), qZ, qI (1 : Int32), qN sB, qU, qU, qU] [qV sB, (.ref (ad127 2 pB))])) rfl rfl (hb hby at_398) _ (XS.iload X146.here hx rfl (hb hby at_399) rfl (XS.icmpNo X146.here hx rfl (hb hby at_401) rfl (teq hc148).2 (XS.aload X146.here hx rfl (hb hby at_404) rfl rfl (XS.iload X146.here hx rfl (hb hby at_406) rfl k)))))) ?_
      obtain ⟨cq149, kq149, q149a, q149b, q149c⟩ := isOf hZ hh146 g0_130
      obtain ⟨_, _, ⟨T149, L149, k149, n149⟩, -, X149, ⟨Lc149, hQ149, l149, y149, z149⟩, st149⟩ := X146.virtualBack hx (y := (⟨"kithrank/Graph", "pageWeights", "(I)[D"⟩ : MethodName)) (z := (⟨"kithrank/Graph", "pageWeights", "(I)[D"⟩ : MethodName)) hown (mvT hZ (own_hw hw (i := 181) rfl)) (mvT hZ (own_hw hw (i := 182) rfl)) (notFace_of_selects (args := #[]) (mvT hZ (own_hw hw (i := 184) rfl))) (mvT hZ (own_hw hw (i := 184) rfl)) (mvT hZ (own_hw hw (i := 183) rfl)) (by decide) (backOf (W := 0) (rm26 l Z a0 hw [] gr130 (Int32.ofNat B) ad127 (own_S dg) (own_f2 tt2 pA (own_sw (tt2 pA) sA t1)) (own_f2 ww2 pA (own_sw (ww2 pA) sA t1)) wa130 B pB iB T130.heap n0 Z130 f131 g0_130 g4_130 g3_130 g7_130 rfl hB hpB hiB) hZ (own_hw hw (i := 185) rfl) (own_hw hw (i := 73) rfl) (by decide) (by decide)) q149a q149c (g := (mkF m 408 #[qI p0, qI p1, qI p2, qI p3, qI p4, qI p5, qN A, qI v102, qI v104, qN B, qN C, qN K1, qN K2, qD (own_w K1), qZ, qD (own_w K2), qZ, qA b112, qA b122, qA gr130, qN sA, qA (ad127 2 pA), qA (ad127 3 pA), qI (0 : Int32), qN C, qD (own_w K2), qZ, qN B, qD (own_w K1), qZ, qI (1 : Int32), qN sB, qU, qU, qU] [qV B, (.ref gr130)])) rfl (by rw [hml]; rfl) (Steps.refl _) (argsL := [(.int (Int32.ofNat B))]) (rest := []) (lenOf pd0_4 rfl) rfl (by show 2 * 0 + _ ≤ _; exact Nat.le_of_eq rfl) (hb hby at_408) (fun _ _ => ⟨rfl, hh146, (by decide : 24 + 0 ≤ _), (by decide : 16828 + 0 ≤ _)⟩)
      dsimp only [Pt.U, Pt.locs, Pt.cells, Pt.slots] at X149 l149 y149 z149 st149 hQ149
      rw [l149, y149, z149] at X149
      obtain ⟨rfl, N149q, hh149⟩ := hQ149
      have N149 := Fr.app N146 N149q
      refine own_tr st149 ?_
      have O150 := (f131 pB hpB3).2.2.2.2.2.2.2.2.2.2
      obtain ⟨c150, Ar150, S150, M150, V150⟩ := O150
      have at150 : c150.slots[((Int32.ofNat sB)).toNatClampNeg]? = some (.double (own_w K1)) := own_at S150 V150 (own_ixN (by omega) (by omega)) (congrArg Value.double rw3)
      refine own_st (S' := T149.setTop (mkF m 417 #[qI p0, qI p1, qI p2, qI p3, qI p4, qI p5, qN A, qI v102, qI v104, qN B, qN C, qN K1, qN K2, qD (own_w K1), qZ, qD (own_w K2), qZ, qA b112, qA b122, qA gr130, qN sA, qA (ad127 2 pA), qA (ad127 3 pA), qI (0 : Int32), qN C, qD (own_w K2), qZ, qN B, qD (own_w K1), qZ, qI (1 : Int32), qN sB, qU, qU, qU] [(.int (cmpValue (FP.dcmp (own_w K1) (own_w K1)) .l))])) (fun t k => XS.iload X149.here hx rfl (hb hby at_411) rfl (X149.daload hx (j := (Int32.ofNat sB)) (v := (.double (own_w K1))) (by rw [hh149]; exact Ar150.1) (State.isArrayOf_alike hZ.alike Ar150.2.1) Ar150.2.2 (own_in S150 (own_ixN (by omega) (by omega))) at150 (g := (mkF m 413 #[qI p0, qI p1, qI p2, qI p3, qI p4, qI p5, qN A, qI v102, qI v104, qN B, qN C, qN K1, qN K2, qD (own_w K1), qZ, qD (own_w K2), qZ, qA b112, qA b122, qA gr130, qN sA, qA (ad127 2 pA), qA (ad127 3 pA), qI (0 : Int32), qN C, qD (own_w K2), qZ, qN B, qD (own_w K1), qZ, qI (1 : Int32), qN sB, qU, qU, qU] [qV sB, (.ref (ad127 3 pB))])) rfl rfl (hb hby at_413) _ (XS.dload X149.here hx rfl (hb hby at_414) rfl (XS.dcmpS X149.here hx rfl (hb hby at_416) rfl rfl k)))) ?_
      refine own_st (S' := T149.setTop (mkF m 417 #[qI p0, qI p1, qI p2, qI p3, qI p4, qI p5, qN A, qI v102, qI v104, qN B, qN C, qN K1, qN K2, qD (own_w K1), qZ, qD (own_w K2), qZ, qA b112, qA b122, qA gr130, qN sA, qA (ad127 2 pA), qA (ad127 3 pA), qI (0 : Int32), qN C, qD (own_w K2), qZ, qN B, qD (own_w K1), qZ, qI (1 : Int32), qN sB, qU, qU, qU] [(.int (0 : Int32))])) (fun t k => by rw [show ((cmpValue (FP.dcmp (own_w K1) (own_w K1)) .l) : Int32) = (0 : Int32) from own_w3 hK1a hK1b]; exact k) ?_
      refine own_st (S' := T149.setTop (mkF m 431 #[qI p0, qI p1, qI p2, qI p3, qI p4, qI p5, qN A, qI v102, qI v104, qN B, qN C, qN K1, qN K2, qD (own_w K1), qZ, qD (own_w K2), qZ, qA b112, qA b122, qA gr130, qN sA, qA (ad127 2 pA), qA (ad127 3 pA), qI (0 : Int32), qN C, qD (own_w K2), qZ, qN B, qD (own_w K1), qZ, qI (1 : Int32), qN sB, qI (1 : Int32), qU, qU] [qV C, (.ref gr130)])) (fun t k => XS.ifNo X149.here hx rfl (hb hby at_417) rfl ((if0 _ _).trans (teq (by decide)).2) (XS.iconst X149.here hx rfl (hb hby at_420) (XS.goto X149.here hx rfl (pc0 := 421) (pc' := 425) rfl (hb hby at_421) (by decide) (by decide) (XS.istore X149.here hx rfl (hb hby at_425) rfl (l' := #[qI p0, qI p1, qI p2, qI p3, qI p4, qI p5, qN A, qI v102, qI v104, qN B, qN C, qN K1, qN K2, qD (own_w K1), qZ, qD (own_w K2), qZ, qA b112, qA b122, qA gr130, qN sA, qA (ad127 2 pA), qA (ad127 3 pA), qI (0 : Int32), qN C, qD (own_w K2), qZ, qN B, qD (own_w K1), qZ, qI (1 : Int32), qN sB, qI (1 : Int32), qU, qU]) rfl (XS.aload X149.here hx rfl (hb hby at_427) rfl rfl (XS.iload X149.here hx rfl (hb hby at_429) rfl k)))))) ?_
      obtain ⟨cq151, kq151, q151a, q151b, q151c⟩ := isOf hZ hh149 g0_130
      obtain ⟨_, _, ⟨T151, L151, k151, n151⟩, -, X151, ⟨Lc151, hQ151, l151, y151, z151⟩, st151⟩ := X149.virtualBack hx (y := (⟨"kithrank/Graph", "first", "(I)I"⟩ : MethodName)) (z := (⟨"kithrank/Graph", "first", "(I)I"⟩ : MethodName)) hown (mvT hZ (own_hw hw (i := 162) rfl)) (mvT hZ (own_hw hw (i := 163) rfl)) (notFace_of_selects (args := #[]) (mvT hZ (own_hw hw (i := 165) rfl))) (mvT hZ (own_hw hw (i := 165) rfl)) (mvT hZ (own_hw hw (i := 164) rfl)) (by decide) (backOf (W := 0) (rm23 l Z a0 hw [] gr130 (Int32.ofNat C) ad127 (own_S dg) (own_f2 tt2 pA (own_sw (tt2 pA) sA t1)) (own_f2 ww2 pA (own_sw (ww2 pA) sA t1)) sa130 C pC iC T130.heap n0 Z130 f131 g0_130 g4_130 g1_130 g5_130 rfl hC hpC hiC) hZ (own_hw hw (i := 166) rfl) (own_hw hw (i := 73) rfl) (by decide) (by decide)) q151a q151c (g := (mkF m 431 #[qI p0, qI p1, qI p2, qI p3, qI p4, qI p5, qN A, qI v102, qI v104, qN B, qN C, qN K1, qN K2, qD (own_w K1), qZ, qD (own_w K2), qZ, qA b112, qA b122, qA gr130, qN sA, qA (ad127 2 pA), qA (ad127 3 pA), qI (0 : Int32), qN C, qD (own_w K2), qZ, qN B, qD (own_w K1), qZ, qI (1 : Int32), qN sB, qI (1 : Int32), qU, qU] [qV C, (.ref gr130)])) rfl (by rw [hml]; rfl) (Steps.refl _) (argsL := [(.int (Int32.ofNat C))]) (rest := []) (lenOf pd0_2 rfl) rfl (by show 2 * 0 + _ ≤ _; exact Nat.le_of_eq rfl) (hb hby at_431) (fun _ _ => ⟨rfl, hh149, (by decide : 24 + 0 ≤ _), (by decide : 16828 + 0 ≤ _)⟩)
      dsimp only [Pt.U, Pt.locs, Pt.cells, Pt.slots] at X151 l151 y151 z151 st151 hQ151
      rw [l151, y151, z151] at X151
      obtain ⟨rfl, N151q, hh151⟩ := hQ151
      have N151 := Fr.app N149 N151q
      refine own_tr st151 ?_
      show own_Go p.tables e below _ (T151.setTop (mkF m 434 #[qI p0, qI p1, qI p2, qI p3, qI p4, qI p5, qN A, qI v102, qI v104, qN B, qN C, qN K1, qN K2, qD (own_w K1), qZ, qD (own_w K2), qZ, qA b112, qA b122, qA gr130, qN sA, qA (ad127 2 pA), qA (ad127 3 pA), qI (0 : Int32), qN C, qD (own_w K2), qZ, qN B, qD (own_w K1), qZ, qI (1 : Int32), qN sB, qI (1 : Int32), qU, qU] [qV ((own_S dg) pC iC)]))
      refine own_st (S' := T151.setTop (mkF m 434 #[qI p0, qI p1, qI p2, qI p3, qI p4, qI p5, qN A, qI v102, qI v104, qN B, qN C, qN K1, qN K2, qD (own_w K1), qZ, qD (own_w K2), qZ, qA b112, qA b122, qA gr130, qN sA, qA (ad127 2 pA), qA (ad127 3 pA), qI (0 : Int32), qN C, qD (own_w K2), qZ, qN B, qD (own_w K1), qZ, qI (1 : Int32), qN sB, qI (1 : Int32), qU, qU] [qV sC])) (fun t k => by show Steps p.tables e below (T151.setTop (mkF m 434 #[.val (.int p0), .val (.int p1), .val (.int p2), .val (.int p3), .val (.int p4), .val (.int p5), .val (.int (Int32.ofNat A)), .val (.int v102), .val (.int v104), .val (.int (Int32.ofNat B)), .val (.int (Int32.ofNat C)), .val (.int (Int32.ofNat K1)), .val (.int (Int32.ofNat K2)), .val (.double (own_w K1)), .second, .val (.double (own_w K2)), .second, .val (.ref b112), .val (.ref b122), .val (.ref gr130), .val (.int (Int32.ofNat sA)), .val (.ref (ad127 2 pA)), .val (.ref (ad127 3 pA)), .val (.int (0 : Int32)), .val (.int (Int32.ofNat C)), .val (.double (own_w K2)), .second, .val (.int (Int32.ofNat B)), .val (.double (own_w K1)), .second, .val (.int (1 : Int32)), .val (.int (Int32.ofNat sB)), .val (.int (1 : Int32)), .unset, .unset] [(.int (Int32.ofNat ((own_S dg) pC iC)))])) t; rw [show ((Int32.ofNat ((own_S dg) pC iC)) : Int32) = (Int32.ofNat sC) from congrArg Int32.ofNat hsC.symm]; exact k) ?_
      refine own_st (S' := T151.setTop (mkF m 440 #[qI p0, qI p1, qI p2, qI p3, qI p4, qI p5, qN A, qI v102, qI v104, qN B, qN C, qN K1, qN K2, qD (own_w K1), qZ, qD (own_w K2), qZ, qA b112, qA b122, qA gr130, qN sA, qA (ad127 2 pA), qA (ad127 3 pA), qI (0 : Int32), qN C, qD (own_w K2), qZ, qN B, qD (own_w K1), qZ, qI (1 : Int32), qN sB, qI (1 : Int32), qN sC, qU] [qV C, (.ref gr130)])) (fun t k => XS.istore X151.here hx rfl (hb hby at_434) rfl (l' := #[qI p0, qI p1, qI p2, qI p3, qI p4, qI p5, qN A, qI v102, qI v104, qN B, qN C, qN K1, qN K2, qD (own_w K1), qZ, qD (own_w K2), qZ, qA b112, qA b122, qA gr130, qN sA, qA (ad127 2 pA), qA (ad127 3 pA), qI (0 : Int32), qN C, qD (own_w K2), qZ, qN B, qD (own_w K1), qZ, qI (1 : Int32), qN sB, qI (1 : Int32), qN sC, qU]) rfl (XS.aload X151.here hx rfl (hb hby at_436) rfl rfl (XS.iload X151.here hx rfl (hb hby at_438) rfl k))) ?_
      obtain ⟨cq152, kq152, q152a, q152b, q152c⟩ := isOf hZ hh151 g0_130
      obtain ⟨_, _, ⟨T152, L152, k152, n152⟩, -, X152, ⟨Lc152, hQ152, l152, y152, z152⟩, st152⟩ := X151.virtualBack hx (y := (⟨"kithrank/Graph", "pageTargets", "(I)[I"⟩ : MethodName)) (z := (⟨"kithrank/Graph", "pageTargets", "(I)[I"⟩ : MethodName)) hown (mvT hZ (own_hw hw (i := 176) rfl)) (mvT hZ (own_hw hw (i := 177) rfl)) (notFace_of_selects (args := #[]) (mvT hZ (own_hw hw (i := 179) rfl))) (mvT hZ (own_hw hw (i := 179) rfl)) (mvT hZ (own_hw hw (i := 178) rfl)) (by decide) (backOf (W := 0) (rm25 l Z a0 hw [] gr130 (Int32.ofNat C) ad127 (own_S dg) (own_f2 tt2 pA (own_sw (tt2 pA) sA t1)) (own_f2 ww2 pA (own_sw (ww2 pA) sA t1)) ta130 C pC iC T130.heap n0 Z130 f131 g0_130 g4_130 g2_130 g6_130 rfl hC hpC hiC) hZ (own_hw hw (i := 180) rfl) (own_hw hw (i := 73) rfl) (by decide) (by decide)) q152a q152c (g := (mkF m 440 #[qI p0, qI p1, qI p2, qI p3, qI p4, qI p5, qN A, qI v102, qI v104, qN B, qN C, qN K1, qN K2, qD (own_w K1), qZ, qD (own_w K2), qZ, qA b112, qA b122, qA gr130, qN sA, qA (ad127 2 pA), qA (ad127 3 pA), qI (0 : Int32), qN C, qD (own_w K2), qZ, qN B, qD (own_w K1), qZ, qI (1 : Int32), qN sB, qI (1 : Int32), qN sC, qU] [qV C, (.ref gr130)])) rfl (by rw [hml]; rfl) (Steps.refl _) (argsL := [(.int (Int32.ofNat C))]) (rest := []) (lenOf pd0_3 rfl) rfl (by show 2 * 0 + _ ≤ _; exact Nat.le_of_eq rfl) (hb hby at_440) (fun _ _ => ⟨rfl, hh151, (by decide : 24 + 0 ≤ _), (by decide : 16828 + 0 ≤ _)⟩)
      dsimp only [Pt.U, Pt.locs, Pt.cells, Pt.slots] at X152 l152 y152 z152 st152 hQ152
      rw [l152, y152, z152] at X152
      obtain ⟨rfl, N152q, hh152⟩ := hQ152
      have N152 := Fr.app N151 N152q
      refine own_tr st152 ?_
      have O153 := (f131 pC hpC3).2.2.2.2.2.2.2.2.2.1
      obtain ⟨c153, Ar153, S153, M153, V153⟩ := O153
      have at153 : c153.slots[((Int32.ofNat sC)).toNatClampNeg]? = some (.int (Int32.ofNat A)) := own_at S153 V153 (own_ixN (by omega) (by omega)) (congrArg Value.int rt4)
      have hc154 : (Int32.ofNat A) = (Int32.ofNat A) := rfl
      refine own_st (S' := T152.setTop (mkF m 455 #[qI p0, qI p1, qI p2, qI p3, qI p4, qI p5, qN A, qI v102, qI v104, qN B, qN C, qN K1, qN K2, qD (own_w K1), qZ, qD (own_w K2), qZ, qA b112, qA b122, qA gr130, qN sA, qA (ad127 2 pA), qA (ad127 3 pA), qI (0 : Int32), qN C, qD (own_w K2), qZ, qN B, qD (own_w K1), qZ, qI (1 : Int32), qN sB, qI (1 : Int32), qN sC, qU] [qV C, (.ref gr130)])) (fun t k => XS.iload X152.here hx rfl (hb hby at_443) rfl (X152.iaload hx (j := (Int32.ofNat sC)) (v := (.int (Int32.ofNat A))) (by rw [hh152]; exact Ar153.1) (State.isArrayOf_alike hZ.alike Ar153.2.1) Ar153.2.2 (own_in S153 (own_ixN (by omega) (by omega))) at153 (g := (mkF m 445 #[qI p0, qI p1, qI p2, qI p3, qI p4, qI p5, qN A, qI v102, qI v104, qN B, qN C, qN K1, qN K2, qD (own_w K1), qZ, qD (own_w K2), qZ, qA b112, qA b122, qA gr130, qN sA, qA (ad127 2 pA), qA (ad127 3 pA), qI (0 : Int32), qN C, qD (own_w K2), qZ, qN B, qD (own_w K1), qZ, qI (1 : Int32), qN sB, qI (1 : Int32), qN sC, qU] [qV sC, (.ref (ad127 2 pC))])) rfl rfl (hb hby at_445) _ (XS.iload X152.here hx rfl (hb hby at_446) rfl (XS.icmpNo X152.here hx rfl (hb hby at_448) rfl (teq hc154).2 (XS.aload X152.here hx rfl (hb hby at_451) rfl rfl (XS.iload X152.here hx rfl (hb hby at_453) rfl k)))))) ?_
      obtain ⟨cq155, kq155, q155a, q155b, q155c⟩ := isOf hZ hh152 g0_130
      obtain ⟨_, _, ⟨T155, L155, k155, n155⟩, -, X155, ⟨Lc155, hQ155, l155, y155, z155⟩, st155⟩ := X152.virtualBack hx (y := (⟨"kithrank/Graph", "pageWeights", "(I)[D"⟩ : MethodName)) (z := (⟨"kithrank/Graph", "pageWeights", "(I)[D"⟩ : MethodName)) hown (mvT hZ (own_hw hw (i := 181) rfl)) (mvT hZ (own_hw hw (i := 182) rfl)) (notFace_of_selects (args := #[]) (mvT hZ (own_hw hw (i := 184) rfl))) (mvT hZ (own_hw hw (i := 184) rfl)) (mvT hZ (own_hw hw (i := 183) rfl)) (by decide) (backOf (W := 0) (rm26 l Z a0 hw [] gr130 (Int32.ofNat C) ad127 (own_S dg) (own_f2 tt2 pA (own_sw (tt2 pA) sA t1)) (own_f2 ww2 pA (own_sw (ww2 pA) sA t1)) wa130 C pC iC T130.heap n0 Z130 f131 g0_130 g4_130 g3_130 g7_130 rfl hC hpC hiC) hZ (own_hw hw (i := 185) rfl) (own_hw hw (i := 73) rfl) (by decide) (by decide)) q155a q155c (g := (mkF m 455 #[qI p0, qI p1, qI p2, qI p3, qI p4, qI p5, qN A, qI v102, qI v104, qN B, qN C, qN K1, qN K2, qD (own_w K1), qZ, qD (own_w K2), qZ, qA b112, qA b122, qA gr130, qN sA, qA (ad127 2 pA), qA (ad127 3 pA), qI (0 : Int32), qN C, qD (own_w K2), qZ, qN B, qD (own_w K1), qZ, qI (1 : Int32), qN sB, qI (1 : Int32), qN sC, qU] [qV C, (.ref gr130)])) rfl (by rw [hml]; rfl) (Steps.refl _) (argsL := [(.int (Int32.ofNat C))]) (rest := []) (lenOf pd0_4 rfl) rfl (by show 2 * 0 + _ ≤ _; exact Nat.le_of_eq rfl) (hb hby at_455) (fun _ _ => ⟨rfl, hh152, (by decide : 24 + 0 ≤ _), (by decide : 16828 + 0 ≤ _)⟩)
      dsimp only [Pt.U, Pt.locs, Pt.cells, Pt.slots] at X155 l155 y155 z155 st155 hQ155
      rw [l155, y155, z155] at X155
      obtain ⟨rfl, N155q, hh155⟩ := hQ155
      have N155 := Fr.app N152 N155q
      refine own_tr st155 ?_
      have O156 := (f131 pC hpC3).2.2.2.2.2.2.2.2.2.2
      obtain ⟨c156, Ar156, S156, M156, V156⟩ := O156
      have at156 : c156.slots[((Int32.ofNat sC)).toNatClampNeg]? = some (.double (own_w K2)) := own_at S156 V156 (own_ixN (by omega) (by omega)) (congrArg Value.double rw4)
      refine own_st (S' := T155.setTop (mkF m 464 #[qI p0, qI p1, qI p2, qI p3, qI p4, qI p5, qN A, qI v102, qI v104, qN B, qN C, qN K1, qN K2, qD (own_w K1), qZ, qD (own_w K2), qZ, qA b112, qA b122, qA gr130, qN sA, qA (ad127 2 pA), qA (ad127 3 pA), qI (0 : Int32), qN C, qD (own_w K2), qZ, qN B, qD (own_w K1), qZ, qI (1 : Int32), qN sB, qI (1 : Int32), qN sC, qU] [(.int (cmpValue (FP.dcmp (own_w K2) (own_w K2)) .l))])) (fun t k => XS.iload X155.here hx rfl (hb hby at_458) rfl (X155.daload hx (j := (Int32.ofNat sC)) (v := (.double (own_w K2))) (by rw [hh155]; exact Ar156.1) (State.isArrayOf_alike hZ.alike Ar156.2.1) Ar156.2.2 (own_in S156 (own_ixN (by omega) (by omega))) at156 (g := (mkF m 460 #[qI p0, qI p1, qI p2, qI p3, qI p4, qI p5, qN A, qI v102, qI v104, qN B, qN C, qN K1, qN K2, qD (own_w K1), qZ, qD (own_w K2), qZ, qA b112, qA b122, qA gr130, qN sA, qA (ad127 2 pA), qA (ad127 3 pA), qI (0 : Int32), qN C, qD (own_w K2), qZ, qN B, qD (own_w K1), qZ, qI (1 : Int32), qN sB, qI (1 : Int32), qN sC, qU] [qV sC, (.ref (ad127 3 pC))])) rfl rfl (hb hby at_460) _ (XS.dload X155.here hx rfl (hb hby at_461) rfl (XS.dcmpS X155.here hx rfl (hb hby at_463) rfl rfl k)))) ?_
      refine own_st (S' := T155.setTop (mkF m 464 #[qI p0, qI p1, qI p2, qI p3, qI p4, qI p5, qN A, qI v102, qI v104, qN B, qN C, qN K1, qN K2, qD (own_w K1), qZ, qD (own_w K2), qZ, qA b112, qA b122, qA gr130, qN sA, qA (ad127 2 pA), qA (ad127 3 pA), qI (0 : Int32), qN C, qD (own_w K2), qZ, qN B, qD (own_w K1), qZ, qI (1 : Int32), qN sB, qI (1 : Int32), qN sC, qU] [(.int (0 : Int32))])) (fun t k => by rw [show ((cmpValue (FP.dcmp (own_w K2) (own_w K2)) .l) : Int32) = (0 : Int32) from own_w3 hK2a hK2b]; exact k) ?_
      refine own_st (S' := T155.setTop (mkF m 484 #[qI p0, qI p1, qI p2, qI p3, qI p4, qI p5, qN A, qI v102, qI v104, qN B, qN C, qN K1, qN K2, qD (own_w K1), qZ, qD (own_w K2), qZ, qA b112, qA b122, qA gr130, qN sA, qA (ad127 2 pA), qA (ad127 3 pA), qI (0 : Int32), qN C, qD (own_w K2), qZ, qN B, qD (own_w K1), qZ, qI (1 : Int32), qN sB, qI (1 : Int32), qN sC, qI (1 : Int32)] [])) (fun t k => XS.ifNo X155.here hx rfl (hb hby at_464) rfl ((if0 _ _).trans (teq (by decide)).2) (XS.iconst X155.here hx rfl (hb hby at_467) (XS.goto X155.here hx rfl (pc0 := 468) (pc' := 472) rfl (hb hby at_468) (by decide) (by decide) (XS.istore X155.here hx rfl (hb hby at_472) rfl (l' := #[qI p0, qI p1, qI p2, qI p3, qI p4, qI p5, qN A, qI v102, qI v104, qN B, qN C, qN K1, qN K2, qD (own_w K1), qZ, qD (own_w K2), qZ, qA b112, qA b122, qA gr130, qN sA, qA (ad127 2 pA), qA (ad127 3 pA), qI (0 : Int32), qN C, qD (own_w K2), qZ, qN B, qD (own_w K1), qZ, qI (1 : Int32), qN sB, qI (1 : Int32), qN sC, qI (1 : Int32)]) rfl (XS.iload X155.here hx rfl (hb hby at_474) rfl (XS.ifNo X155.here hx rfl (hb hby at_476) rfl ((if0 _ _).trans (feq (by decide)).1) (XS.iload X155.here hx rfl (hb hby at_479) rfl (XS.ifNo X155.here hx rfl (hb hby at_481) rfl ((if0 _ _).trans (feq (by decide)).1) k)))))))) ?_
      refine own_st (S' := T155.setTop (mkF m 494 #[qI p0, qI p1, qI p2, qI p3, qI p4, qI p5, qN A, qI v102, qI v104, qN B, qN C, qN K1, qN K2, qD (own_w K1), qZ, qD (own_w K2), qZ, qA b112, qA b122, qA gr130, qN sA, qA (ad127 2 pA), qA (ad127 3 pA), qI (0 : Int32), qN C, qD (own_w K2), qZ, qN B, qD (own_w K1), qZ, qI (1 : Int32), qN sB, qI (1 : Int32), qN sC, qI (1 : Int32)] [(.int (1 : Int32))])) (fun t k => XS.iload X155.here hx rfl (hb hby at_484) rfl (XS.ifNo X155.here hx rfl (hb hby at_486) rfl ((if0 _ _).trans (feq (by decide)).1) (XS.iconst X155.here hx rfl (hb hby at_489) (XS.goto X155.here hx rfl (pc0 := 490) (pc' := 494) rfl (hb hby at_490) (by decide) (by decide) k)))) ?_
      refine own_retN X155 hx (t := .boolean) hret (by simp) hlk (hb hby at_494) ?_ (by decide) (by decide)
      rw [hh155]
      exact ⟨rfl, N155⟩
    · refine own_st (S' := T137.setTop (mkF m 283 #[qI p0, qI p1, qI p2, qI p3, qI p4, qI p5, qN A, qI v102, qI v104, qN B, qN C, qN K1, qN K2, qD (own_w K1), qZ, qD (own_w K2), qZ, qA b112, qA b122, qA gr130, qN sA, qA (ad127 2 pA), qA (ad127 3 pA), qI (1 : Int32), qU, qU, qU, qU, qU, qU, qU, qU, qU, qU, qU] [qV B])) (fun t k => XS.icmpNo X137.here hx rfl (hb hby at_261) rfl (flt hc138).1 (XS.iconst X137.here hx rfl (hb hby at_264) (XS.goto X137.here hx rfl (pc0 := 265) (pc' := 269) rfl (hb hby at_265) (by decide) (by decide) (XS.istore X137.here hx rfl (hb hby at_269) rfl (l' := #[qI p0, qI p1, qI p2, qI p3, qI p4, qI p5, qN A, qI v102, qI v104, qN B, qN C, qN K1, qN K2, qD (own_w K1), qZ, qD (own_w K2), qZ, qA b112, qA b122, qA gr130, qN sA, qA (ad127 2 pA), qA (ad127 3 pA), qI (1 : Int32), qU, qU, qU, qU, qU, qU, qU, qU, qU, qU, qU]) rfl (XS.iload X137.here hx rfl (hb hby at_271) rfl (XS.ifNo X137.here hx rfl (hb hby at_273) rfl ((if0 _ _).trans (feq (by decide)).1) (XS.iload X137.here hx rfl (hb hby at_276) rfl (XS.goto X137.here hx rfl (pc0 := 278) (pc' := 283) rfl (hb hby at_278) (by decide) (by decide) k)))))))) ?_
      refine own_st (S' := T137.setTop (mkF m 304 #[qI p0, qI p1, qI p2, qI p3, qI p4, qI p5, qN A, qI v102, qI v104, qN B, qN C, qN K1, qN K2, qD (own_w K1), qZ, qD (own_w K2), qZ, qA b112, qA b122, qA gr130, qN sA, qA (ad127 2 pA), qA (ad127 3 pA), qI (1 : Int32), qN B, qD (own_w K1), qZ, qU, qU, qU, qU, qU, qU, qU, qU] [])) (fun t k => XS.istore X137.here hx rfl (hb hby at_283) rfl (l' := #[qI p0, qI p1, qI p2, qI p3, qI p4, qI p5, qN A, qI v102, qI v104, qN B, qN C, qN K1, qN K2, qD (own_w K1), qZ, qD (own_w K2), qZ, qA b112, qA b122, qA gr130, qN sA, qA (ad127 2 pA), qA (ad127 3 pA), qI (1 : Int32), qN B, qU, qU, qU, qU, qU, qU, qU, qU, qU, qU]) rfl (XS.iload X137.here hx rfl (hb hby at_285) rfl (XS.ifNo X137.here hx rfl (hb hby at_287) rfl ((if0 _ _).trans (feq (by decide)).1) (XS.dload X137.here hx rfl (hb hby at_290) rfl (XS.goto X137.here hx rfl (pc0 := 292) (pc' := 297) rfl (hb hby at_292) (by decide) (by decide) (XS.dstore X137.here hx rfl (hb hby at_297) rfl (l' := #[qI p0, qI p1, qI p2, qI p3, qI p4, qI p5, qN A, qI v102, qI v104, qN B, qN C, qN K1, qN K2, qD (own_w K1), qZ, qD (own_w K2), qZ, qA b112, qA b122, qA gr130, qN sA, qA (ad127 2 pA), qA (ad127 3 pA), qI (1 : Int32), qN B, qD (own_w K1), qZ, qU, qU, qU, qU, qU, qU, qU, qU]) rfl (XS.iload X137.here hx rfl (hb hby at_299) rfl (XS.ifNo X137.here hx rfl (hb hby at_301) rfl ((if0 _ _).trans (feq (by decide)).1) k)))))))) ?_
      refine own_st (S' := T137.setTop (mkF m 327 #[qI p0, qI p1, qI p2, qI p3, qI p4, qI p5, qN A, qI v102, qI v104, qN B, qN C, qN K1, qN K2, qD (own_w K1), qZ, qD (own_w K2), qZ, qA b112, qA b122, qA gr130, qN sA, qA (ad127 2 pA), qA (ad127 3 pA), qI (1 : Int32), qN B, qD (own_w K1), qZ, qN C, qD (own_w K2), qZ, qU, qU, qU, qU, qU] [])) (fun t k => XS.iload X137.here hx rfl (hb hby at_304) rfl (XS.goto X137.here hx rfl (pc0 := 306) (pc' := 311) rfl (hb hby at_306) (by decide) (by decide) (XS.istore X137.here hx rfl (hb hby at_311) rfl (l' := #[qI p0, qI p1, qI p2, qI p3, qI p4, qI p5, qN A, qI v102, qI v104, qN B, qN C, qN K1, qN K2, qD (own_w K1), qZ, qD (own_w K2), qZ, qA b112, qA b122, qA gr130, qN sA, qA (ad127 2 pA), qA (ad127 3 pA), qI (1 : Int32), qN B, qD (own_w K1), qZ, qN C, qU, qU, qU, qU, qU, qU, qU]) rfl (XS.iload X137.here hx rfl (hb hby at_313) rfl (XS.ifNo X137.here hx rfl (hb hby at_315) rfl ((if0 _ _).trans (feq (by decide)).1) (XS.dload X137.here hx rfl (hb hby at_318) rfl (XS.goto X137.here hx rfl (pc0 := 320) (pc' := 325) rfl (hb hby at_320) (by decide) (by decide) (XS.dstore X137.here hx rfl (hb hby at_325) rfl (l' := #[qI p0, qI p1, qI p2, qI p3, qI p4, qI p5, qN A, qI v102, qI v104, qN B, qN C, qN K1, qN K2, qD (own_w K1), qZ, qD (own_w K2), qZ, qA b112, qA b122, qA gr130, qN sA, qA (ad127 2 pA), qA (ad127 3 pA), qI (1 : Int32), qN B, qD (own_w K1), qZ, qN C, qD (own_w K2), qZ, qU, qU, qU, qU, qU]) rfl k)))))))) ?_
      have ht : ¬ t1 = 1 := by rw [ht1, if_neg (by rw [hv1, hv2]; exact fun z => hc138 ((own_w4 hK1a hK1b hK2a hK2b).mpr z))]; decide
      have rt1 : (own_f2 tt2 pA (own_sw (tt2 pA) sA t1)) pA sA = (Int32.ofNat B) := by rw [(own_readS (pA := pA) (sA := sA) (pB := pB) (sB := sB) tt2 t1).1, if_neg ht]; exact rT.1
      have rt2 : (own_f2 tt2 pA (own_sw (tt2 pA) sA t1)) pA (sA + 1) = (Int32.ofNat C) := by rw [(own_readS (pA := pA) (sA := sA) (pB := pB) (sB := sB) tt2 t1).2.1, if_neg ht]; exact rT.2.1
      have rt3 : (own_f2 tt2 pA (own_sw (tt2 pA) sA t1)) pB sB = (Int32.ofNat A) := by rw [(own_readS (pA := pA) (sA := sA) (pB := pB) (sB := sB) tt2 t1).2.2 dB]; exact rT.2.2.1
      have rt4 : (own_f2 tt2 pA (own_sw (tt2 pA) sA t1)) pC sC = (Int32.ofNat A) := by rw [(own_readS (pA := pA) (sA := sA) (pB := pC) (sB := sC) tt2 t1).2.2 dC]; exact rT.2.2.2
      have rw1 : (own_f2 ww2 pA (own_sw (ww2 pA) sA t1)) pA sA = (own_w K1) := by rw [(own_readS (pA := pA) (sA := sA) (pB := pB) (sB := sB) ww2 t1).1, if_neg ht]; exact rW.1
      have rw2 : (own_f2 ww2 pA (own_sw (ww2 pA) sA t1)) pA (sA + 1) = (own_w K2) := by rw [(own_readS (pA := pA) (sA := sA) (pB := pB) (sB := sB) ww2 t1).2.1, if_neg ht]; exact rW.2.1
      have rw3 : (own_f2 ww2 pA (own_sw (ww2 pA) sA t1)) pB sB = (own_w K1) := by rw [(own_readS (pA := pA) (sA := sA) (pB := pB) (sB := sB) ww2 t1).2.2 dB]; exact rW.2.2.1
      have rw4 : (own_f2 ww2 pA (own_sw (ww2 pA) sA t1)) pC sC = (own_w K2) := by rw [(own_readS (pA := pA) (sA := sA) (pB := pC) (sB := sC) ww2 t1).2.2 dC]; exact rW.2.2.2
      have O157 := (f131 pA hpA3).2.2.2.2.2.2.2.2.2.1
      obtain ⟨c157, Ar157, S157, M157, V157⟩ := O157
      have at157 : c157.slots[((Int32.ofNat sA)).toNatClampNeg]? = some (.int (Int32.ofNat B)) := own_at S157 V157 (own_ixN (by omega) (by omega)) (congrArg Value.int rt1)
      have hc158 : (Int32.ofNat B) = (Int32.ofNat B) := rfl
      have O159 := (f131 pA hpA3).2.2.2.2.2.2.2.2.2.2
      obtain ⟨c159, Ar159, S159, M159, V159⟩ := O159
      have at159 : c159.slots[((Int32.ofNat sA)).toNatClampNeg]? = some (.double (own_w K1)) := own_at S159 V159 (own_ixN (by omega) (by omega)) (congrArg Value.double rw1)
      refine own_st (S' := T137.setTop (mkF m 342 #[qI p0, qI p1, qI p2, qI p3, qI p4, qI p5, qN A, qI v102, qI v104, qN B, qN C, qN K1, qN K2, qD (own_w K1), qZ, qD (own_w K2), qZ, qA b112, qA b122, qA gr130, qN sA, qA (ad127 2 pA), qA (ad127 3 pA), qI (1 : Int32), qN B, qD (own_w K1), qZ, qN C, qD (own_w K2), qZ, qU, qU, qU, qU, qU] [(.double (own_w K1))])) (fun t k => XS.aload X137.here hx rfl (hb hby at_327) rfl rfl (XS.iload X137.here hx rfl (hb hby at_329) rfl (X137.iaload hx (j := (Int32.ofNat sA)) (v := (.int (Int32.ofNat B))) (by rw [hh137]; exact Ar157.1) (State.isArrayOf_alike hZ.alike Ar157.2.1) Ar157.2.2 (own_in S157 (own_ixN (by omega) (by omega))) at157 (g := (mkF m 331 #[qI p0, qI p1, qI p2, qI p3, qI p4, qI p5, qN A, qI v102, qI v104, qN B, qN C, qN K1, qN K2, qD (own_w K1), qZ, qD (own_w K2), qZ, qA b112, qA b122, qA gr130, qN sA, qA (ad127 2 pA), qA (ad127 3 pA), qI (1 : Int32), qN B, qD (own_w K1), qZ, qN C, qD (own_w K2), qZ, qU, qU, qU, qU, qU] [qV sA, (.ref (ad127 2 pA))])) rfl rfl (hb hby at_331) _ (XS.iload X137.here hx rfl (hb hby at_332) rfl (XS.icmpNo X137.here hx rfl (hb hby at_334) rfl (teq hc158).2 (XS.aload X137.here hx rfl (hb hby at_337) rfl rfl (XS.iload X137.here hx rfl (hb hby at_339) rfl (X137.daload hx (j := (Int32.ofNat sA)) (v := (.double (own_w K1))) (by rw [hh137]; exact Ar159.1) (State.isArrayOf_alike hZ.alike Ar159.2.1) Ar159.2.2 (own_in S159 (own_ixN (by omega) (by omega))) at159 (g := (mkF m 341 #[qI p0, qI p1, qI p2, qI p3, qI p4, qI p5, qN A, qI v102, qI v104, qN B, qN C, qN K1, qN K2, qD (own_w K1), qZ, qD (own_w K2), qZ, qA b112, qA b122, qA gr130, qN sA, qA (ad127 2 pA), qA (ad127 3 pA), qI (1 : Int32), qN B, qD (own_w K1), qZ, qN C, qD (own_w K2), qZ, qU, qU, qU, qU, qU] [qV sA, (.ref (ad127 3 pA))])) rfl rfl (hb hby at_341) _ k)))))))) ?_
      refine own_st (S' := T137.setTop (mkF m 345 #[qI p0, qI p1, qI p2, qI p3, qI p4, qI p5, qN A, qI v102, qI v104, qN B, qN C, qN K1, qN K2, qD (own_w K1), qZ, qD (own_w K2), qZ, qA b112, qA b122, qA gr130, qN sA, qA (ad127 2 pA), qA (ad127 3 pA), qI (1 : Int32), qN B, qD (own_w K1), qZ, qN C, qD (own_w K2), qZ, qU, qU, qU, qU, qU] [(.int (cmpValue (FP.dcmp (own_w K1) (own_w K1)) .l))])) (fun t k => XS.dload X137.here hx rfl (hb hby at_342) rfl (XS.dcmpS X137.here hx rfl (hb hby at_344) rfl rfl k)) ?_
      refine own_st (S' := T137.setTop (mkF m 345 #[qI p0, qI p1, qI p2, qI p3, qI p4, qI p5, qN A, qI v102, qI v104, qN B, qN C, qN K1, qN K2, qD (own_w K1), qZ, qD (own_w K2), qZ, qA b112, qA b122, qA gr130, qN sA, qA (ad127 2 pA), qA (ad127 3 pA), qI (1 : Int32), qN B, qD (own_w K1), qZ, qN C, qD (own_w K2), qZ, qU, qU, qU, qU, qU] [(.int (0 : Int32))])) (fun t k => by rw [show ((cmpValue (FP.dcmp (own_w K1) (own_w K1)) .l) : Int32) = (0 : Int32) from own_w3 hK1a hK1b]; exact k) ?_
      refine own_st (S' := T137.setTop (mkF m 354 #[qI p0, qI p1, qI p2, qI p3, qI p4, qI p5, qN A, qI v102, qI v104, qN B, qN C, qN K1, qN K2, qD (own_w K1), qZ, qD (own_w K2), qZ, qA b112, qA b122, qA gr130, qN sA, qA (ad127 2 pA), qA (ad127 3 pA), qI (1 : Int32), qN B, qD (own_w K1), qZ, qN C, qD (own_w K2), qZ, qU, qU, qU, qU, qU] [(.int ((Int32.ofNat sA) + (1 : Int32))), (.ref (ad127 2 pA))])) (fun t k => XS.ifNo X137.here hx rfl (hb hby at_345) rfl ((if0 _ _).trans (teq (by decide)).2) (XS.aload X137.here hx rfl (hb hby at_348) rfl rfl (XS.iload X137.here hx rfl (hb hby at_350) rfl (XS.iconst X137.here hx rfl (hb hby at_352) (XS.iadd X137.here hx rfl (hb hby at_353) rfl k))))) ?_
      refine own_st (S' := T137.setTop (mkF m 354 #[qI p0, qI p1, qI p2, qI p3, qI p4, qI p5, qN A, qI v102, qI v104, qN B, qN C, qN K1, qN K2, qD (own_w K1), qZ, qD (own_w K2), qZ, qA b112, qA b122, qA gr130, qN sA, qA (ad127 2 pA), qA (ad127 3 pA), qI (1 : Int32), qN B, qD (own_w K1), qZ, qN C, qD (own_w K2), qZ, qU, qU, qU, qU, qU] [qV (sA + 1), (.ref (ad127 2 pA))])) (fun t k => by rw [own_incN (i := sA) (by omega)]; exact k) ?_
      have O160 := (f131 pA hpA3).2.2.2.2.2.2.2.2.2.1
      obtain ⟨c160, Ar160, S160, M160, V160⟩ := O160
      have at160 : c160.slots[((Int32.ofNat (sA + 1))).toNatClampNeg]? = some (.int (Int32.ofNat C)) := own_at S160 V160 (own_ixN (by omega) (by omega)) (congrArg Value.int rt2)
      have hc161 : (Int32.ofNat C) = (Int32.ofNat C) := rfl
      refine own_st (S' := T137.setTop (mkF m 366 #[qI p0, qI p1, qI p2, qI p3, qI p4, qI p5, qN A, qI v102, qI v104, qN B, qN C, qN K1, qN K2, qD (own_w K1), qZ, qD (own_w K2), qZ, qA b112, qA b122, qA gr130, qN sA, qA (ad127 2 pA), qA (ad127 3 pA), qI (1 : Int32), qN B, qD (own_w K1), qZ, qN C, qD (own_w K2), qZ, qU, qU, qU, qU, qU] [(.int ((Int32.ofNat sA) + (1 : Int32))), (.ref (ad127 3 pA))])) (fun t k => X137.iaload hx (j := (Int32.ofNat (sA + 1))) (v := (.int (Int32.ofNat C))) (by rw [hh137]; exact Ar160.1) (State.isArrayOf_alike hZ.alike Ar160.2.1) Ar160.2.2 (own_in S160 (own_ixN (by omega) (by omega))) at160 (g := (mkF m 354 #[qI p0, qI p1, qI p2, qI p3, qI p4, qI p5, qN A, qI v102, qI v104, qN B, qN C, qN K1, qN K2, qD (own_w K1), qZ, qD (own_w K2), qZ, qA b112, qA b122, qA gr130, qN sA, qA (ad127 2 pA), qA (ad127 3 pA), qI (1 : Int32), qN B, qD (own_w K1), qZ, qN C, qD (own_w K2), qZ, qU, qU, qU, qU, qU] [qV (sA + 1), (.ref (ad127 2 pA))])) rfl rfl (hb hby at_354) _ (XS.iload X137.here hx rfl (hb hby at_355) rfl (XS.icmpNo X137.here hx rfl (hb hby at_357) rfl (teq hc161).2 (XS.aload X137.here hx rfl (hb hby at_360) rfl rfl (XS.iload X137.here hx rfl (hb hby at_362) rfl (XS.iconst X137.here hx rfl (hb hby at_364) (XS.iadd X137.here hx rfl (hb hby at_365) rfl k))))))) ?_
      refine own_st (S' := T137.setTop (mkF m 366 #[qI p0, qI p1, qI p2, qI p3, qI p4, qI p5, qN A, qI v102, qI v104, qN B, qN C, qN K1, qN K2, qD (own_w K1), qZ, qD (own_w K2), qZ, qA b112, qA b122, qA gr130, qN sA, qA (ad127 2 pA), qA (ad127 3 pA), qI (1 : Int32), qN B, qD (own_w K1), qZ, qN C, qD (own_w K2), qZ, qU, qU, qU, qU, qU] [qV (sA + 1), (.ref (ad127 3 pA))])) (fun t k => by rw [own_incN (i := sA) (by omega)]; exact k) ?_
      have O162 := (f131 pA hpA3).2.2.2.2.2.2.2.2.2.2
      obtain ⟨c162, Ar162, S162, M162, V162⟩ := O162
      have at162 : c162.slots[((Int32.ofNat (sA + 1))).toNatClampNeg]? = some (.double (own_w K2)) := own_at S162 V162 (own_ixN (by omega) (by omega)) (congrArg Value.double rw2)
      refine own_st (S' := T137.setTop (mkF m 370 #[qI p0, qI p1, qI p2, qI p3, qI p4, qI p5, qN A, qI v102, qI v104, qN B, qN C, qN K1, qN K2, qD (own_w K1), qZ, qD (own_w K2), qZ, qA b112, qA b122, qA gr130, qN sA, qA (ad127 2 pA), qA (ad127 3 pA), qI (1 : Int32), qN B, qD (own_w K1), qZ, qN C, qD (own_w K2), qZ, qU, qU, qU, qU, qU] [(.int (cmpValue (FP.dcmp (own_w K2) (own_w K2)) .l))])) (fun t k => X137.daload hx (j := (Int32.ofNat (sA + 1))) (v := (.double (own_w K2))) (by rw [hh137]; exact Ar162.1) (State.isArrayOf_alike hZ.alike Ar162.2.1) Ar162.2.2 (own_in S162 (own_ixN (by omega) (by omega))) at162 (g := (mkF m 366 #[qI p0, qI p1, qI p2, qI p3, qI p4, qI p5, qN A, qI v102, qI v104, qN B, qN C, qN K1, qN K2, qD (own_w K1), qZ, qD (own_w K2), qZ, qA b112, qA b122, qA gr130, qN sA, qA (ad127 2 pA), qA (ad127 3 pA), qI (1 : Int32), qN B, qD (own_w K1), qZ, qN C, qD (own_w K2), qZ, qU, qU, qU, qU, qU] [qV (sA + 1), (.ref (ad127 3 pA))])) rfl rfl (hb hby at_366) _ (XS.dload X137.here hx rfl (hb hby at_367) rfl (XS.dcmpS X137.here hx rfl (hb hby at_369) rfl rfl k))) ?_
      refine own_st (S' := T137.setTop (mkF m 370 #[qI p0, qI p1, qI p2, qI p3, qI p4, qI p5, qN A, qI v102, qI v104, qN B, qN C, qN K1, qN K2, qD (own_w K1), qZ, qD (own_w K2), qZ, qA b112, qA b122, qA gr130, qN sA, qA (ad127 2 pA), qA (ad127 3 pA), qI (1 : Int32), qN B, qD (own_w K1), qZ, qN C, qD (own_w K2), qZ, qU, qU, qU, qU, qU] [(.int (0 : Int32))])) (fun t k => by rw [show ((cmpValue (FP.dcmp (own_w K2) (own_w K2)) .l) : Int32) = (0 : Int32) from own_w3 hK2a hK2b]; exact k) ?_
      refine own_st (S' := T137.setTop (mkF m 384 #[qI p0, qI p1, qI p2, qI p3, qI p4, qI p5, qN A, qI v102, qI v104, qN B, qN C, qN K1, qN K2, qD (own_w K1), qZ, qD (own_w K2), qZ, qA b112, qA b122, qA gr130, qN sA, qA (ad127 2 pA), qA (ad127 3 pA), qI (1 : Int32), qN B, qD (own_w K1), qZ, qN C, qD (own_w K2), qZ, qI (1 : Int32), qU, qU, qU, qU] [qV B, (.ref gr130)])) (fun t k => XS.ifNo X137.here hx rfl (hb hby at_370) rfl ((if0 _ _).trans (teq (by decide)).2) (XS.iconst X137.here hx rfl (hb hby at_373) (XS.goto X137.here hx rfl (pc0 := 374) (pc' := 378) rfl (hb hby at_374) (by decide) (by decide) (XS.istore X137.here hx rfl (hb hby at_378) rfl (l' := #[qI p0, qI p1, qI p2, qI p3, qI p4, qI p5, qN A, qI v102, qI v104, qN B, qN C, qN K1, qN K2, qD (own_w K1), qZ, qD (own_w K2), qZ, qA b112, qA b122, qA gr130, qN sA, qA (ad127 2 pA), qA (ad127 3 pA), qI (1 : Int32), qN B, qD (own_w K1), qZ, qN C, qD (own_w K2), qZ, qI (1 : Int32), qU, qU, qU, qU]) rfl (XS.aload X137.here hx rfl (hb hby at_380) rfl rfl (XS.iload X137.here hx rfl (hb hby at_382) rfl k)))))) ?_
      obtain ⟨cq163, kq163, q163a, q163b, q163c⟩ := isOf hZ hh137 g0_130
      obtain ⟨_, _, ⟨T163, L163, k163, n163⟩, -, X163, ⟨Lc163, hQ163, l163, y163, z163⟩, st163⟩ := X137.virtualBack hx (y := (⟨"kithrank/Graph", "first", "(I)I"⟩ : MethodName)) (z := (⟨"kithrank/Graph", "first", "(I)I"⟩ : MethodName)) hown (mvT hZ (own_hw hw (i := 162) rfl)) (mvT hZ (own_hw hw (i := 163) rfl)) (notFace_of_selects (args := #[]) (mvT hZ (own_hw hw (i := 165) rfl))) (mvT hZ (own_hw hw (i := 165) rfl)) (mvT hZ (own_hw hw (i := 164) rfl)) (by decide) (backOf (W := 0) (rm23 l Z a0 hw [] gr130 (Int32.ofNat B) ad127 (own_S dg) (own_f2 tt2 pA (own_sw (tt2 pA) sA t1)) (own_f2 ww2 pA (own_sw (ww2 pA) sA t1)) sa130 B pB iB T130.heap n0 Z130 f131 g0_130 g4_130 g1_130 g5_130 rfl hB hpB hiB) hZ (own_hw hw (i := 166) rfl) (own_hw hw (i := 73) rfl) (by decide) (by decide)) q163a q163c (g := (mkF m 384 #[qI p0, qI p1, qI p2, qI p3, qI p4, qI p5, qN A, qI v102, qI v104, qN B, qN C, qN K1, qN K2, qD (own_w K1), qZ, qD (own_w K2), qZ, qA b112, qA b122, qA gr130, qN sA, qA (ad127 2 pA), qA (ad127 3 pA), qI (1 : Int32), qN B, qD (own_w K1), qZ, qN C, qD (own_w K2), qZ, qI (1 : Int32), qU, qU, qU, qU] [qV B, (.ref gr130)])) rfl (by rw [hml]; rfl) (Steps.refl _) (argsL := [(.int (Int32.ofNat B))]) (rest := []) (lenOf pd0_2 rfl) rfl (by show 2 * 0 + _ ≤ _; exact Nat.le_of_eq rfl) (hb hby at_384) (fun _ _ => ⟨rfl, hh137, (by decide : 24 + 0 ≤ _), (by decide : 16828 + 0 ≤ _)⟩)
      dsimp only [Pt.U, Pt.locs, Pt.cells, Pt.slots] at X163 l163 y163 z163 st163 hQ163
      rw [l163, y163, z163] at X163
      obtain ⟨rfl, N163q, hh163⟩ := hQ163
      have N163 := Fr.app N137 N163q
      refine own_tr st163 ?_
      show own_Go p.tables e below _ (T163.setTop (mkF m 387 #[qI p0, qI p1, qI p2, qI p3, qI p4, qI p5, qN A, qI v102, qI v104, qN B, qN C, qN K1, qN K2, qD (own_w K1), qZ, qD (own_w K2), qZ, qA b112, qA b122, qA gr130, qN sA, qA (ad127 2 pA), qA (ad127 3 pA), qI (1 : Int32), qN B, qD (own_w K1), qZ, qN C, qD (own_w K2), qZ, qI (1 : Int32), qU, qU, qU, qU] [qV ((own_S dg) pB iB)]))
      refine own_st (S' := T163.setTop (mkF m 387 #[qI p0, qI p1, qI p2, qI p3, qI p4, qI p5, qN A, qI v102, qI v104, qN B, qN C, qN K1, qN K2, qD (own_w K1), qZ, qD (own_w K2), qZ, qA b112, qA b122, qA gr130, qN sA, qA (ad127 2 pA), qA (ad127 3 pA), qI (1 : Int32), qN B, qD (own_w K1), qZ, qN C, qD (own_w K2), qZ, qI (1 : Int32), qU, qU, qU, qU] [qV sB])) (fun t k => by show Steps p.tables e below (T163.setTop (mkF m 387 #[.val (.int p0), .val (.int p1), .val (.int p2), .val (.int p3), .val (.int p4), .val (.int p5), .val (.int (Int32.ofNat A)), .val (.int v102), .val (.int v104), .val (.int (Int32.ofNat B)), .val (.int (Int32.ofNat C)), .val (.int (Int32.ofNat K1)), .val (.int (Int32.ofNat K2)), .val (.double (own_w K1)), .second, .val (.double (own_w K2)), .second, .val (.ref b112), .val (.ref b122), .val (.ref gr130), .val (.int (Int32.ofNat sA)), .val (.ref (ad127 2 pA)), .val (.ref (ad127 3 pA)), .val (.int (1 : Int32)), .val (.int (Int32.ofNat B)), .val (.double (own_w K1)), .second, .val (.int (Int32.ofNat C)), .val (.double (own_w K2)), .second, .val (.int (1 : Int32)), .unset, .unset, .unset, .unset] [(.int (Int32.ofNat ((own_S dg) pB iB)))])) t; rw [show ((Int32.ofNat ((own_S dg) pB iB)) : Int32) = (Int32.ofNat sB) from congrArg Int32.ofNat hsB.symm]; exact k) ?_
      refine own_st (S' := T163.setTop (mkF m 393 #[qI p0, qI p1, qI p2, qI p3, qI p4, qI p5, qN A, qI v102, qI v104, qN B, qN C, qN K1, qN K2, qD (own_w K1), qZ, qD (own_w K2), qZ, qA b112, qA b122, qA gr130, qN sA, qA (ad127 2 pA), qA (ad127 3 pA), qI (1 : Int32), qN B, qD (own_w K1), qZ, qN C, qD (own_w K2), qZ, qI (1 : Int32), qN sB, qU, qU, qU] [qV B, (.ref gr130)])) (fun t k => XS.istore X163.here hx rfl (hb hby at_387) rfl (l' := #[qI p0, qI p1, qI p2, qI p3, qI p4, qI p5, qN A, qI v102, qI v104, qN B, qN C, qN K1, qN K2, qD (own_w K1), qZ, qD (own_w K2), qZ, qA b112, qA b122, qA gr130, qN sA, qA (ad127 2 pA), qA (ad127 3 pA), qI (1 : Int32), qN B, qD (own_w K1), qZ, qN C, qD (own_w K2), qZ, qI (1 : Int32), qN sB, qU, qU, qU]) rfl (XS.aload X163.here hx rfl (hb hby at_389) rfl rfl (XS.iload X163.here hx rfl (hb hby at_391) rfl k))) ?_
      obtain ⟨cq164, kq164, q164a, q164b, q164c⟩ := isOf hZ hh163 g0_130
      obtain ⟨_, _, ⟨T164, L164, k164, n164⟩, -, X164, ⟨Lc164, hQ164, l164, y164, z164⟩, st164⟩ := X163.virtualBack hx (y := (⟨"kithrank/Graph", "pageTargets", "(I)[I"⟩ : MethodName)) (z := (⟨"kithrank/Graph", "pageTargets", "(I)[I"⟩ : MethodName)) hown (mvT hZ (own_hw hw (i := 176) rfl)) (mvT hZ (own_hw hw (i := 177) rfl)) (notFace_of_selects (args := #[]) (mvT hZ (own_hw hw (i := 179) rfl))) (mvT hZ (own_hw hw (i := 179) rfl)) (mvT hZ (own_hw hw (i := 178) rfl)) (by decide) (backOf (W := 0) (rm25 l Z a0 hw [] gr130 (Int32.ofNat B) ad127 (own_S dg) (own_f2 tt2 pA (own_sw (tt2 pA) sA t1)) (own_f2 ww2 pA (own_sw (ww2 pA) sA t1)) ta130 B pB iB T130.heap n0 Z130 f131 g0_130 g4_130 g2_130 g6_130 rfl hB hpB hiB) hZ (own_hw hw (i := 180) rfl) (own_hw hw (i := 73) rfl) (by decide) (by decide)) q164a q164c (g := (mkF m 393 #[qI p0, qI p1, qI p2, qI p3, qI p4, qI p5, qN A, qI v102, qI v104, qN B, qN C, qN K1, qN K2, qD (own_w K1), qZ, qD (own_w K2), qZ, qA b112, qA b122, qA gr130, qN sA, qA (ad127 2 pA), qA (ad127 3 pA), qI (1 : Int32), qN B, qD (own_w K1), qZ, qN C, qD (own_w K2), qZ, qI (1 : Int32), qN sB, qU, qU, qU] [qV B, (.ref gr130)])) rfl (by rw [hml]; rfl) (Steps.refl _) (argsL := [(.int (Int32.ofNat B))]) (rest := []) (lenOf pd0_3 rfl) rfl (by show 2 * 0 + _ ≤ _; exact Nat.le_of_eq rfl) (hb hby at_393) (fun _ _ => ⟨rfl, hh163, (by decide : 24 + 0 ≤ _), (by decide : 16828 + 0 ≤ _)⟩)
      dsimp only [Pt.U, Pt.locs, Pt.cells, Pt.slots] at X164 l164 y164 z164 st164 hQ164
      rw [l164, y164, z164] at X164
      obtain ⟨rfl, N164q, hh164⟩ := hQ164
      have N164 := Fr.app N163 N164q
      refine own_tr st164 ?_
      have O165 := (f131 pB hpB3).2.2.2.2.2.2.2.2.2.1
      obtain ⟨c165, Ar165, S165, M165, V165⟩ := O165
      have at165 : c165.slots[((Int32.ofNat sB)).toNatClampNeg]? = some (.int (Int32.ofNat A)) := own_at S165 V165 (own_ixN (by omega) (by omega)) (congrArg Value.int rt3)
      have hc166 : (Int32.ofNat A) = (Int32.ofNat A) := rfl
      refine own_st (S' := T164.setTop (mkF m 408 #[qI p0, qI p1, qI p2, qI p3, qI p4, qI p5, qN A, qI v102, qI v104, qN B, qN C, qN K1, qN K2, qD (own_w K1), qZ, qD (own_w K2), qZ, qA b112, qA b122, qA gr130, qN sA, qA (ad127 2 pA), qA (ad127 3 pA), qI (1 : Int32), qN B, qD (own_w K1), qZ, qN C, qD (own_w K2), qZ, qI (1 : Int32), qN sB, qU, qU, qU] [qV B, (.ref gr130)])) (fun t k => XS.iload X164.here hx rfl (hb hby at_396) rfl (X164.iaload hx (j := (Int32.ofNat sB)) (v := (.int (Int32.ofNat A))) (by rw [hh164]; exact Ar165.1) (State.isArrayOf_alike hZ.alike Ar165.2.1) Ar165.2.2 (own_in S165 (own_ixN (by omega) (by omega))) at165 (g := (mkF m 398 #[qI p0, qI p1, qI p2, qI p3, qI p4, qI p5, qN A, qI v102, qI v104, qN B, qN C, qN K1, qN K2, qD (own_w K1), qZ, qD (own_w K2), qZ, qA b112, qA b122, qA gr130, qN sA, qA (ad127 2 pA), qA (ad127 3 pA), qI (1 : Int32), qN B, qD (own_w K1), qZ, qN C, qD (own_w K2), qZ, qI (1 : Int32), qN sB, qU, qU, qU] [qV sB, (.ref (ad127 2 pB))])) rfl rfl (hb hby at_398) _ (XS.iload X164.here hx rfl (hb hby at_399) rfl (XS.icmpNo X164.here hx rfl (hb hby at_401) rfl (teq hc166).2 (XS.aload X164.here hx rfl (hb hby at_404) rfl rfl (XS.iload X164.here hx rfl (hb hby at_406) rfl k)))))) ?_
      obtain ⟨cq167, kq167, q167a, q167b, q167c⟩ := isOf hZ hh164 g0_130
      obtain ⟨_, _, ⟨T167, L167, k167, n167⟩, -, X167, ⟨Lc167, hQ167, l167, y167, z167⟩, st167⟩ := X164.virtualBack hx (y := (⟨"kithrank/Graph", "pageWeights", "(I)[D"⟩ : MethodName)) (z := (⟨"kithrank/Graph", "pageWeights", "(I)[D"⟩ : MethodName)) hown (mvT hZ (own_hw hw (i := 181) rfl)) (mvT hZ (own_hw hw (i := 182) rfl)) (notFace_of_selects (args := #[]) (mvT hZ (own_hw hw (i := 184) rfl))) (mvT hZ (own_hw hw (i := 184) rfl)) (mvT hZ (own_hw hw (i := 183) rfl)) (by decide) (backOf (W := 0) (rm26 l Z a0 hw [] gr130 (Int32.ofNat B) ad127 (own_S dg) (own_f2 tt2 pA (own_sw (tt2 pA) sA t1)) (own_f2 ww2 pA (own_sw (ww2 pA) sA t1)) wa130 B pB iB T130.heap n0 Z130 f131 g0_130 g4_130 g3_130 g7_130 rfl hB hpB hiB) hZ (own_hw hw (i := 185) rfl) (own_hw hw (i := 73) rfl) (by decide) (by decide)) q167a q167c (g := (mkF m 408 #[qI p0, qI p1, qI p2, qI p3, qI p4, qI p5, qN A, qI v102, qI v104, qN B, qN C, qN K1, qN K2, qD (own_w K1), qZ, qD (own_w K2), qZ, qA b112, qA b122, qA gr130, qN sA, qA (ad127 2 pA), qA (ad127 3 pA), qI (1 : Int32), qN B, qD (own_w K1), qZ, qN C, qD (own_w K2), qZ, qI (1 : Int32), qN sB, qU, qU, qU] [qV B, (.ref gr130)])) rfl (by rw [hml]; rfl) (Steps.refl _) (argsL := [(.int (Int32.ofNat B))]) (rest := []) (lenOf pd0_4 rfl) rfl (by show 2 * 0 + _ ≤ _; exact Nat.le_of_eq rfl) (hb hby at_408) (fun _ _ => ⟨rfl, hh164, (by decide : 24 + 0 ≤ _), (by decide : 16828 + 0 ≤ _)⟩)
      dsimp only [Pt.U, Pt.locs, Pt.cells, Pt.slots] at X167 l167 y167 z167 st167 hQ167
      rw [l167, y167, z167] at X167
      obtain ⟨rfl, N167q, hh167⟩ := hQ167
      have N167 := Fr.app N164 N167q
      refine own_tr st167 ?_
      have O168 := (f131 pB hpB3).2.2.2.2.2.2.2.2.2.2
      obtain ⟨c168, Ar168, S168, M168, V168⟩ := O168
      have at168 : c168.slots[((Int32.ofNat sB)).toNatClampNeg]? = some (.double (own_w K1)) := own_at S168 V168 (own_ixN (by omega) (by omega)) (congrArg Value.double rw3)
      refine own_st (S' := T167.setTop (mkF m 417 #[qI p0, qI p1, qI p2, qI p3, qI p4, qI p5, qN A, qI v102, qI v104, qN B, qN C, qN K1, qN K2, qD (own_w K1), qZ, qD (own_w K2), qZ, qA b112, qA b122, qA gr130, qN sA, qA (ad127 2 pA), qA (ad127 3 pA), qI (1 : Int32), qN B, qD (own_w K1), qZ, qN C, qD (own_w K2), qZ, qI (1 : Int32), qN sB, qU, qU, qU] [(.int (cmpValue (FP.dcmp (own_w K1) (own_w K1)) .l))])) (fun t k => XS.iload X167.here hx rfl (hb hby at_411) rfl (X167.daload hx (j := (Int32.ofNat sB)) (v := (.double (own_w K1))) (by rw [hh167]; exact Ar168.1) (State.isArrayOf_alike hZ.alike Ar168.2.1) Ar168.2.2 (own_in S168 (own_ixN (by omega) (by omega))) at168 (g := (mkF m 413 #[qI p0, qI p1, qI p2, qI p3, qI p4, qI p5, qN A, qI v102, qI v104, qN B, qN C, qN K1, qN K2, qD (own_w K1), qZ, qD (own_w K2), qZ, qA b112, qA b122, qA gr130, qN sA, qA (ad127 2 pA), qA (ad127 3 pA), qI (1 : Int32), qN B, qD (own_w K1), qZ, qN C, qD (own_w K2), qZ, qI (1 : Int32), qN sB, qU, qU, qU] [qV sB, (.ref (ad127 3 pB))])) rfl rfl (hb hby at_413) _ (XS.dload X167.here hx rfl (hb hby at_414) rfl (XS.dcmpS X167.here hx rfl (hb hby at_416) rfl rfl k)))) ?_
      refine own_st (S' := T167.setTop (mkF m 417 #[qI p0, qI p1, qI p2, qI p3, qI p4, qI p5, qN A, qI v102, qI v104, qN B, qN C, qN K1, qN K2, qD (own_w K1), qZ, qD (own_w K2), qZ, qA b112, qA b122, qA gr130, qN sA, qA (ad127 2 pA), qA (ad127 3 pA), qI (1 : Int32), qN B, qD (own_w K1), qZ, qN C, qD (own_w K2), qZ, qI (1 : Int32), qN sB, qU, qU, qU] [(.int (0 : Int32))])) (fun t k => by rw [show ((cmpValue (FP.dcmp (own_w K1) (own_w K1)) .l) : Int32) = (0 : Int32) from own_w3 hK1a hK1b]; exact k) ?_
      refine own_st (S' := T167.setTop (mkF m 431 #[qI p0, qI p1, qI p2, qI p3, qI p4, qI p5, qN A, qI v102, qI v104, qN B, qN C, qN K1, qN K2, qD (own_w K1), qZ, qD (own_w K2), qZ, qA b112, qA b122, qA gr130, qN sA, qA (ad127 2 pA), qA (ad127 3 pA), qI (1 : Int32), qN B, qD (own_w K1), qZ, qN C, qD (own_w K2), qZ, qI (1 : Int32), qN sB, qI (1 : Int32), qU, qU] [qV C, (.ref gr130)])) (fun t k => XS.ifNo X167.here hx rfl (hb hby at_417) rfl ((if0 _ _).trans (teq (by decide)).2) (XS.iconst X167.here hx rfl (hb hby at_420) (XS.goto X167.here hx rfl (pc0 := 421) (pc' := 425) rfl (hb hby at_421) (by decide) (by decide) (XS.istore X167.here hx rfl (hb hby at_425) rfl (l' := #[qI p0, qI p1, qI p2, qI p3, qI p4, qI p5, qN A, qI v102, qI v104, qN B, qN C, qN K1, qN K2, qD (own_w K1), qZ, qD (own_w K2), qZ, qA b112, qA b122, qA gr130, qN sA, qA (ad127 2 pA), qA (ad127 3 pA), qI (1 : Int32), qN B, qD (own_w K1), qZ, qN C, qD (own_w K2), qZ, qI (1 : Int32), qN sB, qI (1 : Int32), qU, qU]) rfl (XS.aload X167.here hx rfl (hb hby at_427) rfl rfl (XS.iload X167.here hx rfl (hb hby at_429) rfl k)))))) ?_
      obtain ⟨cq169, kq169, q169a, q169b, q169c⟩ := isOf hZ hh167 g0_130
      obtain ⟨_, _, ⟨T169, L169, k169, n169⟩, -, X169, ⟨Lc169, hQ169, l169, y169, z169⟩, st169⟩ := X167.virtualBack hx (y := (⟨"kithrank/Graph", "first", "(I)I"⟩ : MethodName)) (z := (⟨"kithrank/Graph", "first", "(I)I"⟩ : MethodName)) hown (mvT hZ (own_hw hw (i := 162) rfl)) (mvT hZ (own_hw hw (i := 163) rfl)) (notFace_of_selects (args := #[]) (mvT hZ (own_hw hw (i := 165) rfl))) (mvT hZ (own_hw hw (i := 165) rfl)) (mvT hZ (own_hw hw (i := 164) rfl)) (by decide) (backOf (W := 0) (rm23 l Z a0 hw [] gr130 (Int32.ofNat C) ad127 (own_S dg) (own_f2 tt2 pA (own_sw (tt2 pA) sA t1)) (own_f2 ww2 pA (own_sw (ww2 pA) sA t1)) sa130 C pC iC T130.heap n0 Z130 f131 g0_130 g4_130 g1_130 g5_130 rfl hC hpC hiC) hZ (own_hw hw (i := 166) rfl) (own_hw hw (i := 73) rfl) (by decide) (by decide)) q169a q169c (g := (mkF m 431 #[qI p0, qI p1, qI p2, qI p3, qI p4, qI p5, qN A, qI v102, qI v104, qN B, qN C, qN K1, qN K2, qD (own_w K1), qZ, qD (own_w K2), qZ, qA b112, qA b122, qA gr130, qN sA, qA (ad127 2 pA), qA (ad127 3 pA), qI (1 : Int32), qN B, qD (own_w K1), qZ, qN C, qD (own_w K2), qZ, qI (1 : Int32), qN sB, qI (1 : Int32), qU, qU] [qV C, (.ref gr130)])) rfl (by rw [hml]; rfl) (Steps.refl _) (argsL := [(.int (Int32.ofNat C))]) (rest := []) (lenOf pd0_2 rfl) rfl (by show 2 * 0 + _ ≤ _; exact Nat.le_of_eq rfl) (hb hby at_431) (fun _ _ => ⟨rfl, hh167, (by decide : 24 + 0 ≤ _), (by decide : 16828 + 0 ≤ _)⟩)
      dsimp only [Pt.U, Pt.locs, Pt.cells, Pt.slots] at X169 l169 y169 z169 st169 hQ169
      rw [l169, y169, z169] at X169
      obtain ⟨rfl, N169q, hh169⟩ := hQ169
      have N169 := Fr.app N167 N169q
      refine own_tr st169 ?_
      show own_Go p.tables e below _ (T169.setTop (mkF m 434 #[qI p0, qI p1, qI p2, qI p3, qI p4, qI p5, qN A, qI v102, qI v104, qN B, qN C, qN K1, qN K2, qD (own_w K1), qZ, qD (own_w K2), qZ, qA b112, qA b122, qA gr130, qN sA, qA (ad127 2 pA), qA (ad127 3 pA), qI (1 : Int32), qN B, qD (own_w K1), qZ, qN C, qD (own_w K2), qZ, qI (1 : Int32), qN sB, qI (1 : Int32), qU, qU] [qV ((own_S dg) pC iC)]))
      refine own_st (S' := T169.setTop (mkF m 434 #[qI p0, qI p1, qI p2, qI p3, qI p4, qI p5, qN A, qI v102, qI v104, qN B, qN C, qN K1, qN K2, qD (own_w K1), qZ, qD (own_w K2), qZ, qA b112, qA b122, qA gr130, qN sA, qA (ad127 2 pA), qA (ad127 3 pA), qI (1 : Int32), qN B, qD (own_w K1), qZ, qN C, qD (own_w K2), qZ, qI (1 : Int32), qN sB, qI (1 : Int32), qU, qU] [qV sC])) (fun t k => by show Steps p.tables e below (T169.setTop (mkF m 434 #[.val (.int p0), .val (.int p1), .val (.int p2), .val (.int p3), .val (.int p4), .val (.int p5), .val (.int (Int32.ofNat A)), .val (.int v102), .val (.int v104), .val (.int (Int32.ofNat B)), .val (.int (Int32.ofNat C)), .val (.int (Int32.ofNat K1)), .val (.int (Int32.ofNat K2)), .val (.double (own_w K1)), .second, .val (.double (own_w K2)), .second, .val (.ref b112), .val (.ref b122), .val (.ref gr130), .val (.int (Int32.ofNat sA)), .val (.ref (ad127 2 pA)), .val (.ref (ad127 3 pA)), .val (.int (1 : Int32)), .val (.int (Int32.ofNat B)), .val (.double (own_w K1)), .second, .val (.int (Int32.ofNat C)), .val (.double (own_w K2)), .second, .val (.int (1 : Int32)), .val (.int (Int32.ofNat sB)), .val (.int (1 : Int32)), .unset, .unset] [(.int (Int32.ofNat ((own_S dg) pC iC)))])) t; rw [show ((Int32.ofNat ((own_S dg) pC iC)) : Int32) = (Int32.ofNat sC) from congrArg Int32.ofNat hsC.symm]; exact k) ?_
      refine own_st (S' := T169.setTop (mkF m 440 #[qI p0, qI p1, qI p2, qI p3, qI p4, qI p5, qN A, qI v102, qI v104, qN B, qN C, qN K1, qN K2, qD (own_w K1), qZ, qD (own_w K2), qZ, qA b112, qA b122, qA gr130, qN sA, qA (ad127 2 pA), qA (ad127 3 pA), qI (1 : Int32), qN B, qD (own_w K1), qZ, qN C, qD (own_w K2), qZ, qI (1 : Int32), qN sB, qI (1 : Int32), qN sC, qU] [qV C, (.ref gr130)])) (fun t k => XS.istore X169.here hx rfl (hb hby at_434) rfl (l' := #[qI p0, qI p1, qI p2, qI p3, qI p4, qI p5, qN A, qI v102, qI v104, qN B, qN C, qN K1, qN K2, qD (own_w K1), qZ, qD (own_w K2), qZ, qA b112, qA b122, qA gr130, qN sA, qA (ad127 2 pA), qA (ad127 3 pA), qI (1 : Int32), qN B, qD (own_w K1), qZ, qN C, qD (own_w K2), qZ, qI (1 : Int32), qN sB, qI (1 : Int32), qN sC, qU]) rfl (XS.aload X169.here hx rfl (hb hby at_436) rfl rfl (XS.iload X169.here hx rfl (hb hby at_438) rfl k))) ?_
      obtain ⟨cq170, kq170, q170a, q170b, q170c⟩ := isOf hZ hh169 g0_130
      obtain ⟨_, _, ⟨T170, L170, k170, n170⟩, -, X170, ⟨Lc170, hQ170, l170, y170, z170⟩, st170⟩ := X169.virtualBack hx (y := (⟨"kithrank/Graph", "pageTargets", "(I)[I"⟩ : MethodName)) (z := (⟨"kithrank/Graph", "pageTargets", "(I)[I"⟩ : MethodName)) hown (mvT hZ (own_hw hw (i := 176) rfl)) (mvT hZ (own_hw hw (i := 177) rfl)) (notFace_of_selects (args := #[]) (mvT hZ (own_hw hw (i := 179) rfl))) (mvT hZ (own_hw hw (i := 179) rfl)) (mvT hZ (own_hw hw (i := 178) rfl)) (by decide) (backOf (W := 0) (rm25 l Z a0 hw [] gr130 (Int32.ofNat C) ad127 (own_S dg) (own_f2 tt2 pA (own_sw (tt2 pA) sA t1)) (own_f2 ww2 pA (own_sw (ww2 pA) sA t1)) ta130 C pC iC T130.heap n0 Z130 f131 g0_130 g4_130 g2_130 g6_130 rfl hC hpC hiC) hZ (own_hw hw (i := 180) rfl) (own_hw hw (i := 73) rfl) (by decide) (by decide)) q170a q170c (g := (mkF m 440 #[qI p0, qI p1, qI p2, qI p3, qI p4, qI p5, qN A, qI v102, qI v104, qN B, qN C, qN K1, qN K2, qD (own_w K1), qZ, qD (own_w K2), qZ, qA b112, qA b122, qA gr130, qN sA, qA (ad127 2 pA), qA (ad127 3 pA), qI (1 : Int32), qN B, qD (own_w K1), qZ, qN C, qD (own_w K2), qZ, qI (1 : Int32), qN sB, qI (1 : Int32), qN sC, qU] [qV C, (.ref gr130)])) rfl (by rw [hml]; rfl) (Steps.refl _) (argsL := [(.int (Int32.ofNat C))]) (rest := []) (lenOf pd0_3 rfl) rfl (by show 2 * 0 + _ ≤ _; exact Nat.le_of_eq rfl) (hb hby at_440) (fun _ _ => ⟨rfl, hh169, (by decide : 24 + 0 ≤ _), (by decide : 16828 + 0 ≤ _)⟩)
      dsimp only [Pt.U, Pt.locs, Pt.cells, Pt.slots] at X170 l170 y170 z170 st170 hQ170
      rw [l170, y170, z170] at X170
      obtain ⟨rfl, N170q, hh170⟩ := hQ170
      have N170 := Fr.app N169 N170q
      refine own_tr st170 ?_
      have O171 := (f131 pC hpC3).2.2.2.2.2.2.2.2.2.1
      obtain ⟨c171, Ar171, S171, M171, V171⟩ := O171
      have at171 : c171.slots[((Int32.ofNat sC)).toNatClampNeg]? = some (.int (Int32.ofNat A)) := own_at S171 V171 (own_ixN (by omega) (by omega)) (congrArg Value.int rt4)
      have hc172 : (Int32.ofNat A) = (Int32.ofNat A) := rfl
      refine own_st (S' := T170.setTop (mkF m 455 #[qI p0, qI p1, qI p2, qI p3, qI p4, qI p5, qN A, qI v102, qI v104, qN B, qN C, qN K1, qN K2, qD (own_w K1), qZ, qD (own_w K2), qZ, qA b112, qA b122, qA gr130, qN sA, qA (ad127 2 pA), qA (ad127 3 pA), qI (1 : Int32), qN B, qD (own_w K1), qZ, qN C, qD (own_w K2), qZ, qI (1 : Int32), qN sB, qI (1 : Int32), qN sC, qU] [qV C, (.ref gr130)])) (fun t k => XS.iload X170.here hx rfl (hb hby at_443) rfl (X170.iaload hx (j := (Int32.ofNat sC)) (v := (.int (Int32.ofNat A))) (by rw [hh170]; exact Ar171.1) (State.isArrayOf_alike hZ.alike Ar171.2.1) Ar171.2.2 (own_in S171 (own_ixN (by omega) (by omega))) at171 (g := (mkF m 445 #[qI p0, qI p1, qI p2, qI p3, qI p4, qI p5, qN A, qI v102, qI v104, qN B, qN C, qN K1, qN K2, qD (own_w K1), qZ, qD (own_w K2), qZ, qA b112, qA b122, qA gr130, qN sA, qA (ad127 2 pA), qA (ad127 3 pA), qI (1 : Int32), qN B, qD (own_w K1), qZ, qN C, qD (own_w K2), qZ, qI (1 : Int32), qN sB, qI (1 : Int32), qN sC, qU] [qV sC, (.ref (ad127 2 pC))])) rfl rfl (hb hby at_445) _ (XS.iload X170.here hx rfl (hb hby at_446) rfl (XS.icmpNo X170.here hx rfl (hb hby at_448) rfl (teq hc172).2 (XS.aload X170.here hx rfl (hb hby at_451) rfl rfl (XS.iload X170.here hx rfl (hb hby at_453) rfl k)))))) ?_
      obtain ⟨cq173, kq173, q173a, q173b, q173c⟩ := isOf hZ hh170 g0_130
      obtain ⟨_, _, ⟨T173, L173, k173, n173⟩, -, X173, ⟨Lc173, hQ173, l173, y173, z173⟩, st173⟩ := X170.virtualBack hx (y := (⟨"kithrank/Graph", "pageWeights", "(I)[D"⟩ : MethodName)) (z := (⟨"kithrank/Graph", "pageWeights", "(I)[D"⟩ : MethodName)) hown (mvT hZ (own_hw hw (i := 181) rfl)) (mvT hZ (own_hw hw (i := 182) rfl)) (notFace_of_selects (args := #[]) (mvT hZ (own_hw hw (i := 184) rfl))) (mvT hZ (own_hw hw (i := 184) rfl)) (mvT hZ (own_hw hw (i := 183) rfl)) (by decide) (backOf (W := 0) (rm26 l Z a0 hw [] gr130 (Int32.ofNat C) ad127 (own_S dg) (own_f2 tt2 pA (own_sw (tt2 pA) sA t1)) (own_f2 ww2 pA (own_sw (ww2 pA) sA t1)) wa130 C pC iC T130.heap n0 Z130 f131 g0_130 g4_130 g3_130 g7_130 rfl hC hpC hiC) hZ (own_hw hw (i := 185) rfl) (own_hw hw (i := 73) rfl) (by decide) (by decide)) q173a q173c (g := (mkF m 455 #[qI p0, qI p1, qI p2, qI p3, qI p4, qI p5, qN A, qI v102, qI v104, qN B, qN C, qN K1, qN K2, qD (own_w K1), qZ, qD (own_w K2), qZ, qA b112, qA b122, qA gr130, qN sA, qA (ad127 2 pA), qA (ad127 3 pA), qI (1 : Int32), qN B, qD (own_w K1), qZ, qN C, qD (own_w K2), qZ, qI (1 : Int32), qN sB, qI (1 : Int32), qN sC, qU] [qV C, (.ref gr130)])) rfl (by rw [hml]; rfl) (Steps.refl _) (argsL := [(.int (Int32.ofNat C))]) (rest := []) (lenOf pd0_4 rfl) rfl (by show 2 * 0 + _ ≤ _; exact Nat.le_of_eq rfl) (hb hby at_455) (fun _ _ => ⟨rfl, hh170, (by decide : 24 + 0 ≤ _), (by decide : 16828 + 0 ≤ _)⟩)
      dsimp only [Pt.U, Pt.locs, Pt.cells, Pt.slots] at X173 l173 y173 z173 st173 hQ173
      rw [l173, y173, z173] at X173
      obtain ⟨rfl, N173q, hh173⟩ := hQ173
      have N173 := Fr.app N170 N173q
      refine own_tr st173 ?_
      have O174 := (f131 pC hpC3).2.2.2.2.2.2.2.2.2.2
      obtain ⟨c174, Ar174, S174, M174, V174⟩ := O174
      have at174 : c174.slots[((Int32.ofNat sC)).toNatClampNeg]? = some (.double (own_w K2)) := own_at S174 V174 (own_ixN (by omega) (by omega)) (congrArg Value.double rw4)
      refine own_st (S' := T173.setTop (mkF m 464 #[qI p0, qI p1, qI p2, qI p3, qI p4, qI p5, qN A, qI v102, qI v104, qN B, qN C, qN K1, qN K2, qD (own_w K1), qZ, qD (own_w K2), qZ, qA b112, qA b122, qA gr130, qN sA, qA (ad127 2 pA), qA (ad127 3 pA), qI (1 : Int32), qN B, qD (own_w K1), qZ, qN C, qD (own_w K2), qZ, qI (1 : Int32), qN sB, qI (1 : Int32), qN sC, qU] [(.int (cmpValue (FP.dcmp (own_w K2) (own_w K2)) .l))])) (fun t k => XS.iload X173.here hx rfl (hb hby at_458) rfl (X173.daload hx (j := (Int32.ofNat sC)) (v := (.double (own_w K2))) (by rw [hh173]; exact Ar174.1) (State.isArrayOf_alike hZ.alike Ar174.2.1) Ar174.2.2 (own_in S174 (own_ixN (by omega) (by omega))) at174 (g := (mkF m 460 #[qI p0, qI p1, qI p2, qI p3, qI p4, qI p5, qN A, qI v102, qI v104, qN B, qN C, qN K1, qN K2, qD (own_w K1), qZ, qD (own_w K2), qZ, qA b112, qA b122, qA gr130, qN sA, qA (ad127 2 pA), qA (ad127 3 pA), qI (1 : Int32), qN B, qD (own_w K1), qZ, qN C, qD (own_w K2), qZ, qI (1 : Int32), qN sB, qI (1 : Int32), qN sC, qU] [qV sC, (.ref (ad127 3 pC))])) rfl rfl (hb hby at_460) _ (XS.dload X173.here hx rfl (hb hby at_461) rfl (XS.dcmpS X173.here hx rfl (hb hby at_463) rfl rfl k)))) ?_
      refine own_st (S' := T173.setTop (mkF m 464 #[qI p0, qI p1, qI p2, qI p3, qI p4, qI p5, qN A, qI v102, qI v104, qN B, qN C, qN K1, qN K2, qD (own_w K1), qZ, qD (own_w K2), qZ, qA b112, qA b122, qA gr130, qN sA, qA (ad127 2 pA), qA (ad127 3 pA), qI (1 : Int32), qN B, qD (own_w K1), qZ, qN C, qD (own_w K2), qZ, qI (1 : Int32), qN sB, qI (1 : Int32), qN sC, qU] [(.int (0 : Int32))])) (fun t k => by rw [show ((cmpValue (FP.dcmp (own_w K2) (own_w K2)) .l) : Int32) = (0 : Int32) from own_w3 hK2a hK2b]; exact k) ?_
      refine own_st (S' := T173.setTop (mkF m 484 #[qI p0, qI p1, qI p2, qI p3, qI p4, qI p5, qN A, qI v102, qI v104, qN B, qN C, qN K1, qN K2, qD (own_w K1), qZ, qD (own_w K2), qZ, qA b112, qA b122, qA gr130, qN sA, qA (ad127 2 pA), qA (ad127 3 pA), qI (1 : Int32), qN B, qD (own_w K1), qZ, qN C, qD (own_w K2), qZ, qI (1 : Int32), qN sB, qI (1 : Int32), qN sC, qI (1 : Int32)] [])) (fun t k => XS.ifNo X173.here hx rfl (hb hby at_464) rfl ((if0 _ _).trans (teq (by decide)).2) (XS.iconst X173.here hx rfl (hb hby at_467) (XS.goto X173.here hx rfl (pc0 := 468) (pc' := 472) rfl (hb hby at_468) (by decide) (by decide) (XS.istore X173.here hx rfl (hb hby at_472) rfl (l' := #[qI p0, qI p1, qI p2, qI p3, qI p4, qI p5, qN A, qI v102, qI v104, qN B, qN C, qN K1, qN K2, qD (own_w K1), qZ, qD (own_w K2), qZ, qA b112, qA b122, qA gr130, qN sA, qA (ad127 2 pA), qA (ad127 3 pA), qI (1 : Int32), qN B, qD (own_w K1), qZ, qN C, qD (own_w K2), qZ, qI (1 : Int32), qN sB, qI (1 : Int32), qN sC, qI (1 : Int32)]) rfl (XS.iload X173.here hx rfl (hb hby at_474) rfl (XS.ifNo X173.here hx rfl (hb hby at_476) rfl ((if0 _ _).trans (feq (by decide)).1) (XS.iload X173.here hx rfl (hb hby at_479) rfl (XS.ifNo X173.here hx rfl (hb hby at_481) rfl ((if0 _ _).trans (feq (by decide)).1) k)))))))) ?_
      refine own_st (S' := T173.setTop (mkF m 494 #[qI p0, qI p1, qI p2, qI p3, qI p4, qI p5, qN A, qI v102, qI v104, qN B, qN C, qN K1, qN K2, qD (own_w K1), qZ, qD (own_w K2), qZ, qA b112, qA b122, qA gr130, qN sA, qA (ad127 2 pA), qA (ad127 3 pA), qI (1 : Int32), qN B, qD (own_w K1), qZ, qN C, qD (own_w K2), qZ, qI (1 : Int32), qN sB, qI (1 : Int32), qN sC, qI (1 : Int32)] [(.int (1 : Int32))])) (fun t k => XS.iload X173.here hx rfl (hb hby at_484) rfl (XS.ifNo X173.here hx rfl (hb hby at_486) rfl ((if0 _ _).trans (feq (by decide)).1) (XS.iconst X173.here hx rfl (hb hby at_489) (XS.goto X173.here hx rfl (pc0 := 490) (pc' := 494) rfl (hb hby at_490) (by decide) (by decide) k)))) ?_
      refine own_retN X173 hx (t := .boolean) hret (by simp) hlk (hb hby at_494) ?_ (by decide) (by decide)
      rw [hh173]
      exact ⟨rfl, N173⟩
  have j169 : ∀ (T : State) (L : List Loc) , Stand p l e room_1 s m #[(.int p0), (.int p1), (.int p2), (.int p3), (.int p4), (.int p5)] below meth c T L 16 435 → Fr n0 L → Keep h0 T.heap [] →  n0 ≤ T.heap.size → Exa Z T.heap b122 "kithrank/Graph$Builder" → Fld Z T.heap b122 "kithrank/Graph$Builder" "pages" "[Lkithrank/Graph$Page;" (.ref pa127) → Fld Z T.heap b122 "kithrank/Graph$Builder" "next" "[I" (.ref nx127) → Fld Z T.heap b122 "kithrank/Graph$Builder" "entries" "J" (.long en) → own_A Z T.heap pa127 (.object "kithrank/Graph$Page") 3 (own_Rf (ad127 0)) → own_A Z T.heap nx127 .int 130 (own_N (own_uN (own_uN (own_nx0 dg) A (sA + 1)) B (sB + 1))) → own_P Z T.heap 3 ad127 (own_S dg) (own_s2 (own_s2 own_zT pA sA (Int32.ofNat B)) pB sB (Int32.ofNat A)) (own_s2 (own_s2 own_zW pA sA (own_w K1)) pB sB (own_w K1)) →  own_Go p.tables e below (own_F s (Q0 n0) room_1.cells room_1.slots) (T.setTop (mkF m 169 #[qI p0, qI p1, qI p2, qI p3, qI p4, qI p5, qN A, qI v102, qI v104, qN B, qN C, qN K1, qN K2, qD (own_w K1), qZ, qD (own_w K2), qZ, qA b112, qA b122, qU, qU, qU, qU, qU, qU, qU, qU, qU, qU, qU, qU, qU, qU, qU, qU] [])) := by
    intro T L  X N K Zz jf0 jf1 jf2 jf3 jf4 jf5 jf6
    refine own_st (S' := T.setTop (mkF m 173 #[qI p0, qI p1, qI p2, qI p3, qI p4, qI p5, qN A, qI v102, qI v104, qN B, qN C, qN K1, qN K2, qD (own_w K1), qZ, qD (own_w K2), qZ, qA b112, qA b122, qU, qU, qU, qU, qU, qU, qU, qU, qU, qU, qU, qU, qU, qU, qU, qU] [(.int (p5 &&& (2 : Int32)))])) (fun t k => XS.iload X.here hx rfl (hb hby at_169) rfl (XS.iconst X.here hx rfl (hb hby at_171) (XS.iand X.here hx rfl (hb hby at_172) rfl k))) ?_
    by_cases hc175 : (p5 &&& (2 : Int32)) = (0 : Int32)
    · refine own_st (S' := T.setTop (mkF m 198 #[qI p0, qI p1, qI p2, qI p3, qI p4, qI p5, qN A, qI v102, qI v104, qN B, qN C, qN K1, qN K2, qD (own_w K1), qZ, qD (own_w K2), qZ, qA b112, qA b122, qU, qU, qU, qU, qU, qU, qU, qU, qU, qU, qU, qU, qU, qU, qU, qU] [(.double (own_w K2)), qV A, qV C, (.ref b122)])) (fun t k => XS.ifYes X.here hx rfl (pc0 := 173) (pc' := 190) rfl (hb hby at_173) rfl ((if0 _ _).trans (teq hc175).1) (by decide) (by decide) (XS.aload X.here hx rfl (hb hby at_190) rfl rfl (XS.iload X.here hx rfl (hb hby at_192) rfl (XS.iload X.here hx rfl (hb hby at_194) rfl (XS.dload X.here hx rfl (hb hby at_196) rfl k))))) ?_
      obtain ⟨cq176, kq176, q176a, q176b, q176c⟩ := isOf hZ rfl jf0
      obtain ⟨_, _, ⟨T176, L176, k176, n176⟩, -, X176, ⟨Lc176, hQ176, l176, y176, z176⟩, st176⟩ := X.virtualBack hx (y := (⟨"kithrank/Graph$Builder", "add", "(IID)V"⟩ : MethodName)) (z := (⟨"kithrank/Graph$Builder", "add", "(IID)V"⟩ : MethodName)) hown (mvT hZ (own_hw hw (i := 45) rfl)) (mvT hZ (own_hw hw (i := 46) rfl)) (notFace_of_selects (args := #[]) (mvT hZ (own_hw hw (i := 48) rfl))) (mvT hZ (own_hw hw (i := 48) rfl)) (mvT hZ (own_hw hw (i := 47) rfl)) (by decide) (backOf (W := 0) (rm28 l Z a0 hw [] b122 (Int32.ofNat C) (Int32.ofNat A) (own_w K2) ad127 (own_S dg) (own_s2 (own_s2 own_zT pA sA (Int32.ofNat B)) pB sB (Int32.ofNat A)) (own_s2 (own_s2 own_zW pA sA (own_w K1)) pB sB (own_w K1)) pa127 nx127 (own_uN (own_uN (own_nx0 dg) A (sA + 1)) B (sB + 1)) C A pC pA T.heap n0 Zz jf6 gW127 jf1 jf2 gMb127 gMp127 gMn127 jf4 jf5 G_nx127 ne_b122_nx127 ne_pa127_nx127 rfl rfl hC hA (Ne.symm hCA) hpC hpA (by rw [hN1C]; omega) (by rw [hN1A]; omega) hMM) hZ (own_hw hw (i := 49) rfl) (own_hw hw (i := 5) rfl) (by decide) (by decide)) q176a q176c (g := (mkF m 198 #[qI p0, qI p1, qI p2, qI p3, qI p4, qI p5, qN A, qI v102, qI v104, qN B, qN C, qN K1, qN K2, qD (own_w K1), qZ, qD (own_w K2), qZ, qA b112, qA b122, qU, qU, qU, qU, qU, qU, qU, qU, qU, qU, qU, qU, qU, qU, qU, qU] [(.double (own_w K2)), qV A, qV C, (.ref b122)])) rfl (by rw [hml]; rfl) (Steps.refl _) (argsL := [(.int (Int32.ofNat C)), (.int (Int32.ofNat A)), (.double (own_w K2))]) (rest := []) (lenOf pd0_5 rfl) rfl (by show 2 * 0 + _ ≤ _; exact Nat.le_of_eq rfl) (hb hby at_198) (fun _ _ => ⟨rfl, rfl, (by decide : 16 + 0 ≤ _), (by decide : 435 + 0 ≤ _)⟩)
      dsimp only [Pt.U, Pt.locs, Pt.cells, Pt.slots] at X176 l176 y176 z176 st176 hQ176
      rw [l176, y176, z176] at X176
      obtain ⟨rfl, N176q, Kq176, g0_176, g1_176⟩ := hQ176
      have f177 := jf0.keep Kq176
      have f178 := jf1.keep Kq176 (ninS ne_b122_nx127 (ninS (gMb127 2 pC (by decide) hpC3) (ninS (gMb127 3 pC (by decide) hpC3) (ninS (gMb127 2 pA (by decide) hpA3) (ninS (gMb127 3 pA (by decide) hpA3) nin0)))))
      have f179 := jf2.keep Kq176 (ninS ne_b122_nx127 (ninS (gMb127 2 pC (by decide) hpC3) (ninS (gMb127 3 pC (by decide) hpC3) (ninS (gMb127 2 pA (by decide) hpA3) (ninS (gMb127 3 pA (by decide) hpA3) nin0)))))
      have f180 := jf3.keep Kq176 (ninS ne_b122_nx127 (ninS (gMb127 2 pC (by decide) hpC3) (ninS (gMb127 3 pC (by decide) hpC3) (ninS (gMb127 2 pA (by decide) hpA3) (ninS (gMb127 3 pA (by decide) hpA3) nin0)))))
      have f181 := jf4.keep Kq176 (ninS ne_pa127_nx127 (ninS (gMp127 2 pC (by decide) hpC3) (ninS (gMp127 3 pC (by decide) hpC3) (ninS (gMp127 2 pA (by decide) hpA3) (ninS (gMp127 3 pA (by decide) hpA3) nin0)))))
      have Z176 : n0 ≤ T176.heap.size := Nat.le_trans Zz Kq176.1
      have K176 : Keep h0 T176.heap [] := K.trans Kq176 (allS (Or.inr sz_nx127) (allS (Or.inr (Nat.le_trans hn0 (gW127.1 2 pC (by decide) hpC3))) (allS (Or.inr (Nat.le_trans hn0 (gW127.1 3 pC (by decide) hpC3))) (allS (Or.inr (Nat.le_trans hn0 (gW127.1 2 pA (by decide) hpA3))) (allS (Or.inr (Nat.le_trans hn0 (gW127.1 3 pA (by decide) hpA3))) all0)))))
      have N176 := Fr.app N N176q
      refine own_tr st176 ?_
      show own_Go p.tables e below _ (T176.setTop (mkF m 201 #[qI p0, qI p1, qI p2, qI p3, qI p4, qI p5, qN A, qI v102, qI v104, qN B, qN C, qN K1, qN K2, qD (own_w K1), qZ, qD (own_w K2), qZ, qA b112, qA b122, qU, qU, qU, qU, qU, qU, qU, qU, qU, qU, qU, qU, qU, qU, qU, qU] []))
      have f182 : own_A Z T176.heap nx127 .int 130 (own_N (own_uN (own_uN (own_uN (own_uN (own_nx0 dg) A (sA + 1)) B (sB + 1)) A (sA + 1 + 1)) C (sC + 1))) := by have q := g0_176; rw [hN1A, hN1C, own_uN_comm _ _ _ hCA] at q; exact q
      have f183 : own_P Z T176.heap 3 ad127 (own_S dg) tt2 ww2 := by rw [htt2, hww2]; have q := g1_176; rw [hN1A, hN1C, own_s2_comm (own_s2 (own_s2 own_zT pA sA (Int32.ofNat B)) pB sB (Int32.ofNat A)) _ _ (fun z => dC ⟨z.1, Or.inr z.2⟩), own_s2_comm (own_s2 (own_s2 own_zW pA sA (own_w K1)) pB sB (own_w K1)) _ _ (fun z => dC ⟨z.1, Or.inr z.2⟩)] at q; exact q
      exact j201 _ _  X176 N176 K176 Z176 f177 f178 f179 f180 f181 f182 f183 
    · refine own_st (S' := T.setTop (mkF m 184 #[qI p0, qI p1, qI p2, qI p3, qI p4, qI p5, qN A, qI v102, qI v104, qN B, qN C, qN K1, qN K2, qD (own_w K1), qZ, qD (own_w K2), qZ, qA b112, qA b122, qU, qU, qU, qU, qU, qU, qU, qU, qU, qU, qU, qU, qU, qU, qU, qU] [(.double (own_w K2)), qV C, qV A, (.ref b122)])) (fun t k => XS.ifNo X.here hx rfl (hb hby at_173) rfl ((if0 _ _).trans (feq hc175).1) (XS.aload X.here hx rfl (hb hby at_176) rfl rfl (XS.iload X.here hx rfl (hb hby at_178) rfl (XS.iload X.here hx rfl (hb hby at_180) rfl (XS.dload X.here hx rfl (hb hby at_182) rfl k))))) ?_
      obtain ⟨cq184, kq184, q184a, q184b, q184c⟩ := isOf hZ rfl jf0
      obtain ⟨_, _, ⟨T184, L184, k184, n184⟩, -, X184, ⟨Lc184, hQ184, l184, y184, z184⟩, st184⟩ := X.virtualBack hx (y := (⟨"kithrank/Graph$Builder", "add", "(IID)V"⟩ : MethodName)) (z := (⟨"kithrank/Graph$Builder", "add", "(IID)V"⟩ : MethodName)) hown (mvT hZ (own_hw hw (i := 45) rfl)) (mvT hZ (own_hw hw (i := 46) rfl)) (notFace_of_selects (args := #[]) (mvT hZ (own_hw hw (i := 48) rfl))) (mvT hZ (own_hw hw (i := 48) rfl)) (mvT hZ (own_hw hw (i := 47) rfl)) (by decide) (backOf (W := 0) (rm28 l Z a0 hw [] b122 (Int32.ofNat A) (Int32.ofNat C) (own_w K2) ad127 (own_S dg) (own_s2 (own_s2 own_zT pA sA (Int32.ofNat B)) pB sB (Int32.ofNat A)) (own_s2 (own_s2 own_zW pA sA (own_w K1)) pB sB (own_w K1)) pa127 nx127 (own_uN (own_uN (own_nx0 dg) A (sA + 1)) B (sB + 1)) A C pA pC T.heap n0 Zz jf6 gW127 jf1 jf2 gMb127 gMp127 gMn127 jf4 jf5 G_nx127 ne_b122_nx127 ne_pa127_nx127 rfl rfl hA hC hCA hpA hpC (by rw [hN1A]; omega) (by rw [hN1C]; omega) hMM) hZ (own_hw hw (i := 49) rfl) (own_hw hw (i := 5) rfl) (by decide) (by decide)) q184a q184c (g := (mkF m 184 #[qI p0, qI p1, qI p2, qI p3, qI p4, qI p5, qN A, qI v102, qI v104, qN B, qN C, qN K1, qN K2, qD (own_w K1), qZ, qD (own_w K2), qZ, qA b112, qA b122, qU, qU, qU, qU, qU, qU, qU, qU, qU, qU, qU, qU, qU, qU, qU, qU] [(.double (own_w K2)), qV C, qV A, (.ref b122)])) rfl (by rw [hml]; rfl) (Steps.refl _) (argsL := [(.int (Int32.ofNat A)), (.int (Int32.ofNat C)), (.double (own_w K2))]) (rest := []) (lenOf pd0_5 rfl) rfl (by show 2 * 0 + _ ≤ _; exact Nat.le_of_eq rfl) (hb hby at_184) (fun _ _ => ⟨rfl, rfl, (by decide : 16 + 0 ≤ _), (by decide : 435 + 0 ≤ _)⟩)
      dsimp only [Pt.U, Pt.locs, Pt.cells, Pt.slots] at X184 l184 y184 z184 st184 hQ184
      rw [l184, y184, z184] at X184
      obtain ⟨rfl, N184q, Kq184, g0_184, g1_184⟩ := hQ184
      have f185 := jf0.keep Kq184
      have f186 := jf1.keep Kq184 (ninS ne_b122_nx127 (ninS (gMb127 2 pA (by decide) hpA3) (ninS (gMb127 3 pA (by decide) hpA3) (ninS (gMb127 2 pC (by decide) hpC3) (ninS (gMb127 3 pC (by decide) hpC3) nin0)))))
      have f187 := jf2.keep Kq184 (ninS ne_b122_nx127 (ninS (gMb127 2 pA (by decide) hpA3) (ninS (gMb127 3 pA (by decide) hpA3) (ninS (gMb127 2 pC (by decide) hpC3) (ninS (gMb127 3 pC (by decide) hpC3) nin0)))))
      have f188 := jf3.keep Kq184 (ninS ne_b122_nx127 (ninS (gMb127 2 pA (by decide) hpA3) (ninS (gMb127 3 pA (by decide) hpA3) (ninS (gMb127 2 pC (by decide) hpC3) (ninS (gMb127 3 pC (by decide) hpC3) nin0)))))
      have f189 := jf4.keep Kq184 (ninS ne_pa127_nx127 (ninS (gMp127 2 pA (by decide) hpA3) (ninS (gMp127 3 pA (by decide) hpA3) (ninS (gMp127 2 pC (by decide) hpC3) (ninS (gMp127 3 pC (by decide) hpC3) nin0)))))
      have Z184 : n0 ≤ T184.heap.size := Nat.le_trans Zz Kq184.1
      have K184 : Keep h0 T184.heap [] := K.trans Kq184 (allS (Or.inr sz_nx127) (allS (Or.inr (Nat.le_trans hn0 (gW127.1 2 pA (by decide) hpA3))) (allS (Or.inr (Nat.le_trans hn0 (gW127.1 3 pA (by decide) hpA3))) (allS (Or.inr (Nat.le_trans hn0 (gW127.1 2 pC (by decide) hpC3))) (allS (Or.inr (Nat.le_trans hn0 (gW127.1 3 pC (by decide) hpC3))) all0)))))
      have N184 := Fr.app N N184q
      refine own_tr st184 ?_
      refine own_st (S' := T184.setTop (mkF m 201 #[qI p0, qI p1, qI p2, qI p3, qI p4, qI p5, qN A, qI v102, qI v104, qN B, qN C, qN K1, qN K2, qD (own_w K1), qZ, qD (own_w K2), qZ, qA b112, qA b122, qU, qU, qU, qU, qU, qU, qU, qU, qU, qU, qU, qU, qU, qU, qU, qU] [])) (fun t k => XS.goto X184.here hx rfl (pc0 := 187) (pc' := 201) rfl (hb hby at_187) (by decide) (by decide) k) ?_
      have f190 : own_A Z T184.heap nx127 .int 130 (own_N (own_uN (own_uN (own_uN (own_uN (own_nx0 dg) A (sA + 1)) B (sB + 1)) A (sA + 1 + 1)) C (sC + 1))) := by have q := g0_184; rw [hN1A, hN1C] at q; exact q
      have f191 : own_P Z T184.heap 3 ad127 (own_S dg) tt2 ww2 := by rw [htt2, hww2]; have q := g1_184; rw [hN1A, hN1C] at q; exact q
      exact j201 _ _  X184 N184 K184 Z184 f185 f186 f187 f188 f189 f190 f191 
  refine own_st (S' := T127.setTop (mkF m 141 #[qI p0, qI p1, qI p2, qI p3, qI p4, qI p5, qN A, qI v102, qI v104, qN B, qN C, qN K1, qN K2, qD (own_w K1), qZ, qD (own_w K2), qZ, qA b112, qA b122, qU, qU, qU, qU, qU, qU, qU, qU, qU, qU, qU, qU, qU, qU, qU, qU] [(.int (p5 &&& (1 : Int32)))])) (fun t k => XS.iload X127.here hx rfl (hb hby at_137) rfl (XS.iconst X127.here hx rfl (hb hby at_139) (XS.iand X127.here hx rfl (hb hby at_140) rfl k))) ?_
  by_cases hc192 : (p5 &&& (1 : Int32)) = (0 : Int32)
  · refine own_st (S' := T127.setTop (mkF m 166 #[qI p0, qI p1, qI p2, qI p3, qI p4, qI p5, qN A, qI v102, qI v104, qN B, qN C, qN K1, qN K2, qD (own_w K1), qZ, qD (own_w K2), qZ, qA b112, qA b122, qU, qU, qU, qU, qU, qU, qU, qU, qU, qU, qU, qU, qU, qU, qU, qU] [(.double (own_w K1)), qV A, qV B, (.ref b122)])) (fun t k => XS.ifYes X127.here hx rfl (pc0 := 141) (pc' := 158) rfl (hb hby at_141) rfl ((if0 _ _).trans (teq hc192).1) (by decide) (by decide) (XS.aload X127.here hx rfl (hb hby at_158) rfl rfl (XS.iload X127.here hx rfl (hb hby at_160) rfl (XS.iload X127.here hx rfl (hb hby at_162) rfl (XS.dload X127.here hx rfl (hb hby at_164) rfl k))))) ?_
    obtain ⟨cq193, kq193, q193a, q193b, q193c⟩ := isOf hZ rfl f129
    obtain ⟨_, _, ⟨T193, L193, k193, n193⟩, -, X193, ⟨Lc193, hQ193, l193, y193, z193⟩, st193⟩ := X127.virtualBack hx (y := (⟨"kithrank/Graph$Builder", "add", "(IID)V"⟩ : MethodName)) (z := (⟨"kithrank/Graph$Builder", "add", "(IID)V"⟩ : MethodName)) hown (mvT hZ (own_hw hw (i := 45) rfl)) (mvT hZ (own_hw hw (i := 46) rfl)) (notFace_of_selects (args := #[]) (mvT hZ (own_hw hw (i := 48) rfl))) (mvT hZ (own_hw hw (i := 48) rfl)) (mvT hZ (own_hw hw (i := 47) rfl)) (by decide) (backOf (W := 0) (rm28 l Z a0 hw [] b122 (Int32.ofNat B) (Int32.ofNat A) (own_w K1) ad127 (own_S dg) own_zT own_zW pa127 nx127 (own_nx0 dg) B A pB pA T127.heap n0 Z127 g4_127 gW127 g0_127 g1_127 gMb127 gMp127 gMn127 g2_127 g3_127 G_nx127 ne_b122_nx127 ne_pa127_nx127 rfl rfl hB hA (Ne.symm hBA) hpB hpA (by rw [hnB]; omega) (by rw [hnA]; omega) hMM) hZ (own_hw hw (i := 49) rfl) (own_hw hw (i := 5) rfl) (by decide) (by decide)) q193a q193c (g := (mkF m 166 #[qI p0, qI p1, qI p2, qI p3, qI p4, qI p5, qN A, qI v102, qI v104, qN B, qN C, qN K1, qN K2, qD (own_w K1), qZ, qD (own_w K2), qZ, qA b112, qA b122, qU, qU, qU, qU, qU, qU, qU, qU, qU, qU, qU, qU, qU, qU, qU, qU] [(.double (own_w K1)), qV A, qV B, (.ref b122)])) rfl (by rw [hml]; rfl) (Steps.refl _) (argsL := [(.int (Int32.ofNat B)), (.int (Int32.ofNat A)), (.double (own_w K1))]) (rest := []) (lenOf pd0_5 rfl) rfl (by show 2 * 0 + _ ≤ _; exact Nat.le_of_eq rfl) (hb hby at_166) (fun _ _ => ⟨rfl, rfl, (by decide : 16 + 0 ≤ _), (by decide : 435 + 0 ≤ _)⟩)
    dsimp only [Pt.U, Pt.locs, Pt.cells, Pt.slots] at X193 l193 y193 z193 st193 hQ193
    rw [l193, y193, z193] at X193
    obtain ⟨rfl, N193q, Kq193, g0_193, g1_193⟩ := hQ193
    have f194 := f129.keep Kq193
    have f195 := g0_127.keep Kq193 (ninS ne_b122_nx127 (ninS (gMb127 2 pB (by decide) hpB3) (ninS (gMb127 3 pB (by decide) hpB3) (ninS (gMb127 2 pA (by decide) hpA3) (ninS (gMb127 3 pA (by decide) hpA3) nin0)))))
    have f196 := g1_127.keep Kq193 (ninS ne_b122_nx127 (ninS (gMb127 2 pB (by decide) hpB3) (ninS (gMb127 3 pB (by decide) hpB3) (ninS (gMb127 2 pA (by decide) hpA3) (ninS (gMb127 3 pA (by decide) hpA3) nin0)))))
    have f197 := g2_127.keep Kq193 (ninS ne_pa127_nx127 (ninS (gMp127 2 pB (by decide) hpB3) (ninS (gMp127 3 pB (by decide) hpB3) (ninS (gMp127 2 pA (by decide) hpA3) (ninS (gMp127 3 pA (by decide) hpA3) nin0)))))
    have f198 := fen.keep Kq193 (ninS ne_b122_nx127 (ninS (gMb127 2 pB (by decide) hpB3) (ninS (gMb127 3 pB (by decide) hpB3) (ninS (gMb127 2 pA (by decide) hpA3) (ninS (gMb127 3 pA (by decide) hpA3) nin0)))))
    have Z193 : n0 ≤ T193.heap.size := Nat.le_trans Z127 Kq193.1
    have K193 : Keep h0 T193.heap [] := K127.trans Kq193 (allS (Or.inr sz_nx127) (allS (Or.inr (Nat.le_trans hn0 (gW127.1 2 pB (by decide) hpB3))) (allS (Or.inr (Nat.le_trans hn0 (gW127.1 3 pB (by decide) hpB3))) (allS (Or.inr (Nat.le_trans hn0 (gW127.1 2 pA (by decide) hpA3))) (allS (Or.inr (Nat.le_trans hn0 (gW127.1 3 pA (by decide) hpA3))) all0)))))
    have N193 := Fr.app N127 N193q
    refine own_tr st193 ?_
    show own_Go p.tables e below _ (T193.setTop (mkF m 169 #[qI p0, qI p1, qI p2, qI p3, qI p4, qI p5, qN A, qI v102, qI v104, qN B, qN C, qN K1, qN K2, qD (own_w K1), qZ, qD (own_w K2), qZ, qA b112, qA b122, qU, qU, qU, qU, qU, qU, qU, qU, qU, qU, qU, qU, qU, qU, qU, qU] []))
    have f199 : own_A Z T193.heap nx127 .int 130 (own_N (own_uN (own_uN (own_nx0 dg) A (sA + 1)) B (sB + 1))) := by have q := g0_193; rw [hnA, hnB, own_uN_comm _ _ _ hBA] at q; exact q
    have f200 : own_P Z T193.heap 3 ad127 (own_S dg) (own_s2 (own_s2 own_zT pA sA (Int32.ofNat B)) pB sB (Int32.ofNat A)) (own_s2 (own_s2 own_zW pA sA (own_w K1)) pB sB (own_w K1)) := by have q := g1_193; rw [hnA, hnB, own_s2_comm own_zT _ _ (fun z => dB ⟨z.1, Or.inl z.2⟩), own_s2_comm own_zW _ _ (fun z => dB ⟨z.1, Or.inl z.2⟩)] at q; exact q
    exact j169 _ _  X193 N193 K193 Z193 f194 f195 f196 f198 f197 f199 f200 
  · refine own_st (S' := T127.setTop (mkF m 152 #[qI p0, qI p1, qI p2, qI p3, qI p4, qI p5, qN A, qI v102, qI v104, qN B, qN C, qN K1, qN K2, qD (own_w K1), qZ, qD (own_w K2), qZ, qA b112, qA b122, qU, qU, qU, qU, qU, qU, qU, qU, qU, qU, qU, qU, qU, qU, qU, qU] [(.double (own_w K1)), qV B, qV A, (.ref b122)])) (fun t k => XS.ifNo X127.here hx rfl (hb hby at_141) rfl ((if0 _ _).trans (feq hc192).1) (XS.aload X127.here hx rfl (hb hby at_144) rfl rfl (XS.iload X127.here hx rfl (hb hby at_146) rfl (XS.iload X127.here hx rfl (hb hby at_148) rfl (XS.dload X127.here hx rfl (hb hby at_150) rfl k))))) ?_
    obtain ⟨cq201, kq201, q201a, q201b, q201c⟩ := isOf hZ rfl f129
    obtain ⟨_, _, ⟨T201, L201, k201, n201⟩, -, X201, ⟨Lc201, hQ201, l201, y201, z201⟩, st201⟩ := X127.virtualBack hx (y := (⟨"kithrank/Graph$Builder", "add", "(IID)V"⟩ : MethodName)) (z := (⟨"kithrank/Graph$Builder", "add", "(IID)V"⟩ : MethodName)) hown (mvT hZ (own_hw hw (i := 45) rfl)) (mvT hZ (own_hw hw (i := 46) rfl)) (notFace_of_selects (args := #[]) (mvT hZ (own_hw hw (i := 48) rfl))) (mvT hZ (own_hw hw (i := 48) rfl)) (mvT hZ (own_hw hw (i := 47) rfl)) (by decide) (backOf (W := 0) (rm28 l Z a0 hw [] b122 (Int32.ofNat A) (Int32.ofNat B) (own_w K1) ad127 (own_S dg) own_zT own_zW pa127 nx127 (own_nx0 dg) A B pA pB T127.heap n0 Z127 g4_127 gW127 g0_127 g1_127 gMb127 gMp127 gMn127 g2_127 g3_127 G_nx127 ne_b122_nx127 ne_pa127_nx127 rfl rfl hA hB hBA hpA hpB (by rw [hnA]; omega) (by rw [hnB]; omega) hMM) hZ (own_hw hw (i := 49) rfl) (own_hw hw (i := 5) rfl) (by decide) (by decide)) q201a q201c (g := (mkF m 152 #[qI p0, qI p1, qI p2, qI p3, qI p4, qI p5, qN A, qI v102, qI v104, qN B, qN C, qN K1, qN K2, qD (own_w K1), qZ, qD (own_w K2), qZ, qA b112, qA b122, qU, qU, qU, qU, qU, qU, qU, qU, qU, qU, qU, qU, qU, qU, qU, qU] [(.double (own_w K1)), qV B, qV A, (.ref b122)])) rfl (by rw [hml]; rfl) (Steps.refl _) (argsL := [(.int (Int32.ofNat A)), (.int (Int32.ofNat B)), (.double (own_w K1))]) (rest := []) (lenOf pd0_5 rfl) rfl (by show 2 * 0 + _ ≤ _; exact Nat.le_of_eq rfl) (hb hby at_152) (fun _ _ => ⟨rfl, rfl, (by decide : 16 + 0 ≤ _), (by decide : 435 + 0 ≤ _)⟩)
    dsimp only [Pt.U, Pt.locs, Pt.cells, Pt.slots] at X201 l201 y201 z201 st201 hQ201
    rw [l201, y201, z201] at X201
    obtain ⟨rfl, N201q, Kq201, g0_201, g1_201⟩ := hQ201
    have f202 := f129.keep Kq201
    have f203 := g0_127.keep Kq201 (ninS ne_b122_nx127 (ninS (gMb127 2 pA (by decide) hpA3) (ninS (gMb127 3 pA (by decide) hpA3) (ninS (gMb127 2 pB (by decide) hpB3) (ninS (gMb127 3 pB (by decide) hpB3) nin0)))))
    have f204 := g1_127.keep Kq201 (ninS ne_b122_nx127 (ninS (gMb127 2 pA (by decide) hpA3) (ninS (gMb127 3 pA (by decide) hpA3) (ninS (gMb127 2 pB (by decide) hpB3) (ninS (gMb127 3 pB (by decide) hpB3) nin0)))))
    have f205 := g2_127.keep Kq201 (ninS ne_pa127_nx127 (ninS (gMp127 2 pA (by decide) hpA3) (ninS (gMp127 3 pA (by decide) hpA3) (ninS (gMp127 2 pB (by decide) hpB3) (ninS (gMp127 3 pB (by decide) hpB3) nin0)))))
    have f206 := fen.keep Kq201 (ninS ne_b122_nx127 (ninS (gMb127 2 pA (by decide) hpA3) (ninS (gMb127 3 pA (by decide) hpA3) (ninS (gMb127 2 pB (by decide) hpB3) (ninS (gMb127 3 pB (by decide) hpB3) nin0)))))
    have Z201 : n0 ≤ T201.heap.size := Nat.le_trans Z127 Kq201.1
    have K201 : Keep h0 T201.heap [] := K127.trans Kq201 (allS (Or.inr sz_nx127) (allS (Or.inr (Nat.le_trans hn0 (gW127.1 2 pA (by decide) hpA3))) (allS (Or.inr (Nat.le_trans hn0 (gW127.1 3 pA (by decide) hpA3))) (allS (Or.inr (Nat.le_trans hn0 (gW127.1 2 pB (by decide) hpB3))) (allS (Or.inr (Nat.le_trans hn0 (gW127.1 3 pB (by decide) hpB3))) all0)))))
    have N201 := Fr.app N127 N201q
    refine own_tr st201 ?_
    refine own_st (S' := T201.setTop (mkF m 169 #[qI p0, qI p1, qI p2, qI p3, qI p4, qI p5, qN A, qI v102, qI v104, qN B, qN C, qN K1, qN K2, qD (own_w K1), qZ, qD (own_w K2), qZ, qA b112, qA b122, qU, qU, qU, qU, qU, qU, qU, qU, qU, qU, qU, qU, qU, qU, qU, qU] [])) (fun t k => XS.goto X201.here hx rfl (pc0 := 155) (pc' := 169) rfl (hb hby at_155) (by decide) (by decide) k) ?_
    have f207 : own_A Z T201.heap nx127 .int 130 (own_N (own_uN (own_uN (own_nx0 dg) A (sA + 1)) B (sB + 1))) := by have q := g0_201; rw [hnA, hnB] at q; exact q
    have f208 : own_P Z T201.heap 3 ad127 (own_S dg) (own_s2 (own_s2 own_zT pA sA (Int32.ofNat B)) pB sB (Int32.ofNat A)) (own_s2 (own_s2 own_zW pA sA (own_w K1)) pB sB (own_w K1)) := by have q := g1_201; rw [hnA, hnB] at q; exact q
    exact j169 _ _  X201 N201 K201 Z201 f202 f203 f204 f206 f205 f207 f208 
set_option maxRecDepth 65536 in
set_option maxHeartbeats 40000000 in
theorem comes_1 {Post : Tables → Env → Array Value → State → Outcome → State → Prop} (hpost : ∀ tb e args s v u, (limb_1_1.after args s (.returned v) u = true ∧ limb_1_2.after args s (.returned v) u = true ∧ True) → FrameEnd s (.returned v) u (Jvm.fieldLocs frame_1_writes args s ++ Jvm.arrayLocs frame_1_arrays args s ++ Jvm.staticLocs frame_1_statics s) 56 33728 → Post tb e args s (.returned v) u) :
    ArmFor flags0 classFile x code maxLocals ret World_1 tables_1 room_1 Calls_1 rest_1 Pre_1 Post := by
  intro l hfl _ _ p e ha hc hk s m args below hf hA hF happ hP
  obtain ⟨hcalls, hrest, hpre⟩ := hP
  obtain ⟨-, -, -, hnamed, -, -, -, hat⟩ := (Spec.applies_iff hf).mp happ
  obtain ⟨hg, hn⟩ := and_e (Cond.before_iff.mp (show (Jvm.Cond.and given_1 narrow_1).before args s = true from hpre))
  obtain ⟨c0, d0⟩ := and_e hg
  obtain ⟨c1, d1⟩ := and_e d0
  obtain ⟨c2, d2⟩ := and_e d1
  obtain ⟨c3, d3⟩ := and_e d2
  obtain ⟨c4, d4⟩ := and_e d3
  obtain ⟨c5, d5⟩ := and_e d4
  obtain ⟨w0, w1, w2, w3, w4, w5, rfl⟩ : ∃ w0 w1 w2 w3 w4 w5 : Value, args = #[w0, w1, w2, w3, w4, w5] := by
    have hs : args.size = 6 := by simpa [Cond.value, given_1] using c0
    obtain ⟨L⟩ := args
    match L, hs with
    | [w0, w1, w2, w3, w4, w5], _ => exact ⟨w0, w1, w2, w3, w4, w5, rfl⟩
  have hw := fun d (hd : d ∈ tables_1) => atoms_spec (ws := Jvm.Cond.code x code maxLocals ret :: tables_1) hat d (List.mem_cons_of_mem _ hd)
  have hfit : Fit s := fun {y c} hc i hi => by
    obtain ⟨ha, rfl⟩ := Array.getElem?_eq_some_iff.mp hc
    have q := List.all_eq_true.mp ((Array.all_eq_true_iff_forall_mem.mp hF) _ (Array.getElem_mem ha)) i (List.mem_range.mpr hi)
    simpa [Array.getElem?_eq_getElem hi] using q
  obtain ⟨i0, ei0⟩ := is_v c1
  obtain rfl : w0 = (.int i0) := Option.some.inj ei0
  obtain ⟨i1, ei1⟩ := is_v c2
  obtain rfl : w1 = (.int i1) := Option.some.inj ei1
  obtain ⟨i2, ei2⟩ := is_v c3
  obtain rfl : w2 = (.int i2) := Option.some.inj ei2
  obtain ⟨i3, ei3⟩ := is_v c4
  obtain rfl : w3 = (.int i3) := Option.some.inj ei3
  obtain ⟨i4, ei4⟩ := is_v c5
  obtain rfl : w4 = (.int i4) := Option.some.inj ei4
  obtain ⟨i5, ei5⟩ := is_v d5
  obtain rfl : w5 = (.int i5) := Option.some.inj ei5
  have en := eqv_i (Term.int_eval (16368)) hn
  have SN := Sta.start en (Or.inr ⟨(own_hw hw (i := 73) rfl), (own_hw hw (i := 74) rfl)⟩)
  obtain ⟨n, o, h1, h2, h3, _, L, rfl, ⟨rfl, N⟩, hq⟩ := rm0 l s _ hw tables_1 i0 i1 i2 i3 i4 i5  s.heap s.heap.size (Nat.le_refl _) (Nat.le_refl _) SN p e ha hc hk s m _ below hf ((Spec.applies_iff_loose hf).mp happ).1 ⟨rfl, State.Warmed39.refl s, rfl⟩ trivial
  refine ⟨n, _, h1, h2, h3, hpost _ _ _ _ _ _ ⟨Cond.after_iff.mpr rfl, Cond.after_iff.mpr (eq_i res_at (Term.int_eval (1)) rfl), trivial⟩ ⟨hq.1, hq.2.1, (hq.2.2.sift fun y hy => Or.inr (N y hy)).mono (by decide) (by decide)⟩⟩
theorem main_1_1 : Claimed_1_1 := comes_1 fun _ _ _ _ _ _ h hF => ⟨h.1, hF⟩
theorem main_1_2 : Claimed_1_2 := comes_1 fun _ _ _ _ _ _ h hF => ⟨h.2.1, hF⟩
end Jvm.Pilot.@@N@@
namespace Jvm.Pilot.@@N@@
open Jvm Jvm.ClassFile Sem Op Lib Jvm.Free Jvm.Stand Jvm.Pilot.@@N@@.Jvm.D
/-! MADE BY PROGRAM (witnessworld.py) out of the Statement's table words and the real class files: 26 classes; the members and pool entries that the words name. The judged class is class 1, her method 2. -/
namespace start1
open Jvm.ClassFile
def u (s : String) : CpInfo := .utf8 (stringToUtf16 s)
/-- a pool by its gaps: so many unusable entries, then the entry; so many at the end -/
def gap : Nat → List CpInfo → List CpInfo
  | 0, r => r
  | n + 1, r => .unusable :: gap n r
def poolList (es : List (Nat × CpInfo)) (last : Nat) : List CpInfo := es.foldr (fun e r => gap e.1 (e.2 :: r)) (gap last [])
def pool (es : List (Nat × CpInfo)) (last : Nat) : Array CpInfo := ⟨poolList es last⟩
def fileOf (pool : Array CpInfo) (this : Nat) (attrs : Array Attribute := #[]) (ms : Array MethodInfo := #[]) (fl : Nat := 33) (sup : Nat := 0) (ifs : Array Nat := #[]) (fds : Array FieldInfo := #[]) : ClassFile where
  minorVersion := 0
  majorVersion := 65
  constantPool := pool
  accessFlags := fl
  thisClass := this
  superClass := sup
  interfaces := ifs
  fields := fds
  methods := ms
  attributes := attrs
def plain (name : String) (sup : Option ClassId) : Class where
  name := name
  kind := .ordinary
  loader := none
  accessFlags := 33
  super := sup
  interfaces := #[]
  cf := none
  fields := #[]
  methods := #[]
  instanceTypes := #[]
  staticTypes := #[]
  resolved := #[]
  callSites := []
  init := .initialized
  statics := none
  mirror := none

def pool0 : Array CpInfo := pool [(5, u "<init>"), (0, u "()V"), (1, .class_ 10), (1, u "java/lang/Object")] 113

def k0c0 : Code := { maxStack := 0, maxLocals := 1, code := object_method_1_code, exceptionTable := #[], attributes := #[] }
def k0m0 : Method := { name := "<init>", desc := "()V", sig := { parameters := [], returnType := none }, accessFlags := 1, code := some k0c0 }
/-- java/lang/Object -/
def k0 : Class := { plain "java/lang/Object" none with
  accessFlags := 33
  interfaces := #[]
  cf := some (fileOf pool0 8 #[] #[{ accessFlags := 1, nameIndex := 5, descriptorIndex := 6, attributes := #[] }] 33 0 #[] #[])
  fields := #[]
  methods := #[k0m0]
  instanceTypes := #[]
  staticTypes := #[]
  resolved := Array.replicate 124 none
  statics := none }

def pool1 : Array CpInfo := pool [(2, .class_ 4), (1, u "java/lang/Object"), (0, u "<init>"), (0, u "()V"), (0, .integer 2147483647), (0, .double 4634204016564240384), (1, .class_ 11), (0, u "kithrank/Graph$Builder"), (0, .methodref 10 13), (0, .nameAndType 5 14), (0, u "([I)V"), (0, .methodref 10 16), (0, .nameAndType 17 18), (0, u "add"), (0, u "(IID)V"), (0, .methodref 10 20), (0, .nameAndType 21 22), (0, u "build"), (0, u "()Lkithrank/Graph;"), (0, .methodref 24 25), (0, .class_ 26), (0, .nameAndType 27 28), (0, u "kithrank/Graph"), (0, u "first"), (0, u "(I)I"), (0, .methodref 24 30), (0, .nameAndType 31 28), (0, u "end"), (0, .methodref 24 33), (0, .nameAndType 34 35), (0, u "pageTargets"), (0, u "(I)[I"), (0, .methodref 24 37), (0, .nameAndType 38 39), (0, u "pageWeights"), (0, u "(I)[D"), (0, .methodref 41 42), (0, .class_ 43), (0, .nameAndType 44 28), (0, u "kithrank/BuilderAddPinLaw"), (0, u "key"), (3, u "law"), (0, u "(IIIIII)Z")] 8

def k1m0 : Method := { name := "<init>", desc := "()V", sig := { parameters := [], returnType := none }, accessFlags := 2, code := none }
def k1c1 : Code := { maxStack := 2, maxLocals := 1, code := method_2_code, exceptionTable := #[], attributes := #[] }
def k1m1 : Method := { name := "key", desc := "(I)I", sig := { parameters := [.int], returnType := some .int }, accessFlags := 10, code := some k1c1 }
def k1c2 : Code := { maxStack := 5, maxLocals := 35, code := code, exceptionTable := #[], attributes := #[] }
def k1m2 : Method := { name := "law", desc := "(IIIIII)Z", sig := { parameters := [.int, .int, .int, .int, .int, .int], returnType := some .boolean }, accessFlags := 9, code := some k1c2 }
/-- kithrank/BuilderAddPinLaw -/
def k1 : Class := { plain "kithrank/BuilderAddPinLaw" (some 0) with
  accessFlags := 49
  interfaces := #[]
  cf := some (fileOf pool1 41 #[] #[{ accessFlags := 2, nameIndex := 5, descriptorIndex := 6, attributes := #[] }, { accessFlags := 10, nameIndex := 44, descriptorIndex := 28, attributes := #[] }, { accessFlags := 9, nameIndex := 48, descriptorIndex := 49, attributes := #[] }] 49 2 #[] #[])
  fields := #[]
  methods := #[k1m0, k1m1, k1m2]
  instanceTypes := #[]
  staticTypes := #[]
  resolved := Array.replicate 58 none
  statics := none }

def pool2 : Array CpInfo := pool [(1, .class_ 2), (0, u "kithrank/Graph"), (0, .methodref 4 5), (0, .class_ 6), (0, .nameAndType 7 8), (0, u "java/lang/Object"), (0, u "<init>"), (0, u "()V"), (0, .class_ 10), (0, u "kithrank/Graph$Page"), (0, .fieldref 12 13), (0, .class_ 14), (0, .nameAndType 15 16), (0, u "kithrank/Graph$Builder"), (0, u "pages"), (0, u "[Lkithrank/Graph$Page;"), (0, .fieldref 12 18), (0, .nameAndType 19 20), (0, u "next"), (0, u "[I"), (0, .methodref 22 23), (0, .class_ 24), (0, .nameAndType 25 26), (0, u "java/lang/Math"), (0, u "min"), (0, u "(II)I"), (0, .methodref 9 28), (0, .nameAndType 7 29), (0, u "([I[I[D[Lkithrank/Graph$OwnEdges;)V"), (0, .fieldref 12 31), (0, .nameAndType 32 33), (0, u "entries"), (0, u "J"), (0, .fieldref 9 35), (0, .nameAndType 36 20), (0, u "target"), (0, .fieldref 9 38), (0, .nameAndType 39 40), (0, u "weight"), (0, u "[D"), (0, .methodref 9 42), (0, .nameAndType 43 44), (0, u "users"), (0, u "()I"), (0, .fieldref 9 46), (0, .nameAndType 47 20), (0, u "start"), (0, .methodref 22 49), (0, .nameAndType 50 26), (0, u "max"), (0, .class_ 52), (0, u "kithrank/Graph$ClassSort"), (0, .methodref 51 54), (0, .nameAndType 7 55), (0, u "(I)V"), (0, .methodref 51 57), (0, .nameAndType 58 59), (0, u "sort"), (0, u "([I[DII)V"), (0, .methodref 1 61), (0, .nameAndType 62 63), (0, u "lightEntries"), (0, u "([D)J"), (0, .long 2), (1, .methodref 1 67), (0, .nameAndType 7 68), (0, u "([Lkithrank/Graph$Page;IIJ)V"), (0, u "([I)V"), (4, u "add"), (0, u "(IID)V"), (0, u "build"), (0, u "()Lkithrank/Graph;")] 11

def k2c0 : Code := { maxStack := 8, maxLocals := 7, code := prog_63_method_1_code, exceptionTable := #[], attributes := #[] }
def k2m0 : Method := { name := "<init>", desc := "([I)V", sig := { parameters := [(.array .int)], returnType := none }, accessFlags := 0, code := some k2c0 }
def k2c1 : Code := { maxStack := 5, maxLocals := 9, code := prog_63_method_2_code, exceptionTable := #[], attributes := #[] }
def k2m1 : Method := { name := "add", desc := "(IID)V", sig := { parameters := [.int, .int, .double], returnType := none }, accessFlags := 0, code := some k2c1 }
def k2c2 : Code := { maxStack := 8, maxLocals := 10, code := prog_63_method_3_code, exceptionTable := #[], attributes := #[] }
def k2m2 : Method := { name := "build", desc := "()Lkithrank/Graph;", sig := { parameters := [], returnType := some (.object "kithrank/Graph") }, accessFlags := 0, code := some k2c2 }
/-- kithrank/Graph$Builder -/
def k2 : Class := { plain "kithrank/Graph$Builder" (some 0) with
  accessFlags := 48
  interfaces := #[]
  cf := some (fileOf pool2 12 #[.nestHost 1] #[{ accessFlags := 0, nameIndex := 7, descriptorIndex := 69, attributes := #[] }, { accessFlags := 0, nameIndex := 74, descriptorIndex := 75, attributes := #[] }, { accessFlags := 0, nameIndex := 76, descriptorIndex := 77, attributes := #[] }] 48 4 #[] #[{ accessFlags := 18, nameIndex := 15, descriptorIndex := 16, attributes := #[] }, { accessFlags := 18, nameIndex := 19, descriptorIndex := 20, attributes := #[] }, { accessFlags := 2, nameIndex := 32, descriptorIndex := 33, attributes := #[] }])
  fields := #[{ name := "pages", type := (.array (.object "kithrank/Graph$Page")), accessFlags := 18, slot := 0, constantValue := 0 }, { name := "next", type := (.array .int), accessFlags := 18, slot := 1, constantValue := 0 }, { name := "entries", type := .long, accessFlags := 2, slot := 2, constantValue := 0 }]
  methods := #[k2m0, k2m1, k2m2]
  instanceTypes := #[(.array (.object "kithrank/Graph$Page")), (.array .int), .long]
  staticTypes := #[]
  resolved := Array.replicate 89 none
  statics := none }

def pool3 : Array CpInfo := pool [(1, .methodref 2 3), (0, .class_ 4), (0, .nameAndType 5 6), (0, u "java/lang/Object"), (0, u "<init>"), (0, u "()V"), (0, .class_ 8), (0, u "java/lang/Record")] 13

def k3c0 : Code := { maxStack := 1, maxLocals := 1, code := jdk_30_method_1_code, exceptionTable := #[], attributes := #[] }
def k3m0 : Method := { name := "<init>", desc := "()V", sig := { parameters := [], returnType := none }, accessFlags := 4, code := some k3c0 }
/-- java/lang/Record -/
def k3 : Class := { plain "java/lang/Record" (some 0) with
  accessFlags := 1057
  interfaces := #[]
  cf := some (fileOf pool3 7 #[] #[{ accessFlags := 4, nameIndex := 5, descriptorIndex := 6, attributes := #[] }] 1057 2 #[] #[])
  fields := #[]
  methods := #[k3m0]
  instanceTypes := #[]
  staticTypes := #[]
  resolved := Array.replicate 22 none
  statics := none }

def pool4 : Array CpInfo := pool [(1, .class_ 2), (0, u "kithrank/Graph"), (0, .methodref 4 5), (0, .class_ 6), (0, .nameAndType 7 8), (0, u "java/lang/Record"), (0, u "<init>"), (0, u "()V"), (0, .fieldref 10 11), (0, .class_ 12), (0, .nameAndType 13 14), (0, u "kithrank/Graph$Page"), (0, u "start"), (0, u "[I"), (0, .fieldref 10 16), (0, .nameAndType 17 14), (0, u "target"), (0, .fieldref 10 19), (0, .nameAndType 20 21), (0, u "weight"), (0, u "[D"), (0, .fieldref 10 23), (0, .nameAndType 24 25), (0, u "apart"), (0, u "[Lkithrank/Graph$OwnEdges;"), (2, u "users"), (0, u "()I"), (15, u "([I[I[D[Lkithrank/Graph$OwnEdges;)V"), (60, u "()[I"), (0, u "()[D"), (0, u "()[Lkithrank/Graph$OwnEdges;")] 27

def k4c0 : Code := { maxStack := 2, maxLocals := 5, code := prog_69_method_1_code, exceptionTable := #[], attributes := #[] }
def k4m0 : Method := { name := "<init>", desc := "([I[I[D[Lkithrank/Graph$OwnEdges;)V", sig := { parameters := [(.array .int), (.array .int), (.array .double), (.array (.object "kithrank/Graph$OwnEdges"))], returnType := none }, accessFlags := 2, code := some k4c0 }
def k4c1 : Code := { maxStack := 2, maxLocals := 1, code := prog_69_method_2_code, exceptionTable := #[], attributes := #[] }
def k4m1 : Method := { name := "users", desc := "()I", sig := { parameters := [], returnType := some .int }, accessFlags := 2, code := some k4c1 }
def k4c2 : Code := { maxStack := 1, maxLocals := 1, code := prog_69_method_9_code, exceptionTable := #[], attributes := #[] }
def k4m2 : Method := { name := "start", desc := "()[I", sig := { parameters := [], returnType := some (.array .int) }, accessFlags := 1, code := some k4c2 }
def k4c3 : Code := { maxStack := 1, maxLocals := 1, code := prog_69_method_10_code, exceptionTable := #[], attributes := #[] }
def k4m3 : Method := { name := "target", desc := "()[I", sig := { parameters := [], returnType := some (.array .int) }, accessFlags := 1, code := some k4c3 }
def k4c4 : Code := { maxStack := 1, maxLocals := 1, code := prog_69_method_11_code, exceptionTable := #[], attributes := #[] }
def k4m4 : Method := { name := "weight", desc := "()[D", sig := { parameters := [], returnType := some (.array .double) }, accessFlags := 1, code := some k4c4 }
def k4c5 : Code := { maxStack := 1, maxLocals := 1, code := prog_69_method_12_code, exceptionTable := #[], attributes := #[] }
def k4m5 : Method := { name := "apart", desc := "()[Lkithrank/Graph$OwnEdges;", sig := { parameters := [], returnType := some (.array (.object "kithrank/Graph$OwnEdges")) }, accessFlags := 1, code := some k4c5 }
/-- kithrank/Graph$Page -/
def k4 : Class := { plain "kithrank/Graph$Page" (some 3) with
  accessFlags := 48
  interfaces := #[]
  cf := some (fileOf pool4 10 #[.nestHost 1] #[{ accessFlags := 2, nameIndex := 7, descriptorIndex := 45, attributes := #[] }, { accessFlags := 2, nameIndex := 28, descriptorIndex := 29, attributes := #[] }, { accessFlags := 1, nameIndex := 13, descriptorIndex := 106, attributes := #[] }, { accessFlags := 1, nameIndex := 17, descriptorIndex := 106, attributes := #[] }, { accessFlags := 1, nameIndex := 20, descriptorIndex := 107, attributes := #[] }, { accessFlags := 1, nameIndex := 24, descriptorIndex := 108, attributes := #[] }] 48 4 #[] #[{ accessFlags := 18, nameIndex := 13, descriptorIndex := 14, attributes := #[] }, { accessFlags := 18, nameIndex := 17, descriptorIndex := 14, attributes := #[] }, { accessFlags := 18, nameIndex := 20, descriptorIndex := 21, attributes := #[] }, { accessFlags := 18, nameIndex := 24, descriptorIndex := 25, attributes := #[] }])
  fields := #[{ name := "start", type := (.array .int), accessFlags := 18, slot := 0, constantValue := 0 }, { name := "target", type := (.array .int), accessFlags := 18, slot := 1, constantValue := 0 }, { name := "weight", type := (.array .double), accessFlags := 18, slot := 2, constantValue := 0 }, { name := "apart", type := (.array (.object "kithrank/Graph$OwnEdges")), accessFlags := 18, slot := 3, constantValue := 0 }]
  methods := #[k4m0, k4m1, k4m2, k4m3, k4m4, k4m5]
  instanceTypes := #[(.array .int), (.array .int), (.array .double), (.array (.object "kithrank/Graph$OwnEdges"))]
  staticTypes := #[]
  resolved := Array.replicate 136 none
  statics := none }

def pool5 : Array CpInfo := pool [(1, .class_ 2), (0, u "java/lang/Math"), (1, .class_ 6), (1, u "java/lang/Object"), (0, u "<init>"), (0, u "()V"), (89, .class_ 100), (1, u "java/lang/Math$RandomNumberGeneratorHolder"), (71, u "negativeZeroFloatBits"), (0, u "J"), (2, u "negativeZeroDoubleBits"), (21, u "max"), (2, u "min"), (43, u "$assertionsDisabled"), (0, u "Z"), (88, u "(II)I"), (2, u "twoToTheDoubleScaleDown"), (0, u "D"), (4, u "twoToTheDoubleScaleUp"), (9, u "E"), (3, u "PI"), (2, u "TAU"), (2, u "DEGREES_TO_RADIANS"), (0, u "RADIANS_TO_DEGREES")] 94

def k5m0 : Method := { name := "<init>", desc := "()V", sig := { parameters := [], returnType := none }, accessFlags := 2, code := none }
def k5c1 : Code := { maxStack := 2, maxLocals := 2, code := jdk_29_method_65_code, exceptionTable := #[], attributes := #[] }
def k5m1 : Method := { name := "max", desc := "(II)I", sig := { parameters := [.int, .int], returnType := some .int }, accessFlags := 9, code := some k5c1 }
def k5c2 : Code := { maxStack := 2, maxLocals := 2, code := jdk_29_method_69_code, exceptionTable := #[], attributes := #[] }
def k5m2 : Method := { name := "min", desc := "(II)I", sig := { parameters := [.int, .int], returnType := some .int }, accessFlags := 9, code := some k5c2 }
/-- java/lang/Math -/
def k5 : Class := { plain "java/lang/Math" (some 0) with
  accessFlags := 49
  interfaces := #[]
  cf := some (fileOf pool5 1 #[.nestMembers #[98]] #[{ accessFlags := 2, nameIndex := 7, descriptorIndex := 8, attributes := #[] }, { accessFlags := 9, nameIndex := 198, descriptorIndex := 335, attributes := #[] }, { accessFlags := 9, nameIndex := 201, descriptorIndex := 335, attributes := #[] }] 49 4 #[] #[{ accessFlags := 25, nameIndex := 354, descriptorIndex := 339, attributes := #[] }, { accessFlags := 25, nameIndex := 358, descriptorIndex := 339, attributes := #[] }, { accessFlags := 25, nameIndex := 361, descriptorIndex := 339, attributes := #[] }, { accessFlags := 26, nameIndex := 364, descriptorIndex := 339, attributes := #[] }, { accessFlags := 26, nameIndex := 365, descriptorIndex := 339, attributes := #[] }, { accessFlags := 26, nameIndex := 172, descriptorIndex := 173, attributes := #[] }, { accessFlags := 26, nameIndex := 176, descriptorIndex := 173, attributes := #[] }, { accessFlags := 8, nameIndex := 344, descriptorIndex := 339, attributes := #[] }, { accessFlags := 8, nameIndex := 338, descriptorIndex := 339, attributes := #[] }, { accessFlags := 4120, nameIndex := 245, descriptorIndex := 246, attributes := #[] }])
  fields := #[{ name := "E", type := .double, accessFlags := 25, slot := 0, constantValue := 0 }, { name := "PI", type := .double, accessFlags := 25, slot := 1, constantValue := 0 }, { name := "TAU", type := .double, accessFlags := 25, slot := 2, constantValue := 0 }, { name := "DEGREES_TO_RADIANS", type := .double, accessFlags := 26, slot := 3, constantValue := 0 }, { name := "RADIANS_TO_DEGREES", type := .double, accessFlags := 26, slot := 4, constantValue := 0 }, { name := "negativeZeroFloatBits", type := .long, accessFlags := 26, slot := 5, constantValue := 0 }, { name := "negativeZeroDoubleBits", type := .long, accessFlags := 26, slot := 6, constantValue := 0 }, { name := "twoToTheDoubleScaleUp", type := .double, accessFlags := 8, slot := 7, constantValue := 0 }, { name := "twoToTheDoubleScaleDown", type := .double, accessFlags := 8, slot := 8, constantValue := 0 }, { name := "$assertionsDisabled", type := .boolean, accessFlags := 4120, slot := 9, constantValue := 0 }]
  methods := #[k5m0, k5m1, k5m2]
  instanceTypes := #[]
  staticTypes := #[.double, .double, .double, .double, .double, .long, .long, .double, .double, .boolean]
  resolved := Array.replicate 460 none
  statics := none }

def pool6 : Array CpInfo := pool [(1, .methodref 2 3), (0, .class_ 4), (0, .nameAndType 5 6), (0, u "java/lang/Object"), (0, u "<init>"), (0, u "()V"), (0, .fieldref 8 9), (0, .class_ 10), (0, .nameAndType 11 12), (0, u "kithrank/Graph"), (0, u "HEAVIEST_CLASS"), (0, u "I"), (0, .fieldref 14 15), (0, .class_ 16), (0, .nameAndType 17 18), (0, u "kithrank/Graph$ClassSort"), (0, u "place"), (0, u "[I"), (0, .fieldref 14 20), (0, .nameAndType 21 18), (0, u "sortedTarget"), (0, .fieldref 14 23), (0, .nameAndType 24 25), (0, u "sortedWeight"), (0, u "[D"), (0, .methodref 8 27), (0, .nameAndType 28 29), (0, u "weightClass"), (0, u "(D)I"), (0, .methodref 31 32), (0, .class_ 33), (0, .nameAndType 34 35), (0, u "java/lang/Math"), (0, u "max"), (0, u "(II)I"), (0, .methodref 31 37), (0, .nameAndType 38 35), (0, u "min"), (0, .methodref 40 41), (0, .class_ 42), (0, .nameAndType 43 44), (0, u "java/lang/System"), (0, u "arraycopy"), (0, u "(Ljava/lang/Object;ILjava/lang/Object;II)V"), (0, .methodref 46 47), (0, .class_ 48), (0, .nameAndType 49 50), (0, u "java/util/Arrays"), (0, u "fill"), (0, u "([IIII)V"), (0, u "(I)V"), (2, u "sort"), (0, u "([I[DII)V")] 6

def k6c0 : Code := { maxStack := 3, maxLocals := 2, code := prog_64_method_1_code, exceptionTable := #[], attributes := #[] }
def k6m0 : Method := { name := "<init>", desc := "(I)V", sig := { parameters := [.int], returnType := none }, accessFlags := 0, code := some k6c0 }
def k6c1 : Code := { maxStack := 6, maxLocals := 9, code := prog_64_method_2_code, exceptionTable := #[], attributes := #[] }
def k6m1 : Method := { name := "sort", desc := "([I[DII)V", sig := { parameters := [(.array .int), (.array .double), .int, .int], returnType := none }, accessFlags := 0, code := some k6c1 }
/-- kithrank/Graph$ClassSort -/
def k6 : Class := { plain "kithrank/Graph$ClassSort" (some 0) with
  accessFlags := 48
  interfaces := #[]
  cf := some (fileOf pool6 14 #[.nestHost 8] #[{ accessFlags := 0, nameIndex := 5, descriptorIndex := 51, attributes := #[] }, { accessFlags := 0, nameIndex := 54, descriptorIndex := 55, attributes := #[] }] 48 2 #[] #[{ accessFlags := 18, nameIndex := 17, descriptorIndex := 18, attributes := #[] }, { accessFlags := 18, nameIndex := 21, descriptorIndex := 18, attributes := #[] }, { accessFlags := 18, nameIndex := 24, descriptorIndex := 25, attributes := #[] }])
  fields := #[{ name := "place", type := (.array .int), accessFlags := 18, slot := 0, constantValue := 0 }, { name := "sortedTarget", type := (.array .int), accessFlags := 18, slot := 1, constantValue := 0 }, { name := "sortedWeight", type := (.array .double), accessFlags := 18, slot := 2, constantValue := 0 }]
  methods := #[k6m0, k6m1]
  instanceTypes := #[(.array .int), (.array .int), (.array .double)]
  staticTypes := #[]
  resolved := Array.replicate 62 none
  statics := none }

def pool7 : Array CpInfo := pool [(3, .class_ 4), (0, u "kithrank/Graph"), (0, .methodref 6 7), (0, .class_ 8), (0, .nameAndType 9 10), (0, u "java/lang/Object"), (0, u "<init>"), (0, u "()V"), (0, .fieldref 3 12), (0, .nameAndType 13 14), (0, u "starts"), (0, u "[[I"), (0, .fieldref 3 16), (0, .nameAndType 17 14), (0, u "targets"), (0, .fieldref 3 19), (0, .nameAndType 20 21), (0, u "weights"), (0, u "[[D"), (0, .fieldref 3 23), (0, .nameAndType 24 25), (0, u "apart"), (0, u "[[Lkithrank/Graph$OwnEdges;"), (0, .fieldref 3 27), (0, .nameAndType 28 29), (0, u "userCount"), (0, u "I"), (0, .fieldref 3 31), (0, .nameAndType 32 29), (0, u "edgeCount"), (0, .fieldref 3 34), (0, .nameAndType 35 36), (0, u "lightEntries"), (0, u "J"), (0, .class_ 38), (0, u "[I"), (0, .class_ 40), (0, u "[D"), (0, .methodref 3 42), (0, .nameAndType 43 44), (0, u "apartOf"), (0, u "([Lkithrank/Graph$Page;)[[Lkithrank/Graph$OwnEdges;"), (0, .methodref 3 46), (0, .nameAndType 9 47), (0, u "([[I[[I[[D[[Lkithrank/Graph$OwnEdges;IIJ)V"), (0, .methodref 49 50), (0, .class_ 51), (0, .nameAndType 52 53), (0, u "kithrank/Graph$Page"), (0, u "start"), (0, u "()[I"), (0, .methodref 49 55), (0, .nameAndType 56 53), (0, u "target"), (0, .methodref 49 58), (0, .nameAndType 59 60), (0, u "weight"), (0, u "()[D"), (0, .methodref 49 62), (0, .nameAndType 24 63), (0, u "()[Lkithrank/Graph$OwnEdges;"), (2, .class_ 67), (0, u "kithrank/Graph$Builder"), (17, .class_ 86), (0, u "java/lang/Double"), (2, .methodref 85 90), (0, .nameAndType 91 92), (0, u "doubleToRawLongBits"), (0, u "(D)J"), (22, .class_ 116), (0, u "kithrank/Graph$OwnEdges"), (19, u "([Lkithrank/Graph$Page;IIJ)V"), (4, .methodref 3 142), (0, .nameAndType 143 144), (0, u "ownEdges"), (0, u "(I)Lkithrank/Graph$OwnEdges;"), (2, u "end"), (0, u "(I)I"), (2, u "first"), (9, .class_ 162), (0, u "kithrank/Graph$NewEdges"), (8, .class_ 172), (0, u "kithrank/Graph$Rejoined"), (8, .class_ 183), (1, u "kithrank/Graph$Rejoining"), (10, u "pageTargets"), (0, u "(I)[I"), (2, u "pageWeights"), (0, u "(I)[D"), (24, u "([D)J"), (32, u "weightClass"), (0, u "(D)I"), (5, u "HEAVIEST_CLASS"), (0, u "MAX_EDGES"), (2, u "PAGE_SHIFT"), (1, u "PAGE"), (1, u "MOST_ON_PAGE"), (0, u "CLASS_SHIFT"), (37, .class_ 312), (0, u "kithrank/Graph$Edits"), (0, .class_ 314), (0, u "kithrank/Graph$Edits$Grouped"), (0, .class_ 316), (0, u "kithrank/Graph$ClassSort"), (0, .class_ 318), (0, u "kithrank/Graph$Replaced")] 11

def k7c0 : Code := { maxStack := 3, maxLocals := 9, code := prog_62_method_1_code, exceptionTable := #[], attributes := #[] }
def k7m0 : Method := { name := "<init>", desc := "([[I[[I[[D[[Lkithrank/Graph$OwnEdges;IIJ)V", sig := { parameters := [(.array (.array .int)), (.array (.array .int)), (.array (.array .double)), (.array (.array (.object "kithrank/Graph$OwnEdges"))), .int, .int, .long], returnType := none }, accessFlags := 2, code := some k7c0 }
def k7c1 : Code := { maxStack := 9, maxLocals := 7, code := prog_62_method_2_code, exceptionTable := #[], attributes := #[] }
def k7m1 : Method := { name := "<init>", desc := "([Lkithrank/Graph$Page;IIJ)V", sig := { parameters := [(.array (.object "kithrank/Graph$Page")), .int, .int, .long], returnType := none }, accessFlags := 2, code := some k7c1 }
def k7c2 : Code := { maxStack := 4, maxLocals := 3, code := prog_62_method_3_code, exceptionTable := #[], attributes := #[] }
def k7m2 : Method := { name := "apartOf", desc := "([Lkithrank/Graph$Page;)[[Lkithrank/Graph$OwnEdges;", sig := { parameters := [(.array (.object "kithrank/Graph$Page"))], returnType := some (.array (.array (.object "kithrank/Graph$OwnEdges"))) }, accessFlags := 10, code := some k7c2 }
def k7c3 : Code := { maxStack := 3, maxLocals := 2, code := prog_62_method_6_code, exceptionTable := #[], attributes := #[] }
def k7m3 : Method := { name := "weightClass", desc := "(D)I", sig := { parameters := [.double], returnType := some .int }, accessFlags := 10, code := some k7c3 }
def k7c4 : Code := { maxStack := 4, maxLocals := 8, code := prog_62_method_20_code, exceptionTable := #[], attributes := #[] }
def k7m4 : Method := { name := "lightEntries", desc := "([D)J", sig := { parameters := [(.array .double)], returnType := some .long }, accessFlags := 10, code := some k7c4 }
def k7c5 : Code := { maxStack := 3, maxLocals := 2, code := prog_62_method_26_code, exceptionTable := #[], attributes := #[] }
def k7m5 : Method := { name := "first", desc := "(I)I", sig := { parameters := [.int], returnType := some .int }, accessFlags := 0, code := some k7c5 }
def k7c6 : Code := { maxStack := 3, maxLocals := 3, code := prog_62_method_27_code, exceptionTable := #[], attributes := #[] }
def k7m6 : Method := { name := "end", desc := "(I)I", sig := { parameters := [.int], returnType := some .int }, accessFlags := 0, code := some k7c6 }
def k7c7 : Code := { maxStack := 3, maxLocals := 3, code := prog_62_method_28_code, exceptionTable := #[], attributes := #[] }
def k7m7 : Method := { name := "pageTargets", desc := "(I)[I", sig := { parameters := [.int], returnType := some (.array .int) }, accessFlags := 0, code := some k7c7 }
def k7c8 : Code := { maxStack := 3, maxLocals := 3, code := prog_62_method_29_code, exceptionTable := #[], attributes := #[] }
def k7m8 : Method := { name := "pageWeights", desc := "(I)[D", sig := { parameters := [.int], returnType := some (.array .double) }, accessFlags := 0, code := some k7c8 }
def k7c9 : Code := { maxStack := 3, maxLocals := 3, code := prog_62_method_30_code, exceptionTable := #[], attributes := #[] }
def k7m9 : Method := { name := "ownEdges", desc := "(I)Lkithrank/Graph$OwnEdges;", sig := { parameters := [.int], returnType := some (.object "kithrank/Graph$OwnEdges") }, accessFlags := 2, code := some k7c9 }
/-- kithrank/Graph -/
def k7 : Class := { plain "kithrank/Graph" (some 0) with
  accessFlags := 48
  interfaces := #[]
  cf := some (fileOf pool7 3 #[.nestMembers #[311, 313, 181, 315, 66, 317, 171, 161, 115, 49]] #[{ accessFlags := 2, nameIndex := 9, descriptorIndex := 47, attributes := #[] }, { accessFlags := 2, nameIndex := 9, descriptorIndex := 136, attributes := #[] }, { accessFlags := 10, nameIndex := 43, descriptorIndex := 44, attributes := #[] }, { accessFlags := 10, nameIndex := 257, descriptorIndex := 258, attributes := #[] }, { accessFlags := 10, nameIndex := 35, descriptorIndex := 224, attributes := #[] }, { accessFlags := 0, nameIndex := 151, descriptorIndex := 148, attributes := #[] }, { accessFlags := 0, nameIndex := 147, descriptorIndex := 148, attributes := #[] }, { accessFlags := 0, nameIndex := 194, descriptorIndex := 195, attributes := #[] }, { accessFlags := 0, nameIndex := 198, descriptorIndex := 199, attributes := #[] }, { accessFlags := 2, nameIndex := 143, descriptorIndex := 144, attributes := #[] }] 48 6 #[] #[{ accessFlags := 24, nameIndex := 265, descriptorIndex := 29, attributes := #[] }, { accessFlags := 26, nameIndex := 268, descriptorIndex := 29, attributes := #[] }, { accessFlags := 24, nameIndex := 270, descriptorIndex := 29, attributes := #[] }, { accessFlags := 24, nameIndex := 272, descriptorIndex := 29, attributes := #[] }, { accessFlags := 26, nameIndex := 273, descriptorIndex := 29, attributes := #[] }, { accessFlags := 26, nameIndex := 264, descriptorIndex := 29, attributes := #[] }, { accessFlags := 18, nameIndex := 13, descriptorIndex := 14, attributes := #[] }, { accessFlags := 18, nameIndex := 17, descriptorIndex := 14, attributes := #[] }, { accessFlags := 18, nameIndex := 20, descriptorIndex := 21, attributes := #[] }, { accessFlags := 18, nameIndex := 24, descriptorIndex := 25, attributes := #[] }, { accessFlags := 18, nameIndex := 28, descriptorIndex := 29, attributes := #[] }, { accessFlags := 18, nameIndex := 32, descriptorIndex := 29, attributes := #[] }, { accessFlags := 18, nameIndex := 35, descriptorIndex := 36, attributes := #[] }])
  fields := #[{ name := "MAX_EDGES", type := .int, accessFlags := 24, slot := 0, constantValue := 0 }, { name := "PAGE_SHIFT", type := .int, accessFlags := 26, slot := 1, constantValue := 0 }, { name := "PAGE", type := .int, accessFlags := 24, slot := 2, constantValue := 0 }, { name := "MOST_ON_PAGE", type := .int, accessFlags := 24, slot := 3, constantValue := 0 }, { name := "CLASS_SHIFT", type := .int, accessFlags := 26, slot := 4, constantValue := 0 }, { name := "HEAVIEST_CLASS", type := .int, accessFlags := 26, slot := 5, constantValue := 0 }, { name := "starts", type := (.array (.array .int)), accessFlags := 18, slot := 0, constantValue := 0 }, { name := "targets", type := (.array (.array .int)), accessFlags := 18, slot := 1, constantValue := 0 }, { name := "weights", type := (.array (.array .double)), accessFlags := 18, slot := 2, constantValue := 0 }, { name := "apart", type := (.array (.array (.object "kithrank/Graph$OwnEdges"))), accessFlags := 18, slot := 3, constantValue := 0 }, { name := "userCount", type := .int, accessFlags := 18, slot := 4, constantValue := 0 }, { name := "edgeCount", type := .int, accessFlags := 18, slot := 5, constantValue := 0 }, { name := "lightEntries", type := .long, accessFlags := 18, slot := 6, constantValue := 0 }]
  methods := #[k7m0, k7m1, k7m2, k7m3, k7m4, k7m5, k7m6, k7m7, k7m8, k7m9]
  instanceTypes := #[(.array (.array .int)), (.array (.array .int)), (.array (.array .double)), (.array (.array (.object "kithrank/Graph$OwnEdges"))), .int, .int, .long]
  staticTypes := #[.int, .int, .int, .int, .int, .int]
  resolved := Array.replicate 330 none
  statics := some 0 }

def pool8 : Array CpInfo := pool [(1, .class_ 2), (0, u "java/io/Serializable"), (0, .class_ 4), (0, u "java/lang/Object")] 2

/-- java/io/Serializable -/
def k8 : Class := { plain "java/io/Serializable" (some 0) with
  accessFlags := 1537
  interfaces := #[]
  cf := some (fileOf pool8 1 #[] #[] 1537 3 #[] #[])
  fields := #[]
  methods := #[]
  instanceTypes := #[]
  staticTypes := #[]
  resolved := Array.replicate 7 none
  statics := none }

def pool9 : Array CpInfo := pool [(2, .class_ 4), (1, u "java/lang/Object"), (0, u "<init>"), (0, u "()V"), (1, .class_ 10), (1, u "java/lang/Number"), (2, .class_ 14), (0, u "java/io/Serializable"), (0, u "serialVersionUID"), (0, u "J")] 20

def k9m0 : Method := { name := "<init>", desc := "()V", sig := { parameters := [], returnType := none }, accessFlags := 1, code := none }
/-- java/lang/Number -/
def k9 : Class := { plain "java/lang/Number" (some 0) with
  accessFlags := 1057
  interfaces := #[8]
  cf := some (fileOf pool9 8 #[] #[{ accessFlags := 1, nameIndex := 5, descriptorIndex := 6, attributes := #[] }] 1057 2 #[13] #[{ accessFlags := 26, nameIndex := 15, descriptorIndex := 16, attributes := #[] }])
  fields := #[{ name := "serialVersionUID", type := .long, accessFlags := 26, slot := 0, constantValue := 0 }]
  methods := #[k9m0]
  instanceTypes := #[]
  staticTypes := #[.long]
  resolved := Array.replicate 37 none
  statics := none }

def pool10 : Array CpInfo := pool [(1, .class_ 2), (0, u "java/lang/Comparable"), (0, .class_ 4), (0, u "java/lang/Object")] 7

/-- java/lang/Comparable -/
def k10 : Class := { plain "java/lang/Comparable" (some 0) with
  accessFlags := 1537
  interfaces := #[]
  cf := some (fileOf pool10 1 #[] #[] 1537 3 #[] #[])
  fields := #[]
  methods := #[]
  instanceTypes := #[]
  staticTypes := #[]
  resolved := Array.replicate 12 none
  statics := none }

def pool11 : Array CpInfo := pool [(1, .class_ 2), (0, u "java/lang/constant/Constable"), (0, .class_ 4), (0, u "java/lang/Object")] 6

/-- java/lang/constant/Constable -/
def k11 : Class := { plain "java/lang/constant/Constable" (some 0) with
  accessFlags := 1537
  interfaces := #[]
  cf := some (fileOf pool11 1 #[] #[] 1537 3 #[] #[])
  fields := #[]
  methods := #[]
  instanceTypes := #[]
  staticTypes := #[]
  resolved := Array.replicate 11 none
  statics := none }

def pool12 : Array CpInfo := pool [(1, .class_ 2), (0, u "java/lang/constant/ConstantDesc"), (0, .class_ 4), (0, u "java/lang/Object")] 32

/-- java/lang/constant/ConstantDesc -/
def k12 : Class := { plain "java/lang/constant/ConstantDesc" (some 0) with
  accessFlags := 1537
  interfaces := #[]
  cf := some (fileOf pool12 1 #[] #[] 1537 3 #[] #[])
  fields := #[]
  methods := #[]
  instanceTypes := #[]
  staticTypes := #[]
  resolved := Array.replicate 37 none
  statics := none }

def pool13 : Array CpInfo := pool [(1, .class_ 2), (0, u "java/lang/Double"), (46, u "(D)J"), (64, .class_ 116), (1, u "java/lang/Number"), (3, u "value"), (0, u "D"), (14, u "doubleToRawLongBits"), (36, u "TYPE"), (0, u "Ljava/lang/Class;"), (0, .class_ 176), (0, u "java/lang/Comparable"), (0, .class_ 178), (0, u "java/lang/constant/Constable"), (0, .class_ 180), (0, u "java/lang/constant/ConstantDesc"), (0, u "POSITIVE_INFINITY"), (3, u "NEGATIVE_INFINITY"), (2, u "NaN"), (2, u "MAX_VALUE"), (0, u "MIN_NORMAL"), (0, u "MIN_VALUE"), (2, u "SIZE"), (0, u "I"), (1, u "PRECISION"), (1, u "MAX_EXPONENT"), (1, u "MIN_EXPONENT"), (1, u "BYTES"), (3, u "serialVersionUID"), (0, u "J")] 79

def k13m0 : Method := { name := "doubleToRawLongBits", desc := "(D)J", sig := { parameters := [.double], returnType := some .long }, accessFlags := 265, code := none }
/-- java/lang/Double -/
def k13 : Class := { plain "java/lang/Double" (some 9) with
  accessFlags := 49
  interfaces := #[10, 11, 12]
  cf := some (fileOf pool13 1 #[] #[{ accessFlags := 265, nameIndex := 136, descriptorIndex := 49, attributes := #[] }] 49 114 #[175, 177, 179] #[{ accessFlags := 25, nameIndex := 181, descriptorIndex := 121, attributes := #[] }, { accessFlags := 25, nameIndex := 185, descriptorIndex := 121, attributes := #[] }, { accessFlags := 25, nameIndex := 188, descriptorIndex := 121, attributes := #[] }, { accessFlags := 25, nameIndex := 191, descriptorIndex := 121, attributes := #[] }, { accessFlags := 25, nameIndex := 192, descriptorIndex := 121, attributes := #[] }, { accessFlags := 25, nameIndex := 193, descriptorIndex := 121, attributes := #[] }, { accessFlags := 25, nameIndex := 196, descriptorIndex := 197, attributes := #[] }, { accessFlags := 25, nameIndex := 199, descriptorIndex := 197, attributes := #[] }, { accessFlags := 25, nameIndex := 201, descriptorIndex := 197, attributes := #[] }, { accessFlags := 25, nameIndex := 203, descriptorIndex := 197, attributes := #[] }, { accessFlags := 25, nameIndex := 205, descriptorIndex := 197, attributes := #[] }, { accessFlags := 25, nameIndex := 173, descriptorIndex := 174, attributes := #[] }, { accessFlags := 18, nameIndex := 120, descriptorIndex := 121, attributes := #[] }, { accessFlags := 26, nameIndex := 209, descriptorIndex := 210, attributes := #[] }])
  fields := #[{ name := "POSITIVE_INFINITY", type := .double, accessFlags := 25, slot := 0, constantValue := 0 }, { name := "NEGATIVE_INFINITY", type := .double, accessFlags := 25, slot := 1, constantValue := 0 }, { name := "NaN", type := .double, accessFlags := 25, slot := 2, constantValue := 0 }, { name := "MAX_VALUE", type := .double, accessFlags := 25, slot := 3, constantValue := 0 }, { name := "MIN_NORMAL", type := .double, accessFlags := 25, slot := 4, constantValue := 0 }, { name := "MIN_VALUE", type := .double, accessFlags := 25, slot := 5, constantValue := 0 }, { name := "SIZE", type := .int, accessFlags := 25, slot := 6, constantValue := 0 }, { name := "PRECISION", type := .int, accessFlags := 25, slot := 7, constantValue := 0 }, { name := "MAX_EXPONENT", type := .int, accessFlags := 25, slot := 8, constantValue := 0 }, { name := "MIN_EXPONENT", type := .int, accessFlags := 25, slot := 9, constantValue := 0 }, { name := "BYTES", type := .int, accessFlags := 25, slot := 10, constantValue := 0 }, { name := "TYPE", type := (.object "java/lang/Class"), accessFlags := 25, slot := 11, constantValue := 0 }, { name := "value", type := .double, accessFlags := 18, slot := 0, constantValue := 0 }, { name := "serialVersionUID", type := .long, accessFlags := 26, slot := 12, constantValue := 0 }]
  methods := #[k13m0]
  instanceTypes := #[.double]
  staticTypes := #[.double, .double, .double, .double, .double, .double, .int, .int, .int, .int, .int, (.object "java/lang/Class"), .long]
  resolved := Array.replicate 290 none
  statics := none }

def pool14 : Array CpInfo := pool [(2, .class_ 4), (1, u "java/lang/Object"), (0, u "<init>"), (0, u "()V"), (1, .class_ 10), (1, u "java/lang/System"), (0, u "allowSecurityManager"), (0, u "I"), (16, u "cons"), (0, u "Ljava/io/Console;"), (77, .class_ 110), (1, u "java/lang/System$CallersHolder"), (43, u "initialErrStream"), (0, u "Ljava/io/PrintStream;"), (19, u "security"), (0, u "Ljava/lang/SecurityManager;"), (31, .class_ 209), (0, u "java/lang/System$1"), (7, u "props"), (0, u "Ljava/util/Properties;"), (2, u "lineSeparator"), (0, u "Ljava/lang/String;"), (96, .class_ 321), (1, u "java/lang/System$LoggerFinder"), (5, .class_ 328), (0, u "java/lang/System$Logger"), (67, u "err"), (2, u "out"), (91, u "notSupportedJnuEncoding"), (15, u "in"), (17, u "initialIn"), (0, u "Ljava/io/InputStream;"), (35, u "bootLayer"), (0, u "Ljava/lang/ModuleLayer;"), (99, .class_ 664), (0, u "java/lang/System$2"), (9, u "NEVER"), (2, u "MAYBE"), (49, u "arraycopy"), (0, u "(Ljava/lang/Object;ILjava/lang/Object;II)V"), (72, .class_ 802), (0, u "java/lang/System$Logger$Level")] 31

def k14m0 : Method := { name := "<init>", desc := "()V", sig := { parameters := [], returnType := none }, accessFlags := 2, code := none }
def k14m1 : Method := { name := "arraycopy", desc := "(Ljava/lang/Object;ILjava/lang/Object;II)V", sig := { parameters := [(.object "java/lang/Object"), .int, (.object "java/lang/Object"), .int, .int], returnType := none }, accessFlags := 265, code := none }
/-- java/lang/System -/
def k14 : Class := { plain "java/lang/System" (some 0) with
  accessFlags := 49
  interfaces := #[]
  cf := some (fileOf pool14 8 #[.nestMembers #[319, 327, 801, 108, 663, 208]] #[{ accessFlags := 2, nameIndex := 5, descriptorIndex := 6, attributes := #[] }, { accessFlags := 265, nameIndex := 727, descriptorIndex := 728, attributes := #[] }] 49 2 #[] #[{ accessFlags := 25, nameIndex := 507, descriptorIndex := 526, attributes := #[] }, { accessFlags := 25, nameIndex := 399, descriptorIndex := 155, attributes := #[] }, { accessFlags := 25, nameIndex := 396, descriptorIndex := 155, attributes := #[] }, { accessFlags := 10, nameIndex := 525, descriptorIndex := 526, attributes := #[] }, { accessFlags := 26, nameIndex := 674, descriptorIndex := 12, attributes := #[] }, { accessFlags := 26, nameIndex := 677, descriptorIndex := 12, attributes := #[] }, { accessFlags := 10, nameIndex := 11, descriptorIndex := 12, attributes := #[] }, { accessFlags := 74, nameIndex := 175, descriptorIndex := 176, attributes := #[] }, { accessFlags := 10, nameIndex := 491, descriptorIndex := 222, attributes := #[] }, { accessFlags := 74, nameIndex := 29, descriptorIndex := 30, attributes := #[] }, { accessFlags := 74, nameIndex := 154, descriptorIndex := 155, attributes := #[] }, { accessFlags := 10, nameIndex := 217, descriptorIndex := 218, attributes := #[] }, { accessFlags := 10, nameIndex := 221, descriptorIndex := 222, attributes := #[] }, { accessFlags := 8, nameIndex := 562, descriptorIndex := 563, attributes := #[] }])
  fields := #[{ name := "in", type := (.object "java/io/InputStream"), accessFlags := 25, slot := 0, constantValue := 0 }, { name := "out", type := (.object "java/io/PrintStream"), accessFlags := 25, slot := 1, constantValue := 0 }, { name := "err", type := (.object "java/io/PrintStream"), accessFlags := 25, slot := 2, constantValue := 0 }, { name := "initialIn", type := (.object "java/io/InputStream"), accessFlags := 10, slot := 3, constantValue := 0 }, { name := "NEVER", type := .int, accessFlags := 26, slot := 4, constantValue := 0 }, { name := "MAYBE", type := .int, accessFlags := 26, slot := 5, constantValue := 0 }, { name := "allowSecurityManager", type := .int, accessFlags := 10, slot := 6, constantValue := 0 }, { name := "security", type := (.object "java/lang/SecurityManager"), accessFlags := 74, slot := 7, constantValue := 0 }, { name := "notSupportedJnuEncoding", type := (.object "java/lang/String"), accessFlags := 10, slot := 8, constantValue := 0 }, { name := "cons", type := (.object "java/io/Console"), accessFlags := 74, slot := 9, constantValue := 0 }, { name := "initialErrStream", type := (.object "java/io/PrintStream"), accessFlags := 74, slot := 10, constantValue := 0 }, { name := "props", type := (.object "java/util/Properties"), accessFlags := 10, slot := 11, constantValue := 0 }, { name := "lineSeparator", type := (.object "java/lang/String"), accessFlags := 10, slot := 12, constantValue := 0 }, { name := "bootLayer", type := (.object "java/lang/ModuleLayer"), accessFlags := 8, slot := 13, constantValue := 0 }]
  methods := #[k14m0, k14m1]
  instanceTypes := #[]
  staticTypes := #[(.object "java/io/InputStream"), (.object "java/io/PrintStream"), (.object "java/io/PrintStream"), (.object "java/io/InputStream"), .int, .int, .int, (.object "java/lang/SecurityManager"), (.object "java/lang/String"), (.object "java/io/Console"), (.object "java/io/PrintStream"), (.object "java/util/Properties"), (.object "java/lang/String"), (.object "java/lang/ModuleLayer")]
  resolved := Array.replicate 834 none
  statics := none }

def pool15 : Array CpInfo := pool [(2, .class_ 4), (1, u "java/lang/Object"), (0, u "<init>"), (0, u "()V"), (5, u "([IIII)V"), (0, .methodref 14 15), (0, .class_ 16), (0, .nameAndType 17 18), (0, u "java/util/Arrays"), (0, u "rangeCheck"), (0, u "(III)V"), (55, .class_ 76), (1, u "java/util/Arrays$NaturalOrder"), (36, .class_ 115), (1, u "java/util/Arrays$LegacyMergeSort"), (1, u "Z"), (257, .class_ 376), (0, u "java/util/Arrays$ArrayList"), (68, u "$assertionsDisabled"), (269, u "MIN_ARRAY_SORT_GRAN"), (0, u "I"), (2, u "INSERTIONSORT_THRESHOLD"), (120, u "fill"), (134, .class_ 976), (0, u "java/util/Arrays$ArrayItr")] 52

def k15m0 : Method := { name := "<init>", desc := "()V", sig := { parameters := [], returnType := none }, accessFlags := 2, code := none }
def k15c1 : Code := { maxStack := 4, maxLocals := 3, code := jdk_65_method_30_code, exceptionTable := #[], attributes := #[] }
def k15m1 : Method := { name := "rangeCheck", desc := "(III)V", sig := { parameters := [.int, .int, .int], returnType := none }, accessFlags := 8, code := some k15c1 }
def k15c2 : Code := { maxStack := 3, maxLocals := 5, code := jdk_65_method_104_code, exceptionTable := #[], attributes := #[] }
def k15m2 : Method := { name := "fill", desc := "([IIII)V", sig := { parameters := [(.array .int), .int, .int, .int], returnType := none }, accessFlags := 9, code := some k15c2 }
/-- java/util/Arrays -/
def k15 : Class := { plain "java/util/Arrays" (some 0) with
  accessFlags := 49
  interfaces := #[]
  cf := some (fileOf pool15 14 #[.nestMembers #[975, 375, 113, 74]] #[{ accessFlags := 2, nameIndex := 5, descriptorIndex := 6, attributes := #[] }, { accessFlags := 8, nameIndex := 17, descriptorIndex := 18, attributes := #[] }, { accessFlags := 9, nameIndex := 840, descriptorIndex := 12, attributes := #[] }] 49 2 #[] #[{ accessFlags := 26, nameIndex := 715, descriptorIndex := 716, attributes := #[] }, { accessFlags := 26, nameIndex := 719, descriptorIndex := 716, attributes := #[] }, { accessFlags := 4120, nameIndex := 445, descriptorIndex := 117, attributes := #[] }])
  fields := #[{ name := "MIN_ARRAY_SORT_GRAN", type := .int, accessFlags := 26, slot := 0, constantValue := 0 }, { name := "INSERTIONSORT_THRESHOLD", type := .int, accessFlags := 26, slot := 1, constantValue := 0 }, { name := "$assertionsDisabled", type := .boolean, accessFlags := 4120, slot := 2, constantValue := 0 }]
  methods := #[k15m0, k15m1, k15m2]
  instanceTypes := #[]
  staticTypes := #[.int, .int, .boolean]
  resolved := Array.replicate 1029 none
  statics := none }

def pool16 : Array CpInfo := pool [(1, u "java/lang/Cloneable"), (0, .class_ 1), (0, u "java/lang/Object"), (0, .class_ 3)] 3

/-- java/lang/Cloneable -/
def k16 : Class := { plain "java/lang/Cloneable" (some 0) with
  accessFlags := 1537
  interfaces := #[]
  cf := some (fileOf pool16 2 #[] #[] 1537 4 #[] #[])
  fields := #[]
  methods := #[]
  instanceTypes := #[]
  staticTypes := #[]
  resolved := Array.replicate 8 none
  statics := none }

/-- the primitive byte -/
def k17 : Class := { plain "byte" none with kind := .primitive 'B', accessFlags := 0x411 }
/-- [B -/
def k18 : Class := { plain "[B" (some 0) with kind := .array 17 .byte, interfaces := #[16, 8], accessFlags := 1041 }

/-- the primitive double -/
def k19 : Class := { plain "double" none with kind := .primitive 'D', accessFlags := 0x411 }
/-- [D -/
def k20 : Class := { plain "[D" (some 0) with kind := .array 19 .double, interfaces := #[16, 8], accessFlags := 1041 }

/-- the primitive int -/
def k21 : Class := { plain "int" none with kind := .primitive 'I', accessFlags := 0x411 }
/-- [I -/
def k22 : Class := { plain "[I" (some 0) with kind := .array 21 .int, interfaces := #[16, 8], accessFlags := 1041 }

/-- [Lkithrank/Graph$Page; -/
def k23 : Class := { plain "[Lkithrank/Graph$Page;" (some 0) with kind := .array 4 (.object "kithrank/Graph$Page"), interfaces := #[16, 8], accessFlags := 1041 }

/-- [[D -/
def k24 : Class := { plain "[[D" (some 0) with kind := .array 20 (.array .double), interfaces := #[16, 8], accessFlags := 1041 }

/-- [[I -/
def k25 : Class := { plain "[[I" (some 0) with kind := .array 22 (.array .int), interfaces := #[16, 8], accessFlags := 1041 }

def heap : Heap := #[{ cls := 7, slots := #[.int 0, .int 0, .int 0, .int 0, .int 0, .int 16368], vm := .statics 7 }]
def classes : Array Class := #[k0, k1, k2, k3, k4, k5, k6, k7, k8, k9, k10, k11, k12, k13, k14, k15, k16, k17, k18, k19, k20, k21, k22, k23, k24, k25]
def interned : List (Array UInt16 × Addr) := []
def slotsUsed : Nat := 6
def theMethod : MethodId := ⟨1, 2⟩
def args0 : Array Value := #[.int 0, .int 0, .int 0, .int 0, .int 0, .int 0]
def aboutOver (below : List Frame) : State where
  vm := { classes := classes, interned := interned.toArray }
  heap := heap
  slotsUsed := slotsUsed
  threads := #[{ frames := .invoking theMethod args0 :: below }]
def below0 : List Frame := [.native { method := ⟨0, 0⟩, args := #[] }]
def about1 : State := aboutOver below0
def p0 : Program := .bare "" "" ""
def e0 : Env := launch0.env 0 0 0
theorem w_frames : about1.frames = Frame.invoking theMethod args0 :: below0 := rfl
set_option maxRecDepth 65536 in
theorem w_args : argsFit about1.vm theMethod args0 = true := by decide +kernel
set_option maxRecDepth 65536 in
theorem w_heap : heapFits about1 = true := by decide +kernel
set_option maxRecDepth 65536 in
theorem w_runnable : about1.curStatus? = some .runnable := by decide +kernel
set_option maxRecDepth 65536 in
theorem w_alone : about1.alone = true := by decide +kernel
set_option maxRecDepth 65536 in
theorem w_named : about1.methodNamed? x = some theMethod := by decide +kernel
set_option maxRecDepth 65536 in
theorem w_hears : about1.hears theMethod below0 = true := by decide +kernel
set_option maxRecDepth 65536 in
theorem w_ripe : about1.ripe theMethod args0 below0 = true := by decide +kernel
theorem w_running : about1.status = .running := rfl
set_option maxRecDepth 65536 in
theorem w_room : about1.hasRoom e0.platform room_1 = true :=
  launch0.hasRoom_least _ room_1 (by decide +kernel) (by decide +kernel) (by decide +kernel) (by decide +kernel) (by decide +kernel) (by decide +kernel)
theorem allAtoms_all (ts : List Jvm.Cond) (a : Array Jvm.Value) (st : Jvm.State) : (allAtoms ts).before a st = ts.all (fun c => c.before a st) := by
  induction ts with
  | nil => rfl
  | cons c t ih =>
    show (Jvm.Cond.and c (allAtoms t)).before a st = _
    rw [Jvm.Cond.before_and, ih, List.all_cons]
def words1 : List Jvm.Cond := Jvm.Cond.code x code maxLocals ret :: tables_1
/-- a 'code' word, met by the world's own term for the bytes: nothing is compared byte by byte -/
theorem code_word {y : MethodName} {bytes : ByteArray} {mx : Nat} {rt : Option FieldType} {a : Array Value} {s : State} {m : MethodId} {meth : Method} {c : Code} (h1 : s.methodNamed? y = some m) (h2 : s.vm.method? m = some meth) (h3 : meth.code = some c) (h4 : c.code = bytes)
    (h5 : (c.maxLocals == mx && c.exceptionTable.isEmpty && decide (c.maxStack ≤ mostOperands) && decide (meth.sig.returnType = rt) && !meth.locks && decide (parseMethodDescriptor y.desc = some meth.sig)) = true) : (Jvm.Cond.code y bytes mx rt).before a s = true := by
  simp only [Bool.and_eq_true, beq_iff_eq, Bool.not_eq_true', decide_eq_true_eq] at h5
  obtain ⟨⟨⟨⟨⟨g1, g2⟩, g3⟩, g4⟩, g5⟩, g6⟩ := h5
  simp [Cond.before, Cond.holds, Cond.value, h1, h2, h3, h4, g1, g2, g3, g4, g5, g6]
def isCode : Jvm.Cond → Bool
  | .code _ _ _ _ => true
  | _ => false
theorem all_split {L : List Jvm.Cond} {P : Jvm.Cond → Bool} (h1 : L.all (fun c => isCode c || P c) = true) (h2 : ∀ c ∈ L.filter isCode, P c = true) : L.all P = true := by
  refine List.all_eq_true.mpr fun c hc => ?_
  have h := List.all_eq_true.mp h1 c hc
  rcases Bool.eq_false_or_eq_true (isCode c) with hi | hi
  · exact h2 c (List.mem_filter.mpr ⟨hc, hi⟩)
  · simpa [hi] using h
set_option maxRecDepth 65536 in
theorem w_c0 : (Jvm.Cond.code x code maxLocals ret).before args0 about1 = true := code_word (m := ⟨1, 2⟩) (meth := k1m2) (c := k1c2) (by decide +kernel) rfl rfl rfl (by decide +kernel)
set_option maxRecDepth 65536 in
theorem w_c1 : (Jvm.Cond.code ({ cls := "kithrank/Graph$Builder", name := "<init>", desc := "([I)V" } : Jvm.MethodName) prog_63_method_1_code (7 : Nat) (Option.none : Option Jvm.ClassFile.FieldType)).before args0 about1 = true := code_word (m := ⟨2, 0⟩) (meth := k2m0) (c := k2c0) (by decide +kernel) rfl rfl rfl (by decide +kernel)
set_option maxRecDepth 65536 in
theorem w_c2 : (Jvm.Cond.code ({ cls := "java/lang/Object", name := "<init>", desc := "()V" } : Jvm.MethodName) object_method_1_code (1 : Nat) (Option.none : Option Jvm.ClassFile.FieldType)).before args0 about1 = true := code_word (m := ⟨0, 0⟩) (meth := k0m0) (c := k0c0) (by decide +kernel) rfl rfl rfl (by decide +kernel)
set_option maxRecDepth 65536 in
theorem w_c3 : (Jvm.Cond.code ({ cls := "java/lang/Math", name := "min", desc := "(II)I" } : Jvm.MethodName) jdk_29_method_69_code (2 : Nat) (Option.some Jvm.ClassFile.FieldType.int)).before args0 about1 = true := code_word (m := ⟨5, 2⟩) (meth := k5m2) (c := k5c2) (by decide +kernel) rfl rfl rfl (by decide +kernel)
set_option maxRecDepth 65536 in
theorem w_c4 : (Jvm.Cond.code ({ cls := "kithrank/Graph$Page", name := "<init>", desc := "([I[I[D[Lkithrank/Graph$OwnEdges;)V" } : Jvm.MethodName) prog_69_method_1_code (5 : Nat) (Option.none : Option Jvm.ClassFile.FieldType)).before args0 about1 = true := code_word (m := ⟨4, 0⟩) (meth := k4m0) (c := k4c0) (by decide +kernel) rfl rfl rfl (by decide +kernel)
set_option maxRecDepth 65536 in
theorem w_c5 : (Jvm.Cond.code ({ cls := "java/lang/Record", name := "<init>", desc := "()V" } : Jvm.MethodName) jdk_30_method_1_code (1 : Nat) (Option.none : Option Jvm.ClassFile.FieldType)).before args0 about1 = true := code_word (m := ⟨3, 0⟩) (meth := k3m0) (c := k3c0) (by decide +kernel) rfl rfl rfl (by decide +kernel)
set_option maxRecDepth 65536 in
theorem w_c6 : (Jvm.Cond.code ({ cls := "kithrank/Graph$Builder", name := "add", desc := "(IID)V" } : Jvm.MethodName) prog_63_method_2_code (9 : Nat) (Option.none : Option Jvm.ClassFile.FieldType)).before args0 about1 = true := code_word (m := ⟨2, 1⟩) (meth := k2m1) (c := k2c1) (by decide +kernel) rfl rfl rfl (by decide +kernel)
set_option maxRecDepth 65536 in
theorem w_c7 : (Jvm.Cond.code ({ cls := "kithrank/Graph$Builder", name := "build", desc := "()Lkithrank/Graph;" } : Jvm.MethodName) prog_63_method_3_code (10 : Nat) (Option.some (Jvm.ClassFile.FieldType.object "kithrank/Graph"))).before args0 about1 = true := code_word (m := ⟨2, 2⟩) (meth := k2m2) (c := k2c2) (by decide +kernel) rfl rfl rfl (by decide +kernel)
set_option maxRecDepth 65536 in
theorem w_c8 : (Jvm.Cond.code ({ cls := "kithrank/Graph$Page", name := "users", desc := "()I" } : Jvm.MethodName) prog_69_method_2_code (1 : Nat) (Option.some Jvm.ClassFile.FieldType.int)).before args0 about1 = true := code_word (m := ⟨4, 1⟩) (meth := k4m1) (c := k4c1) (by decide +kernel) rfl rfl rfl (by decide +kernel)
set_option maxRecDepth 65536 in
theorem w_c9 : (Jvm.Cond.code ({ cls := "java/lang/Math", name := "max", desc := "(II)I" } : Jvm.MethodName) jdk_29_method_65_code (2 : Nat) (Option.some Jvm.ClassFile.FieldType.int)).before args0 about1 = true := code_word (m := ⟨5, 1⟩) (meth := k5m1) (c := k5c1) (by decide +kernel) rfl rfl rfl (by decide +kernel)
set_option maxRecDepth 65536 in
theorem w_c10 : (Jvm.Cond.code ({ cls := "kithrank/Graph$ClassSort", name := "<init>", desc := "(I)V" } : Jvm.MethodName) prog_64_method_1_code (2 : Nat) (Option.none : Option Jvm.ClassFile.FieldType)).before args0 about1 = true := code_word (m := ⟨6, 0⟩) (meth := k6m0) (c := k6c0) (by decide +kernel) rfl rfl rfl (by decide +kernel)
set_option maxRecDepth 65536 in
theorem w_c11 : (Jvm.Cond.code ({ cls := "kithrank/Graph$ClassSort", name := "sort", desc := "([I[DII)V" } : Jvm.MethodName) prog_64_method_2_code (9 : Nat) (Option.none : Option Jvm.ClassFile.FieldType)).before args0 about1 = true := code_word (m := ⟨6, 1⟩) (meth := k6m1) (c := k6c1) (by decide +kernel) rfl rfl rfl (by decide +kernel)
set_option maxRecDepth 65536 in
theorem w_c12 : (Jvm.Cond.code ({ cls := "kithrank/Graph", name := "weightClass", desc := "(D)I" } : Jvm.MethodName) prog_62_method_6_code (2 : Nat) (Option.some Jvm.ClassFile.FieldType.int)).before args0 about1 = true := code_word (m := ⟨7, 3⟩) (meth := k7m3) (c := k7c3) (by decide +kernel) rfl rfl rfl (by decide +kernel)
set_option maxRecDepth 65536 in
theorem w_c13 : (Jvm.Cond.code ({ cls := "java/util/Arrays", name := "fill", desc := "([IIII)V" } : Jvm.MethodName) jdk_65_method_104_code (5 : Nat) (Option.none : Option Jvm.ClassFile.FieldType)).before args0 about1 = true := code_word (m := ⟨15, 2⟩) (meth := k15m2) (c := k15c2) (by decide +kernel) rfl rfl rfl (by decide +kernel)
set_option maxRecDepth 65536 in
theorem w_c14 : (Jvm.Cond.code ({ cls := "java/util/Arrays", name := "rangeCheck", desc := "(III)V" } : Jvm.MethodName) jdk_65_method_30_code (3 : Nat) (Option.none : Option Jvm.ClassFile.FieldType)).before args0 about1 = true := code_word (m := ⟨15, 1⟩) (meth := k15m1) (c := k15c1) (by decide +kernel) rfl rfl rfl (by decide +kernel)
set_option maxRecDepth 65536 in
theorem w_c15 : (Jvm.Cond.code ({ cls := "kithrank/Graph", name := "lightEntries", desc := "([D)J" } : Jvm.MethodName) prog_62_method_20_code (8 : Nat) (Option.some Jvm.ClassFile.FieldType.long)).before args0 about1 = true := code_word (m := ⟨7, 4⟩) (meth := k7m4) (c := k7c4) (by decide +kernel) rfl rfl rfl (by decide +kernel)
set_option maxRecDepth 65536 in
theorem w_c16 : (Jvm.Cond.code ({ cls := "kithrank/Graph", name := "<init>", desc := "([Lkithrank/Graph$Page;IIJ)V" } : Jvm.MethodName) prog_62_method_2_code (7 : Nat) (Option.none : Option Jvm.ClassFile.FieldType)).before args0 about1 = true := code_word (m := ⟨7, 1⟩) (meth := k7m1) (c := k7c1) (by decide +kernel) rfl rfl rfl (by decide +kernel)
set_option maxRecDepth 65536 in
theorem w_c17 : (Jvm.Cond.code ({ cls := "kithrank/Graph", name := "apartOf", desc := "([Lkithrank/Graph$Page;)[[Lkithrank/Graph$OwnEdges;" } : Jvm.MethodName) prog_62_method_3_code (3 : Nat) (Option.some (Jvm.ClassFile.FieldType.array (Jvm.ClassFile.FieldType.array (Jvm.ClassFile.FieldType.object "kithrank/Graph$OwnEdges"))))).before args0 about1 = true := code_word (m := ⟨7, 2⟩) (meth := k7m2) (c := k7c2) (by decide +kernel) rfl rfl rfl (by decide +kernel)
set_option maxRecDepth 65536 in
theorem w_c18 : (Jvm.Cond.code ({ cls := "kithrank/Graph$Page", name := "apart", desc := "()[Lkithrank/Graph$OwnEdges;" } : Jvm.MethodName) prog_69_method_12_code (1 : Nat) (Option.some (Jvm.ClassFile.FieldType.array (Jvm.ClassFile.FieldType.object "kithrank/Graph$OwnEdges")))).before args0 about1 = true := code_word (m := ⟨4, 5⟩) (meth := k4m5) (c := k4c5) (by decide +kernel) rfl rfl rfl (by decide +kernel)
set_option maxRecDepth 65536 in
theorem w_c19 : (Jvm.Cond.code ({ cls := "kithrank/Graph", name := "<init>", desc := "([[I[[I[[D[[Lkithrank/Graph$OwnEdges;IIJ)V" } : Jvm.MethodName) prog_62_method_1_code (9 : Nat) (Option.none : Option Jvm.ClassFile.FieldType)).before args0 about1 = true := code_word (m := ⟨7, 0⟩) (meth := k7m0) (c := k7c0) (by decide +kernel) rfl rfl rfl (by decide +kernel)
set_option maxRecDepth 65536 in
theorem w_c20 : (Jvm.Cond.code ({ cls := "kithrank/Graph$Page", name := "start", desc := "()[I" } : Jvm.MethodName) prog_69_method_9_code (1 : Nat) (Option.some (Jvm.ClassFile.FieldType.array Jvm.ClassFile.FieldType.int))).before args0 about1 = true := code_word (m := ⟨4, 2⟩) (meth := k4m2) (c := k4c2) (by decide +kernel) rfl rfl rfl (by decide +kernel)
set_option maxRecDepth 65536 in
theorem w_c21 : (Jvm.Cond.code ({ cls := "kithrank/Graph$Page", name := "target", desc := "()[I" } : Jvm.MethodName) prog_69_method_10_code (1 : Nat) (Option.some (Jvm.ClassFile.FieldType.array Jvm.ClassFile.FieldType.int))).before args0 about1 = true := code_word (m := ⟨4, 3⟩) (meth := k4m3) (c := k4c3) (by decide +kernel) rfl rfl rfl (by decide +kernel)
set_option maxRecDepth 65536 in
theorem w_c22 : (Jvm.Cond.code ({ cls := "kithrank/Graph$Page", name := "weight", desc := "()[D" } : Jvm.MethodName) prog_69_method_11_code (1 : Nat) (Option.some (Jvm.ClassFile.FieldType.array Jvm.ClassFile.FieldType.double))).before args0 about1 = true := code_word (m := ⟨4, 4⟩) (meth := k4m4) (c := k4c4) (by decide +kernel) rfl rfl rfl (by decide +kernel)
set_option maxRecDepth 65536 in
theorem w_c23 : (Jvm.Cond.code ({ cls := "kithrank/Graph", name := "first", desc := "(I)I" } : Jvm.MethodName) prog_62_method_26_code (2 : Nat) (Option.some Jvm.ClassFile.FieldType.int)).before args0 about1 = true := code_word (m := ⟨7, 5⟩) (meth := k7m5) (c := k7c5) (by decide +kernel) rfl rfl rfl (by decide +kernel)
set_option maxRecDepth 65536 in
theorem w_c24 : (Jvm.Cond.code ({ cls := "kithrank/Graph", name := "ownEdges", desc := "(I)Lkithrank/Graph$OwnEdges;" } : Jvm.MethodName) prog_62_method_30_code (3 : Nat) (Option.some (Jvm.ClassFile.FieldType.object "kithrank/Graph$OwnEdges"))).before args0 about1 = true := code_word (m := ⟨7, 9⟩) (meth := k7m9) (c := k7c9) (by decide +kernel) rfl rfl rfl (by decide +kernel)
set_option maxRecDepth 65536 in
theorem w_c25 : (Jvm.Cond.code ({ cls := "kithrank/Graph", name := "end", desc := "(I)I" } : Jvm.MethodName) prog_62_method_27_code (3 : Nat) (Option.some Jvm.ClassFile.FieldType.int)).before args0 about1 = true := code_word (m := ⟨7, 6⟩) (meth := k7m6) (c := k7c6) (by decide +kernel) rfl rfl rfl (by decide +kernel)
set_option maxRecDepth 65536 in
theorem w_c26 : (Jvm.Cond.code ({ cls := "kithrank/Graph", name := "pageTargets", desc := "(I)[I" } : Jvm.MethodName) prog_62_method_28_code (3 : Nat) (Option.some (Jvm.ClassFile.FieldType.array Jvm.ClassFile.FieldType.int))).before args0 about1 = true := code_word (m := ⟨7, 7⟩) (meth := k7m7) (c := k7c7) (by decide +kernel) rfl rfl rfl (by decide +kernel)
set_option maxRecDepth 65536 in
theorem w_c27 : (Jvm.Cond.code ({ cls := "kithrank/Graph", name := "pageWeights", desc := "(I)[D" } : Jvm.MethodName) prog_62_method_29_code (3 : Nat) (Option.some (Jvm.ClassFile.FieldType.array Jvm.ClassFile.FieldType.double))).before args0 about1 = true := code_word (m := ⟨7, 8⟩) (meth := k7m8) (c := k7c8) (by decide +kernel) rfl rfl rfl (by decide +kernel)
set_option maxRecDepth 65536 in
theorem w_c28 : (Jvm.Cond.code ({ cls := "kithrank/BuilderAddPinLaw", name := "key", desc := "(I)I" } : Jvm.MethodName) method_2_code (1 : Nat) (Option.some Jvm.ClassFile.FieldType.int)).before args0 about1 = true := code_word (m := ⟨1, 1⟩) (meth := k1m1) (c := k1c1) (by decide +kernel) rfl rfl rfl (by decide +kernel)
def codes1 : List Jvm.Cond := [Jvm.Cond.code x code maxLocals ret, Jvm.Cond.code ({ cls := "kithrank/Graph$Builder", name := "<init>", desc := "([I)V" } : Jvm.MethodName) prog_63_method_1_code (7 : Nat) (Option.none : Option Jvm.ClassFile.FieldType), Jvm.Cond.code ({ cls := "java/lang/Object", name := "<init>", desc := "()V" } : Jvm.MethodName) object_method_1_code (1 : Nat) (Option.none : Option Jvm.ClassFile.FieldType), Jvm.Cond.code ({ cls := "java/lang/Math", name := "min", desc := "(II)I" } : Jvm.MethodName) jdk_29_method_69_code (2 : Nat) (Option.some Jvm.ClassFile.FieldType.int), Jvm.Cond.code ({ cls := "kithrank/Graph$Page", name := "<init>", desc := "([I[I[D[Lkithrank/Graph$OwnEdges;)V" } : Jvm.MethodName) prog_69_method_1_code (5 : Nat) (Option.none : Option Jvm.ClassFile.FieldType), Jvm.Cond.code ({ cls := "java/lang/Record", name := "<init>", desc := "()V" } : Jvm.MethodName) jdk_30_method_1_code (1 : Nat) (Option.none : Option Jvm.ClassFile.FieldType), Jvm.Cond.code ({ cls := "kithrank/Graph$Builder", name := "add", desc := "(IID)V" } : Jvm.MethodName) prog_63_method_2_code (9 : Nat) (Option.none : Option Jvm.ClassFile.FieldType), Jvm.Cond.code ({ cls := "kithrank/Graph$Builder", name := "build", desc := "()Lkithrank/Graph;" } : Jvm.MethodName) prog_63_method_3_code (10 : Nat) (Option.some (Jvm.ClassFile.FieldType.object "kithrank/Graph")), Jvm.Cond.code ({ cls := "kithrank/Graph$Page", name := "users", desc := "()I" } : Jvm.MethodName) prog_69_method_2_code (1 : Nat) (Option.some Jvm.ClassFile.FieldType.int), Jvm.Cond.code ({ cls := "java/lang/Math", name := "max", desc := "(II)I" } : Jvm.MethodName) jdk_29_method_65_code (2 : Nat) (Option.some Jvm.ClassFile.FieldType.int), Jvm.Cond.code ({ cls := "kithrank/Graph$ClassSort", name := "<init>", desc := "(I)V" } : Jvm.MethodName) prog_64_method_1_code (2 : Nat) (Option.none : Option Jvm.ClassFile.FieldType), Jvm.Cond.code ({ cls := "kithrank/Graph$ClassSort", name := "sort", desc := "([I[DII)V" } : Jvm.MethodName) prog_64_method_2_code (9 : Nat) (Option.none : Option Jvm.ClassFile.FieldType), Jvm.Cond.code ({ cls := "kithrank/Graph", name := "weightClass", desc := "(D)I" } : Jvm.MethodName) prog_62_method_6_code (2 : Nat) (Option.some Jvm.ClassFile.FieldType.int), Jvm.Cond.code ({ cls := "java/util/Arrays", name := "fill", desc := "([IIII)V" } : Jvm.MethodName) jdk_65_method_104_code (5 : Nat) (Option.none : Option Jvm.ClassFile.FieldType), Jvm.Cond.code ({ cls := "java/util/Arrays", name := "rangeCheck", desc := "(III)V" } : Jvm.MethodName) jdk_65_method_30_code (3 : Nat) (Option.none : Option Jvm.ClassFile.FieldType), Jvm.Cond.code ({ cls := "kithrank/Graph", name := "lightEntries", desc := "([D)J" } : Jvm.MethodName) prog_62_method_20_code (8 : Nat) (Option.some Jvm.ClassFile.FieldType.long), Jvm.Cond.code ({ cls := "kithrank/Graph", name := "<init>", desc := "([Lkithrank/Graph$Page;IIJ)V" } : Jvm.MethodName) prog_62_method_2_code (7 : Nat) (Option.none : Option Jvm.ClassFile.FieldType), Jvm.Cond.code ({ cls := "kithrank/Graph", name := "apartOf", desc := "([Lkithrank/Graph$Page;)[[Lkithrank/Graph$OwnEdges;" } : Jvm.MethodName) prog_62_method_3_code (3 : Nat) (Option.some (Jvm.ClassFile.FieldType.array (Jvm.ClassFile.FieldType.array (Jvm.ClassFile.FieldType.object "kithrank/Graph$OwnEdges")))), Jvm.Cond.code ({ cls := "kithrank/Graph$Page", name := "apart", desc := "()[Lkithrank/Graph$OwnEdges;" } : Jvm.MethodName) prog_69_method_12_code (1 : Nat) (Option.some (Jvm.ClassFile.FieldType.array (Jvm.ClassFile.FieldType.object "kithrank/Graph$OwnEdges"))), Jvm.Cond.code ({ cls := "kithrank/Graph", name := "<init>", desc := "([[I[[I[[D[[Lkithrank/Graph$OwnEdges;IIJ)V" } : Jvm.MethodName) prog_62_method_1_code (9 : Nat) (Option.none : Option Jvm.ClassFile.FieldType), Jvm.Cond.code ({ cls := "kithrank/Graph$Page", name := "start", desc := "()[I" } : Jvm.MethodName) prog_69_method_9_code (1 : Nat) (Option.some (Jvm.ClassFile.FieldType.array Jvm.ClassFile.FieldType.int)), Jvm.Cond.code ({ cls := "kithrank/Graph$Page", name := "target", desc := "()[I" } : Jvm.MethodName) prog_69_method_10_code (1 : Nat) (Option.some (Jvm.ClassFile.FieldType.array Jvm.ClassFile.FieldType.int)), Jvm.Cond.code ({ cls := "kithrank/Graph$Page", name := "weight", desc := "()[D" } : Jvm.MethodName) prog_69_method_11_code (1 : Nat) (Option.some (Jvm.ClassFile.FieldType.array Jvm.ClassFile.FieldType.double)), Jvm.Cond.code ({ cls := "kithrank/Graph", name := "first", desc := "(I)I" } : Jvm.MethodName) prog_62_method_26_code (2 : Nat) (Option.some Jvm.ClassFile.FieldType.int), Jvm.Cond.code ({ cls := "kithrank/Graph", name := "ownEdges", desc := "(I)Lkithrank/Graph$OwnEdges;" } : Jvm.MethodName) prog_62_method_30_code (3 : Nat) (Option.some (Jvm.ClassFile.FieldType.object "kithrank/Graph$OwnEdges")), Jvm.Cond.code ({ cls := "kithrank/Graph", name := "end", desc := "(I)I" } : Jvm.MethodName) prog_62_method_27_code (3 : Nat) (Option.some Jvm.ClassFile.FieldType.int), Jvm.Cond.code ({ cls := "kithrank/Graph", name := "pageTargets", desc := "(I)[I" } : Jvm.MethodName) prog_62_method_28_code (3 : Nat) (Option.some (Jvm.ClassFile.FieldType.array Jvm.ClassFile.FieldType.int)), Jvm.Cond.code ({ cls := "kithrank/Graph", name := "pageWeights", desc := "(I)[D" } : Jvm.MethodName) prog_62_method_29_code (3 : Nat) (Option.some (Jvm.ClassFile.FieldType.array Jvm.ClassFile.FieldType.double)), Jvm.Cond.code ({ cls := "kithrank/BuilderAddPinLaw", name := "key", desc := "(I)I" } : Jvm.MethodName) method_2_code (1 : Nat) (Option.some Jvm.ClassFile.FieldType.int)]
set_option maxRecDepth 65536 in
theorem codes_eq : words1.filter isCode = codes1 := rfl
theorem w_codes : ∀ c ∈ words1.filter isCode, c.before args0 about1 = true := by
  rw [codes_eq]
  intro c hc
  simp only [codes1, List.mem_cons, List.not_mem_nil, or_false] at hc
  rcases hc with rfl | rfl | rfl | rfl | rfl | rfl | rfl | rfl | rfl | rfl | rfl | rfl | rfl | rfl | rfl | rfl | rfl | rfl | rfl | rfl | rfl | rfl | rfl | rfl | rfl | rfl | rfl | rfl | rfl
  · exact w_c0
  · exact w_c1
  · exact w_c2
  · exact w_c3
  · exact w_c4
  · exact w_c5
  · exact w_c6
  · exact w_c7
  · exact w_c8
  · exact w_c9
  · exact w_c10
  · exact w_c11
  · exact w_c12
  · exact w_c13
  · exact w_c14
  · exact w_c15
  · exact w_c16
  · exact w_c17
  · exact w_c18
  · exact w_c19
  · exact w_c20
  · exact w_c21
  · exact w_c22
  · exact w_c23
  · exact w_c24
  · exact w_c25
  · exact w_c26
  · exact w_c27
  · exact w_c28
set_option maxRecDepth 65536 in
theorem w_t1 : (words1.take 24).all (fun c => isCode c || c.before args0 about1) = true := by decide +kernel
set_option maxRecDepth 65536 in
theorem w_t2 : ((words1.drop 24).take 24).all (fun c => isCode c || c.before args0 about1) = true := by decide +kernel
set_option maxRecDepth 65536 in
theorem w_t3 : (((words1.drop 24).drop 24).take 24).all (fun c => isCode c || c.before args0 about1) = true := by decide +kernel
set_option maxRecDepth 65536 in
theorem w_t4 : ((((words1.drop 24).drop 24).drop 24).take 24).all (fun c => isCode c || c.before args0 about1) = true := by decide +kernel
set_option maxRecDepth 65536 in
theorem w_t5 : (((((words1.drop 24).drop 24).drop 24).drop 24).take 24).all (fun c => isCode c || c.before args0 about1) = true := by decide +kernel
set_option maxRecDepth 65536 in
theorem w_t6 : ((((((words1.drop 24).drop 24).drop 24).drop 24).drop 24).take 24).all (fun c => isCode c || c.before args0 about1) = true := by decide +kernel
set_option maxRecDepth 65536 in
theorem w_t7 : (((((((words1.drop 24).drop 24).drop 24).drop 24).drop 24).drop 24).take 24).all (fun c => isCode c || c.before args0 about1) = true := by decide +kernel
set_option maxRecDepth 65536 in
theorem w_t8 : (((((((words1.drop 24).drop 24).drop 24).drop 24).drop 24).drop 24).drop 24).all (fun c => isCode c || c.before args0 about1) = true := by decide +kernel
theorem w_tables : (allAtoms (Jvm.Cond.code x code maxLocals ret :: tables_1)).before args0 about1 = true := by
  rw [allAtoms_all]
  show words1.all (fun c => c.before args0 about1) = true
  refine all_split ?_ w_codes
  rw [← List.take_append_drop 24 words1, List.all_append, w_t1, ← List.take_append_drop 24 (words1.drop 24), List.all_append, w_t2, ← List.take_append_drop 24 ((words1.drop 24).drop 24), List.all_append, w_t3, ← List.take_append_drop 24 (((words1.drop 24).drop 24).drop 24), List.all_append, w_t4, ← List.take_append_drop 24 ((((words1.drop 24).drop 24).drop 24).drop 24), List.all_append, w_t5, ← List.take_append_drop 24 (((((words1.drop 24).drop 24).drop 24).drop 24).drop 24), List.all_append, w_t6, ← List.take_append_drop 24 ((((((words1.drop 24).drop 24).drop 24).drop 24).drop 24).drop 24), List.all_append, w_t7, w_t8]
  rfl
set_option maxRecDepth 65536 in
theorem w_case : (Jvm.Cond.and given_1 narrow_1).before args0 about1 = true := by decide +kernel
theorem w_applies : (headSpec (Jvm.Cond.code x code maxLocals ret :: tables_1) room_1).applies x e0.platform about1 = true :=
  (Spec.applies_iff w_frames).mpr ⟨w_running, w_runnable, w_alone, w_named, w_hears, w_ripe, w_room, w_tables⟩
theorem atStart : AtStart classFile x code maxLocals ret World_1 tables_1 room_1 Calls_1 rest_1 Pre_1 launch0 p0 e0 about1 theMethod args0 below0 :=
  ⟨lists_1, trivial, launch0.admits_env _ _ _, launch0.least_env, fairChoices_fair.cas, fairChoices_fair.clock, w_frames, w_args, w_heap, w_applies, trivial, trivial, w_case⟩
end start1
theorem witness_1 : WitnessClaimed_1 := ⟨start1.p0, start1.e0, start1.about1, start1.theMethod, start1.args0, start1.below0, start1.atStart⟩
end Jvm.Pilot.@@N@@
