import JvmDerived
import JvmDerived.Pilot.@@N@@Statement
import JvmDerived.Pilot.@@N@@Code
set_option linter.unusedVariables false
set_option linter.unusedSimpArgs false
namespace Jvm.Pilot.@@N@@
open Jvm Jvm.ClassFile Sem Op Lib Jvm.Free Jvm.Stand Jvm.LawKit Jvm.RoadKit Bundle Jvm.Pilot.@@N@@.Jvm.D
section Own
variable {p : Program} {l : Launch} {e : Env} {R : Room} {s : State} {m : MethodId} {args : Array Value} {below : List Frame} {meth : Method} {c : Code} {T : State} {locs : List Loc} {cells slots : Nat} {Q : Option Value → Heap → List Loc → Prop} {k n : Nat}
/-- from this state the body comes to an end that meets Φ -/
def own_Go (tb : Tables) (e : Env) (below : List Frame) (Φ : Outcome → State → Prop) (S : State) : Prop :=
  ∃ U o, Steps tb e below S U ∧ U.status = .running ∧ Ended U below o ∧ Φ o U
/-- it returned; what it leaves meets Q; nothing else moved -/
def own_F (s : State) (Q : Option Value → Heap → List Loc → Prop) (k n : Nat) (o : Outcome) (U : State) : Prop := ∃ v L, o = .returned v ∧ Q v U.heap L ∧ FrameEnd s o U L k n
theorem own_st {tb : Tables} {Φ : Outcome → State → Prop} {S S' : State} (h : ∀ t, Steps tb e below S' t → Steps tb e below S t) (g : own_Go tb e below Φ S') : own_Go tb e below Φ S := by
  obtain ⟨U, o, h1, r⟩ := g
  exact ⟨U, o, h _ h1, r⟩
theorem own_tr {tb : Tables} {Φ : Outcome → State → Prop} {S S' : State} (h : Steps tb e below S S') (g : own_Go tb e below Φ S') : own_Go tb e below Φ S := by
  obtain ⟨U, o, h1, r⟩ := g
  exact ⟨U, o, h.trans h1, r⟩
theorem own_end (X : Stand p l e R s m args below meth c T locs cells slots) (v : Option Value) (hv : meth.sig.returnType = none → v = none) (hlk : meth.locks = false) (hq : Q v T.heap locs) (hk : cells ≤ k) (hn : slots ≤ n) {S : State}
    (hs : ∀ fs, (∀ (f : JFrame) (acts : List Action), f.method = m → f.locked = none → f.entered = [] → (doReturn e (T.setTop f) acts v).1 = T.setFrames fs) → Steps p.tables e below S (T.setFrames fs)) : own_Go p.tables e below (own_F s Q k n) S := by
  obtain ⟨fs, hr, hrun, hended, hW, hsame⟩ := X.leave (v := v) hv hlk
  exact ⟨_, _, hs fs hr, hrun, hended, v, locs, rfl, hq, ⟨_, rfl⟩, hW, hsame.mono hk hn⟩
theorem own_retN (X : Stand p l e R s m args below meth c T locs cells slots) (hx : p.tables.exec = Jvm.exec) {pc : Nat} {Ls : Array Slot} {z : Int32} {t : FieldType} {rest : List Value} (hret : meth.sig.returnType = some t) (ht : t = .boolean ∨ t = .byte ∨ t = .char ∨ t = .short) (hlk : meth.locks = false)
    (hd : decode c.code pc = .ok (.ireturn, 1)) (hq : Q (some (.int (nar t z))) T.heap locs) (hk : cells ≤ k) (hn : slots ≤ n) : own_Go p.tables e below (own_F s Q k n) (T.setTop (mkF m pc Ls (.int z :: rest))) :=
  own_end X _ (fun h => by rw [hret] at h; cases h) hlk hq hk hn fun fs hr => retN X hx hret ht hd hr
theorem own_retI (X : Stand p l e R s m args below meth c T locs cells slots) (hx : p.tables.exec = Jvm.exec) {pc : Nat} {Ls : Array Slot} {z : Int32} {rest : List Value} (hret : meth.sig.returnType = some .int) (hlk : meth.locks = false)
    (hd : decode c.code pc = .ok (.ireturn, 1)) (hq : Q (some (.int z)) T.heap locs) (hk : cells ≤ k) (hn : slots ≤ n) : own_Go p.tables e below (own_F s Q k n) (T.setTop (mkF m pc Ls (.int z :: rest))) :=
  own_end X _ (fun h => by rw [hret] at h; cases h) hlk hq hk hn fun fs hr => retOut X hx hret rfl (Or.inl ⟨rfl, Or.inl rfl, z, rfl⟩) hd hr
theorem own_retL (X : Stand p l e R s m args below meth c T locs cells slots) (hx : p.tables.exec = Jvm.exec) {pc : Nat} {Ls : Array Slot} {z : Int64} {rest : List Value} (hret : meth.sig.returnType = some .long) (hlk : meth.locks = false)
    (hd : decode c.code pc = .ok (.lreturn, 1)) (hq : Q (some (.long z)) T.heap locs) (hk : cells ≤ k) (hn : slots ≤ n) : own_Go p.tables e below (own_F s Q k n) (T.setTop (mkF m pc Ls (.long z :: rest))) :=
  own_end X _ (fun h => by rw [hret] at h; cases h) hlk hq hk hn fun fs hr => retOut X hx hret rfl (Or.inr (Or.inl ⟨rfl, rfl, z, rfl⟩)) hd hr
theorem own_retA (X : Stand p l e R s m args below meth c T locs cells slots) (hx : p.tables.exec = Jvm.exec) {pc : Nat} {Ls : Array Slot} {w : Value} {t : FieldType} {rest : List Value} (hret : meth.sig.returnType = some t) (ht : t.isReference = true) (hw : w.isRef = true) (hnw : narrow t w = w) (hlk : meth.locks = false)
    (hd : decode c.code pc = .ok (.areturn, 1)) (hq : Q (some w) T.heap locs) (hk : cells ≤ k) (hn : slots ≤ n) : own_Go p.tables e below (own_F s Q k n) (T.setTop (mkF m pc Ls (w :: rest))) :=
  own_end X _ (fun h => by rw [hret] at h; cases h) hlk hq hk hn fun fs hr => retOut X hx hret hnw (Or.inr (Or.inr (Or.inr (Or.inr ⟨rfl, ht, hw⟩)))) hd hr
theorem own_retV (X : Stand p l e R s m args below meth c T locs cells slots) (hx : p.tables.exec = Jvm.exec) {pc : Nat} {Ls : Array Slot} (hret : meth.sig.returnType = none) (hlk : meth.locks = false)
    (hd : decode c.code pc = .ok (.return_, 1)) (hq : Q none T.heap locs) (hk : cells ≤ k) (hn : slots ≤ n) : own_Go p.tables e below (own_F s Q k n) (T.setTop (mkF m pc Ls [])) :=
  own_end X _ (fun _ => rfl) hlk hq hk hn fun fs hr => X.returnOut hx hret hd hr
theorem own_body {y : MethodName} {cd : ByteArray} {mx : Nat} {rt : Option FieldType} {ws : List Jvm.Cond} {rm : Room} {Z : State} {h0 : Heap} {as : Array Value} (hp : plainFor y = true)
    (go : ∀ (p : Program) (e : Env) (s : State) (m : MethodId) (below : List Frame) (meth : Method) (c : Code) (s₁ : State), p.tables.exec = Jvm.exec → c.code = cd → c.maxLocals = mx → s.vm.findClass y.cls = some m.cls → meth.name = y.name → meth.sig.returnType = rt → meth.locks = false → Z.Warmed39 s.vm →
      Stand p l e rm s m as below meth c s₁ [] 0 0 → s₁.heap = h0 → own_Go p.tables e below (own_F s Q rm.cells rm.slots) (s₁.setTop (entryFrame m as mx))) :
    MetFree l y (head1 (Jvm.Cond.code y cd mx rt :: ws) rm) (fun a U => a = as ∧ Z.Warmed39 U.vm ∧ U.heap = h0) (fun _ _ _ _ _ => True) (fun _ U o U' => ∃ v L, o = .returned v ∧ Q v U'.heap L ∧ FrameEnd U o U' L rm.cells rm.slots) := by
  refine MetFree.of_bodySF hp hisR ?_
  intro p e s m args below meth c s₁ Bd hml0 hP hK
  obtain ⟨rfl, hZ, hh⟩ := hP
  exact go p e s m below meth c s₁ Bd.exec Bd.bytes hml0 (findClass_of_methodNamed Bd.named) (name_of_methodNamed Bd.named Bd.method).1 Bd.returns Bd.notSynchronized hZ (Stand.of_body Bd) (by rw [← hh, Bd.state]; rfl)
end Own
theorem own_narb {P : Prop} [Decidable P] : nar .boolean (if P then (1 : Int32) else (0 : Int32)) = if P then (1 : Int32) else (0 : Int32) := by split <;> rfl
/-- an array by its length and what each place holds -/
def own_A (Z : State) (h : Heap) (a : Addr) (ty : FieldType) (n : Nat) (f : Nat → Value) : Prop := ∃ c : Cell, Arr Z h a c ty ∧ c.slots.size = n ∧ n < 2 ^ 31 ∧ ∀ j, j < n → c.slots[j]? = some (f j)
def own_up (f : Nat → Value) (i : Nat) (v : Value) : Nat → Value := fun j => if j = i then v else f j
def own_Ix (j : Int32) (i n : Nat) : Prop := ¬ j < 0 ∧ j.toNatClampNeg = i ∧ i < n
section Arrs
variable {Z : State} {h h' : Heap} {a b : Addr} {ty : FieldType} {n i : Nat} {f : Nat → Value} {v : Value} {sl : Nat} {ws : List Addr} {c : Cell} {j z : Int32}
theorem own_A.lt (F : own_A Z h a ty n f) : a < h.size := by obtain ⟨c, A, -⟩ := F; exact A.lt
theorem own_A.ext (F : own_A Z h a ty n f) (E : Ext h h') : own_A Z h' a ty n f := by obtain ⟨c, A, r⟩ := F; exact ⟨c, A.ext E, r⟩
theorem own_A.other (F : own_A Z h b ty n f) (W : Wr h h' a sl v) (q : b ≠ a) : own_A Z h' b ty n f := by obtain ⟨c, A, r⟩ := F; exact ⟨c, A.other W q, r⟩
theorem own_A.keep (F : own_A Z h a ty n f) (K : Keep h h' ws) (q : a ∉ ws) : own_A Z h' a ty n f := by obtain ⟨c, A, r⟩ := F; exact ⟨c, ⟨K.2.1 a c A.1 q, A.2⟩, r⟩
theorem own_clamp (z : Int32) : z.toNatClampNeg < 2 ^ 31 := by
  have := Int32.toInt_lt z
  simp only [Int32.toNatClampNeg]; omega
theorem own_A.new {k : ClassId} (A : Arr Z h a (newA k ty z) ty) (hz : z.toNatClampNeg = n) : own_A Z h a ty n (fun _ => defaultValue ty) := by
  refine ⟨_, A, by rw [sz_new, hz], by rw [← hz]; exact own_clamp z, fun j hj => ?_⟩
  simp [newA, hz, hj]
theorem own_ix (h1 : ¬ j < 0) (h2 : j.toNatClampNeg = i) (h3 : i < n) : own_Ix j i n := ⟨h1, h2, h3⟩
theorem own_in (S : c.slots.size = n) (h : own_Ix j i n) : ¬ (j < 0 ∨ c.slots.size ≤ j.toNatClampNeg) := by
  obtain ⟨h1, h2, h3⟩ := h
  rw [S, h2]
  exact fun q => q.elim h1 (fun r => absurd h3 (Nat.not_lt.mpr r))
theorem own_at (S : c.slots.size = n) (V : ∀ j, j < n → c.slots[j]? = some (f j)) (h : own_Ix j i n) (hv : f i = v) : c.slots[j.toNatClampNeg]? = some v := by
  obtain ⟨h1, h2, h3⟩ := h
  rw [h2, V i h3, hv]
theorem own_A.set (F : own_A Z h a ty n f) (hj : own_Ix j i n) (W : Wr h h' a j.toNatClampNeg v) : own_A Z h' a ty n (own_up f i v) := by
  obtain ⟨c, A, S, M, V⟩ := F
  obtain ⟨h1, h2, h3⟩ := hj
  rw [h2] at W
  refine ⟨c.setSlot i v, A.same W, by rw [sz_set]; exact S, M, fun j' hj' => ?_⟩
  show (c.slots.setIfInBounds i v)[j']? = _
  unfold own_up
  by_cases e : j' = i
  · subst e; rw [if_pos rfl]; simp [S, hj']
  · rw [if_neg e, Array.getElem?_setIfInBounds_ne (Ne.symm e)]; exact V j' hj'
theorem own_A.cong {g : Nat → Value} (F : own_A Z h a ty n f) (q : ∀ j, j < n → f j = g j) : own_A Z h a ty n g := by
  obtain ⟨c, A, S, M, V⟩ := F
  exact ⟨c, A, S, M, fun j hj => by rw [V j hj, q j hj]⟩
end Arrs
/-- a short array's values by a list -/
def own_V (vs : List Value) : Nat → Value := fun j => vs.getD j .null
theorem own_selP {Z s : State} {a0 args : Array Value} {y : MethodName} {n : Nat} (hZ : Z.Warmed39 s.vm) (wi : (Jvm.Cond.instantiable y.cls n).before a0 Z = true) (wp : (Jvm.Cond.privateMethod y).before a0 Z = true) (wm : (Jvm.Cond.instanceMethod y).before a0 Z = true)
    (hy : y.cls ≠ "java/lang/invoke/MethodHandle" ∧ y.cls ≠ "java/lang/invoke/VarHandle") : (Jvm.Cond.selects y.cls y y).before args s = true := by
  have w : (Jvm.Cond.instantiable y.cls n).before args s = true := mvT hZ wi
  obtain ⟨c, k, h1, h2, -, h4, -⟩ := Cond.instantiable_spec w
  exact selects_self_of_private h1 h2 (Bool.or_eq_false_iff.mp h4).1 (Cond.privateMethod_at (mvP hZ wp (args := #[]))) (mvT hZ wm) hy
section OwnW
variable {p : Program} {l : Launch} {e : Env} {R : Room} {s : State} {vm0 : Vm} {k0 : Nat} {m : MethodId} {args : Array Value} {below : List Frame} {meth : Method} {c : Code} {T : State} {locs : List Loc} {cells slots : Nat} {Q : Option Value → Heap → List Loc → Prop} {k n : Nat}
/-- as own_F, of a body that may load String constants -/
def own_FW (s : State) (Q : Option Value → Heap → List Loc → Prop) (k n : Nat) (o : Outcome) (U : State) : Prop := ∃ v L, o = .returned v ∧ Q v U.heap L ∧ ReturnedEndW s o U L k n
theorem own_endW (X : Stand p l e R (s.setVm vm0) m args below meth c T locs cells slots) (hS : s.Since vm0 k0) (hk0 : k0 ≤ T.heap.size) (v : Option Value) (hv : meth.sig.returnType = none → v = none) (hlk : meth.locks = false) (hq : Q v T.heap locs) (hk : cells ≤ k) (hn : slots ≤ n) {S : State}
    (hs : ∀ fs, (∀ (f : JFrame) (acts : List Action), f.method = m → f.locked = none → f.entered = [] → (doReturn e (T.setTop f) acts v).1 = T.setFrames fs) → Steps p.tables e below S (T.setFrames fs)) : own_Go p.tables e below (own_FW s Q k n) S := by
  obtain ⟨fs, hr, hrun, hended, hW, hsame⟩ := X.leave (v := v) hv hlk
  obtain ⟨h1, h2, h3⟩ := hS.ended (U := T.setFrames fs) hW hk0 hsame
  exact ⟨_, _, hs fs hr, hrun, hended, v, locs, rfl, hq, ⟨_, rfl⟩, h1, h2, h3.mono hk hn⟩
theorem own_retNW (X : Stand p l e R (s.setVm vm0) m args below meth c T locs cells slots) (hS : s.Since vm0 k0) (hk0 : k0 ≤ T.heap.size) (hx : p.tables.exec = Jvm.exec) {pc : Nat} {Ls : Array Slot} {z : Int32} {t : FieldType} {rest : List Value} (hret : meth.sig.returnType = some t) (ht : t = .boolean ∨ t = .byte ∨ t = .char ∨ t = .short) (hlk : meth.locks = false)
    (hd : decode c.code pc = .ok (.ireturn, 1)) (hq : Q (some (.int (nar t z))) T.heap locs) (hk : cells ≤ k) (hn : slots ≤ n) : own_Go p.tables e below (own_FW s Q k n) (T.setTop (mkF m pc Ls (.int z :: rest))) :=
  own_endW X hS hk0 _ (fun h => by rw [hret] at h; cases h) hlk hq hk hn fun fs hr => retN X hx hret ht hd hr
theorem own_retVW (X : Stand p l e R (s.setVm vm0) m args below meth c T locs cells slots) (hS : s.Since vm0 k0) (hk0 : k0 ≤ T.heap.size) (hx : p.tables.exec = Jvm.exec) {pc : Nat} {Ls : Array Slot} (hret : meth.sig.returnType = none) (hlk : meth.locks = false)
    (hd : decode c.code pc = .ok (.return_, 1)) (hq : Q none T.heap locs) (hk : cells ≤ k) (hn : slots ≤ n) : own_Go p.tables e below (own_FW s Q k n) (T.setTop (mkF m pc Ls [])) :=
  own_endW X hS hk0 _ (fun _ => rfl) hlk hq hk hn fun fs hr => X.returnOut hx hret hd hr
theorem own_bodyW {y : MethodName} {cd : ByteArray} {mx : Nat} {rt : Option FieldType} {ws : List Jvm.Cond} {rm : Room} {Z : State} {h0 : Heap} {as : Array Value} (hp : plainFor y = true)
    (go : ∀ (p : Program) (e : Env) (s : State) (m : MethodId) (below : List Frame) (meth : Method) (c : Code) (s₁ : State), p.tables.exec = Jvm.exec → c.code = cd → c.maxLocals = mx → s.vm.findClass y.cls = some m.cls → meth.name = y.name → meth.sig.returnType = rt → meth.locks = false → Z.Warmed39 s.vm →
      Stand p l e rm s m as below meth c s₁ [] 0 0 → s₁.heap = h0 → own_Go p.tables e below (own_FW s Q rm.cells rm.slots) (s₁.setTop (entryFrame m as mx))) :
    MetFree l y (head1 (Jvm.Cond.code y cd mx rt :: ws) rm) (fun a U => a = as ∧ Z.Warmed39 U.vm ∧ U.heap = h0) (fun _ _ _ _ _ => True) (fun _ U o U' => ∃ v L, o = .returned v ∧ Q v U'.heap L ∧ ReturnedEndW U o U' L rm.cells rm.slots) := by
  refine MetFree.of_bodySF hp hisR ?_
  intro p e s m args below meth c s₁ Bd hml0 hP hK
  obtain ⟨rfl, hZ, hh⟩ := hP
  exact go p e s m below meth c s₁ Bd.exec Bd.bytes hml0 (findClass_of_methodNamed Bd.named) (name_of_methodNamed Bd.named Bd.method).1 Bd.returns Bd.notSynchronized hZ (Stand.of_body Bd) (by rw [← hh, Bd.state]; rfl)
/-- as own_bodyW, from the case's own start -/
theorem own_bodyZ {y : MethodName} {cd : ByteArray} {mx : Nat} {rt : Option FieldType} {ws : List Jvm.Cond} {rm : Room} {Z : State} {as : Array Value} (hp : plainFor y = true)
    (go : ∀ (p : Program) (e : Env) (m : MethodId) (below : List Frame) (meth : Method) (c : Code) (s₁ : State), p.tables.exec = Jvm.exec → c.code = cd → c.maxLocals = mx → Z.vm.findClass y.cls = some m.cls → meth.name = y.name → meth.sig.returnType = rt → meth.locks = false →
      Stand p l e rm Z m as below meth c s₁ [] 0 0 → s₁.heap = Z.heap → own_Go p.tables e below (own_FW Z Q rm.cells rm.slots) (s₁.setTop (entryFrame m as mx))) :
    MetFree l y (head1 (Jvm.Cond.code y cd mx rt :: ws) rm) (fun a U => a = as ∧ U = Z) (fun _ _ _ _ _ => True) (fun _ U o U' => ∃ v L, o = .returned v ∧ Q v U'.heap L ∧ ReturnedEndW U o U' L rm.cells rm.slots) := by
  refine MetFree.of_bodySF hp hisR ?_
  intro p e s m args below meth c s₁ Bd hml0 hP hK
  obtain ⟨rfl, rfl⟩ := hP
  exact go p e m below meth c s₁ Bd.exec Bd.bytes hml0 (findClass_of_methodNamed Bd.named) (name_of_methodNamed Bd.named Bd.method).1 Bd.returns Bd.notSynchronized (Stand.of_body Bd) (by rw [Bd.state]; rfl)
end OwnW

theorem own_wS {Z : State} {a0 : Array Value} (hw : ∀ d ∈ tables_1, d.before a0 Z = true) : ∀ a ∈ Bundle.stringAtoms, a.before a0 Z = true := by
  intro d hd
  simp only [Bundle.stringAtoms, List.mem_cons, List.not_mem_nil, or_false] at hd
  rcases hd with rfl | rfl | rfl | rfl | rfl | rfl | rfl
  · exact (hw _ (List.mem_of_getElem? (i := 1) rfl))
  · exact (hw _ (List.mem_of_getElem? (i := 2) rfl))
  · exact (hw _ (List.mem_of_getElem? (i := 3) rfl))
  · exact (hw _ (List.mem_of_getElem? (i := 4) rfl))
  · exact (hw _ (List.mem_of_getElem? (i := 5) rfl))
  · exact (hw _ (List.mem_of_getElem? (i := 6) rfl))
  · exact (hw _ (List.mem_of_getElem? (i := 7) rfl))
def own_chr (l : List Int32) (i : Int32) : Int32 := (l.getD i.toNatClampNeg 0) &&& (255 : Int32)
def own_h3 (x : Int32) : Int32 := if x < (65 : Int32) then (-1 : Int32) else if (70 : Int32) < x then (-1 : Int32) else ((x - (65 : Int32)) + (10 : Int32))
def own_h2 (x : Int32) : Int32 := if x < (97 : Int32) then own_h3 x else if (102 : Int32) < x then own_h3 x else ((x - (97 : Int32)) + (10 : Int32))
def own_hex (x : Int32) : Int32 := if x < (48 : Int32) then own_h2 x else if (57 : Int32) < x then own_h2 x else (x - (48 : Int32))
theorem own_r0 {x : Int32} (h1 : 0 ≤ x.toInt) (h2 : x.toInt ≤ 15) : x = (0 : Int32) ∨ x = (1 : Int32) ∨ x = (2 : Int32) ∨ x = (3 : Int32) ∨ x = (4 : Int32) ∨ x = (5 : Int32) ∨ x = (6 : Int32) ∨ x = (7 : Int32) ∨ x = (8 : Int32) ∨ x = (9 : Int32) ∨ x = (10 : Int32) ∨ x = (11 : Int32) ∨ x = (12 : Int32) ∨ x = (13 : Int32) ∨ x = (14 : Int32) ∨ x = (15 : Int32) := by
  have e : ∀ k : Int32, x.toInt = k.toInt → x = k := fun k q => Int32.toInt_inj.mp q
  have c : x.toInt = 0 ∨ x.toInt = 1 ∨ x.toInt = 2 ∨ x.toInt = 3 ∨ x.toInt = 4 ∨ x.toInt = 5 ∨ x.toInt = 6 ∨ x.toInt = 7 ∨ x.toInt = 8 ∨ x.toInt = 9 ∨ x.toInt = 10 ∨ x.toInt = 11 ∨ x.toInt = 12 ∨ x.toInt = 13 ∨ x.toInt = 14 ∨ x.toInt = 15 := by omega
  rcases c with c | c | c | c | c | c | c | c | c | c | c | c | c | c | c | c
  · have q := e (0 : Int32) c; simp [q]
  · have q := e (1 : Int32) c; simp [q]
  · have q := e (2 : Int32) c; simp [q]
  · have q := e (3 : Int32) c; simp [q]
  · have q := e (4 : Int32) c; simp [q]
  · have q := e (5 : Int32) c; simp [q]
  · have q := e (6 : Int32) c; simp [q]
  · have q := e (7 : Int32) c; simp [q]
  · have q := e (8 : Int32) c; simp [q]
  · have q := e (9 : Int32) c; simp [q]
  · have q := e (10 : Int32) c; simp [q]
  · have q := e (11 : Int32) c; simp [q]
  · have q := e (12 : Int32) c; simp [q]
  · have q := e (13 : Int32) c; simp [q]
  · have q := e (14 : Int32) c; simp [q]
  · have q := e (15 : Int32) c; simp [q]
theorem own_r48 {x : Int32} (h1 : 48 ≤ x.toInt) (h2 : x.toInt ≤ 57) : x = (48 : Int32) ∨ x = (49 : Int32) ∨ x = (50 : Int32) ∨ x = (51 : Int32) ∨ x = (52 : Int32) ∨ x = (53 : Int32) ∨ x = (54 : Int32) ∨ x = (55 : Int32) ∨ x = (56 : Int32) ∨ x = (57 : Int32) := by
  have e : ∀ k : Int32, x.toInt = k.toInt → x = k := fun k q => Int32.toInt_inj.mp q
  have c : x.toInt = 48 ∨ x.toInt = 49 ∨ x.toInt = 50 ∨ x.toInt = 51 ∨ x.toInt = 52 ∨ x.toInt = 53 ∨ x.toInt = 54 ∨ x.toInt = 55 ∨ x.toInt = 56 ∨ x.toInt = 57 := by omega
  rcases c with c | c | c | c | c | c | c | c | c | c
  · have q := e (48 : Int32) c; simp [q]
  · have q := e (49 : Int32) c; simp [q]
  · have q := e (50 : Int32) c; simp [q]
  · have q := e (51 : Int32) c; simp [q]
  · have q := e (52 : Int32) c; simp [q]
  · have q := e (53 : Int32) c; simp [q]
  · have q := e (54 : Int32) c; simp [q]
  · have q := e (55 : Int32) c; simp [q]
  · have q := e (56 : Int32) c; simp [q]
  · have q := e (57 : Int32) c; simp [q]
theorem own_r97 {x : Int32} (h1 : 97 ≤ x.toInt) (h2 : x.toInt ≤ 102) : x = (97 : Int32) ∨ x = (98 : Int32) ∨ x = (99 : Int32) ∨ x = (100 : Int32) ∨ x = (101 : Int32) ∨ x = (102 : Int32) := by
  have e : ∀ k : Int32, x.toInt = k.toInt → x = k := fun k q => Int32.toInt_inj.mp q
  have c : x.toInt = 97 ∨ x.toInt = 98 ∨ x.toInt = 99 ∨ x.toInt = 100 ∨ x.toInt = 101 ∨ x.toInt = 102 := by omega
  rcases c with c | c | c | c | c | c
  · have q := e (97 : Int32) c; simp [q]
  · have q := e (98 : Int32) c; simp [q]
  · have q := e (99 : Int32) c; simp [q]
  · have q := e (100 : Int32) c; simp [q]
  · have q := e (101 : Int32) c; simp [q]
  · have q := e (102 : Int32) c; simp [q]
theorem own_r65 {x : Int32} (h1 : 65 ≤ x.toInt) (h2 : x.toInt ≤ 70) : x = (65 : Int32) ∨ x = (66 : Int32) ∨ x = (67 : Int32) ∨ x = (68 : Int32) ∨ x = (69 : Int32) ∨ x = (70 : Int32) := by
  have e : ∀ k : Int32, x.toInt = k.toInt → x = k := fun k q => Int32.toInt_inj.mp q
  have c : x.toInt = 65 ∨ x.toInt = 66 ∨ x.toInt = 67 ∨ x.toInt = 68 ∨ x.toInt = 69 ∨ x.toInt = 70 := by omega
  rcases c with c | c | c | c | c | c
  · have q := e (65 : Int32) c; simp [q]
  · have q := e (66 : Int32) c; simp [q]
  · have q := e (67 : Int32) c; simp [q]
  · have q := e (68 : Int32) c; simp [q]
  · have q := e (69 : Int32) c; simp [q]
  · have q := e (70 : Int32) c; simp [q]
theorem own_lt (x y : Int32) : x < y ↔ x.toInt < y.toInt := Int32.lt_iff_toInt_lt
theorem own_v {y v : Int32} (q : v = (y &&& (15 : Int32))) : 0 ≤ v.toInt ∧ v.toInt ≤ 15 := by
  rw [q, c_mask y _ 4 (by decide) (by decide)]; omega
theorem own_lo {v : Int32} (h : 0 ≤ v.toInt ∧ v.toInt ≤ 15) : own_hex (own_chr [(48 : Int32), (49 : Int32), (50 : Int32), (51 : Int32), (52 : Int32), (53 : Int32), (54 : Int32), (55 : Int32), (56 : Int32), (57 : Int32), (97 : Int32), (98 : Int32), (99 : Int32), (100 : Int32), (101 : Int32), (102 : Int32)] v) = v := by
  rcases own_r0 h.1 h.2 with rfl | rfl | rfl | rfl | rfl | rfl | rfl | rfl | rfl | rfl | rfl | rfl | rfl | rfl | rfl | rfl <;> decide
theorem own_up' {v : Int32} (h : 0 ≤ v.toInt ∧ v.toInt ≤ 15) : own_hex (own_chr [(48 : Int32), (49 : Int32), (50 : Int32), (51 : Int32), (52 : Int32), (53 : Int32), (54 : Int32), (55 : Int32), (56 : Int32), (57 : Int32), (65 : Int32), (66 : Int32), (67 : Int32), (68 : Int32), (69 : Int32), (70 : Int32)] v) = v := by
  rcases own_r0 h.1 h.2 with rfl | rfl | rfl | rfl | rfl | rfl | rfl | rfl | rfl | rfl | rfl | rfl | rfl | rfl | rfl | rfl <;> decide
theorem own_back (x : Int32) (h : ¬ own_hex x = (-1 : Int32)) : (¬ own_hex x < (0 : Int32) ∧ ¬ (15 : Int32) < own_hex x) ∧ (x = own_chr [(48 : Int32), (49 : Int32), (50 : Int32), (51 : Int32), (52 : Int32), (53 : Int32), (54 : Int32), (55 : Int32), (56 : Int32), (57 : Int32), (97 : Int32), (98 : Int32), (99 : Int32), (100 : Int32), (101 : Int32), (102 : Int32)] (own_hex x) ∨ x = own_chr [(48 : Int32), (49 : Int32), (50 : Int32), (51 : Int32), (52 : Int32), (53 : Int32), (54 : Int32), (55 : Int32), (56 : Int32), (57 : Int32), (65 : Int32), (66 : Int32), (67 : Int32), (68 : Int32), (69 : Int32), (70 : Int32)] (own_hex x)) := by
  unfold own_hex at h ⊢
  have z48 : (48 : Int32).toInt = 48 := rfl
  have z57 : (57 : Int32).toInt = 57 := rfl
  have z97 : (97 : Int32).toInt = 97 := rfl
  have z102 : (102 : Int32).toInt = 102 := rfl
  have z65 : (65 : Int32).toInt = 65 := rfl
  have z70 : (70 : Int32).toInt = 70 := rfl
  have k2 : ∀ x : Int32, ¬ own_h2 x = (-1 : Int32) → (¬ own_h2 x < (0 : Int32) ∧ ¬ (15 : Int32) < own_h2 x) ∧ (x = own_chr [(48 : Int32), (49 : Int32), (50 : Int32), (51 : Int32), (52 : Int32), (53 : Int32), (54 : Int32), (55 : Int32), (56 : Int32), (57 : Int32), (97 : Int32), (98 : Int32), (99 : Int32), (100 : Int32), (101 : Int32), (102 : Int32)] (own_h2 x) ∨ x = own_chr [(48 : Int32), (49 : Int32), (50 : Int32), (51 : Int32), (52 : Int32), (53 : Int32), (54 : Int32), (55 : Int32), (56 : Int32), (57 : Int32), (65 : Int32), (66 : Int32), (67 : Int32), (68 : Int32), (69 : Int32), (70 : Int32)] (own_h2 x)) := by
    intro x h
    have k3 : ∀ x : Int32, ¬ own_h3 x = (-1 : Int32) → (¬ own_h3 x < (0 : Int32) ∧ ¬ (15 : Int32) < own_h3 x) ∧ (x = own_chr [(48 : Int32), (49 : Int32), (50 : Int32), (51 : Int32), (52 : Int32), (53 : Int32), (54 : Int32), (55 : Int32), (56 : Int32), (57 : Int32), (97 : Int32), (98 : Int32), (99 : Int32), (100 : Int32), (101 : Int32), (102 : Int32)] (own_h3 x) ∨ x = own_chr [(48 : Int32), (49 : Int32), (50 : Int32), (51 : Int32), (52 : Int32), (53 : Int32), (54 : Int32), (55 : Int32), (56 : Int32), (57 : Int32), (65 : Int32), (66 : Int32), (67 : Int32), (68 : Int32), (69 : Int32), (70 : Int32)] (own_h3 x)) := by
      intro x h
      unfold own_h3 at h ⊢
      by_cases c1 : x < (65 : Int32)
      · rw [if_pos c1] at h; exact absurd rfl h
      · by_cases c2 : (70 : Int32) < x
        · rw [if_neg c1, if_pos c2] at h; exact absurd rfl h
        · rw [if_neg c1, if_neg c2]
          rw [own_lt, z65] at c1
          rw [own_lt, z70] at c2
          rcases own_r65 (x := x) (by omega) (by omega) with rfl | rfl | rfl | rfl | rfl | rfl <;> decide
    unfold own_h2 at h ⊢
    by_cases c1 : x < (97 : Int32)
    · rw [if_pos c1] at h ⊢; exact k3 x h
    · by_cases c2 : (102 : Int32) < x
      · rw [if_neg c1, if_pos c2] at h ⊢; exact k3 x h
      · rw [if_neg c1, if_neg c2]
        rw [own_lt, z97] at c1
        rw [own_lt, z102] at c2
        rcases own_r97 (x := x) (by omega) (by omega) with rfl | rfl | rfl | rfl | rfl | rfl <;> decide
  by_cases c1 : x < (48 : Int32)
  · rw [if_pos c1] at h ⊢; exact k2 x h
  · by_cases c2 : (57 : Int32) < x
    · rw [if_neg c1, if_pos c2] at h ⊢; exact k2 x h
    · rw [if_neg c1, if_neg c2]
      rw [own_lt, z48] at c1
      rw [own_lt, z57] at c2
      rcases own_r48 (x := x) (by omega) (by omega) with rfl | rfl | rfl | rfl | rfl | rfl | rfl | rfl | rfl | rfl <;> decide
theorem own_ix16 {j : Int32} (h : 0 ≤ j.toInt ∧ j.toInt ≤ 15) : own_Ix j j.toNatClampNeg 16 := by
  refine ⟨?_, rfl, ?_⟩
  · rw [own_lt]; show ¬ j.toInt < 0; omega
  · show j.toInt.toNat < 16; omega
theorem own_r15 {r : Int32} (h : ¬ r < (0 : Int32) ∧ ¬ (15 : Int32) < r) : 0 ≤ r.toInt ∧ r.toInt ≤ 15 := by
  have z0 : (0 : Int32).toInt = 0 := rfl
  have z15 : (15 : Int32).toInt = 15 := rfl
  rw [own_lt, own_lt, z0, z15] at h
  omega
theorem own_ofArvB {Z : State} {h : Heap} {a : Addr} {vs : List Value} {lst : List Int32} {k : ClassId} (F : Arv Z h a k .byte (16 : Int32) vs (.int 0)) (hl : ∀ j, j < 16 → vs.getD j (.int 0) = .int (lst.getD j 0)) : own_A Z h a .byte 16 (fun j => .int (lst.getD j 0)) := by
  obtain ⟨c, A, -, S, h0, H, -⟩ := F
  have S' : c.slots.size = 16 := S
  exact ⟨c, A, S', by decide, fun j hj => by rw [H j (by rw [S']; exact hj), hl j hj]⟩
theorem d10_0 : decode jdk_41_method_11_code 0 = .ok (.iload_n 0, 1) := by decide +kernel
theorem d10_1 : decode jdk_41_method_11_code 1 = .ok (.ifCond .lt 8, 3) := by decide +kernel
theorem d10_4 : decode jdk_41_method_11_code 4 = .ok (.iload_n 0, 1) := by decide +kernel
theorem d10_5 : decode jdk_41_method_11_code 5 = .ok (.iload_n 1, 1) := by decide +kernel
theorem d10_6 : decode jdk_41_method_11_code 6 = .ok (.if_icmp .lt 10, 3) := by decide +kernel
theorem d10_16 : decode jdk_41_method_11_code 16 = .ok (.iload_n 0, 1) := by decide +kernel
theorem d10_17 : decode jdk_41_method_11_code 17 = .ok (.ireturn, 1) := by decide +kernel
theorem pn10 : plainName "jdk/internal/util/Preconditions" = true := by first | (simp [plainName, overriddenIn]; done) | decide +kernel
theorem ef10 (m : MethodId) (p1 : Int32) : entryFrame m #[(.int p1), (.int (16 : Int32)), .null] 3 = mkF m 0 #[.val (.int p1), .val (.int (16 : Int32)), .val .null] [] := by first | (simp [entryFrame, mkF, argsToLocals, Value.category]; done) | rfl
def Q10 (Z : State) (p1 : Int32) (h0 : Heap) (n0 : Nat) (v : Option Value) (h : Heap) (L : List Loc) : Prop := v = some (.int p1) ∧ Fr n0 L ∧ h = h0
set_option maxRecDepth 65536 in
set_option maxHeartbeats 40000000 in
theorem rm10 (l : Launch) (Z : State) (a0 : Array Value) (hw : ∀ d ∈ tables_1, d.before a0 Z = true) (ws : List Jvm.Cond) (p1 : Int32) (h0 : Heap) (n0 : Nat) (Z0 : n0 ≤ h0.size) (hi : 0 ≤ p1.toInt ∧ p1.toInt ≤ 15) :
    MetFree l (⟨"jdk/internal/util/Preconditions", "checkIndex", "(IILjava/util/function/BiFunction;)I"⟩ : MethodName) (head1 (Jvm.Cond.code (⟨"jdk/internal/util/Preconditions", "checkIndex", "(IILjava/util/function/BiFunction;)I"⟩ : MethodName) jdk_41_method_11_code 3 (some .int) :: ws) ({ frames := 0, cells := 0, slots := 0, locals := 0 } : Room)) (fun as' U => as' = #[(.int p1), (.int (16 : Int32)), .null] ∧ Z.Warmed39 U.vm ∧ U.heap = h0) (fun _ _ _ _ _ => True) (fun _ U o U' => ∃ v L, o = .returned v ∧ Q10 Z p1 h0 n0 v U'.heap L ∧ FrameEnd U o U' L ({ frames := 0, cells := 0, slots := 0, locals := 0 } : Room).cells ({ frames := 0, cells := 0, slots := 0, locals := 0 } : Room).slots) := by
  refine own_body (plainFor_of_name pn10) ?_
  intro p e s m below meth c s₁ hx hby hml hown0 hnm hret hlk hZ X0 e0
  have hown : s.vm.findClass "jdk/internal/util/Preconditions" = some m.cls := hown0
  have N0 := Fr.nil n0
  rw [ef10]
  show own_Go p.tables e below _ (s₁.setTop (mkF m 0 #[.val (.int p1), .val (.int (16 : Int32)), .val .null] []))
  refine own_st (S' := s₁.setTop (mkF m 1 #[.val (.int p1), .val (.int (16 : Int32)), .val .null] [(.int p1)])) (fun t k => XS.iloadN X0.here hx rfl (hb hby d10_0) rfl k) ?_
  have hc1 : ¬ (p1 < (0 : Int32)) := by rw [own_lt]; show ¬ p1.toInt < 0; omega
  refine own_st (S' := s₁.setTop (mkF m 4 #[.val (.int p1), .val (.int (16 : Int32)), .val .null] [])) (fun t k => XS.ifNo X0.here hx rfl (hb hby d10_1) rfl ((if0 _ _).trans (flt hc1).1) k) ?_
  show own_Go p.tables e below _ (s₁.setTop (mkF m 4 #[.val (.int p1), .val (.int (16 : Int32)), .val .null] []))
  refine own_st (S' := s₁.setTop (mkF m 5 #[.val (.int p1), .val (.int (16 : Int32)), .val .null] [(.int p1)])) (fun t k => XS.iloadN X0.here hx rfl (hb hby d10_4) rfl k) ?_
  refine own_st (S' := s₁.setTop (mkF m 6 #[.val (.int p1), .val (.int (16 : Int32)), .val .null] [(.int (16 : Int32)), (.int p1)])) (fun t k => XS.iloadN X0.here hx rfl (hb hby d10_5) rfl k) ?_
  have hc2 : p1 < (16 : Int32) := by rw [own_lt]; show p1.toInt < 16; omega
  refine own_st (S' := s₁.setTop (mkF m 16 #[.val (.int p1), .val (.int (16 : Int32)), .val .null] [])) (fun t k => XS.icmpYes X0.here hx rfl (pc0 := 6) (pc' := 16) rfl (hb hby d10_6) rfl (tlt hc2).1 (by decide) (by decide) k) ?_
  show own_Go p.tables e below _ (s₁.setTop (mkF m 16 #[.val (.int p1), .val (.int (16 : Int32)), .val .null] []))
  refine own_st (S' := s₁.setTop (mkF m 17 #[.val (.int p1), .val (.int (16 : Int32)), .val .null] [(.int p1)])) (fun t k => XS.iloadN X0.here hx rfl (hb hby d10_16) rfl k) ?_
  refine own_retI X0 hx hret hlk (hb hby d10_17) ?_ (by decide) (by decide)
  rw [e0]
  exact ⟨rfl, N0, rfl⟩
theorem d11_0 : decode jdk_41_method_11_code 0 = .ok (.iload_n 0, 1) := by decide +kernel
theorem d11_1 : decode jdk_41_method_11_code 1 = .ok (.ifCond .lt 8, 3) := by decide +kernel
theorem d11_4 : decode jdk_41_method_11_code 4 = .ok (.iload_n 0, 1) := by decide +kernel
theorem d11_5 : decode jdk_41_method_11_code 5 = .ok (.iload_n 1, 1) := by decide +kernel
theorem d11_6 : decode jdk_41_method_11_code 6 = .ok (.if_icmp .lt 10, 3) := by decide +kernel
theorem d11_16 : decode jdk_41_method_11_code 16 = .ok (.iload_n 0, 1) := by decide +kernel
theorem d11_17 : decode jdk_41_method_11_code 17 = .ok (.ireturn, 1) := by decide +kernel
theorem pn11 : plainName "jdk/internal/util/Preconditions" = true := by first | (simp [plainName, overriddenIn]; done) | decide +kernel
theorem ef11 (m : MethodId) (p1 : Int32) (fm : Addr) : entryFrame m #[(.int p1), (.int (16 : Int32)), (.ref fm)] 3 = mkF m 0 #[.val (.int p1), .val (.int (16 : Int32)), .val (.ref fm)] [] := by first | (simp [entryFrame, mkF, argsToLocals, Value.category]; done) | rfl
def Q11 (Z : State) (p1 : Int32) (fm : Addr) (h0 : Heap) (n0 : Nat) (v : Option Value) (h : Heap) (L : List Loc) : Prop := v = some (.int p1) ∧ Fr n0 L ∧ h = h0
set_option maxRecDepth 65536 in
set_option maxHeartbeats 40000000 in
theorem rm11 (l : Launch) (Z : State) (a0 : Array Value) (hw : ∀ d ∈ tables_1, d.before a0 Z = true) (ws : List Jvm.Cond) (p1 : Int32) (fm : Addr) (h0 : Heap) (n0 : Nat) (Z0 : n0 ≤ h0.size) (hi : 0 ≤ p1.toInt ∧ p1.toInt ≤ 15) :
    MetFree l (⟨"jdk/internal/util/Preconditions", "checkIndex", "(IILjava/util/function/BiFunction;)I"⟩ : MethodName) (head1 (Jvm.Cond.code (⟨"jdk/internal/util/Preconditions", "checkIndex", "(IILjava/util/function/BiFunction;)I"⟩ : MethodName) jdk_41_method_11_code 3 (some .int) :: ws) ({ frames := 0, cells := 0, slots := 0, locals := 0 } : Room)) (fun as' U => as' = #[(.int p1), (.int (16 : Int32)), (.ref fm)] ∧ Z.Warmed39 U.vm ∧ U.heap = h0) (fun _ _ _ _ _ => True) (fun _ U o U' => ∃ v L, o = .returned v ∧ Q11 Z p1 fm h0 n0 v U'.heap L ∧ FrameEnd U o U' L ({ frames := 0, cells := 0, slots := 0, locals := 0 } : Room).cells ({ frames := 0, cells := 0, slots := 0, locals := 0 } : Room).slots) := by
  refine own_body (plainFor_of_name pn11) ?_
  intro p e s m below meth c s₁ hx hby hml hown0 hnm hret hlk hZ X0 e0
  have hown : s.vm.findClass "jdk/internal/util/Preconditions" = some m.cls := hown0
  have N0 := Fr.nil n0
  rw [ef11]
  show own_Go p.tables e below _ (s₁.setTop (mkF m 0 #[.val (.int p1), .val (.int (16 : Int32)), .val (.ref fm)] []))
  refine own_st (S' := s₁.setTop (mkF m 1 #[.val (.int p1), .val (.int (16 : Int32)), .val (.ref fm)] [(.int p1)])) (fun t k => XS.iloadN X0.here hx rfl (hb hby d11_0) rfl k) ?_
  have hc1 : ¬ (p1 < (0 : Int32)) := by rw [own_lt]; show ¬ p1.toInt < 0; omega
  refine own_st (S' := s₁.setTop (mkF m 4 #[.val (.int p1), .val (.int (16 : Int32)), .val (.ref fm)] [])) (fun t k => XS.ifNo X0.here hx rfl (hb hby d11_1) rfl ((if0 _ _).trans (flt hc1).1) k) ?_
  show own_Go p.tables e below _ (s₁.setTop (mkF m 4 #[.val (.int p1), .val (.int (16 : Int32)), .val (.ref fm)] []))
  refine own_st (S' := s₁.setTop (mkF m 5 #[.val (.int p1), .val (.int (16 : Int32)), .val (.ref fm)] [(.int p1)])) (fun t k => XS.iloadN X0.here hx rfl (hb hby d11_4) rfl k) ?_
  refine own_st (S' := s₁.setTop (mkF m 6 #[.val (.int p1), .val (.int (16 : Int32)), .val (.ref fm)] [(.int (16 : Int32)), (.int p1)])) (fun t k => XS.iloadN X0.here hx rfl (hb hby d11_5) rfl k) ?_
  have hc2 : p1 < (16 : Int32) := by rw [own_lt]; show p1.toInt < 16; omega
  refine own_st (S' := s₁.setTop (mkF m 16 #[.val (.int p1), .val (.int (16 : Int32)), .val (.ref fm)] [])) (fun t k => XS.icmpYes X0.here hx rfl (pc0 := 6) (pc' := 16) rfl (hb hby d11_6) rfl (tlt hc2).1 (by decide) (by decide) k) ?_
  show own_Go p.tables e below _ (s₁.setTop (mkF m 16 #[.val (.int p1), .val (.int (16 : Int32)), .val (.ref fm)] []))
  refine own_st (S' := s₁.setTop (mkF m 17 #[.val (.int p1), .val (.int (16 : Int32)), .val (.ref fm)] [(.int p1)])) (fun t k => XS.iloadN X0.here hx rfl (hb hby d11_16) rfl k) ?_
  refine own_retI X0 hx hret hlk (hb hby d11_17) ?_ (by decide) (by decide)
  rw [e0]
  exact ⟨rfl, N0, rfl⟩
theorem d20_0 : decode jdk_42_method_155_code 0 = .ok (.iload_n 0, 1) := by decide +kernel
theorem d20_1 : decode jdk_42_method_155_code 1 = .ok (.iload_n 1, 1) := by decide +kernel
theorem d20_2 : decode jdk_42_method_155_code 2 = .ok (.getstatic 1053, 3) := by decide +kernel
theorem d20_5 : decode jdk_42_method_155_code 5 = .ok (.invokestatic 1059, 3) := by decide +kernel
theorem d20_8 : decode jdk_42_method_155_code 8 = .ok (.pop, 1) := by decide +kernel
theorem d20_9 : decode jdk_42_method_155_code 9 = .ok (.return_, 1) := by decide +kernel
theorem pd20_0 : parseMethodDescriptor "(IILjava/util/function/BiFunction;)I" = some ⟨[.int, .int, (.object "java/util/function/BiFunction")], some .int⟩ := by decide +kernel
theorem pn20 : plainName "java/lang/String" = true := by first | (simp [plainName, overriddenIn]; done) | decide +kernel
theorem ef20 (m : MethodId) (p1 : Int32) : entryFrame m #[(.int p1), (.int (16 : Int32))] 2 = mkF m 0 #[.val (.int p1), .val (.int (16 : Int32))] [] := by first | (simp [entryFrame, mkF, argsToLocals, Value.category]; done) | rfl
def Q20 (Z : State) (p1 : Int32) (h0 : Heap) (n0 : Nat) (v : Option Value) (h : Heap) (L : List Loc) : Prop := v = none ∧ Fr n0 L ∧ h = h0
set_option maxRecDepth 65536 in
set_option maxHeartbeats 40000000 in
theorem rm20 (l : Launch) (Z : State) (a0 : Array Value) (hw : ∀ d ∈ tables_1, d.before a0 Z = true) (ws : List Jvm.Cond) (p1 : Int32) (h0 : Heap) (n0 : Nat) (Z0 : n0 ≤ h0.size) (S___SIOOBE_FORMATTER : Sta Z h0 "jdk/internal/util/Preconditions" "SIOOBE_FORMATTER" "Ljava/util/function/BiFunction;" .null) (hi : 0 ≤ p1.toInt ∧ p1.toInt ≤ 15) :
    MetFree l (⟨"java/lang/String", "checkIndex", "(II)V"⟩ : MethodName) (head1 (Jvm.Cond.code (⟨"java/lang/String", "checkIndex", "(II)V"⟩ : MethodName) jdk_42_method_155_code 2 none :: ws) ({ frames := 1, cells := 0, slots := 0, locals := 14 } : Room)) (fun as' U => as' = #[(.int p1), (.int (16 : Int32))] ∧ Z.Warmed39 U.vm ∧ U.heap = h0) (fun _ _ _ _ _ => True) (fun _ U o U' => ∃ v L, o = .returned v ∧ Q20 Z p1 h0 n0 v U'.heap L ∧ FrameEnd U o U' L ({ frames := 1, cells := 0, slots := 0, locals := 14 } : Room).cells ({ frames := 1, cells := 0, slots := 0, locals := 14 } : Room).slots) := by
  refine own_body (plainFor_of_name pn20) ?_
  intro p e s m below meth c s₁ hx hby hml hown0 hnm hret hlk hZ X0 e0
  have hown : s.vm.findClass "java/lang/String" = some m.cls := hown0
  have N0 := Fr.nil n0
  rw [ef20]
  show own_Go p.tables e below _ (s₁.setTop (mkF m 0 #[.val (.int p1), .val (.int (16 : Int32))] []))
  refine own_st (S' := s₁.setTop (mkF m 1 #[.val (.int p1), .val (.int (16 : Int32))] [(.int p1)])) (fun t k => XS.iloadN X0.here hx rfl (hb hby d20_0) rfl k) ?_
  refine own_st (S' := s₁.setTop (mkF m 2 #[.val (.int p1), .val (.int (16 : Int32))] [(.int (16 : Int32)), (.int p1)])) (fun t k => XS.iloadN X0.here hx rfl (hb hby d20_1) rfl k) ?_
  obtain ⟨T1, X1, e1, st1⟩ := getS2 X0 hx hZ hown (host := "") (Or.inl (hw _ (List.mem_of_getElem? (i := 29) rfl))) Via.refl e0 S___SIOOBE_FORMATTER (g := (mkF m 2 #[.val (.int p1), .val (.int (16 : Int32))] [(.int (16 : Int32)), (.int p1)])) rfl (hb hby d20_2)
  refine own_st st1 ?_
  show own_Go p.tables e below _ (T1.setTop (mkF m 5 #[.val (.int p1), .val (.int (16 : Int32))] [.null, (.int (16 : Int32)), (.int p1)]))
  obtain ⟨_, _, ⟨T2, L2, k2, n2⟩, -, X2, ⟨Lc2, hQ2, l2, y2, z2⟩, st2⟩ := Jvm.LawKit.callS X1 hx (y := (⟨"jdk/internal/util/Preconditions", "checkIndex", "(IILjava/util/function/BiFunction;)I"⟩ : MethodName)) hown (mvT hZ (hw _ (List.mem_of_getElem? (i := 31) rfl))) (mvT hZ (hw _ (List.mem_of_getElem? (i := 32) rfl))) (mvT hZ (hw _ (List.mem_of_getElem? (i := 30) rfl))) (mvT hZ (hw _ (List.mem_of_getElem? (i := 33) rfl))) (by decide) (backOf (W := 0) (rm10 l Z a0 hw [] p1 h0 n0 Z0 hi) hZ (hw _ (List.mem_of_getElem? (i := 33) rfl)) (hw _ (List.mem_of_getElem? (i := 30) rfl)) (by decide) (by decide)) (g := (mkF m 5 #[.val (.int p1), .val (.int (16 : Int32))] [.null, (.int (16 : Int32)), (.int p1)])) rfl (by rw [hml]; rfl) (argsL := [(.int p1), (.int (16 : Int32)), .null]) (rest := []) (lenOf pd20_0 rfl) rfl (by show 2 * 0 + _ ≤ _; exact Nat.le_of_eq rfl) (hb hby d20_5) (fun _ _ => ⟨rfl, e1, (by decide : 0 + 0 ≤ _), (by decide : 0 + 0 ≤ _)⟩)
  dsimp only [Pt.U, Pt.locs, Pt.cells, Pt.slots] at X2 l2 y2 z2 st2 hQ2
  rw [l2, y2, z2] at X2
  obtain ⟨rfl, N2q, hh2⟩ := hQ2
  have N2 := Fr.app N0 N2q
  refine own_st st2 ?_
  show own_Go p.tables e below _ (T2.setTop (mkF m 8 #[.val (.int p1), .val (.int (16 : Int32))] [(.int p1)]))
  refine own_st (S' := T2.setTop (mkF m 9 #[.val (.int p1), .val (.int (16 : Int32))] [])) (fun t k => XS.pop X2.here hx rfl (hb hby d20_8) rfl rfl k) ?_
  refine own_retV X2 hx hret hlk (hb hby d20_9) ?_ (by decide) (by decide)
  rw [hh2]
  exact ⟨rfl, N2, rfl⟩
theorem d21_0 : decode jdk_42_method_155_code 0 = .ok (.iload_n 0, 1) := by decide +kernel
theorem d21_1 : decode jdk_42_method_155_code 1 = .ok (.iload_n 1, 1) := by decide +kernel
theorem d21_2 : decode jdk_42_method_155_code 2 = .ok (.getstatic 1053, 3) := by decide +kernel
theorem d21_5 : decode jdk_42_method_155_code 5 = .ok (.invokestatic 1059, 3) := by decide +kernel
theorem d21_8 : decode jdk_42_method_155_code 8 = .ok (.pop, 1) := by decide +kernel
theorem d21_9 : decode jdk_42_method_155_code 9 = .ok (.return_, 1) := by decide +kernel
theorem pd21_0 : parseMethodDescriptor "(IILjava/util/function/BiFunction;)I" = some ⟨[.int, .int, (.object "java/util/function/BiFunction")], some .int⟩ := by decide +kernel
theorem pn21 : plainName "java/lang/String" = true := by first | (simp [plainName, overriddenIn]; done) | decide +kernel
theorem ef21 (m : MethodId) (p1 : Int32) : entryFrame m #[(.int p1), (.int (16 : Int32))] 2 = mkF m 0 #[.val (.int p1), .val (.int (16 : Int32))] [] := by first | (simp [entryFrame, mkF, argsToLocals, Value.category]; done) | rfl
def Q21 (Z : State) (p1 : Int32) (fm : Addr) (h0 : Heap) (n0 : Nat) (v : Option Value) (h : Heap) (L : List Loc) : Prop := v = none ∧ Fr n0 L ∧ h = h0
set_option maxRecDepth 65536 in
set_option maxHeartbeats 40000000 in
theorem rm21 (l : Launch) (Z : State) (a0 : Array Value) (hw : ∀ d ∈ tables_1, d.before a0 Z = true) (ws : List Jvm.Cond) (p1 : Int32) (fm : Addr) (h0 : Heap) (n0 : Nat) (Z0 : n0 ≤ h0.size) (S___SIOOBE_FORMATTER : Sta Z h0 "jdk/internal/util/Preconditions" "SIOOBE_FORMATTER" "Ljava/util/function/BiFunction;" (.ref fm)) (hi : 0 ≤ p1.toInt ∧ p1.toInt ≤ 15) :
    MetFree l (⟨"java/lang/String", "checkIndex", "(II)V"⟩ : MethodName) (head1 (Jvm.Cond.code (⟨"java/lang/String", "checkIndex", "(II)V"⟩ : MethodName) jdk_42_method_155_code 2 none :: ws) ({ frames := 1, cells := 0, slots := 0, locals := 14 } : Room)) (fun as' U => as' = #[(.int p1), (.int (16 : Int32))] ∧ Z.Warmed39 U.vm ∧ U.heap = h0) (fun _ _ _ _ _ => True) (fun _ U o U' => ∃ v L, o = .returned v ∧ Q21 Z p1 fm h0 n0 v U'.heap L ∧ FrameEnd U o U' L ({ frames := 1, cells := 0, slots := 0, locals := 14 } : Room).cells ({ frames := 1, cells := 0, slots := 0, locals := 14 } : Room).slots) := by
  refine own_body (plainFor_of_name pn21) ?_
  intro p e s m below meth c s₁ hx hby hml hown0 hnm hret hlk hZ X0 e0
  have hown : s.vm.findClass "java/lang/String" = some m.cls := hown0
  have N0 := Fr.nil n0
  rw [ef21]
  show own_Go p.tables e below _ (s₁.setTop (mkF m 0 #[.val (.int p1), .val (.int (16 : Int32))] []))
  refine own_st (S' := s₁.setTop (mkF m 1 #[.val (.int p1), .val (.int (16 : Int32))] [(.int p1)])) (fun t k => XS.iloadN X0.here hx rfl (hb hby d21_0) rfl k) ?_
  refine own_st (S' := s₁.setTop (mkF m 2 #[.val (.int p1), .val (.int (16 : Int32))] [(.int (16 : Int32)), (.int p1)])) (fun t k => XS.iloadN X0.here hx rfl (hb hby d21_1) rfl k) ?_
  obtain ⟨T1, X1, e1, st1⟩ := getS2 X0 hx hZ hown (host := "") (Or.inl (hw _ (List.mem_of_getElem? (i := 29) rfl))) Via.refl e0 S___SIOOBE_FORMATTER (g := (mkF m 2 #[.val (.int p1), .val (.int (16 : Int32))] [(.int (16 : Int32)), (.int p1)])) rfl (hb hby d21_2)
  refine own_st st1 ?_
  show own_Go p.tables e below _ (T1.setTop (mkF m 5 #[.val (.int p1), .val (.int (16 : Int32))] [(.ref fm), (.int (16 : Int32)), (.int p1)]))
  obtain ⟨_, _, ⟨T2, L2, k2, n2⟩, -, X2, ⟨Lc2, hQ2, l2, y2, z2⟩, st2⟩ := Jvm.LawKit.callS X1 hx (y := (⟨"jdk/internal/util/Preconditions", "checkIndex", "(IILjava/util/function/BiFunction;)I"⟩ : MethodName)) hown (mvT hZ (hw _ (List.mem_of_getElem? (i := 31) rfl))) (mvT hZ (hw _ (List.mem_of_getElem? (i := 32) rfl))) (mvT hZ (hw _ (List.mem_of_getElem? (i := 30) rfl))) (mvT hZ (hw _ (List.mem_of_getElem? (i := 33) rfl))) (by decide) (backOf (W := 0) (rm11 l Z a0 hw [] p1 fm h0 n0 Z0 hi) hZ (hw _ (List.mem_of_getElem? (i := 33) rfl)) (hw _ (List.mem_of_getElem? (i := 30) rfl)) (by decide) (by decide)) (g := (mkF m 5 #[.val (.int p1), .val (.int (16 : Int32))] [(.ref fm), (.int (16 : Int32)), (.int p1)])) rfl (by rw [hml]; rfl) (argsL := [(.int p1), (.int (16 : Int32)), (.ref fm)]) (rest := []) (lenOf pd21_0 rfl) rfl (by show 2 * 0 + _ ≤ _; exact Nat.le_of_eq rfl) (hb hby d21_5) (fun _ _ => ⟨rfl, e1, (by decide : 0 + 0 ≤ _), (by decide : 0 + 0 ≤ _)⟩)
  dsimp only [Pt.U, Pt.locs, Pt.cells, Pt.slots] at X2 l2 y2 z2 st2 hQ2
  rw [l2, y2, z2] at X2
  obtain ⟨rfl, N2q, hh2⟩ := hQ2
  have N2 := Fr.app N0 N2q
  refine own_st st2 ?_
  show own_Go p.tables e below _ (T2.setTop (mkF m 8 #[.val (.int p1), .val (.int (16 : Int32))] [(.int p1)]))
  refine own_st (S' := T2.setTop (mkF m 9 #[.val (.int p1), .val (.int (16 : Int32))] [])) (fun t k => XS.pop X2.here hx rfl (hb hby d21_8) rfl rfl k) ?_
  refine own_retV X2 hx hret hlk (hb hby d21_9) ?_ (by decide) (by decide)
  rw [hh2]
  exact ⟨rfl, N2, rfl⟩
theorem d30_0 : decode jdk_43_method_2_code 0 = .ok (.iload_n 1, 1) := by decide +kernel
theorem d30_1 : decode jdk_43_method_2_code 1 = .ok (.aload_n 0, 1) := by decide +kernel
theorem d30_2 : decode jdk_43_method_2_code 2 = .ok (.arraylength, 1) := by decide +kernel
theorem d30_3 : decode jdk_43_method_2_code 3 = .ok (.invokestatic 9, 3) := by decide +kernel
theorem d30_6 : decode jdk_43_method_2_code 6 = .ok (.aload_n 0, 1) := by decide +kernel
theorem d30_7 : decode jdk_43_method_2_code 7 = .ok (.iload_n 1, 1) := by decide +kernel
theorem d30_8 : decode jdk_43_method_2_code 8 = .ok (.baload, 1) := by decide +kernel
theorem d30_9 : decode jdk_43_method_2_code 9 = .ok (.sipush 255, 3) := by decide +kernel
theorem d30_12 : decode jdk_43_method_2_code 12 = .ok (.iand, 1) := by decide +kernel
theorem d30_13 : decode jdk_43_method_2_code 13 = .ok (.i2c, 1) := by decide +kernel
theorem d30_14 : decode jdk_43_method_2_code 14 = .ok (.ireturn, 1) := by decide +kernel
theorem pd30_0 : parseMethodDescriptor "(II)V" = some ⟨[.int, .int], none⟩ := by decide +kernel
theorem pn30 : plainName "java/lang/StringLatin1" = true := by first | (simp [plainName, overriddenIn]; done) | decide +kernel
theorem ef30 (m : MethodId) (bb : Addr) (p1 : Int32) : entryFrame m #[(.ref bb), (.int p1)] 2 = mkF m 0 #[.val (.ref bb), .val (.int p1)] [] := by first | (simp [entryFrame, mkF, argsToLocals, Value.category]; done) | rfl
def Q30 (Z : State) (bb : Addr) (p1 : Int32) (lst : List Int32) (h0 : Heap) (n0 : Nat) (v : Option Value) (h : Heap) (L : List Loc) : Prop := v = some (.int (own_chr lst p1)) ∧ Fr n0 L ∧ h = h0
set_option maxRecDepth 65536 in
set_option maxHeartbeats 40000000 in
theorem rm30 (l : Launch) (Z : State) (a0 : Array Value) (hw : ∀ d ∈ tables_1, d.before a0 Z = true) (ws : List Jvm.Cond) (bb : Addr) (p1 : Int32) (lst : List Int32) (h0 : Heap) (n0 : Nat) (Z0 : n0 ≤ h0.size) (S___SIOOBE_FORMATTER : Sta Z h0 "jdk/internal/util/Preconditions" "SIOOBE_FORMATTER" "Ljava/util/function/BiFunction;" .null) (A_bb : own_A Z h0 bb .byte 16 (fun j => .int (lst.getD j 0))) (hi : 0 ≤ p1.toInt ∧ p1.toInt ≤ 15) :
    MetFree l (⟨"java/lang/StringLatin1", "charAt", "([BI)C"⟩ : MethodName) (head1 (Jvm.Cond.code (⟨"java/lang/StringLatin1", "charAt", "([BI)C"⟩ : MethodName) jdk_43_method_2_code 2 (some .char) :: ws) ({ frames := 2, cells := 0, slots := 0, locals := 27 } : Room)) (fun as' U => as' = #[(.ref bb), (.int p1)] ∧ Z.Warmed39 U.vm ∧ U.heap = h0) (fun _ _ _ _ _ => True) (fun _ U o U' => ∃ v L, o = .returned v ∧ Q30 Z bb p1 lst h0 n0 v U'.heap L ∧ FrameEnd U o U' L ({ frames := 2, cells := 0, slots := 0, locals := 27 } : Room).cells ({ frames := 2, cells := 0, slots := 0, locals := 27 } : Room).slots) := by
  refine own_body (plainFor_of_name pn30) ?_
  intro p e s m below meth c s₁ hx hby hml hown0 hnm hret hlk hZ X0 e0
  have hown : s.vm.findClass "java/lang/StringLatin1" = some m.cls := hown0
  have N0 := Fr.nil n0
  rw [ef30]
  show own_Go p.tables e below _ (s₁.setTop (mkF m 0 #[.val (.ref bb), .val (.int p1)] []))
  refine own_st (S' := s₁.setTop (mkF m 1 #[.val (.ref bb), .val (.int p1)] [(.int p1)])) (fun t k => XS.iloadN X0.here hx rfl (hb hby d30_0) rfl k) ?_
  refine own_st (S' := s₁.setTop (mkF m 2 #[.val (.ref bb), .val (.int p1)] [(.ref bb), (.int p1)])) (fun t k => XS.aloadN X0.here hx rfl (hb hby d30_1) rfl rfl k) ?_
  have O1 := A_bb
  obtain ⟨c1, Ar1, S1, M1, V1⟩ := O1
  have ln1 : c1.slots.size.toInt32 = (16 : Int32) := by rw [S1]; first | rfl | decide | exact rfl
  refine own_st (S' := s₁.setTop (mkF m 3 #[.val (.ref bb), .val (.int p1)] [(.int (16 : Int32)), (.int p1)])) (fun t k => X0.arraylength hx (by rw [e0]; exact Ar1.1) (State.isArrayOf_alike hZ.alike Ar1.2.1) (g := (mkF m 2 #[.val (.ref bb), .val (.int p1)] [(.ref bb), (.int p1)])) rfl rfl (hb hby d30_2) _ (by rw [ln1]; exact k)) ?_
  obtain ⟨_, _, ⟨T2, L2, k2, n2⟩, -, X2, ⟨Lc2, hQ2, l2, y2, z2⟩, st2⟩ := Jvm.LawKit.callS X0 hx (y := (⟨"java/lang/String", "checkIndex", "(II)V"⟩ : MethodName)) hown (mvT hZ (hw _ (List.mem_of_getElem? (i := 26) rfl))) (mvT hZ (hw _ (List.mem_of_getElem? (i := 27) rfl))) (mvT hZ (hw _ (List.mem_of_getElem? (i := 1) rfl))) (mvT hZ (hw _ (List.mem_of_getElem? (i := 28) rfl))) (by decide) (backOf (W := 0) (rm20 l Z a0 hw [] p1 h0 n0 Z0 S___SIOOBE_FORMATTER hi) hZ (hw _ (List.mem_of_getElem? (i := 28) rfl)) (hw _ (List.mem_of_getElem? (i := 1) rfl)) (by decide) (by decide)) (g := (mkF m 3 #[.val (.ref bb), .val (.int p1)] [(.int (16 : Int32)), (.int p1)])) rfl (by rw [hml]; rfl) (argsL := [(.int p1), (.int (16 : Int32))]) (rest := []) (lenOf pd30_0 rfl) rfl (by show 2 * 0 + _ ≤ _; exact Nat.le_of_eq rfl) (hb hby d30_3) (fun _ _ => ⟨rfl, e0, (by decide : 0 + 0 ≤ _), (by decide : 0 + 0 ≤ _)⟩)
  dsimp only [Pt.U, Pt.locs, Pt.cells, Pt.slots] at X2 l2 y2 z2 st2 hQ2
  rw [l2, y2, z2] at X2
  obtain ⟨rfl, N2q, hh2⟩ := hQ2
  have N2 := Fr.app N0 N2q
  refine own_st st2 ?_
  show own_Go p.tables e below _ (T2.setTop (mkF m 6 #[.val (.ref bb), .val (.int p1)] []))
  refine own_st (S' := T2.setTop (mkF m 7 #[.val (.ref bb), .val (.int p1)] [(.ref bb)])) (fun t k => XS.aloadN X2.here hx rfl (hb hby d30_6) rfl rfl k) ?_
  refine own_st (S' := T2.setTop (mkF m 8 #[.val (.ref bb), .val (.int p1)] [(.int p1), (.ref bb)])) (fun t k => XS.iloadN X2.here hx rfl (hb hby d30_7) rfl k) ?_
  have O3 := A_bb
  obtain ⟨c3, Ar3, S3, M3, V3⟩ := O3
  have at3 : c3.slots[(p1).toNatClampNeg]? = some (.int (lst.getD p1.toNatClampNeg 0)) := own_at S3 V3 (own_ix16 hi) rfl
  refine own_st (S' := T2.setTop (mkF m 9 #[.val (.ref bb), .val (.int p1)] [(.int (lst.getD p1.toNatClampNeg 0))])) (fun t k => X2.baloadBytes hx (j := p1) (v := (.int (lst.getD p1.toNatClampNeg 0))) (by rw [hh2]; exact Ar3.1) (State.isArrayOf_alike hZ.alike Ar3.2.1) Ar3.2.2 (own_in S3 (own_ix16 hi)) at3 (g := (mkF m 8 #[.val (.ref bb), .val (.int p1)] [(.int p1), (.ref bb)])) rfl rfl (hb hby d30_8) _ k) ?_
  refine own_st (S' := T2.setTop (mkF m 12 #[.val (.ref bb), .val (.int p1)] [(.int (255 : Int32)), (.int (lst.getD p1.toNatClampNeg 0))])) (fun t k => XS.sipush X2.here hx rfl (hb hby d30_9) k) ?_
  refine own_st (S' := T2.setTop (mkF m 13 #[.val (.ref bb), .val (.int p1)] [(.int ((lst.getD p1.toNatClampNeg 0) &&& (255 : Int32)))])) (fun t k => XS.iand X2.here hx rfl (hb hby d30_12) rfl k) ?_
  refine own_st (S' := T2.setTop (mkF m 14 #[.val (.ref bb), .val (.int p1)] [(.int ((lst.getD p1.toNatClampNeg 0) &&& (255 : Int32)).toUInt32.toUInt16.toUInt32.toInt32)])) (fun t k => XS.i2c X2.here hx rfl (hb hby d30_13) rfl k) ?_
  refine own_retN X2 hx (t := .char) hret (by simp) hlk (hb hby d30_14) ?_ (by decide) (by decide)
  rw [hh2]
  exact ⟨by rw [i2c_mask]; show some (Value.int ((own_chr lst p1).toUInt32.toUInt16.toUInt32.toInt32)) = _; unfold own_chr; rw [i2c_mask], N2, rfl⟩
theorem d31_0 : decode jdk_43_method_2_code 0 = .ok (.iload_n 1, 1) := by decide +kernel
theorem d31_1 : decode jdk_43_method_2_code 1 = .ok (.aload_n 0, 1) := by decide +kernel
theorem d31_2 : decode jdk_43_method_2_code 2 = .ok (.arraylength, 1) := by decide +kernel
theorem d31_3 : decode jdk_43_method_2_code 3 = .ok (.invokestatic 9, 3) := by decide +kernel
theorem d31_6 : decode jdk_43_method_2_code 6 = .ok (.aload_n 0, 1) := by decide +kernel
theorem d31_7 : decode jdk_43_method_2_code 7 = .ok (.iload_n 1, 1) := by decide +kernel
theorem d31_8 : decode jdk_43_method_2_code 8 = .ok (.baload, 1) := by decide +kernel
theorem d31_9 : decode jdk_43_method_2_code 9 = .ok (.sipush 255, 3) := by decide +kernel
theorem d31_12 : decode jdk_43_method_2_code 12 = .ok (.iand, 1) := by decide +kernel
theorem d31_13 : decode jdk_43_method_2_code 13 = .ok (.i2c, 1) := by decide +kernel
theorem d31_14 : decode jdk_43_method_2_code 14 = .ok (.ireturn, 1) := by decide +kernel
theorem pd31_0 : parseMethodDescriptor "(II)V" = some ⟨[.int, .int], none⟩ := by decide +kernel
theorem pn31 : plainName "java/lang/StringLatin1" = true := by first | (simp [plainName, overriddenIn]; done) | decide +kernel
theorem ef31 (m : MethodId) (bb : Addr) (p1 : Int32) : entryFrame m #[(.ref bb), (.int p1)] 2 = mkF m 0 #[.val (.ref bb), .val (.int p1)] [] := by first | (simp [entryFrame, mkF, argsToLocals, Value.category]; done) | rfl
def Q31 (Z : State) (bb : Addr) (p1 : Int32) (fm : Addr) (lst : List Int32) (h0 : Heap) (n0 : Nat) (v : Option Value) (h : Heap) (L : List Loc) : Prop := v = some (.int (own_chr lst p1)) ∧ Fr n0 L ∧ h = h0
set_option maxRecDepth 65536 in
set_option maxHeartbeats 40000000 in
theorem rm31 (l : Launch) (Z : State) (a0 : Array Value) (hw : ∀ d ∈ tables_1, d.before a0 Z = true) (ws : List Jvm.Cond) (bb : Addr) (p1 : Int32) (fm : Addr) (lst : List Int32) (h0 : Heap) (n0 : Nat) (Z0 : n0 ≤ h0.size) (S___SIOOBE_FORMATTER : Sta Z h0 "jdk/internal/util/Preconditions" "SIOOBE_FORMATTER" "Ljava/util/function/BiFunction;" (.ref fm)) (A_bb : own_A Z h0 bb .byte 16 (fun j => .int (lst.getD j 0))) (hi : 0 ≤ p1.toInt ∧ p1.toInt ≤ 15) :
    MetFree l (⟨"java/lang/StringLatin1", "charAt", "([BI)C"⟩ : MethodName) (head1 (Jvm.Cond.code (⟨"java/lang/StringLatin1", "charAt", "([BI)C"⟩ : MethodName) jdk_43_method_2_code 2 (some .char) :: ws) ({ frames := 2, cells := 0, slots := 0, locals := 27 } : Room)) (fun as' U => as' = #[(.ref bb), (.int p1)] ∧ Z.Warmed39 U.vm ∧ U.heap = h0) (fun _ _ _ _ _ => True) (fun _ U o U' => ∃ v L, o = .returned v ∧ Q31 Z bb p1 fm lst h0 n0 v U'.heap L ∧ FrameEnd U o U' L ({ frames := 2, cells := 0, slots := 0, locals := 27 } : Room).cells ({ frames := 2, cells := 0, slots := 0, locals := 27 } : Room).slots) := by
  refine own_body (plainFor_of_name pn31) ?_
  intro p e s m below meth c s₁ hx hby hml hown0 hnm hret hlk hZ X0 e0
  have hown : s.vm.findClass "java/lang/StringLatin1" = some m.cls := hown0
  have N0 := Fr.nil n0
  rw [ef31]
  show own_Go p.tables e below _ (s₁.setTop (mkF m 0 #[.val (.ref bb), .val (.int p1)] []))
  refine own_st (S' := s₁.setTop (mkF m 1 #[.val (.ref bb), .val (.int p1)] [(.int p1)])) (fun t k => XS.iloadN X0.here hx rfl (hb hby d31_0) rfl k) ?_
  refine own_st (S' := s₁.setTop (mkF m 2 #[.val (.ref bb), .val (.int p1)] [(.ref bb), (.int p1)])) (fun t k => XS.aloadN X0.here hx rfl (hb hby d31_1) rfl rfl k) ?_
  have O1 := A_bb
  obtain ⟨c1, Ar1, S1, M1, V1⟩ := O1
  have ln1 : c1.slots.size.toInt32 = (16 : Int32) := by rw [S1]; first | rfl | decide | exact rfl
  refine own_st (S' := s₁.setTop (mkF m 3 #[.val (.ref bb), .val (.int p1)] [(.int (16 : Int32)), (.int p1)])) (fun t k => X0.arraylength hx (by rw [e0]; exact Ar1.1) (State.isArrayOf_alike hZ.alike Ar1.2.1) (g := (mkF m 2 #[.val (.ref bb), .val (.int p1)] [(.ref bb), (.int p1)])) rfl rfl (hb hby d31_2) _ (by rw [ln1]; exact k)) ?_
  obtain ⟨_, _, ⟨T2, L2, k2, n2⟩, -, X2, ⟨Lc2, hQ2, l2, y2, z2⟩, st2⟩ := Jvm.LawKit.callS X0 hx (y := (⟨"java/lang/String", "checkIndex", "(II)V"⟩ : MethodName)) hown (mvT hZ (hw _ (List.mem_of_getElem? (i := 26) rfl))) (mvT hZ (hw _ (List.mem_of_getElem? (i := 27) rfl))) (mvT hZ (hw _ (List.mem_of_getElem? (i := 1) rfl))) (mvT hZ (hw _ (List.mem_of_getElem? (i := 28) rfl))) (by decide) (backOf (W := 0) (rm21 l Z a0 hw [] p1 fm h0 n0 Z0 S___SIOOBE_FORMATTER hi) hZ (hw _ (List.mem_of_getElem? (i := 28) rfl)) (hw _ (List.mem_of_getElem? (i := 1) rfl)) (by decide) (by decide)) (g := (mkF m 3 #[.val (.ref bb), .val (.int p1)] [(.int (16 : Int32)), (.int p1)])) rfl (by rw [hml]; rfl) (argsL := [(.int p1), (.int (16 : Int32))]) (rest := []) (lenOf pd31_0 rfl) rfl (by show 2 * 0 + _ ≤ _; exact Nat.le_of_eq rfl) (hb hby d31_3) (fun _ _ => ⟨rfl, e0, (by decide : 0 + 0 ≤ _), (by decide : 0 + 0 ≤ _)⟩)
  dsimp only [Pt.U, Pt.locs, Pt.cells, Pt.slots] at X2 l2 y2 z2 st2 hQ2
  rw [l2, y2, z2] at X2
  obtain ⟨rfl, N2q, hh2⟩ := hQ2
  have N2 := Fr.app N0 N2q
  refine own_st st2 ?_
  show own_Go p.tables e below _ (T2.setTop (mkF m 6 #[.val (.ref bb), .val (.int p1)] []))
  refine own_st (S' := T2.setTop (mkF m 7 #[.val (.ref bb), .val (.int p1)] [(.ref bb)])) (fun t k => XS.aloadN X2.here hx rfl (hb hby d31_6) rfl rfl k) ?_
  refine own_st (S' := T2.setTop (mkF m 8 #[.val (.ref bb), .val (.int p1)] [(.int p1), (.ref bb)])) (fun t k => XS.iloadN X2.here hx rfl (hb hby d31_7) rfl k) ?_
  have O3 := A_bb
  obtain ⟨c3, Ar3, S3, M3, V3⟩ := O3
  have at3 : c3.slots[(p1).toNatClampNeg]? = some (.int (lst.getD p1.toNatClampNeg 0)) := own_at S3 V3 (own_ix16 hi) rfl
  refine own_st (S' := T2.setTop (mkF m 9 #[.val (.ref bb), .val (.int p1)] [(.int (lst.getD p1.toNatClampNeg 0))])) (fun t k => X2.baloadBytes hx (j := p1) (v := (.int (lst.getD p1.toNatClampNeg 0))) (by rw [hh2]; exact Ar3.1) (State.isArrayOf_alike hZ.alike Ar3.2.1) Ar3.2.2 (own_in S3 (own_ix16 hi)) at3 (g := (mkF m 8 #[.val (.ref bb), .val (.int p1)] [(.int p1), (.ref bb)])) rfl rfl (hb hby d31_8) _ k) ?_
  refine own_st (S' := T2.setTop (mkF m 12 #[.val (.ref bb), .val (.int p1)] [(.int (255 : Int32)), (.int (lst.getD p1.toNatClampNeg 0))])) (fun t k => XS.sipush X2.here hx rfl (hb hby d31_9) k) ?_
  refine own_st (S' := T2.setTop (mkF m 13 #[.val (.ref bb), .val (.int p1)] [(.int ((lst.getD p1.toNatClampNeg 0) &&& (255 : Int32)))])) (fun t k => XS.iand X2.here hx rfl (hb hby d31_12) rfl k) ?_
  refine own_st (S' := T2.setTop (mkF m 14 #[.val (.ref bb), .val (.int p1)] [(.int ((lst.getD p1.toNatClampNeg 0) &&& (255 : Int32)).toUInt32.toUInt16.toUInt32.toInt32)])) (fun t k => XS.i2c X2.here hx rfl (hb hby d31_13) rfl k) ?_
  refine own_retN X2 hx (t := .char) hret (by simp) hlk (hb hby d31_14) ?_ (by decide) (by decide)
  rw [hh2]
  exact ⟨by rw [i2c_mask]; show some (Value.int ((own_chr lst p1).toUInt32.toUInt16.toUInt32.toInt32)) = _; unfold own_chr; rw [i2c_mask], N2, rfl⟩
theorem d40_0 : decode jdk_42_method_154_code 0 = .ok (.getstatic 38, 3) := by decide +kernel
theorem d40_3 : decode jdk_42_method_154_code 3 = .ok (.ifCond .eq 14, 3) := by decide +kernel
theorem d40_6 : decode jdk_42_method_154_code 6 = .ok (.aload_n 0, 1) := by decide +kernel
theorem d40_7 : decode jdk_42_method_154_code 7 = .ok (.getfield 15, 3) := by decide +kernel
theorem d40_10 : decode jdk_42_method_154_code 10 = .ok (.ifCond .ne 7, 3) := by decide +kernel
theorem d40_13 : decode jdk_42_method_154_code 13 = .ok (.iconst 1, 1) := by decide +kernel
theorem d40_14 : decode jdk_42_method_154_code 14 = .ok (.goto 4, 3) := by decide +kernel
theorem d40_18 : decode jdk_42_method_154_code 18 = .ok (.ireturn, 1) := by decide +kernel
theorem pn40 : plainName "java/lang/String" = true := by first | (simp [plainName, overriddenIn]; done) | decide +kernel
theorem ef40 (m : MethodId) (a : Addr) : entryFrame m #[(.ref a)] 1 = mkF m 0 #[.val (.ref a)] [] := by first | (simp [entryFrame, mkF, argsToLocals, Value.category]; done) | rfl
def Q40 (Z : State) (a : Addr) (cs : Int32) (h0 : Heap) (n0 : Nat) (v : Option Value) (h : Heap) (L : List Loc) : Prop := v = some (.int (1 : Int32)) ∧ Fr n0 L ∧ h = h0
set_option maxRecDepth 65536 in
set_option maxHeartbeats 40000000 in
theorem rm40 (l : Launch) (Z : State) (a0 : Array Value) (hw : ∀ d ∈ tables_1, d.before a0 Z = true) (ws : List Jvm.Cond) (a : Addr) (cs : Int32) (h0 : Heap) (n0 : Nat) (Z0 : n0 ≤ h0.size) (S___COMPACT_STRINGS : Sta Z h0 "java/lang/String" "COMPACT_STRINGS" "Z" (.int cs)) (F_a_coder : Fld Z h0 a "java/lang/String" "coder" "B" (.int (0 : Int32))) (hcs : ¬ cs = (0 : Int32)) :
    MetFree l (⟨"java/lang/String", "isLatin1", "()Z"⟩ : MethodName) (head1 (Jvm.Cond.code (⟨"java/lang/String", "isLatin1", "()Z"⟩ : MethodName) jdk_42_method_154_code 1 (some .boolean) :: ws) ({ frames := 0, cells := 0, slots := 0, locals := 0 } : Room)) (fun as' U => as' = #[(.ref a)] ∧ Z.Warmed39 U.vm ∧ U.heap = h0) (fun _ _ _ _ _ => True) (fun _ U o U' => ∃ v L, o = .returned v ∧ Q40 Z a cs h0 n0 v U'.heap L ∧ FrameEnd U o U' L ({ frames := 0, cells := 0, slots := 0, locals := 0 } : Room).cells ({ frames := 0, cells := 0, slots := 0, locals := 0 } : Room).slots) := by
  refine own_body (plainFor_of_name pn40) ?_
  intro p e s m below meth c s₁ hx hby hml hown0 hnm hret hlk hZ X0 e0
  have hown : s.vm.findClass "java/lang/String" = some m.cls := hown0
  have N0 := Fr.nil n0
  rw [ef40]
  show own_Go p.tables e below _ (s₁.setTop (mkF m 0 #[.val (.ref a)] []))
  obtain ⟨T1, X1, e1, st1⟩ := getS2 X0 hx hZ hown (host := "") (Or.inl (hw _ (List.mem_of_getElem? (i := 19) rfl))) Via.refl e0 S___COMPACT_STRINGS (g := (mkF m 0 #[.val (.ref a)] [])) rfl (hb hby d40_0)
  refine own_st st1 ?_
  show own_Go p.tables e below _ (T1.setTop (mkF m 3 #[.val (.ref a)] [(.int cs)]))
  have hc2 : ¬ (cs = (0 : Int32)) := hcs
  refine own_st (S' := T1.setTop (mkF m 6 #[.val (.ref a)] [])) (fun t k => XS.ifNo X1.here hx rfl (hb hby d40_3) rfl ((if0 _ _).trans (feq hc2).1) k) ?_
  show own_Go p.tables e below _ (T1.setTop (mkF m 6 #[.val (.ref a)] []))
  refine own_st (S' := T1.setTop (mkF m 7 #[.val (.ref a)] [(.ref a)])) (fun t k => XS.aloadN X1.here hx rfl (hb hby d40_6) rfl rfl k) ?_
  obtain ⟨T3, X3, e3, st3⟩ := getF X1 hx hZ hown (host := "") (Or.inl (hw _ (List.mem_of_getElem? (i := 20) rfl))) Via.refl e1 F_a_coder (g := (mkF m 7 #[.val (.ref a)] [(.ref a)])) rfl rfl (hb hby d40_7)
  refine own_st st3 ?_
  show own_Go p.tables e below _ (T3.setTop (mkF m 10 #[.val (.ref a)] [(.int (0 : Int32))]))
  refine own_st (S' := T3.setTop (mkF m 13 #[.val (.ref a)] [])) (fun t k => XS.ifNo X3.here hx rfl (hb hby d40_10) rfl ((if0 _ _).trans (teq (by decide)).2) k) ?_
  show own_Go p.tables e below _ (T3.setTop (mkF m 13 #[.val (.ref a)] []))
  refine own_st (S' := T3.setTop (mkF m 14 #[.val (.ref a)] [(.int (1 : Int32))])) (fun t k => XS.iconst X3.here hx rfl (hb hby d40_13) k) ?_
  refine own_st (S' := T3.setTop (mkF m 18 #[.val (.ref a)] [(.int (1 : Int32))])) (fun t k => XS.goto X3.here hx rfl (pc0 := 14) (pc' := 18) rfl (hb hby d40_14) (by decide) (by decide) k) ?_
  refine own_retN X3 hx (t := .boolean) hret (by simp) hlk (hb hby d40_18) ?_ (by decide) (by decide)
  rw [e3]
  exact ⟨(by rfl), N0, rfl⟩
theorem d50_0 : decode jdk_42_method_56_code 0 = .ok (.aload_n 0, 1) := by decide +kernel
theorem d50_1 : decode jdk_42_method_56_code 1 = .ok (.invokevirtual 492, 3) := by decide +kernel
theorem d50_4 : decode jdk_42_method_56_code 4 = .ok (.ifCond .eq 12, 3) := by decide +kernel
theorem d50_7 : decode jdk_42_method_56_code 7 = .ok (.aload_n 0, 1) := by decide +kernel
theorem d50_8 : decode jdk_42_method_56_code 8 = .ok (.getfield 9, 3) := by decide +kernel
theorem d50_11 : decode jdk_42_method_56_code 11 = .ok (.iload_n 1, 1) := by decide +kernel
theorem d50_12 : decode jdk_42_method_56_code 12 = .ok (.invokestatic 495, 3) := by decide +kernel
theorem d50_15 : decode jdk_42_method_56_code 15 = .ok (.ireturn, 1) := by decide +kernel
theorem pd50_0 : parseMethodDescriptor "()Z" = some ⟨[], some .boolean⟩ := by decide +kernel
theorem pd50_1 : parseMethodDescriptor "([BI)C" = some ⟨[(.array .byte), .int], some .char⟩ := by decide +kernel
theorem pn50 : plainName "java/lang/String" = true := by first | (simp [plainName, overriddenIn]; done) | decide +kernel
theorem ef50 (m : MethodId) (a : Addr) (p1 : Int32) : entryFrame m #[(.ref a), (.int p1)] 2 = mkF m 0 #[.val (.ref a), .val (.int p1)] [] := by first | (simp [entryFrame, mkF, argsToLocals, Value.category]; done) | rfl
def Q50 (Z : State) (a : Addr) (p1 : Int32) (cs : Int32) (fm : Value) (bb : Addr) (lst : List Int32) (h0 : Heap) (n0 : Nat) (v : Option Value) (h : Heap) (L : List Loc) : Prop := v = some (.int (own_chr lst p1)) ∧ Fr n0 L ∧ h = h0
set_option maxRecDepth 65536 in
set_option maxHeartbeats 40000000 in
theorem rm50 (l : Launch) (Z : State) (a0 : Array Value) (hw : ∀ d ∈ tables_1, d.before a0 Z = true) (ws : List Jvm.Cond) (a : Addr) (p1 : Int32) (cs : Int32) (fm : Value) (bb : Addr) (lst : List Int32) (h0 : Heap) (n0 : Nat) (Z0 : n0 ≤ h0.size) (E_a : Exa Z h0 a "java/lang/String") (S___COMPACT_STRINGS : Sta Z h0 "java/lang/String" "COMPACT_STRINGS" "Z" (.int cs)) (S___SIOOBE_FORMATTER : Sta Z h0 "jdk/internal/util/Preconditions" "SIOOBE_FORMATTER" "Ljava/util/function/BiFunction;" fm) (F_a_coder : Fld Z h0 a "java/lang/String" "coder" "B" (.int (0 : Int32))) (F_a_value : Fld Z h0 a "java/lang/String" "value" "[B" (.ref bb)) (A_bb : own_A Z h0 bb .byte 16 (fun j => .int (lst.getD j 0))) (hi : 0 ≤ p1.toInt ∧ p1.toInt ≤ 15) (hcs : ¬ cs = (0 : Int32)) (hfm : fm.isRef = true) :
    MetFree l (⟨"java/lang/String", "charAt", "(I)C"⟩ : MethodName) (head1 (Jvm.Cond.code (⟨"java/lang/String", "charAt", "(I)C"⟩ : MethodName) jdk_42_method_56_code 2 (some .char) :: ws) ({ frames := 3, cells := 0, slots := 0, locals := 40 } : Room)) (fun as' U => as' = #[(.ref a), (.int p1)] ∧ Z.Warmed39 U.vm ∧ U.heap = h0) (fun _ _ _ _ _ => True) (fun _ U o U' => ∃ v L, o = .returned v ∧ Q50 Z a p1 cs fm bb lst h0 n0 v U'.heap L ∧ FrameEnd U o U' L ({ frames := 3, cells := 0, slots := 0, locals := 40 } : Room).cells ({ frames := 3, cells := 0, slots := 0, locals := 40 } : Room).slots) := by
  refine own_body (plainFor_of_name pn50) ?_
  intro p e s m below meth c s₁ hx hby hml hown0 hnm hret hlk hZ X0 e0
  have hown : s.vm.findClass "java/lang/String" = some m.cls := hown0
  have N0 := Fr.nil n0
  rw [ef50]
  rcases ref_cases hfm with rfl | ⟨fm, rfl⟩
  · show own_Go p.tables e below _ (s₁.setTop (mkF m 0 #[.val (.ref a), .val (.int p1)] []))
    refine own_st (S' := s₁.setTop (mkF m 1 #[.val (.ref a), .val (.int p1)] [(.ref a)])) (fun t k => XS.aloadN X0.here hx rfl (hb hby d50_0) rfl rfl k) ?_
    obtain ⟨cq1, kq1, q1a, q1b, q1c⟩ := isOf hZ e0 E_a
    obtain ⟨_, _, ⟨T1, L1, k1, n1⟩, -, X1, ⟨Lc1, hQ1, l1, y1, z1⟩, st1⟩ := X0.virtualBack hx (y := (⟨"java/lang/String", "isLatin1", "()Z"⟩ : MethodName)) (z := (⟨"java/lang/String", "isLatin1", "()Z"⟩ : MethodName)) hown (mvT hZ (hw _ (List.mem_of_getElem? (i := 14) rfl))) (mvT hZ (hw _ (List.mem_of_getElem? (i := 15) rfl))) (notFace_of_selects (args := #[]) (mvT hZ (hw _ (List.mem_of_getElem? (i := 17) rfl)))) (mvT hZ (hw _ (List.mem_of_getElem? (i := 17) rfl))) (mvT hZ (hw _ (List.mem_of_getElem? (i := 16) rfl))) (by decide) (backOf (W := 0) (rm40 l Z a0 hw [] a cs h0 n0 Z0 S___COMPACT_STRINGS F_a_coder hcs) hZ (hw _ (List.mem_of_getElem? (i := 18) rfl)) (hw _ (List.mem_of_getElem? (i := 1) rfl)) (by decide) (by decide)) q1a q1c (g := (mkF m 1 #[.val (.ref a), .val (.int p1)] [(.ref a)])) rfl (by rw [hml]; rfl) (Steps.refl _) (argsL := []) (rest := []) (lenOf pd50_0 rfl) rfl (by show 2 * 0 + _ ≤ _; exact Nat.le_of_eq rfl) (hb hby d50_1) (fun _ _ => ⟨rfl, e0, (by decide : 0 + 0 ≤ _), (by decide : 0 + 0 ≤ _)⟩)
    dsimp only [Pt.U, Pt.locs, Pt.cells, Pt.slots] at X1 l1 y1 z1 st1 hQ1
    rw [l1, y1, z1] at X1
    obtain ⟨rfl, N1q, hh1⟩ := hQ1
    have N1 := Fr.app N0 N1q
    refine own_tr st1 ?_
    show own_Go p.tables e below _ (T1.setTop (mkF m 4 #[.val (.ref a), .val (.int p1)] [(.int (1 : Int32))]))
    refine own_st (S' := T1.setTop (mkF m 7 #[.val (.ref a), .val (.int p1)] [])) (fun t k => XS.ifNo X1.here hx rfl (hb hby d50_4) rfl ((if0 _ _).trans (feq (by decide)).1) k) ?_
    show own_Go p.tables e below _ (T1.setTop (mkF m 7 #[.val (.ref a), .val (.int p1)] []))
    refine own_st (S' := T1.setTop (mkF m 8 #[.val (.ref a), .val (.int p1)] [(.ref a)])) (fun t k => XS.aloadN X1.here hx rfl (hb hby d50_7) rfl rfl k) ?_
    obtain ⟨T2, X2, e2, st2⟩ := getF X1 hx hZ hown (host := "") (Or.inl (hw _ (List.mem_of_getElem? (i := 21) rfl))) Via.refl hh1 F_a_value (g := (mkF m 8 #[.val (.ref a), .val (.int p1)] [(.ref a)])) rfl rfl (hb hby d50_8)
    refine own_st st2 ?_
    show own_Go p.tables e below _ (T2.setTop (mkF m 11 #[.val (.ref a), .val (.int p1)] [(.ref bb)]))
    refine own_st (S' := T2.setTop (mkF m 12 #[.val (.ref a), .val (.int p1)] [(.int p1), (.ref bb)])) (fun t k => XS.iloadN X2.here hx rfl (hb hby d50_11) rfl k) ?_
    obtain ⟨_, _, ⟨T3, L3, k3, n3⟩, -, X3, ⟨Lc3, hQ3, l3, y3, z3⟩, st3⟩ := Jvm.LawKit.callS X2 hx (y := (⟨"java/lang/StringLatin1", "charAt", "([BI)C"⟩ : MethodName)) hown (mvT hZ (hw _ (List.mem_of_getElem? (i := 22) rfl))) (mvT hZ (hw _ (List.mem_of_getElem? (i := 23) rfl))) (mvT hZ (hw _ (List.mem_of_getElem? (i := 24) rfl))) (mvT hZ (hw _ (List.mem_of_getElem? (i := 25) rfl))) (by decide) (backOf (W := 0) (rm30 l Z a0 hw [] bb p1 lst h0 n0 Z0 S___SIOOBE_FORMATTER A_bb hi) hZ (hw _ (List.mem_of_getElem? (i := 25) rfl)) (hw _ (List.mem_of_getElem? (i := 24) rfl)) (by decide) (by decide)) (g := (mkF m 12 #[.val (.ref a), .val (.int p1)] [(.int p1), (.ref bb)])) rfl (by rw [hml]; rfl) (argsL := [(.ref bb), (.int p1)]) (rest := []) (lenOf pd50_1 rfl) rfl (by show 2 * 0 + _ ≤ _; exact Nat.le_of_eq rfl) (hb hby d50_12) (fun _ _ => ⟨rfl, e2, (by decide : 0 + 0 ≤ _), (by decide : 0 + 0 ≤ _)⟩)
    dsimp only [Pt.U, Pt.locs, Pt.cells, Pt.slots] at X3 l3 y3 z3 st3 hQ3
    rw [l3, y3, z3] at X3
    obtain ⟨rfl, N3q, hh3⟩ := hQ3
    have N3 := Fr.app N1 N3q
    refine own_st st3 ?_
    show own_Go p.tables e below _ (T3.setTop (mkF m 15 #[.val (.ref a), .val (.int p1)] [(.int (own_chr lst p1))]))
    refine own_retN X3 hx (t := .char) hret (by simp) hlk (hb hby d50_15) ?_ (by decide) (by decide)
    rw [hh3]
    exact ⟨by show some (Value.int ((own_chr lst p1).toUInt32.toUInt16.toUInt32.toInt32)) = _; unfold own_chr; rw [i2c_mask], N3, rfl⟩
  · show own_Go p.tables e below _ (s₁.setTop (mkF m 0 #[.val (.ref a), .val (.int p1)] []))
    refine own_st (S' := s₁.setTop (mkF m 1 #[.val (.ref a), .val (.int p1)] [(.ref a)])) (fun t k => XS.aloadN X0.here hx rfl (hb hby d50_0) rfl rfl k) ?_
    obtain ⟨cq4, kq4, q4a, q4b, q4c⟩ := isOf hZ e0 E_a
    obtain ⟨_, _, ⟨T4, L4, k4, n4⟩, -, X4, ⟨Lc4, hQ4, l4, y4, z4⟩, st4⟩ := X0.virtualBack hx (y := (⟨"java/lang/String", "isLatin1", "()Z"⟩ : MethodName)) (z := (⟨"java/lang/String", "isLatin1", "()Z"⟩ : MethodName)) hown (mvT hZ (hw _ (List.mem_of_getElem? (i := 14) rfl))) (mvT hZ (hw _ (List.mem_of_getElem? (i := 15) rfl))) (notFace_of_selects (args := #[]) (mvT hZ (hw _ (List.mem_of_getElem? (i := 17) rfl)))) (mvT hZ (hw _ (List.mem_of_getElem? (i := 17) rfl))) (mvT hZ (hw _ (List.mem_of_getElem? (i := 16) rfl))) (by decide) (backOf (W := 0) (rm40 l Z a0 hw [] a cs h0 n0 Z0 S___COMPACT_STRINGS F_a_coder hcs) hZ (hw _ (List.mem_of_getElem? (i := 18) rfl)) (hw _ (List.mem_of_getElem? (i := 1) rfl)) (by decide) (by decide)) q4a q4c (g := (mkF m 1 #[.val (.ref a), .val (.int p1)] [(.ref a)])) rfl (by rw [hml]; rfl) (Steps.refl _) (argsL := []) (rest := []) (lenOf pd50_0 rfl) rfl (by show 2 * 0 + _ ≤ _; exact Nat.le_of_eq rfl) (hb hby d50_1) (fun _ _ => ⟨rfl, e0, (by decide : 0 + 0 ≤ _), (by decide : 0 + 0 ≤ _)⟩)
    dsimp only [Pt.U, Pt.locs, Pt.cells, Pt.slots] at X4 l4 y4 z4 st4 hQ4
    rw [l4, y4, z4] at X4
    obtain ⟨rfl, N4q, hh4⟩ := hQ4
    have N4 := Fr.app N0 N4q
    refine own_tr st4 ?_
    show own_Go p.tables e below _ (T4.setTop (mkF m 4 #[.val (.ref a), .val (.int p1)] [(.int (1 : Int32))]))
    refine own_st (S' := T4.setTop (mkF m 7 #[.val (.ref a), .val (.int p1)] [])) (fun t k => XS.ifNo X4.here hx rfl (hb hby d50_4) rfl ((if0 _ _).trans (feq (by decide)).1) k) ?_
    show own_Go p.tables e below _ (T4.setTop (mkF m 7 #[.val (.ref a), .val (.int p1)] []))
    refine own_st (S' := T4.setTop (mkF m 8 #[.val (.ref a), .val (.int p1)] [(.ref a)])) (fun t k => XS.aloadN X4.here hx rfl (hb hby d50_7) rfl rfl k) ?_
    obtain ⟨T5, X5, e5, st5⟩ := getF X4 hx hZ hown (host := "") (Or.inl (hw _ (List.mem_of_getElem? (i := 21) rfl))) Via.refl hh4 F_a_value (g := (mkF m 8 #[.val (.ref a), .val (.int p1)] [(.ref a)])) rfl rfl (hb hby d50_8)
    refine own_st st5 ?_
    show own_Go p.tables e below _ (T5.setTop (mkF m 11 #[.val (.ref a), .val (.int p1)] [(.ref bb)]))
    refine own_st (S' := T5.setTop (mkF m 12 #[.val (.ref a), .val (.int p1)] [(.int p1), (.ref bb)])) (fun t k => XS.iloadN X5.here hx rfl (hb hby d50_11) rfl k) ?_
    obtain ⟨_, _, ⟨T6, L6, k6, n6⟩, -, X6, ⟨Lc6, hQ6, l6, y6, z6⟩, st6⟩ := Jvm.LawKit.callS X5 hx (y := (⟨"java/lang/StringLatin1", "charAt", "([BI)C"⟩ : MethodName)) hown (mvT hZ (hw _ (List.mem_of_getElem? (i := 22) rfl))) (mvT hZ (hw _ (List.mem_of_getElem? (i := 23) rfl))) (mvT hZ (hw _ (List.mem_of_getElem? (i := 24) rfl))) (mvT hZ (hw _ (List.mem_of_getElem? (i := 25) rfl))) (by decide) (backOf (W := 0) (rm31 l Z a0 hw [] bb p1 fm lst h0 n0 Z0 S___SIOOBE_FORMATTER A_bb hi) hZ (hw _ (List.mem_of_getElem? (i := 25) rfl)) (hw _ (List.mem_of_getElem? (i := 24) rfl)) (by decide) (by decide)) (g := (mkF m 12 #[.val (.ref a), .val (.int p1)] [(.int p1), (.ref bb)])) rfl (by rw [hml]; rfl) (argsL := [(.ref bb), (.int p1)]) (rest := []) (lenOf pd50_1 rfl) rfl (by show 2 * 0 + _ ≤ _; exact Nat.le_of_eq rfl) (hb hby d50_12) (fun _ _ => ⟨rfl, e5, (by decide : 0 + 0 ≤ _), (by decide : 0 + 0 ≤ _)⟩)
    dsimp only [Pt.U, Pt.locs, Pt.cells, Pt.slots] at X6 l6 y6 z6 st6 hQ6
    rw [l6, y6, z6] at X6
    obtain ⟨rfl, N6q, hh6⟩ := hQ6
    have N6 := Fr.app N4 N6q
    refine own_st st6 ?_
    show own_Go p.tables e below _ (T6.setTop (mkF m 15 #[.val (.ref a), .val (.int p1)] [(.int (own_chr lst p1))]))
    refine own_retN X6 hx (t := .char) hret (by simp) hlk (hb hby d50_15) ?_ (by decide) (by decide)
    rw [hh6]
    exact ⟨by show some (Value.int ((own_chr lst p1).toUInt32.toUInt16.toUInt32.toInt32)) = _; unfold own_chr; rw [i2c_mask], N6, rfl⟩
theorem d60_0 : decode prog_163_method_10_code 0 = .ok (.iload_n 0, 1) := by decide +kernel
theorem d60_1 : decode prog_163_method_10_code 1 = .ok (.bipush 48, 2) := by decide +kernel
theorem d60_3 : decode prog_163_method_10_code 3 = .ok (.if_icmp .lt 14, 3) := by decide +kernel
theorem d60_6 : decode prog_163_method_10_code 6 = .ok (.iload_n 0, 1) := by decide +kernel
theorem d60_7 : decode prog_163_method_10_code 7 = .ok (.bipush 57, 2) := by decide +kernel
theorem d60_9 : decode prog_163_method_10_code 9 = .ok (.if_icmp .gt 8, 3) := by decide +kernel
theorem d60_12 : decode prog_163_method_10_code 12 = .ok (.iload_n 0, 1) := by decide +kernel
theorem d60_13 : decode prog_163_method_10_code 13 = .ok (.bipush 48, 2) := by decide +kernel
theorem d60_15 : decode prog_163_method_10_code 15 = .ok (.isub, 1) := by decide +kernel
theorem d60_16 : decode prog_163_method_10_code 16 = .ok (.ireturn, 1) := by decide +kernel
theorem d60_17 : decode prog_163_method_10_code 17 = .ok (.iload_n 0, 1) := by decide +kernel
theorem d60_18 : decode prog_163_method_10_code 18 = .ok (.bipush 97, 2) := by decide +kernel
theorem d60_20 : decode prog_163_method_10_code 20 = .ok (.if_icmp .lt 17, 3) := by decide +kernel
theorem d60_23 : decode prog_163_method_10_code 23 = .ok (.iload_n 0, 1) := by decide +kernel
theorem d60_24 : decode prog_163_method_10_code 24 = .ok (.bipush 102, 2) := by decide +kernel
theorem d60_26 : decode prog_163_method_10_code 26 = .ok (.if_icmp .gt 11, 3) := by decide +kernel
theorem d60_29 : decode prog_163_method_10_code 29 = .ok (.iload_n 0, 1) := by decide +kernel
theorem d60_30 : decode prog_163_method_10_code 30 = .ok (.bipush 97, 2) := by decide +kernel
theorem d60_32 : decode prog_163_method_10_code 32 = .ok (.isub, 1) := by decide +kernel
theorem d60_33 : decode prog_163_method_10_code 33 = .ok (.bipush 10, 2) := by decide +kernel
theorem d60_35 : decode prog_163_method_10_code 35 = .ok (.iadd, 1) := by decide +kernel
theorem d60_36 : decode prog_163_method_10_code 36 = .ok (.ireturn, 1) := by decide +kernel
theorem d60_37 : decode prog_163_method_10_code 37 = .ok (.iload_n 0, 1) := by decide +kernel
theorem d60_38 : decode prog_163_method_10_code 38 = .ok (.bipush 65, 2) := by decide +kernel
theorem d60_40 : decode prog_163_method_10_code 40 = .ok (.if_icmp .lt 19, 3) := by decide +kernel
theorem d60_43 : decode prog_163_method_10_code 43 = .ok (.iload_n 0, 1) := by decide +kernel
theorem d60_44 : decode prog_163_method_10_code 44 = .ok (.bipush 70, 2) := by decide +kernel
theorem d60_46 : decode prog_163_method_10_code 46 = .ok (.if_icmp .gt 13, 3) := by decide +kernel
theorem d60_49 : decode prog_163_method_10_code 49 = .ok (.iload_n 0, 1) := by decide +kernel
theorem d60_50 : decode prog_163_method_10_code 50 = .ok (.bipush 65, 2) := by decide +kernel
theorem d60_52 : decode prog_163_method_10_code 52 = .ok (.isub, 1) := by decide +kernel
theorem d60_53 : decode prog_163_method_10_code 53 = .ok (.bipush 10, 2) := by decide +kernel
theorem d60_55 : decode prog_163_method_10_code 55 = .ok (.iadd, 1) := by decide +kernel
theorem d60_56 : decode prog_163_method_10_code 56 = .ok (.goto 4, 3) := by decide +kernel
theorem d60_59 : decode prog_163_method_10_code 59 = .ok (.iconst (-1), 1) := by decide +kernel
theorem d60_60 : decode prog_163_method_10_code 60 = .ok (.ireturn, 1) := by decide +kernel
theorem pn60 : plainName "kithrank/cli/Json" = true := by first | (simp [plainName, overriddenIn]; done) | decide +kernel
theorem ef60 (m : MethodId) (p1 : Int32) : entryFrame m #[(.int p1)] 1 = mkF m 0 #[.val (.int p1)] [] := by first | (simp [entryFrame, mkF, argsToLocals, Value.category]; done) | rfl
def Q60 (Z : State) (p1 : Int32) (h0 : Heap) (n0 : Nat) (v : Option Value) (h : Heap) (L : List Loc) : Prop := v = some (.int (own_hex p1)) ∧ Fr n0 L ∧ h = h0
set_option maxRecDepth 65536 in
set_option maxHeartbeats 40000000 in
theorem rm60 (l : Launch) (Z : State) (a0 : Array Value) (hw : ∀ d ∈ tables_1, d.before a0 Z = true) (ws : List Jvm.Cond) (p1 : Int32) (h0 : Heap) (n0 : Nat) (Z0 : n0 ≤ h0.size)  :
    MetFree l (⟨"kithrank/cli/Json", "hexadecimal", "(C)I"⟩ : MethodName) (head1 (Jvm.Cond.code (⟨"kithrank/cli/Json", "hexadecimal", "(C)I"⟩ : MethodName) prog_163_method_10_code 1 (some .int) :: ws) ({ frames := 0, cells := 0, slots := 0, locals := 0 } : Room)) (fun as' U => as' = #[(.int p1)] ∧ Z.Warmed39 U.vm ∧ U.heap = h0) (fun _ _ _ _ _ => True) (fun _ U o U' => ∃ v L, o = .returned v ∧ Q60 Z p1 h0 n0 v U'.heap L ∧ FrameEnd U o U' L ({ frames := 0, cells := 0, slots := 0, locals := 0 } : Room).cells ({ frames := 0, cells := 0, slots := 0, locals := 0 } : Room).slots) := by
  refine own_body (plainFor_of_name pn60) ?_
  intro p e s m below meth c s₁ hx hby hml hown0 hnm hret hlk hZ X0 e0
  have hown : s.vm.findClass "kithrank/cli/Json" = some m.cls := hown0
  have N0 := Fr.nil n0
  rw [ef60]
  show own_Go p.tables e below _ (s₁.setTop (mkF m 0 #[.val (.int p1)] []))
  refine own_st (S' := s₁.setTop (mkF m 1 #[.val (.int p1)] [(.int p1)])) (fun t k => XS.iloadN X0.here hx rfl (hb hby d60_0) rfl k) ?_
  refine own_st (S' := s₁.setTop (mkF m 3 #[.val (.int p1)] [(.int (48 : Int32)), (.int p1)])) (fun t k => XS.bipush X0.here hx rfl (hb hby d60_1) k) ?_
  by_cases hc1 : p1 < (48 : Int32)
  · refine own_st (S' := s₁.setTop (mkF m 17 #[.val (.int p1)] [])) (fun t k => XS.icmpYes X0.here hx rfl (pc0 := 3) (pc' := 17) rfl (hb hby d60_3) rfl (tlt hc1).1 (by decide) (by decide) k) ?_
    show own_Go p.tables e below _ (s₁.setTop (mkF m 17 #[.val (.int p1)] []))
    refine own_st (S' := s₁.setTop (mkF m 18 #[.val (.int p1)] [(.int p1)])) (fun t k => XS.iloadN X0.here hx rfl (hb hby d60_17) rfl k) ?_
    refine own_st (S' := s₁.setTop (mkF m 20 #[.val (.int p1)] [(.int (97 : Int32)), (.int p1)])) (fun t k => XS.bipush X0.here hx rfl (hb hby d60_18) k) ?_
    by_cases hc2 : p1 < (97 : Int32)
    · refine own_st (S' := s₁.setTop (mkF m 37 #[.val (.int p1)] [])) (fun t k => XS.icmpYes X0.here hx rfl (pc0 := 20) (pc' := 37) rfl (hb hby d60_20) rfl (tlt hc2).1 (by decide) (by decide) k) ?_
      show own_Go p.tables e below _ (s₁.setTop (mkF m 37 #[.val (.int p1)] []))
      refine own_st (S' := s₁.setTop (mkF m 38 #[.val (.int p1)] [(.int p1)])) (fun t k => XS.iloadN X0.here hx rfl (hb hby d60_37) rfl k) ?_
      refine own_st (S' := s₁.setTop (mkF m 40 #[.val (.int p1)] [(.int (65 : Int32)), (.int p1)])) (fun t k => XS.bipush X0.here hx rfl (hb hby d60_38) k) ?_
      obtain ⟨v3, qv3⟩ : ∃ z : Int32, z = (if p1 < (65 : Int32) then (-1 : Int32) else (if (70 : Int32) < p1 then (-1 : Int32) else ((p1 - (65 : Int32)) + (10 : Int32)))) := ⟨_, rfl⟩
      refine own_st (S' := s₁.setTop (mkF m 60 #[.val (.int p1)] [(.int v3)])) (fun t k => ?_) ?_
      · show Steps p.tables e below (s₁.setTop (mkF m 40 #[.val (.int p1)] [(.int (65 : Int32)), (.int p1)])) _
        by_cases hc4 : p1 < (65 : Int32)
        · rw [if_pos hc4] at qv3
          replace qv3 := Eq.symm qv3
          subst qv3
          refine XS.icmpYes X0.here hx rfl (pc0 := 40) (pc' := 59) rfl (hb hby d60_40) rfl (tlt hc4).1 (by decide) (by decide) ?_
          show Steps p.tables e below (s₁.setTop (mkF m 59 #[.val (.int p1)] [])) _
          refine XS.iconst X0.here hx rfl (hb hby d60_59) ?_
          show Steps p.tables e below (s₁.setTop (mkF m 60 #[.val (.int p1)] [(.int (-1 : Int32))])) _
          exact k
        · rw [if_neg hc4] at qv3
          refine XS.icmpNo X0.here hx rfl (hb hby d60_40) rfl (flt hc4).1 ?_
          show Steps p.tables e below (s₁.setTop (mkF m 43 #[.val (.int p1)] [])) _
          refine XS.iloadN X0.here hx rfl (hb hby d60_43) rfl ?_
          show Steps p.tables e below (s₁.setTop (mkF m 44 #[.val (.int p1)] [(.int p1)])) _
          refine XS.bipush X0.here hx rfl (hb hby d60_44) ?_
          show Steps p.tables e below (s₁.setTop (mkF m 46 #[.val (.int p1)] [(.int (70 : Int32)), (.int p1)])) _
          by_cases hc5 : (70 : Int32) < p1
          · rw [if_pos hc5] at qv3
            replace qv3 := Eq.symm qv3
            subst qv3
            refine XS.icmpYes X0.here hx rfl (pc0 := 46) (pc' := 59) rfl (hb hby d60_46) rfl (tlt hc5).2.2.1 (by decide) (by decide) ?_
            show Steps p.tables e below (s₁.setTop (mkF m 59 #[.val (.int p1)] [])) _
            refine XS.iconst X0.here hx rfl (hb hby d60_59) ?_
            show Steps p.tables e below (s₁.setTop (mkF m 60 #[.val (.int p1)] [(.int (-1 : Int32))])) _
            exact k
          · rw [if_neg hc5] at qv3
            replace qv3 := Eq.symm qv3
            subst qv3
            refine XS.icmpNo X0.here hx rfl (hb hby d60_46) rfl (flt hc5).2.2.1 ?_
            show Steps p.tables e below (s₁.setTop (mkF m 49 #[.val (.int p1)] [])) _
            refine XS.iloadN X0.here hx rfl (hb hby d60_49) rfl ?_
            show Steps p.tables e below (s₁.setTop (mkF m 50 #[.val (.int p1)] [(.int p1)])) _
            refine XS.bipush X0.here hx rfl (hb hby d60_50) ?_
            show Steps p.tables e below (s₁.setTop (mkF m 52 #[.val (.int p1)] [(.int (65 : Int32)), (.int p1)])) _
            refine XS.isub X0.here hx rfl (hb hby d60_52) rfl ?_
            show Steps p.tables e below (s₁.setTop (mkF m 53 #[.val (.int p1)] [(.int (p1 - (65 : Int32)))])) _
            refine XS.bipush X0.here hx rfl (hb hby d60_53) ?_
            show Steps p.tables e below (s₁.setTop (mkF m 55 #[.val (.int p1)] [(.int (10 : Int32)), (.int (p1 - (65 : Int32)))])) _
            refine XS.iadd X0.here hx rfl (hb hby d60_55) rfl ?_
            show Steps p.tables e below (s₁.setTop (mkF m 56 #[.val (.int p1)] [(.int ((p1 - (65 : Int32)) + (10 : Int32)))])) _
            refine XS.goto X0.here hx rfl (pc0 := 56) (pc' := 60) rfl (hb hby d60_56) (by decide) (by decide) ?_
            show Steps p.tables e below (s₁.setTop (mkF m 60 #[.val (.int p1)] [(.int ((p1 - (65 : Int32)) + (10 : Int32)))])) _
            exact k
      show own_Go p.tables e below _ (s₁.setTop (mkF m 60 #[.val (.int p1)] [(.int v3)]))
      refine own_retI X0 hx hret hlk (hb hby d60_60) ?_ (by decide) (by decide)
      rw [e0]
      refine ⟨?_, N0, rfl⟩
      unfold own_hex
      rw [if_pos hc1]
      unfold own_h2
      rw [if_pos hc2]
      unfold own_h3
      rw [qv3]
    · refine own_st (S' := s₁.setTop (mkF m 23 #[.val (.int p1)] [])) (fun t k => XS.icmpNo X0.here hx rfl (hb hby d60_20) rfl (flt hc2).1 k) ?_
      show own_Go p.tables e below _ (s₁.setTop (mkF m 23 #[.val (.int p1)] []))
      refine own_st (S' := s₁.setTop (mkF m 24 #[.val (.int p1)] [(.int p1)])) (fun t k => XS.iloadN X0.here hx rfl (hb hby d60_23) rfl k) ?_
      refine own_st (S' := s₁.setTop (mkF m 26 #[.val (.int p1)] [(.int (102 : Int32)), (.int p1)])) (fun t k => XS.bipush X0.here hx rfl (hb hby d60_24) k) ?_
      by_cases hc6 : (102 : Int32) < p1
      · refine own_st (S' := s₁.setTop (mkF m 37 #[.val (.int p1)] [])) (fun t k => XS.icmpYes X0.here hx rfl (pc0 := 26) (pc' := 37) rfl (hb hby d60_26) rfl (tlt hc6).2.2.1 (by decide) (by decide) k) ?_
        show own_Go p.tables e below _ (s₁.setTop (mkF m 37 #[.val (.int p1)] []))
        refine own_st (S' := s₁.setTop (mkF m 38 #[.val (.int p1)] [(.int p1)])) (fun t k => XS.iloadN X0.here hx rfl (hb hby d60_37) rfl k) ?_
        refine own_st (S' := s₁.setTop (mkF m 40 #[.val (.int p1)] [(.int (65 : Int32)), (.int p1)])) (fun t k => XS.bipush X0.here hx rfl (hb hby d60_38) k) ?_
        obtain ⟨v7, qv7⟩ : ∃ z : Int32, z = (if p1 < (65 : Int32) then (-1 : Int32) else (if (70 : Int32) < p1 then (-1 : Int32) else ((p1 - (65 : Int32)) + (10 : Int32)))) := ⟨_, rfl⟩
        refine own_st (S' := s₁.setTop (mkF m 60 #[.val (.int p1)] [(.int v7)])) (fun t k => ?_) ?_
        · show Steps p.tables e below (s₁.setTop (mkF m 40 #[.val (.int p1)] [(.int (65 : Int32)), (.int p1)])) _
          by_cases hc8 : p1 < (65 : Int32)
          · rw [if_pos hc8] at qv7
            replace qv7 := Eq.symm qv7
            subst qv7
            refine XS.icmpYes X0.here hx rfl (pc0 := 40) (pc' := 59) rfl (hb hby d60_40) rfl (tlt hc8).1 (by decide) (by decide) ?_
            show Steps p.tables e below (s₁.setTop (mkF m 59 #[.val (.int p1)] [])) _
            refine XS.iconst X0.here hx rfl (hb hby d60_59) ?_
            show Steps p.tables e below (s₁.setTop (mkF m 60 #[.val (.int p1)] [(.int (-1 : Int32))])) _
            exact k
          · rw [if_neg hc8] at qv7
            refine XS.icmpNo X0.here hx rfl (hb hby d60_40) rfl (flt hc8).1 ?_
            show Steps p.tables e below (s₁.setTop (mkF m 43 #[.val (.int p1)] [])) _
            refine XS.iloadN X0.here hx rfl (hb hby d60_43) rfl ?_
            show Steps p.tables e below (s₁.setTop (mkF m 44 #[.val (.int p1)] [(.int p1)])) _
            refine XS.bipush X0.here hx rfl (hb hby d60_44) ?_
            show Steps p.tables e below (s₁.setTop (mkF m 46 #[.val (.int p1)] [(.int (70 : Int32)), (.int p1)])) _
            by_cases hc9 : (70 : Int32) < p1
            · rw [if_pos hc9] at qv7
              replace qv7 := Eq.symm qv7
              subst qv7
              refine XS.icmpYes X0.here hx rfl (pc0 := 46) (pc' := 59) rfl (hb hby d60_46) rfl (tlt hc9).2.2.1 (by decide) (by decide) ?_
              show Steps p.tables e below (s₁.setTop (mkF m 59 #[.val (.int p1)] [])) _
              refine XS.iconst X0.here hx rfl (hb hby d60_59) ?_
              show Steps p.tables e below (s₁.setTop (mkF m 60 #[.val (.int p1)] [(.int (-1 : Int32))])) _
              exact k
            · rw [if_neg hc9] at qv7
              replace qv7 := Eq.symm qv7
              subst qv7
              refine XS.icmpNo X0.here hx rfl (hb hby d60_46) rfl (flt hc9).2.2.1 ?_
              show Steps p.tables e below (s₁.setTop (mkF m 49 #[.val (.int p1)] [])) _
              refine XS.iloadN X0.here hx rfl (hb hby d60_49) rfl ?_
              show Steps p.tables e below (s₁.setTop (mkF m 50 #[.val (.int p1)] [(.int p1)])) _
              refine XS.bipush X0.here hx rfl (hb hby d60_50) ?_
              show Steps p.tables e below (s₁.setTop (mkF m 52 #[.val (.int p1)] [(.int (65 : Int32)), (.int p1)])) _
              refine XS.isub X0.here hx rfl (hb hby d60_52) rfl ?_
              show Steps p.tables e below (s₁.setTop (mkF m 53 #[.val (.int p1)] [(.int (p1 - (65 : Int32)))])) _
              refine XS.bipush X0.here hx rfl (hb hby d60_53) ?_
              show Steps p.tables e below (s₁.setTop (mkF m 55 #[.val (.int p1)] [(.int (10 : Int32)), (.int (p1 - (65 : Int32)))])) _
              refine XS.iadd X0.here hx rfl (hb hby d60_55) rfl ?_
              show Steps p.tables e below (s₁.setTop (mkF m 56 #[.val (.int p1)] [(.int ((p1 - (65 : Int32)) + (10 : Int32)))])) _
              refine XS.goto X0.here hx rfl (pc0 := 56) (pc' := 60) rfl (hb hby d60_56) (by decide) (by decide) ?_
              show Steps p.tables e below (s₁.setTop (mkF m 60 #[.val (.int p1)] [(.int ((p1 - (65 : Int32)) + (10 : Int32)))])) _
              exact k
        show own_Go p.tables e below _ (s₁.setTop (mkF m 60 #[.val (.int p1)] [(.int v7)]))
        refine own_retI X0 hx hret hlk (hb hby d60_60) ?_ (by decide) (by decide)
        rw [e0]
        refine ⟨?_, N0, rfl⟩
        unfold own_hex
        rw [if_pos hc1]
        unfold own_h2
        rw [if_neg hc2]
        rw [if_pos hc6]
        unfold own_h3
        rw [qv7]
      · refine own_st (S' := s₁.setTop (mkF m 29 #[.val (.int p1)] [])) (fun t k => XS.icmpNo X0.here hx rfl (hb hby d60_26) rfl (flt hc6).2.2.1 k) ?_
        show own_Go p.tables e below _ (s₁.setTop (mkF m 29 #[.val (.int p1)] []))
        refine own_st (S' := s₁.setTop (mkF m 30 #[.val (.int p1)] [(.int p1)])) (fun t k => XS.iloadN X0.here hx rfl (hb hby d60_29) rfl k) ?_
        refine own_st (S' := s₁.setTop (mkF m 32 #[.val (.int p1)] [(.int (97 : Int32)), (.int p1)])) (fun t k => XS.bipush X0.here hx rfl (hb hby d60_30) k) ?_
        refine own_st (S' := s₁.setTop (mkF m 33 #[.val (.int p1)] [(.int (p1 - (97 : Int32)))])) (fun t k => XS.isub X0.here hx rfl (hb hby d60_32) rfl k) ?_
        refine own_st (S' := s₁.setTop (mkF m 35 #[.val (.int p1)] [(.int (10 : Int32)), (.int (p1 - (97 : Int32)))])) (fun t k => XS.bipush X0.here hx rfl (hb hby d60_33) k) ?_
        refine own_st (S' := s₁.setTop (mkF m 36 #[.val (.int p1)] [(.int ((p1 - (97 : Int32)) + (10 : Int32)))])) (fun t k => XS.iadd X0.here hx rfl (hb hby d60_35) rfl k) ?_
        refine own_retI X0 hx hret hlk (hb hby d60_36) ?_ (by decide) (by decide)
        rw [e0]
        refine ⟨?_, N0, rfl⟩
        unfold own_hex
        rw [if_pos hc1]
        unfold own_h2
        rw [if_neg hc2]
        rw [if_neg hc6]
  · refine own_st (S' := s₁.setTop (mkF m 6 #[.val (.int p1)] [])) (fun t k => XS.icmpNo X0.here hx rfl (hb hby d60_3) rfl (flt hc1).1 k) ?_
    show own_Go p.tables e below _ (s₁.setTop (mkF m 6 #[.val (.int p1)] []))
    refine own_st (S' := s₁.setTop (mkF m 7 #[.val (.int p1)] [(.int p1)])) (fun t k => XS.iloadN X0.here hx rfl (hb hby d60_6) rfl k) ?_
    refine own_st (S' := s₁.setTop (mkF m 9 #[.val (.int p1)] [(.int (57 : Int32)), (.int p1)])) (fun t k => XS.bipush X0.here hx rfl (hb hby d60_7) k) ?_
    by_cases hc10 : (57 : Int32) < p1
    · refine own_st (S' := s₁.setTop (mkF m 17 #[.val (.int p1)] [])) (fun t k => XS.icmpYes X0.here hx rfl (pc0 := 9) (pc' := 17) rfl (hb hby d60_9) rfl (tlt hc10).2.2.1 (by decide) (by decide) k) ?_
      show own_Go p.tables e below _ (s₁.setTop (mkF m 17 #[.val (.int p1)] []))
      refine own_st (S' := s₁.setTop (mkF m 18 #[.val (.int p1)] [(.int p1)])) (fun t k => XS.iloadN X0.here hx rfl (hb hby d60_17) rfl k) ?_
      refine own_st (S' := s₁.setTop (mkF m 20 #[.val (.int p1)] [(.int (97 : Int32)), (.int p1)])) (fun t k => XS.bipush X0.here hx rfl (hb hby d60_18) k) ?_
      by_cases hc11 : p1 < (97 : Int32)
      · refine own_st (S' := s₁.setTop (mkF m 37 #[.val (.int p1)] [])) (fun t k => XS.icmpYes X0.here hx rfl (pc0 := 20) (pc' := 37) rfl (hb hby d60_20) rfl (tlt hc11).1 (by decide) (by decide) k) ?_
        show own_Go p.tables e below _ (s₁.setTop (mkF m 37 #[.val (.int p1)] []))
        refine own_st (S' := s₁.setTop (mkF m 38 #[.val (.int p1)] [(.int p1)])) (fun t k => XS.iloadN X0.here hx rfl (hb hby d60_37) rfl k) ?_
        refine own_st (S' := s₁.setTop (mkF m 40 #[.val (.int p1)] [(.int (65 : Int32)), (.int p1)])) (fun t k => XS.bipush X0.here hx rfl (hb hby d60_38) k) ?_
        obtain ⟨v12, qv12⟩ : ∃ z : Int32, z = (if p1 < (65 : Int32) then (-1 : Int32) else (if (70 : Int32) < p1 then (-1 : Int32) else ((p1 - (65 : Int32)) + (10 : Int32)))) := ⟨_, rfl⟩
        refine own_st (S' := s₁.setTop (mkF m 60 #[.val (.int p1)] [(.int v12)])) (fun t k => ?_) ?_
        · show Steps p.tables e below (s₁.setTop (mkF m 40 #[.val (.int p1)] [(.int (65 : Int32)), (.int p1)])) _
          by_cases hc13 : p1 < (65 : Int32)
          · rw [if_pos hc13] at qv12
            replace qv12 := Eq.symm qv12
            subst qv12
            refine XS.icmpYes X0.here hx rfl (pc0 := 40) (pc' := 59) rfl (hb hby d60_40) rfl (tlt hc13).1 (by decide) (by decide) ?_
            show Steps p.tables e below (s₁.setTop (mkF m 59 #[.val (.int p1)] [])) _
            refine XS.iconst X0.here hx rfl (hb hby d60_59) ?_
            show Steps p.tables e below (s₁.setTop (mkF m 60 #[.val (.int p1)] [(.int (-1 : Int32))])) _
            exact k
          · rw [if_neg hc13] at qv12
            refine XS.icmpNo X0.here hx rfl (hb hby d60_40) rfl (flt hc13).1 ?_
            show Steps p.tables e below (s₁.setTop (mkF m 43 #[.val (.int p1)] [])) _
            refine XS.iloadN X0.here hx rfl (hb hby d60_43) rfl ?_
            show Steps p.tables e below (s₁.setTop (mkF m 44 #[.val (.int p1)] [(.int p1)])) _
            refine XS.bipush X0.here hx rfl (hb hby d60_44) ?_
            show Steps p.tables e below (s₁.setTop (mkF m 46 #[.val (.int p1)] [(.int (70 : Int32)), (.int p1)])) _
            by_cases hc14 : (70 : Int32) < p1
            · rw [if_pos hc14] at qv12
              replace qv12 := Eq.symm qv12
              subst qv12
              refine XS.icmpYes X0.here hx rfl (pc0 := 46) (pc' := 59) rfl (hb hby d60_46) rfl (tlt hc14).2.2.1 (by decide) (by decide) ?_
              show Steps p.tables e below (s₁.setTop (mkF m 59 #[.val (.int p1)] [])) _
              refine XS.iconst X0.here hx rfl (hb hby d60_59) ?_
              show Steps p.tables e below (s₁.setTop (mkF m 60 #[.val (.int p1)] [(.int (-1 : Int32))])) _
              exact k
            · rw [if_neg hc14] at qv12
              replace qv12 := Eq.symm qv12
              subst qv12
              refine XS.icmpNo X0.here hx rfl (hb hby d60_46) rfl (flt hc14).2.2.1 ?_
              show Steps p.tables e below (s₁.setTop (mkF m 49 #[.val (.int p1)] [])) _
              refine XS.iloadN X0.here hx rfl (hb hby d60_49) rfl ?_
              show Steps p.tables e below (s₁.setTop (mkF m 50 #[.val (.int p1)] [(.int p1)])) _
              refine XS.bipush X0.here hx rfl (hb hby d60_50) ?_
              show Steps p.tables e below (s₁.setTop (mkF m 52 #[.val (.int p1)] [(.int (65 : Int32)), (.int p1)])) _
              refine XS.isub X0.here hx rfl (hb hby d60_52) rfl ?_
              show Steps p.tables e below (s₁.setTop (mkF m 53 #[.val (.int p1)] [(.int (p1 - (65 : Int32)))])) _
              refine XS.bipush X0.here hx rfl (hb hby d60_53) ?_
              show Steps p.tables e below (s₁.setTop (mkF m 55 #[.val (.int p1)] [(.int (10 : Int32)), (.int (p1 - (65 : Int32)))])) _
              refine XS.iadd X0.here hx rfl (hb hby d60_55) rfl ?_
              show Steps p.tables e below (s₁.setTop (mkF m 56 #[.val (.int p1)] [(.int ((p1 - (65 : Int32)) + (10 : Int32)))])) _
              refine XS.goto X0.here hx rfl (pc0 := 56) (pc' := 60) rfl (hb hby d60_56) (by decide) (by decide) ?_
              show Steps p.tables e below (s₁.setTop (mkF m 60 #[.val (.int p1)] [(.int ((p1 - (65 : Int32)) + (10 : Int32)))])) _
              exact k
        show own_Go p.tables e below _ (s₁.setTop (mkF m 60 #[.val (.int p1)] [(.int v12)]))
        refine own_retI X0 hx hret hlk (hb hby d60_60) ?_ (by decide) (by decide)
        rw [e0]
        refine ⟨?_, N0, rfl⟩
        unfold own_hex
        rw [if_neg hc1]
        rw [if_pos hc10]
        unfold own_h2
        rw [if_pos hc11]
        unfold own_h3
        rw [qv12]
      · refine own_st (S' := s₁.setTop (mkF m 23 #[.val (.int p1)] [])) (fun t k => XS.icmpNo X0.here hx rfl (hb hby d60_20) rfl (flt hc11).1 k) ?_
        show own_Go p.tables e below _ (s₁.setTop (mkF m 23 #[.val (.int p1)] []))
        refine own_st (S' := s₁.setTop (mkF m 24 #[.val (.int p1)] [(.int p1)])) (fun t k => XS.iloadN X0.here hx rfl (hb hby d60_23) rfl k) ?_
        refine own_st (S' := s₁.setTop (mkF m 26 #[.val (.int p1)] [(.int (102 : Int32)), (.int p1)])) (fun t k => XS.bipush X0.here hx rfl (hb hby d60_24) k) ?_
        by_cases hc15 : (102 : Int32) < p1
        · refine own_st (S' := s₁.setTop (mkF m 37 #[.val (.int p1)] [])) (fun t k => XS.icmpYes X0.here hx rfl (pc0 := 26) (pc' := 37) rfl (hb hby d60_26) rfl (tlt hc15).2.2.1 (by decide) (by decide) k) ?_
          show own_Go p.tables e below _ (s₁.setTop (mkF m 37 #[.val (.int p1)] []))
          refine own_st (S' := s₁.setTop (mkF m 38 #[.val (.int p1)] [(.int p1)])) (fun t k => XS.iloadN X0.here hx rfl (hb hby d60_37) rfl k) ?_
          refine own_st (S' := s₁.setTop (mkF m 40 #[.val (.int p1)] [(.int (65 : Int32)), (.int p1)])) (fun t k => XS.bipush X0.here hx rfl (hb hby d60_38) k) ?_
          obtain ⟨v16, qv16⟩ : ∃ z : Int32, z = (if p1 < (65 : Int32) then (-1 : Int32) else (if (70 : Int32) < p1 then (-1 : Int32) else ((p1 - (65 : Int32)) + (10 : Int32)))) := ⟨_, rfl⟩
          refine own_st (S' := s₁.setTop (mkF m 60 #[.val (.int p1)] [(.int v16)])) (fun t k => ?_) ?_
          · show Steps p.tables e below (s₁.setTop (mkF m 40 #[.val (.int p1)] [(.int (65 : Int32)), (.int p1)])) _
            by_cases hc17 : p1 < (65 : Int32)
            · rw [if_pos hc17] at qv16
              replace qv16 := Eq.symm qv16
              subst qv16
              refine XS.icmpYes X0.here hx rfl (pc0 := 40) (pc' := 59) rfl (hb hby d60_40) rfl (tlt hc17).1 (by decide) (by decide) ?_
              show Steps p.tables e below (s₁.setTop (mkF m 59 #[.val (.int p1)] [])) _
              refine XS.iconst X0.here hx rfl (hb hby d60_59) ?_
              show Steps p.tables e below (s₁.setTop (mkF m 60 #[.val (.int p1)] [(.int (-1 : Int32))])) _
              exact k
            · rw [if_neg hc17] at qv16
              refine XS.icmpNo X0.here hx rfl (hb hby d60_40) rfl (flt hc17).1 ?_
              show Steps p.tables e below (s₁.setTop (mkF m 43 #[.val (.int p1)] [])) _
              refine XS.iloadN X0.here hx rfl (hb hby d60_43) rfl ?_
              show Steps p.tables e below (s₁.setTop (mkF m 44 #[.val (.int p1)] [(.int p1)])) _
              refine XS.bipush X0.here hx rfl (hb hby d60_44) ?_
              show Steps p.tables e below (s₁.setTop (mkF m 46 #[.val (.int p1)] [(.int (70 : Int32)), (.int p1)])) _
              by_cases hc18 : (70 : Int32) < p1
              · rw [if_pos hc18] at qv16
                replace qv16 := Eq.symm qv16
                subst qv16
                refine XS.icmpYes X0.here hx rfl (pc0 := 46) (pc' := 59) rfl (hb hby d60_46) rfl (tlt hc18).2.2.1 (by decide) (by decide) ?_
                show Steps p.tables e below (s₁.setTop (mkF m 59 #[.val (.int p1)] [])) _
                refine XS.iconst X0.here hx rfl (hb hby d60_59) ?_
                show Steps p.tables e below (s₁.setTop (mkF m 60 #[.val (.int p1)] [(.int (-1 : Int32))])) _
                exact k
              · rw [if_neg hc18] at qv16
                replace qv16 := Eq.symm qv16
                subst qv16
                refine XS.icmpNo X0.here hx rfl (hb hby d60_46) rfl (flt hc18).2.2.1 ?_
                show Steps p.tables e below (s₁.setTop (mkF m 49 #[.val (.int p1)] [])) _
                refine XS.iloadN X0.here hx rfl (hb hby d60_49) rfl ?_
                show Steps p.tables e below (s₁.setTop (mkF m 50 #[.val (.int p1)] [(.int p1)])) _
                refine XS.bipush X0.here hx rfl (hb hby d60_50) ?_
                show Steps p.tables e below (s₁.setTop (mkF m 52 #[.val (.int p1)] [(.int (65 : Int32)), (.int p1)])) _
                refine XS.isub X0.here hx rfl (hb hby d60_52) rfl ?_
                show Steps p.tables e below (s₁.setTop (mkF m 53 #[.val (.int p1)] [(.int (p1 - (65 : Int32)))])) _
                refine XS.bipush X0.here hx rfl (hb hby d60_53) ?_
                show Steps p.tables e below (s₁.setTop (mkF m 55 #[.val (.int p1)] [(.int (10 : Int32)), (.int (p1 - (65 : Int32)))])) _
                refine XS.iadd X0.here hx rfl (hb hby d60_55) rfl ?_
                show Steps p.tables e below (s₁.setTop (mkF m 56 #[.val (.int p1)] [(.int ((p1 - (65 : Int32)) + (10 : Int32)))])) _
                refine XS.goto X0.here hx rfl (pc0 := 56) (pc' := 60) rfl (hb hby d60_56) (by decide) (by decide) ?_
                show Steps p.tables e below (s₁.setTop (mkF m 60 #[.val (.int p1)] [(.int ((p1 - (65 : Int32)) + (10 : Int32)))])) _
                exact k
          show own_Go p.tables e below _ (s₁.setTop (mkF m 60 #[.val (.int p1)] [(.int v16)]))
          refine own_retI X0 hx hret hlk (hb hby d60_60) ?_ (by decide) (by decide)
          rw [e0]
          refine ⟨?_, N0, rfl⟩
          unfold own_hex
          rw [if_neg hc1]
          rw [if_pos hc10]
          unfold own_h2
          rw [if_neg hc11]
          rw [if_pos hc15]
          unfold own_h3
          rw [qv16]
        · refine own_st (S' := s₁.setTop (mkF m 29 #[.val (.int p1)] [])) (fun t k => XS.icmpNo X0.here hx rfl (hb hby d60_26) rfl (flt hc15).2.2.1 k) ?_
          show own_Go p.tables e below _ (s₁.setTop (mkF m 29 #[.val (.int p1)] []))
          refine own_st (S' := s₁.setTop (mkF m 30 #[.val (.int p1)] [(.int p1)])) (fun t k => XS.iloadN X0.here hx rfl (hb hby d60_29) rfl k) ?_
          refine own_st (S' := s₁.setTop (mkF m 32 #[.val (.int p1)] [(.int (97 : Int32)), (.int p1)])) (fun t k => XS.bipush X0.here hx rfl (hb hby d60_30) k) ?_
          refine own_st (S' := s₁.setTop (mkF m 33 #[.val (.int p1)] [(.int (p1 - (97 : Int32)))])) (fun t k => XS.isub X0.here hx rfl (hb hby d60_32) rfl k) ?_
          refine own_st (S' := s₁.setTop (mkF m 35 #[.val (.int p1)] [(.int (10 : Int32)), (.int (p1 - (97 : Int32)))])) (fun t k => XS.bipush X0.here hx rfl (hb hby d60_33) k) ?_
          refine own_st (S' := s₁.setTop (mkF m 36 #[.val (.int p1)] [(.int ((p1 - (97 : Int32)) + (10 : Int32)))])) (fun t k => XS.iadd X0.here hx rfl (hb hby d60_35) rfl k) ?_
          refine own_retI X0 hx hret hlk (hb hby d60_36) ?_ (by decide) (by decide)
          rw [e0]
          refine ⟨?_, N0, rfl⟩
          unfold own_hex
          rw [if_neg hc1]
          rw [if_pos hc10]
          unfold own_h2
          rw [if_neg hc11]
          rw [if_neg hc15]
    · refine own_st (S' := s₁.setTop (mkF m 12 #[.val (.int p1)] [])) (fun t k => XS.icmpNo X0.here hx rfl (hb hby d60_9) rfl (flt hc10).2.2.1 k) ?_
      show own_Go p.tables e below _ (s₁.setTop (mkF m 12 #[.val (.int p1)] []))
      refine own_st (S' := s₁.setTop (mkF m 13 #[.val (.int p1)] [(.int p1)])) (fun t k => XS.iloadN X0.here hx rfl (hb hby d60_12) rfl k) ?_
      refine own_st (S' := s₁.setTop (mkF m 15 #[.val (.int p1)] [(.int (48 : Int32)), (.int p1)])) (fun t k => XS.bipush X0.here hx rfl (hb hby d60_13) k) ?_
      refine own_st (S' := s₁.setTop (mkF m 16 #[.val (.int p1)] [(.int (p1 - (48 : Int32)))])) (fun t k => XS.isub X0.here hx rfl (hb hby d60_15) rfl k) ?_
      refine own_retI X0 hx hret hlk (hb hby d60_16) ?_ (by decide) (by decide)
      rw [e0]
      refine ⟨?_, N0, rfl⟩
      unfold own_hex
      rw [if_neg hc1]
      rw [if_neg hc10]
theorem pd0_0 : parseMethodDescriptor "(I)C" = some ⟨[.int], some .char⟩ := by decide +kernel
theorem pd0_1 : parseMethodDescriptor "(C)I" = some ⟨[.char], some .int⟩ := by decide +kernel
theorem pn0 : plainName "kithrank/cli/JsonHexadecimalPinLaw" = true := by first | (simp [plainName, overriddenIn]; done) | decide +kernel
theorem ef0 (m : MethodId) (p0 : Int32) (p1 : Int32) : entryFrame m #[(.int p0), (.int p1)] maxLocals = mkF m 0 #[.val (.int p0), .val (.int p1), .unset, .unset, .unset, .unset, .unset, .unset, .unset] [] := by first | (simp [entryFrame, mkF, argsToLocals, Value.category, maxLocals]; done) | rfl
def Q0 (n0 : Nat) (v : Option Value) (h : Heap) (L : List Loc) : Prop := v = some (.int 1) ∧ Fr n0 L
set_option maxRecDepth 65536 in
set_option maxHeartbeats 40000000 in
theorem rm0 (l : Launch) (Z : State) (a0 : Array Value) (hw : ∀ d ∈ tables_1, d.before a0 Z = true) (ws : List Jvm.Cond) (p0 : Int32) (p1 : Int32) (cs : Int32) (fm : Value) (SC : Sta Z Z.heap "java/lang/String" "COMPACT_STRINGS" "Z" (.int cs)) (SF : Sta Z Z.heap "jdk/internal/util/Preconditions" "SIOOBE_FORMATTER" "Ljava/util/function/BiFunction;" fm) (hcs : ¬ cs = (0 : Int32)) (hfm : fm.isRef = true) (HH7 : Jvm.Lit.constHeld Z "kithrank/cli/JsonHexadecimalPinLaw" 7) (HH9 : Jvm.Lit.constHeld Z "kithrank/cli/JsonHexadecimalPinLaw" 9) (HCW : Jvm.Lit.compactW.before a0 Z = true) :
    MetFree l x (head1 (Jvm.Cond.code x code maxLocals ret :: ws) room_1) (fun as' U => as' = #[(.int p0), (.int p1)] ∧ U = Z) (fun _ _ _ _ _ => True) (fun _ U o U' => ∃ v L, o = .returned v ∧ Q0 Z.heap.size v U'.heap L ∧ ReturnedEndW U o U' L room_1.cells room_1.slots) := by
  refine own_bodyZ (plainFor_of_name pn0) ?_
  intro p e m below meth c s₁ hx hby hml hown0 hnm hret hlk X0 e0
  obtain ⟨n0, hn0⟩ : ∃ n, n = Z.heap.size := ⟨_, rfl⟩
  have Z0 : n0 ≤ Z.heap.size := Nat.le_of_eq hn0
  rw [← hn0]
  have N0 := Fr.nil n0
  rw [ef0]
  have hS : Z.Since Z.vm 0 := (State.WarmedH.refl Z).since 0
  have hk : 0 ≤ Z.heap.size := Nat.zero_le _
  have X0 : Stand p l e room_1 (Z.setVm Z.vm) m #[(.int p0), (.int p1)] below meth c s₁ [] 0 0 := X0
  have hZ : Z.Warmed39 (Z.setVm Z.vm).vm := State.Warmed39.refl Z
  have hown : (Z.setVm Z.vm).vm.findClass "kithrank/cli/JsonHexadecimalPinLaw" = some m.cls := hown0
  show own_Go p.tables e below _ (s₁.setTop (mkF m 0 #[.val (.int p0), .val (.int p1), .unset, .unset, .unset, .unset, .unset, .unset, .unset] []))
  obtain ⟨b1, T1, h1, k1, d1, kb1, X1, e1, E1, hS, hk, hZ, hown, EX1, FC1, FV1, AV1, -, -, I1, st1⟩ := ldcSV X0 hx hZ hown (hw _ (List.mem_of_getElem? (i := 0) rfl)) (own_wS hw) e0 hS hk (Fr.nil _) (fun _ _ q => q) IB.start (by decide) HH7 HCW (vs := [(.int (48 : Int32)), (.int (49 : Int32)), (.int (50 : Int32)), (.int (51 : Int32)), (.int (52 : Int32)), (.int (53 : Int32)), (.int (54 : Int32)), (.int (55 : Int32)), (.int (56 : Int32)), (.int (57 : Int32)), (.int (97 : Int32)), (.int (98 : Int32)), (.int (99 : Int32)), (.int (100 : Int32)), (.int (101 : Int32)), (.int (102 : Int32))]) (z := (16 : Int32)) ⟨by decide, by decide⟩ (by decide) (by decide) (g := (mkF m 0 #[.val (.int p0), .val (.int p1), .unset, .unset, .unset, .unset, .unset, .unset, .unset] [])) rfl (hb hby at_0) (n := 64) (by decide) (by decide) (by decide) (by decide)
  have f2 : Sta Z h1 "java/lang/String" "COMPACT_STRINGS" "Z" (.int cs) := Sta.ext E1 SC
  have f3 : Sta Z h1 "jdk/internal/util/Preconditions" "SIOOBE_FORMATTER" "Ljava/util/function/BiFunction;" fm := Sta.ext E1 SF
  have Z1 : n0 ≤ h1.size := Nat.le_trans Z0 E1.1
  have f4 : own_A Z h1 d1 .byte 16 (fun j => .int ([(48 : Int32), (49 : Int32), (50 : Int32), (51 : Int32), (52 : Int32), (53 : Int32), (54 : Int32), (55 : Int32), (56 : Int32), (57 : Int32), (97 : Int32), (98 : Int32), (99 : Int32), (100 : Int32), (101 : Int32), (102 : Int32)].getD j 0)) := own_ofArvB AV1 (fun j hj => by match j, hj with | 0, _ => rfl | 1, _ => rfl | 2, _ => rfl | 3, _ => rfl | 4, _ => rfl | 5, _ => rfl | 6, _ => rfl | 7, _ => rfl | 8, _ => rfl | 9, _ => rfl | 10, _ => rfl | 11, _ => rfl | 12, _ => rfl | 13, _ => rfl | 14, _ => rfl | 15, _ => rfl | j + 16, h => exact absurd h (by omega))
  refine own_st st1 ?_
  show own_Go p.tables e below _ (T1.setTop (mkF m 2 #[.val (.int p0), .val (.int p1), .unset, .unset, .unset, .unset, .unset, .unset, .unset] [(.ref b1)]))
  refine own_st (S' := T1.setTop (mkF m 3 #[.val (.int p0), .val (.int p1), .val (.ref b1), .unset, .unset, .unset, .unset, .unset, .unset] [])) (fun t k => XS.astoreN X1.here hx rfl (hb hby at_2) rfl rfl (l' := #[.val (.int p0), .val (.int p1), .val (.ref b1), .unset, .unset, .unset, .unset, .unset, .unset]) rfl k) ?_
  obtain ⟨b5, T5, h5, k5, d5, kb5, X5, e5, E5, hS, hk, hZ, hown, EX5, FC5, FV5, AV5, -, -, I5, st5⟩ := ldcSV X1 hx hZ hown (hw _ (List.mem_of_getElem? (i := 8) rfl)) (own_wS hw) e1 hS hk (Fr.nil _) (fun _ _ q => q) I1 (by decide) HH9 HCW (vs := [(.int (48 : Int32)), (.int (49 : Int32)), (.int (50 : Int32)), (.int (51 : Int32)), (.int (52 : Int32)), (.int (53 : Int32)), (.int (54 : Int32)), (.int (55 : Int32)), (.int (56 : Int32)), (.int (57 : Int32)), (.int (65 : Int32)), (.int (66 : Int32)), (.int (67 : Int32)), (.int (68 : Int32)), (.int (69 : Int32)), (.int (70 : Int32))]) (z := (16 : Int32)) ⟨by decide, by decide⟩ (by decide) (by decide) (g := (mkF m 3 #[.val (.int p0), .val (.int p1), .val (.ref b1), .unset, .unset, .unset, .unset, .unset, .unset] [])) rfl (hb hby at_3) (n := 64) (by decide) (by decide) (by decide) (by decide)
  have f6 : Sta Z h5 "java/lang/String" "COMPACT_STRINGS" "Z" (.int cs) := Sta.ext E5 f2
  have f7 : Sta Z h5 "jdk/internal/util/Preconditions" "SIOOBE_FORMATTER" "Ljava/util/function/BiFunction;" fm := Sta.ext E5 f3
  have f8 : Exa Z h5 b1 "java/lang/String" := EX1.ext E5
  have f9 : Fld Z h5 b1 "java/lang/String" "coder" "B" (.int (0 : Int32)) := FC1.ext E5
  have f10 : Fld Z h5 b1 "java/lang/String" "value" "[B" (.ref d1) := FV1.ext E5
  have f11 : own_A Z h5 d1 .byte 16 (fun j => .int ([(48 : Int32), (49 : Int32), (50 : Int32), (51 : Int32), (52 : Int32), (53 : Int32), (54 : Int32), (55 : Int32), (56 : Int32), (57 : Int32), (97 : Int32), (98 : Int32), (99 : Int32), (100 : Int32), (101 : Int32), (102 : Int32)].getD j 0)) := f4.ext E5
  have Z5 : n0 ≤ h5.size := Nat.le_trans Z1 E5.1
  have f12 : own_A Z h5 d5 .byte 16 (fun j => .int ([(48 : Int32), (49 : Int32), (50 : Int32), (51 : Int32), (52 : Int32), (53 : Int32), (54 : Int32), (55 : Int32), (56 : Int32), (57 : Int32), (65 : Int32), (66 : Int32), (67 : Int32), (68 : Int32), (69 : Int32), (70 : Int32)].getD j 0)) := own_ofArvB AV5 (fun j hj => by match j, hj with | 0, _ => rfl | 1, _ => rfl | 2, _ => rfl | 3, _ => rfl | 4, _ => rfl | 5, _ => rfl | 6, _ => rfl | 7, _ => rfl | 8, _ => rfl | 9, _ => rfl | 10, _ => rfl | 11, _ => rfl | 12, _ => rfl | 13, _ => rfl | 14, _ => rfl | 15, _ => rfl | j + 16, h => exact absurd h (by omega))
  refine own_st st5 ?_
  show own_Go p.tables e below _ (T5.setTop (mkF m 5 #[.val (.int p0), .val (.int p1), .val (.ref b1), .unset, .unset, .unset, .unset, .unset, .unset] [(.ref b5)]))
  refine own_st (S' := T5.setTop (mkF m 6 #[.val (.int p0), .val (.int p1), .val (.ref b1), .val (.ref b5), .unset, .unset, .unset, .unset, .unset] [])) (fun t k => XS.astoreN X5.here hx rfl (hb hby at_5) rfl rfl (l' := #[.val (.int p0), .val (.int p1), .val (.ref b1), .val (.ref b5), .unset, .unset, .unset, .unset, .unset]) rfl k) ?_
  refine own_st (S' := T5.setTop (mkF m 7 #[.val (.int p0), .val (.int p1), .val (.ref b1), .val (.ref b5), .unset, .unset, .unset, .unset, .unset] [(.int p1)])) (fun t k => XS.iloadN X5.here hx rfl (hb hby at_6) rfl k) ?_
  refine own_st (S' := T5.setTop (mkF m 9 #[.val (.int p0), .val (.int p1), .val (.ref b1), .val (.ref b5), .unset, .unset, .unset, .unset, .unset] [(.int (15 : Int32)), (.int p1)])) (fun t k => XS.bipush X5.here hx rfl (hb hby at_7) k) ?_
  refine own_st (S' := T5.setTop (mkF m 10 #[.val (.int p0), .val (.int p1), .val (.ref b1), .val (.ref b5), .unset, .unset, .unset, .unset, .unset] [(.int (p1 &&& (15 : Int32)))])) (fun t k => XS.iand X5.here hx rfl (hb hby at_9) rfl k) ?_
  obtain ⟨v13, qv13⟩ : ∃ z : Int32, z = (p1 &&& (15 : Int32)) := ⟨_, rfl⟩
  show own_Go p.tables e below _ (T5.setTop (mkF m 10 #[.val (.int p0), .val (.int p1), .val (.ref b1), .val (.ref b5), .unset, .unset, .unset, .unset, .unset] [(.int (p1 &&& (15 : Int32)))]))
  rw [← qv13]
  refine own_st (S' := T5.setTop (mkF m 12 #[.val (.int p0), .val (.int p1), .val (.ref b1), .val (.ref b5), .val (.int v13), .unset, .unset, .unset, .unset] [])) (fun t k => XS.istore X5.here hx rfl (hb hby at_10) rfl (l' := #[.val (.int p0), .val (.int p1), .val (.ref b1), .val (.ref b5), .val (.int v13), .unset, .unset, .unset, .unset]) rfl k) ?_
  refine own_st (S' := T5.setTop (mkF m 13 #[.val (.int p0), .val (.int p1), .val (.ref b1), .val (.ref b5), .val (.int v13), .unset, .unset, .unset, .unset] [(.int p1)])) (fun t k => XS.iloadN X5.here hx rfl (hb hby at_12) rfl k) ?_
  refine own_st (S' := T5.setTop (mkF m 15 #[.val (.int p0), .val (.int p1), .val (.ref b1), .val (.ref b5), .val (.int v13), .unset, .unset, .unset, .unset] [(.int (16 : Int32)), (.int p1)])) (fun t k => XS.bipush X5.here hx rfl (hb hby at_13) k) ?_
  refine own_st (S' := T5.setTop (mkF m 16 #[.val (.int p0), .val (.int p1), .val (.ref b1), .val (.ref b5), .val (.int v13), .unset, .unset, .unset, .unset] [(.int (p1 &&& (16 : Int32)))])) (fun t k => XS.iand X5.here hx rfl (hb hby at_15) rfl k) ?_
  obtain ⟨v14, qv14⟩ : ∃ z : Int32, z = (if (p1 &&& (16 : Int32)) = (0 : Int32) then (0 : Int32) else (1 : Int32)) := ⟨_, rfl⟩
  refine own_st (S' := T5.setTop (mkF m 24 #[.val (.int p0), .val (.int p1), .val (.ref b1), .val (.ref b5), .val (.int v13), .unset, .unset, .unset, .unset] [(.int v14)])) (fun t k => ?_) ?_
  · show Steps p.tables e below (T5.setTop (mkF m 16 #[.val (.int p0), .val (.int p1), .val (.ref b1), .val (.ref b5), .val (.int v13), .unset, .unset, .unset, .unset] [(.int (p1 &&& (16 : Int32)))])) _
    by_cases hc15 : (p1 &&& (16 : Int32)) = (0 : Int32)
    · rw [if_pos hc15] at qv14
      replace qv14 := Eq.symm qv14
      subst qv14
      refine XS.ifYes X5.here hx rfl (pc0 := 16) (pc' := 23) rfl (hb hby at_16) rfl ((if0 _ _).trans (teq hc15).1) (by decide) (by decide) ?_
      show Steps p.tables e below (T5.setTop (mkF m 23 #[.val (.int p0), .val (.int p1), .val (.ref b1), .val (.ref b5), .val (.int v13), .unset, .unset, .unset, .unset] [])) _
      refine XS.iconst X5.here hx rfl (hb hby at_23) ?_
      show Steps p.tables e below (T5.setTop (mkF m 24 #[.val (.int p0), .val (.int p1), .val (.ref b1), .val (.ref b5), .val (.int v13), .unset, .unset, .unset, .unset] [(.int (0 : Int32))])) _
      exact k
    · rw [if_neg hc15] at qv14
      replace qv14 := Eq.symm qv14
      subst qv14
      refine XS.ifNo X5.here hx rfl (hb hby at_16) rfl ((if0 _ _).trans (feq hc15).1) ?_
      show Steps p.tables e below (T5.setTop (mkF m 19 #[.val (.int p0), .val (.int p1), .val (.ref b1), .val (.ref b5), .val (.int v13), .unset, .unset, .unset, .unset] [])) _
      refine XS.iconst X5.here hx rfl (hb hby at_19) ?_
      show Steps p.tables e below (T5.setTop (mkF m 20 #[.val (.int p0), .val (.int p1), .val (.ref b1), .val (.ref b5), .val (.int v13), .unset, .unset, .unset, .unset] [(.int (1 : Int32))])) _
      refine XS.goto X5.here hx rfl (pc0 := 20) (pc' := 24) rfl (hb hby at_20) (by decide) (by decide) ?_
      show Steps p.tables e below (T5.setTop (mkF m 24 #[.val (.int p0), .val (.int p1), .val (.ref b1), .val (.ref b5), .val (.int v13), .unset, .unset, .unset, .unset] [(.int (1 : Int32))])) _
      exact k
  show own_Go p.tables e below _ (T5.setTop (mkF m 24 #[.val (.int p0), .val (.int p1), .val (.ref b1), .val (.ref b5), .val (.int v13), .unset, .unset, .unset, .unset] [(.int v14)]))
  refine own_st (S' := T5.setTop (mkF m 26 #[.val (.int p0), .val (.int p1), .val (.ref b1), .val (.ref b5), .val (.int v13), .val (.int v14), .unset, .unset, .unset] [])) (fun t k => XS.istore X5.here hx rfl (hb hby at_24) rfl (l' := #[.val (.int p0), .val (.int p1), .val (.ref b1), .val (.ref b5), .val (.int v13), .val (.int v14), .unset, .unset, .unset]) rfl k) ?_
  refine own_st (S' := T5.setTop (mkF m 28 #[.val (.int p0), .val (.int p1), .val (.ref b1), .val (.ref b5), .val (.int v13), .val (.int v14), .unset, .unset, .unset] [(.int v14)])) (fun t k => XS.iload X5.here hx rfl (hb hby at_26) rfl k) ?_
  by_cases hc16 : (p1 &&& (16 : Int32)) = (0 : Int32)
  · refine own_st (S' := T5.setTop (mkF m 40 #[.val (.int p0), .val (.int p1), .val (.ref b1), .val (.ref b5), .val (.int v13), .val (.int v14), .unset, .unset, .unset] [])) (fun t k => XS.ifYes X5.here hx rfl (pc0 := 28) (pc' := 40) rfl (hb hby at_28) rfl ((if0 _ _).trans (teq ((by rw [qv14, if_pos hc16] <;> decide) : v14 = (0 : Int32))).1) (by decide) (by decide) k) ?_
    show own_Go p.tables e below _ (T5.setTop (mkF m 40 #[.val (.int p0), .val (.int p1), .val (.ref b1), .val (.ref b5), .val (.int v13), .val (.int v14), .unset, .unset, .unset] []))
    refine own_st (S' := T5.setTop (mkF m 41 #[.val (.int p0), .val (.int p1), .val (.ref b1), .val (.ref b5), .val (.int v13), .val (.int v14), .unset, .unset, .unset] [(.ref b1)])) (fun t k => XS.aloadN X5.here hx rfl (hb hby at_40) rfl rfl k) ?_
    refine own_st (S' := T5.setTop (mkF m 43 #[.val (.int p0), .val (.int p1), .val (.ref b1), .val (.ref b5), .val (.int v13), .val (.int v14), .unset, .unset, .unset] [(.int v13), (.ref b1)])) (fun t k => XS.iload X5.here hx rfl (hb hby at_41) rfl k) ?_
    obtain ⟨cq17, kq17, q17a, q17b, q17c⟩ := isOf hZ e5 f8
    obtain ⟨_, _, ⟨T17, L17, k17, n17⟩, -, X17, ⟨Lc17, hQ17, l17, y17, z17⟩, st17⟩ := X5.virtualBack hx (y := (⟨"java/lang/String", "charAt", "(I)C"⟩ : MethodName)) (z := (⟨"java/lang/String", "charAt", "(I)C"⟩ : MethodName)) hown (mvT hZ (hw _ (List.mem_of_getElem? (i := 9) rfl))) (mvT hZ (hw _ (List.mem_of_getElem? (i := 10) rfl))) (notFace_of_selects (args := #[]) (mvT hZ (hw _ (List.mem_of_getElem? (i := 12) rfl)))) (mvT hZ (hw _ (List.mem_of_getElem? (i := 12) rfl))) (mvT hZ (hw _ (List.mem_of_getElem? (i := 11) rfl))) (by decide) (backOf (W := 0) (rm50 l Z a0 hw [] b1 v13 cs fm d1 ([(48 : Int32), (49 : Int32), (50 : Int32), (51 : Int32), (52 : Int32), (53 : Int32), (54 : Int32), (55 : Int32), (56 : Int32), (57 : Int32), (97 : Int32), (98 : Int32), (99 : Int32), (100 : Int32), (101 : Int32), (102 : Int32)]) h5 n0 Z5 f8 f6 f7 f9 f10 f11 (own_v qv13) hcs hfm) hZ (hw _ (List.mem_of_getElem? (i := 13) rfl)) (hw _ (List.mem_of_getElem? (i := 1) rfl)) (by decide) (by decide)) q17a q17c (g := (mkF m 43 #[.val (.int p0), .val (.int p1), .val (.ref b1), .val (.ref b5), .val (.int v13), .val (.int v14), .unset, .unset, .unset] [(.int v13), (.ref b1)])) rfl (by rw [hml]; rfl) (Steps.refl _) (argsL := [(.int v13)]) (rest := []) (lenOf pd0_0 rfl) rfl (by show 2 * 0 + _ ≤ _; exact Nat.le_of_eq rfl) (hb hby at_43) (fun _ _ => ⟨rfl, e5, (by decide : 4 + 0 ≤ _), (by decide : 136 + 0 ≤ _)⟩)
    dsimp only [Pt.U, Pt.locs, Pt.cells, Pt.slots] at X17 l17 y17 z17 st17 hQ17
    rw [l17, y17, z17] at X17
    obtain ⟨rfl, N17q, hh17⟩ := hQ17
    have N17 := Fr.app N0 N17q
    refine own_tr st17 ?_
    show own_Go p.tables e below _ (T17.setTop (mkF m 46 #[.val (.int p0), .val (.int p1), .val (.ref b1), .val (.ref b5), .val (.int v13), .val (.int v14), .unset, .unset, .unset] [(.int (own_chr [(48 : Int32), (49 : Int32), (50 : Int32), (51 : Int32), (52 : Int32), (53 : Int32), (54 : Int32), (55 : Int32), (56 : Int32), (57 : Int32), (97 : Int32), (98 : Int32), (99 : Int32), (100 : Int32), (101 : Int32), (102 : Int32)] v13))]))
    obtain ⟨v18, qv18⟩ : ∃ z : Int32, z = (own_chr [(48 : Int32), (49 : Int32), (50 : Int32), (51 : Int32), (52 : Int32), (53 : Int32), (54 : Int32), (55 : Int32), (56 : Int32), (57 : Int32), (97 : Int32), (98 : Int32), (99 : Int32), (100 : Int32), (101 : Int32), (102 : Int32)] v13) := ⟨_, rfl⟩
    rw [← qv18]
    refine own_st (S' := T17.setTop (mkF m 48 #[.val (.int p0), .val (.int p1), .val (.ref b1), .val (.ref b5), .val (.int v13), .val (.int v14), .val (.int v18), .unset, .unset] [])) (fun t k => XS.istore X17.here hx rfl (hb hby at_46) rfl (l' := #[.val (.int p0), .val (.int p1), .val (.ref b1), .val (.ref b5), .val (.int v13), .val (.int v14), .val (.int v18), .unset, .unset]) rfl k) ?_
    refine own_st (S' := T17.setTop (mkF m 50 #[.val (.int p0), .val (.int p1), .val (.ref b1), .val (.ref b5), .val (.int v13), .val (.int v14), .val (.int v18), .unset, .unset] [(.int v18)])) (fun t k => XS.iload X17.here hx rfl (hb hby at_48) rfl k) ?_
    obtain ⟨_, _, ⟨T19, L19, k19, n19⟩, -, X19, ⟨Lc19, hQ19, l19, y19, z19⟩, st19⟩ := Jvm.LawKit.callS X17 hx (y := (⟨"kithrank/cli/Json", "hexadecimal", "(C)I"⟩ : MethodName)) hown (mvT hZ (hw _ (List.mem_of_getElem? (i := 34) rfl))) (mvT hZ (hw _ (List.mem_of_getElem? (i := 35) rfl))) (mvT hZ (hw _ (List.mem_of_getElem? (i := 36) rfl))) (mvT hZ (hw _ (List.mem_of_getElem? (i := 37) rfl))) (by decide) (backOf (W := 0) (rm60 l Z a0 hw [] v18 h5 n0 Z5 ) hZ (hw _ (List.mem_of_getElem? (i := 37) rfl)) (hw _ (List.mem_of_getElem? (i := 36) rfl)) (by decide) (by decide)) (g := (mkF m 50 #[.val (.int p0), .val (.int p1), .val (.ref b1), .val (.ref b5), .val (.int v13), .val (.int v14), .val (.int v18), .unset, .unset] [(.int v18)])) rfl (by rw [hml]; rfl) (argsL := [(.int v18)]) (rest := []) (lenOf pd0_1 rfl) rfl (by show 2 * 0 + _ ≤ _; exact Nat.le_of_eq rfl) (hb hby at_50) (fun _ _ => ⟨rfl, hh17, (by decide : 4 + 0 ≤ _), (by decide : 136 + 0 ≤ _)⟩)
    dsimp only [Pt.U, Pt.locs, Pt.cells, Pt.slots] at X19 l19 y19 z19 st19 hQ19
    rw [l19, y19, z19] at X19
    obtain ⟨rfl, N19q, hh19⟩ := hQ19
    have N19 := Fr.app N17 N19q
    refine own_st st19 ?_
    show own_Go p.tables e below _ (T19.setTop (mkF m 53 #[.val (.int p0), .val (.int p1), .val (.ref b1), .val (.ref b5), .val (.int v13), .val (.int v14), .val (.int v18), .unset, .unset] [(.int (own_hex v18))]))
    obtain ⟨v20, qv20⟩ : ∃ z : Int32, z = (own_hex v18) := ⟨_, rfl⟩
    rw [← qv20]
    refine own_st (S' := T19.setTop (mkF m 55 #[.val (.int p0), .val (.int p1), .val (.ref b1), .val (.ref b5), .val (.int v13), .val (.int v14), .val (.int v18), .unset, .unset] [(.int v13), (.int v20)])) (fun t k => XS.iload X19.here hx rfl (hb hby at_53) rfl k) ?_
    have hc21 : v20 = v13 := by rw [qv20, qv18]; exact own_lo (own_v qv13)
    refine own_st (S' := T19.setTop (mkF m 60 #[.val (.int p0), .val (.int p1), .val (.ref b1), .val (.ref b5), .val (.int v13), .val (.int v14), .val (.int v18), .unset, .unset] [])) (fun t k => XS.icmpYes X19.here hx rfl (pc0 := 55) (pc' := 60) rfl (hb hby at_55) rfl (teq hc21).1 (by decide) (by decide) k) ?_
    show own_Go p.tables e below _ (T19.setTop (mkF m 60 #[.val (.int p0), .val (.int p1), .val (.ref b1), .val (.ref b5), .val (.int v13), .val (.int v14), .val (.int v18), .unset, .unset] []))
    refine own_st (S' := T19.setTop (mkF m 61 #[.val (.int p0), .val (.int p1), .val (.ref b1), .val (.ref b5), .val (.int v13), .val (.int v14), .val (.int v18), .unset, .unset] [(.int p0)])) (fun t k => XS.iloadN X19.here hx rfl (hb hby at_60) rfl k) ?_
    refine own_st (S' := T19.setTop (mkF m 62 #[.val (.int p0), .val (.int p1), .val (.ref b1), .val (.ref b5), .val (.int v13), .val (.int v14), .val (.int v18), .unset, .unset] [(.int p0.toUInt32.toUInt16.toUInt32.toInt32)])) (fun t k => XS.i2c X19.here hx rfl (hb hby at_61) rfl k) ?_
    refine own_st (S' := T19.setTop (mkF m 64 #[.val (.int p0), .val (.int p1), .val (.ref b1), .val (.ref b5), .val (.int v13), .val (.int v14), .val (.int v18), .val (.int p0.toUInt32.toUInt16.toUInt32.toInt32), .unset] [])) (fun t k => XS.istore X19.here hx rfl (hb hby at_62) rfl (l' := #[.val (.int p0), .val (.int p1), .val (.ref b1), .val (.ref b5), .val (.int v13), .val (.int v14), .val (.int v18), .val (.int p0.toUInt32.toUInt16.toUInt32.toInt32), .unset]) rfl k) ?_
    refine own_st (S' := T19.setTop (mkF m 66 #[.val (.int p0), .val (.int p1), .val (.ref b1), .val (.ref b5), .val (.int v13), .val (.int v14), .val (.int v18), .val (.int p0.toUInt32.toUInt16.toUInt32.toInt32), .unset] [(.int p0.toUInt32.toUInt16.toUInt32.toInt32)])) (fun t k => XS.iload X19.here hx rfl (hb hby at_64) rfl k) ?_
    obtain ⟨_, _, ⟨T22, L22, k22, n22⟩, -, X22, ⟨Lc22, hQ22, l22, y22, z22⟩, st22⟩ := Jvm.LawKit.callS X19 hx (y := (⟨"kithrank/cli/Json", "hexadecimal", "(C)I"⟩ : MethodName)) hown (mvT hZ (hw _ (List.mem_of_getElem? (i := 34) rfl))) (mvT hZ (hw _ (List.mem_of_getElem? (i := 35) rfl))) (mvT hZ (hw _ (List.mem_of_getElem? (i := 36) rfl))) (mvT hZ (hw _ (List.mem_of_getElem? (i := 37) rfl))) (by decide) (backOf (W := 0) (rm60 l Z a0 hw [] p0.toUInt32.toUInt16.toUInt32.toInt32 h5 n0 Z5 ) hZ (hw _ (List.mem_of_getElem? (i := 37) rfl)) (hw _ (List.mem_of_getElem? (i := 36) rfl)) (by decide) (by decide)) (g := (mkF m 66 #[.val (.int p0), .val (.int p1), .val (.ref b1), .val (.ref b5), .val (.int v13), .val (.int v14), .val (.int v18), .val (.int p0.toUInt32.toUInt16.toUInt32.toInt32), .unset] [(.int p0.toUInt32.toUInt16.toUInt32.toInt32)])) rfl (by rw [hml]; rfl) (argsL := [(.int p0.toUInt32.toUInt16.toUInt32.toInt32)]) (rest := []) (lenOf pd0_1 rfl) rfl (by show 2 * 0 + _ ≤ _; exact Nat.le_of_eq rfl) (hb hby at_66) (fun _ _ => ⟨rfl, hh19, (by decide : 4 + 0 ≤ _), (by decide : 136 + 0 ≤ _)⟩)
    dsimp only [Pt.U, Pt.locs, Pt.cells, Pt.slots] at X22 l22 y22 z22 st22 hQ22
    rw [l22, y22, z22] at X22
    obtain ⟨rfl, N22q, hh22⟩ := hQ22
    have N22 := Fr.app N19 N22q
    refine own_st st22 ?_
    show own_Go p.tables e below _ (T22.setTop (mkF m 69 #[.val (.int p0), .val (.int p1), .val (.ref b1), .val (.ref b5), .val (.int v13), .val (.int v14), .val (.int v18), .val (.int p0.toUInt32.toUInt16.toUInt32.toInt32), .unset] [(.int (own_hex p0.toUInt32.toUInt16.toUInt32.toInt32))]))
    obtain ⟨v23, qv23⟩ : ∃ z : Int32, z = (own_hex p0.toUInt32.toUInt16.toUInt32.toInt32) := ⟨_, rfl⟩
    rw [← qv23]
    refine own_st (S' := T22.setTop (mkF m 71 #[.val (.int p0), .val (.int p1), .val (.ref b1), .val (.ref b5), .val (.int v13), .val (.int v14), .val (.int v18), .val (.int p0.toUInt32.toUInt16.toUInt32.toInt32), .val (.int v23)] [])) (fun t k => XS.istore X22.here hx rfl (hb hby at_69) rfl (l' := #[.val (.int p0), .val (.int p1), .val (.ref b1), .val (.ref b5), .val (.int v13), .val (.int v14), .val (.int v18), .val (.int p0.toUInt32.toUInt16.toUInt32.toInt32), .val (.int v23)]) rfl k) ?_
    refine own_st (S' := T22.setTop (mkF m 73 #[.val (.int p0), .val (.int p1), .val (.ref b1), .val (.ref b5), .val (.int v13), .val (.int v14), .val (.int v18), .val (.int p0.toUInt32.toUInt16.toUInt32.toInt32), .val (.int v23)] [(.int v23)])) (fun t k => XS.iload X22.here hx rfl (hb hby at_71) rfl k) ?_
    refine own_st (S' := T22.setTop (mkF m 74 #[.val (.int p0), .val (.int p1), .val (.ref b1), .val (.ref b5), .val (.int v13), .val (.int v14), .val (.int v18), .val (.int p0.toUInt32.toUInt16.toUInt32.toInt32), .val (.int v23)] [(.int (-1 : Int32)), (.int v23)])) (fun t k => XS.iconst X22.here hx rfl (hb hby at_73) k) ?_
    by_cases hc24 : v23 = (-1 : Int32)
    · refine own_st (S' := T22.setTop (mkF m 77 #[.val (.int p0), .val (.int p1), .val (.ref b1), .val (.ref b5), .val (.int v13), .val (.int v14), .val (.int v18), .val (.int p0.toUInt32.toUInt16.toUInt32.toInt32), .val (.int v23)] [])) (fun t k => XS.icmpNo X22.here hx rfl (hb hby at_74) rfl (teq hc24).2 k) ?_
      show own_Go p.tables e below _ (T22.setTop (mkF m 77 #[.val (.int p0), .val (.int p1), .val (.ref b1), .val (.ref b5), .val (.int v13), .val (.int v14), .val (.int v18), .val (.int p0.toUInt32.toUInt16.toUInt32.toInt32), .val (.int v23)] []))
      refine own_st (S' := T22.setTop (mkF m 78 #[.val (.int p0), .val (.int p1), .val (.ref b1), .val (.ref b5), .val (.int v13), .val (.int v14), .val (.int v18), .val (.int p0.toUInt32.toUInt16.toUInt32.toInt32), .val (.int v23)] [(.int (1 : Int32))])) (fun t k => XS.iconst X22.here hx rfl (hb hby at_77) k) ?_
      refine own_retNW X22 hS (by rw [hh22]; exact hk) hx (t := .boolean) hret (by simp) hlk (hb hby at_78) ?_ (by decide) (by decide)
      rw [hh22]
      exact ⟨rfl, N22⟩
    · refine own_st (S' := T22.setTop (mkF m 79 #[.val (.int p0), .val (.int p1), .val (.ref b1), .val (.ref b5), .val (.int v13), .val (.int v14), .val (.int v18), .val (.int p0.toUInt32.toUInt16.toUInt32.toInt32), .val (.int v23)] [])) (fun t k => XS.icmpYes X22.here hx rfl (pc0 := 74) (pc' := 79) rfl (hb hby at_74) rfl (feq hc24).2 (by decide) (by decide) k) ?_
      show own_Go p.tables e below _ (T22.setTop (mkF m 79 #[.val (.int p0), .val (.int p1), .val (.ref b1), .val (.ref b5), .val (.int v13), .val (.int v14), .val (.int v18), .val (.int p0.toUInt32.toUInt16.toUInt32.toInt32), .val (.int v23)] []))
      have hbk := own_back p0.toUInt32.toUInt16.toUInt32.toInt32 (by rw [← qv23]; exact hc24)
      rw [← qv23] at hbk
      have hr15 := own_r15 hbk.1
      refine own_st (S' := T22.setTop (mkF m 81 #[.val (.int p0), .val (.int p1), .val (.ref b1), .val (.ref b5), .val (.int v13), .val (.int v14), .val (.int v18), .val (.int p0.toUInt32.toUInt16.toUInt32.toInt32), .val (.int v23)] [(.int v23)])) (fun t k => XS.iload X22.here hx rfl (hb hby at_79) rfl k) ?_
      have hc25 : ¬ (v23 < (0 : Int32)) := hbk.1.1
      refine own_st (S' := T22.setTop (mkF m 84 #[.val (.int p0), .val (.int p1), .val (.ref b1), .val (.ref b5), .val (.int v13), .val (.int v14), .val (.int v18), .val (.int p0.toUInt32.toUInt16.toUInt32.toInt32), .val (.int v23)] [])) (fun t k => XS.ifNo X22.here hx rfl (hb hby at_81) rfl ((if0 _ _).trans (flt hc25).1) k) ?_
      show own_Go p.tables e below _ (T22.setTop (mkF m 84 #[.val (.int p0), .val (.int p1), .val (.ref b1), .val (.ref b5), .val (.int v13), .val (.int v14), .val (.int v18), .val (.int p0.toUInt32.toUInt16.toUInt32.toInt32), .val (.int v23)] []))
      refine own_st (S' := T22.setTop (mkF m 86 #[.val (.int p0), .val (.int p1), .val (.ref b1), .val (.ref b5), .val (.int v13), .val (.int v14), .val (.int v18), .val (.int p0.toUInt32.toUInt16.toUInt32.toInt32), .val (.int v23)] [(.int v23)])) (fun t k => XS.iload X22.here hx rfl (hb hby at_84) rfl k) ?_
      refine own_st (S' := T22.setTop (mkF m 88 #[.val (.int p0), .val (.int p1), .val (.ref b1), .val (.ref b5), .val (.int v13), .val (.int v14), .val (.int v18), .val (.int p0.toUInt32.toUInt16.toUInt32.toInt32), .val (.int v23)] [(.int (15 : Int32)), (.int v23)])) (fun t k => XS.bipush X22.here hx rfl (hb hby at_86) k) ?_
      have hc26 : ¬ ((15 : Int32) < v23) := hbk.1.2
      refine own_st (S' := T22.setTop (mkF m 93 #[.val (.int p0), .val (.int p1), .val (.ref b1), .val (.ref b5), .val (.int v13), .val (.int v14), .val (.int v18), .val (.int p0.toUInt32.toUInt16.toUInt32.toInt32), .val (.int v23)] [])) (fun t k => XS.icmpYes X22.here hx rfl (pc0 := 88) (pc' := 93) rfl (hb hby at_88) rfl (flt hc26).2.2.2 (by decide) (by decide) k) ?_
      show own_Go p.tables e below _ (T22.setTop (mkF m 93 #[.val (.int p0), .val (.int p1), .val (.ref b1), .val (.ref b5), .val (.int v13), .val (.int v14), .val (.int v18), .val (.int p0.toUInt32.toUInt16.toUInt32.toInt32), .val (.int v23)] []))
      refine own_st (S' := T22.setTop (mkF m 95 #[.val (.int p0), .val (.int p1), .val (.ref b1), .val (.ref b5), .val (.int v13), .val (.int v14), .val (.int v18), .val (.int p0.toUInt32.toUInt16.toUInt32.toInt32), .val (.int v23)] [(.int p0.toUInt32.toUInt16.toUInt32.toInt32)])) (fun t k => XS.iload X22.here hx rfl (hb hby at_93) rfl k) ?_
      refine own_st (S' := T22.setTop (mkF m 96 #[.val (.int p0), .val (.int p1), .val (.ref b1), .val (.ref b5), .val (.int v13), .val (.int v14), .val (.int v18), .val (.int p0.toUInt32.toUInt16.toUInt32.toInt32), .val (.int v23)] [(.ref b1), (.int p0.toUInt32.toUInt16.toUInt32.toInt32)])) (fun t k => XS.aloadN X22.here hx rfl (hb hby at_95) rfl rfl k) ?_
      refine own_st (S' := T22.setTop (mkF m 98 #[.val (.int p0), .val (.int p1), .val (.ref b1), .val (.ref b5), .val (.int v13), .val (.int v14), .val (.int v18), .val (.int p0.toUInt32.toUInt16.toUInt32.toInt32), .val (.int v23)] [(.int v23), (.ref b1), (.int p0.toUInt32.toUInt16.toUInt32.toInt32)])) (fun t k => XS.iload X22.here hx rfl (hb hby at_96) rfl k) ?_
      obtain ⟨cq27, kq27, q27a, q27b, q27c⟩ := isOf hZ hh22 f8
      obtain ⟨_, _, ⟨T27, L27, k27, n27⟩, -, X27, ⟨Lc27, hQ27, l27, y27, z27⟩, st27⟩ := X22.virtualBack hx (y := (⟨"java/lang/String", "charAt", "(I)C"⟩ : MethodName)) (z := (⟨"java/lang/String", "charAt", "(I)C"⟩ : MethodName)) hown (mvT hZ (hw _ (List.mem_of_getElem? (i := 9) rfl))) (mvT hZ (hw _ (List.mem_of_getElem? (i := 10) rfl))) (notFace_of_selects (args := #[]) (mvT hZ (hw _ (List.mem_of_getElem? (i := 12) rfl)))) (mvT hZ (hw _ (List.mem_of_getElem? (i := 12) rfl))) (mvT hZ (hw _ (List.mem_of_getElem? (i := 11) rfl))) (by decide) (backOf (W := 1) (rm50 l Z a0 hw [] b1 v23 cs fm d1 ([(48 : Int32), (49 : Int32), (50 : Int32), (51 : Int32), (52 : Int32), (53 : Int32), (54 : Int32), (55 : Int32), (56 : Int32), (57 : Int32), (97 : Int32), (98 : Int32), (99 : Int32), (100 : Int32), (101 : Int32), (102 : Int32)]) h5 n0 Z5 f8 f6 f7 f9 f10 f11 hr15 hcs hfm) hZ (hw _ (List.mem_of_getElem? (i := 13) rfl)) (hw _ (List.mem_of_getElem? (i := 1) rfl)) (by decide) (by decide)) q27a q27c (g := (mkF m 98 #[.val (.int p0), .val (.int p1), .val (.ref b1), .val (.ref b5), .val (.int v13), .val (.int v14), .val (.int v18), .val (.int p0.toUInt32.toUInt16.toUInt32.toInt32), .val (.int v23)] [(.int v23), (.ref b1), (.int p0.toUInt32.toUInt16.toUInt32.toInt32)])) rfl (by rw [hml]; rfl) (Steps.refl _) (argsL := [(.int v23)]) (rest := [(.int p0.toUInt32.toUInt16.toUInt32.toInt32)]) (lenOf pd0_0 rfl) rfl (by show 2 * 0 + _ ≤ _; exact Nat.le_of_eq rfl) (hb hby at_98) (fun _ _ => ⟨rfl, hh22, (by decide : 4 + 0 ≤ _), (by decide : 136 + 0 ≤ _)⟩)
      dsimp only [Pt.U, Pt.locs, Pt.cells, Pt.slots] at X27 l27 y27 z27 st27 hQ27
      rw [l27, y27, z27] at X27
      obtain ⟨rfl, N27q, hh27⟩ := hQ27
      have N27 := Fr.app N22 N27q
      refine own_tr st27 ?_
      show own_Go p.tables e below _ (T27.setTop (mkF m 101 #[.val (.int p0), .val (.int p1), .val (.ref b1), .val (.ref b5), .val (.int v13), .val (.int v14), .val (.int v18), .val (.int p0.toUInt32.toUInt16.toUInt32.toInt32), .val (.int v23)] [(.int (own_chr [(48 : Int32), (49 : Int32), (50 : Int32), (51 : Int32), (52 : Int32), (53 : Int32), (54 : Int32), (55 : Int32), (56 : Int32), (57 : Int32), (97 : Int32), (98 : Int32), (99 : Int32), (100 : Int32), (101 : Int32), (102 : Int32)] v23)), (.int p0.toUInt32.toUInt16.toUInt32.toInt32)]))
      obtain ⟨v28, qv28⟩ : ∃ z : Int32, z = (own_chr [(48 : Int32), (49 : Int32), (50 : Int32), (51 : Int32), (52 : Int32), (53 : Int32), (54 : Int32), (55 : Int32), (56 : Int32), (57 : Int32), (97 : Int32), (98 : Int32), (99 : Int32), (100 : Int32), (101 : Int32), (102 : Int32)] v23) := ⟨_, rfl⟩
      rw [← qv28]
      by_cases hc29 : p0.toUInt32.toUInt16.toUInt32.toInt32 = v28
      · refine own_st (S' := T27.setTop (mkF m 115 #[.val (.int p0), .val (.int p1), .val (.ref b1), .val (.ref b5), .val (.int v13), .val (.int v14), .val (.int v18), .val (.int p0.toUInt32.toUInt16.toUInt32.toInt32), .val (.int v23)] [])) (fun t k => XS.icmpYes X27.here hx rfl (pc0 := 101) (pc' := 115) rfl (hb hby at_101) rfl (teq hc29).1 (by decide) (by decide) k) ?_
        show own_Go p.tables e below _ (T27.setTop (mkF m 115 #[.val (.int p0), .val (.int p1), .val (.ref b1), .val (.ref b5), .val (.int v13), .val (.int v14), .val (.int v18), .val (.int p0.toUInt32.toUInt16.toUInt32.toInt32), .val (.int v23)] []))
        refine own_st (S' := T27.setTop (mkF m 116 #[.val (.int p0), .val (.int p1), .val (.ref b1), .val (.ref b5), .val (.int v13), .val (.int v14), .val (.int v18), .val (.int p0.toUInt32.toUInt16.toUInt32.toInt32), .val (.int v23)] [(.int (1 : Int32))])) (fun t k => XS.iconst X27.here hx rfl (hb hby at_115) k) ?_
        refine own_st (S' := T27.setTop (mkF m 120 #[.val (.int p0), .val (.int p1), .val (.ref b1), .val (.ref b5), .val (.int v13), .val (.int v14), .val (.int v18), .val (.int p0.toUInt32.toUInt16.toUInt32.toInt32), .val (.int v23)] [(.int (1 : Int32))])) (fun t k => XS.goto X27.here hx rfl (pc0 := 116) (pc' := 120) rfl (hb hby at_116) (by decide) (by decide) k) ?_
        refine own_retNW X27 hS (by rw [hh27]; exact hk) hx (t := .boolean) hret (by simp) hlk (hb hby at_120) ?_ (by decide) (by decide)
        rw [hh27]
        exact ⟨rfl, N27⟩
      · refine own_st (S' := T27.setTop (mkF m 104 #[.val (.int p0), .val (.int p1), .val (.ref b1), .val (.ref b5), .val (.int v13), .val (.int v14), .val (.int v18), .val (.int p0.toUInt32.toUInt16.toUInt32.toInt32), .val (.int v23)] [])) (fun t k => XS.icmpNo X27.here hx rfl (hb hby at_101) rfl (feq hc29).1 k) ?_
        show own_Go p.tables e below _ (T27.setTop (mkF m 104 #[.val (.int p0), .val (.int p1), .val (.ref b1), .val (.ref b5), .val (.int v13), .val (.int v14), .val (.int v18), .val (.int p0.toUInt32.toUInt16.toUInt32.toInt32), .val (.int v23)] []))
        refine own_st (S' := T27.setTop (mkF m 106 #[.val (.int p0), .val (.int p1), .val (.ref b1), .val (.ref b5), .val (.int v13), .val (.int v14), .val (.int v18), .val (.int p0.toUInt32.toUInt16.toUInt32.toInt32), .val (.int v23)] [(.int p0.toUInt32.toUInt16.toUInt32.toInt32)])) (fun t k => XS.iload X27.here hx rfl (hb hby at_104) rfl k) ?_
        refine own_st (S' := T27.setTop (mkF m 107 #[.val (.int p0), .val (.int p1), .val (.ref b1), .val (.ref b5), .val (.int v13), .val (.int v14), .val (.int v18), .val (.int p0.toUInt32.toUInt16.toUInt32.toInt32), .val (.int v23)] [(.ref b5), (.int p0.toUInt32.toUInt16.toUInt32.toInt32)])) (fun t k => XS.aloadN X27.here hx rfl (hb hby at_106) rfl rfl k) ?_
        refine own_st (S' := T27.setTop (mkF m 109 #[.val (.int p0), .val (.int p1), .val (.ref b1), .val (.ref b5), .val (.int v13), .val (.int v14), .val (.int v18), .val (.int p0.toUInt32.toUInt16.toUInt32.toInt32), .val (.int v23)] [(.int v23), (.ref b5), (.int p0.toUInt32.toUInt16.toUInt32.toInt32)])) (fun t k => XS.iload X27.here hx rfl (hb hby at_107) rfl k) ?_
        obtain ⟨cq30, kq30, q30a, q30b, q30c⟩ := isOf hZ hh27 EX5
        obtain ⟨_, _, ⟨T30, L30, k30, n30⟩, -, X30, ⟨Lc30, hQ30, l30, y30, z30⟩, st30⟩ := X27.virtualBack hx (y := (⟨"java/lang/String", "charAt", "(I)C"⟩ : MethodName)) (z := (⟨"java/lang/String", "charAt", "(I)C"⟩ : MethodName)) hown (mvT hZ (hw _ (List.mem_of_getElem? (i := 9) rfl))) (mvT hZ (hw _ (List.mem_of_getElem? (i := 10) rfl))) (notFace_of_selects (args := #[]) (mvT hZ (hw _ (List.mem_of_getElem? (i := 12) rfl)))) (mvT hZ (hw _ (List.mem_of_getElem? (i := 12) rfl))) (mvT hZ (hw _ (List.mem_of_getElem? (i := 11) rfl))) (by decide) (backOf (W := 1) (rm50 l Z a0 hw [] b5 v23 cs fm d5 ([(48 : Int32), (49 : Int32), (50 : Int32), (51 : Int32), (52 : Int32), (53 : Int32), (54 : Int32), (55 : Int32), (56 : Int32), (57 : Int32), (65 : Int32), (66 : Int32), (67 : Int32), (68 : Int32), (69 : Int32), (70 : Int32)]) h5 n0 Z5 EX5 f6 f7 FC5 FV5 f12 hr15 hcs hfm) hZ (hw _ (List.mem_of_getElem? (i := 13) rfl)) (hw _ (List.mem_of_getElem? (i := 1) rfl)) (by decide) (by decide)) q30a q30c (g := (mkF m 109 #[.val (.int p0), .val (.int p1), .val (.ref b1), .val (.ref b5), .val (.int v13), .val (.int v14), .val (.int v18), .val (.int p0.toUInt32.toUInt16.toUInt32.toInt32), .val (.int v23)] [(.int v23), (.ref b5), (.int p0.toUInt32.toUInt16.toUInt32.toInt32)])) rfl (by rw [hml]; rfl) (Steps.refl _) (argsL := [(.int v23)]) (rest := [(.int p0.toUInt32.toUInt16.toUInt32.toInt32)]) (lenOf pd0_0 rfl) rfl (by show 2 * 0 + _ ≤ _; exact Nat.le_of_eq rfl) (hb hby at_109) (fun _ _ => ⟨rfl, hh27, (by decide : 4 + 0 ≤ _), (by decide : 136 + 0 ≤ _)⟩)
        dsimp only [Pt.U, Pt.locs, Pt.cells, Pt.slots] at X30 l30 y30 z30 st30 hQ30
        rw [l30, y30, z30] at X30
        obtain ⟨rfl, N30q, hh30⟩ := hQ30
        have N30 := Fr.app N27 N30q
        refine own_tr st30 ?_
        show own_Go p.tables e below _ (T30.setTop (mkF m 112 #[.val (.int p0), .val (.int p1), .val (.ref b1), .val (.ref b5), .val (.int v13), .val (.int v14), .val (.int v18), .val (.int p0.toUInt32.toUInt16.toUInt32.toInt32), .val (.int v23)] [(.int (own_chr [(48 : Int32), (49 : Int32), (50 : Int32), (51 : Int32), (52 : Int32), (53 : Int32), (54 : Int32), (55 : Int32), (56 : Int32), (57 : Int32), (65 : Int32), (66 : Int32), (67 : Int32), (68 : Int32), (69 : Int32), (70 : Int32)] v23)), (.int p0.toUInt32.toUInt16.toUInt32.toInt32)]))
        obtain ⟨v31, qv31⟩ : ∃ z : Int32, z = (own_chr [(48 : Int32), (49 : Int32), (50 : Int32), (51 : Int32), (52 : Int32), (53 : Int32), (54 : Int32), (55 : Int32), (56 : Int32), (57 : Int32), (65 : Int32), (66 : Int32), (67 : Int32), (68 : Int32), (69 : Int32), (70 : Int32)] v23) := ⟨_, rfl⟩
        rw [← qv31]
        have hc32 : p0.toUInt32.toUInt16.toUInt32.toInt32 = v31 := by rw [qv31]; exact hbk.2.resolve_left (fun z => hc29 (z.trans (qv28).symm))
        refine own_st (S' := T30.setTop (mkF m 115 #[.val (.int p0), .val (.int p1), .val (.ref b1), .val (.ref b5), .val (.int v13), .val (.int v14), .val (.int v18), .val (.int p0.toUInt32.toUInt16.toUInt32.toInt32), .val (.int v23)] [])) (fun t k => XS.icmpNo X30.here hx rfl (hb hby at_112) rfl (teq hc32).2 k) ?_
        show own_Go p.tables e below _ (T30.setTop (mkF m 115 #[.val (.int p0), .val (.int p1), .val (.ref b1), .val (.ref b5), .val (.int v13), .val (.int v14), .val (.int v18), .val (.int p0.toUInt32.toUInt16.toUInt32.toInt32), .val (.int v23)] []))
        refine own_st (S' := T30.setTop (mkF m 116 #[.val (.int p0), .val (.int p1), .val (.ref b1), .val (.ref b5), .val (.int v13), .val (.int v14), .val (.int v18), .val (.int p0.toUInt32.toUInt16.toUInt32.toInt32), .val (.int v23)] [(.int (1 : Int32))])) (fun t k => XS.iconst X30.here hx rfl (hb hby at_115) k) ?_
        refine own_st (S' := T30.setTop (mkF m 120 #[.val (.int p0), .val (.int p1), .val (.ref b1), .val (.ref b5), .val (.int v13), .val (.int v14), .val (.int v18), .val (.int p0.toUInt32.toUInt16.toUInt32.toInt32), .val (.int v23)] [(.int (1 : Int32))])) (fun t k => XS.goto X30.here hx rfl (pc0 := 116) (pc' := 120) rfl (hb hby at_116) (by decide) (by decide) k) ?_
        refine own_retNW X30 hS (by rw [hh30]; exact hk) hx (t := .boolean) hret (by simp) hlk (hb hby at_120) ?_ (by decide) (by decide)
        rw [hh30]
        exact ⟨rfl, N30⟩
  · refine own_st (S' := T5.setTop (mkF m 31 #[.val (.int p0), .val (.int p1), .val (.ref b1), .val (.ref b5), .val (.int v13), .val (.int v14), .unset, .unset, .unset] [])) (fun t k => XS.ifNo X5.here hx rfl (hb hby at_28) rfl ((if0 _ _).trans (feq ((by rw [qv14, if_neg hc16] <;> decide) : ¬ (v14 = (0 : Int32)))).1) k) ?_
    show own_Go p.tables e below _ (T5.setTop (mkF m 31 #[.val (.int p0), .val (.int p1), .val (.ref b1), .val (.ref b5), .val (.int v13), .val (.int v14), .unset, .unset, .unset] []))
    refine own_st (S' := T5.setTop (mkF m 32 #[.val (.int p0), .val (.int p1), .val (.ref b1), .val (.ref b5), .val (.int v13), .val (.int v14), .unset, .unset, .unset] [(.ref b5)])) (fun t k => XS.aloadN X5.here hx rfl (hb hby at_31) rfl rfl k) ?_
    refine own_st (S' := T5.setTop (mkF m 34 #[.val (.int p0), .val (.int p1), .val (.ref b1), .val (.ref b5), .val (.int v13), .val (.int v14), .unset, .unset, .unset] [(.int v13), (.ref b5)])) (fun t k => XS.iload X5.here hx rfl (hb hby at_32) rfl k) ?_
    obtain ⟨cq33, kq33, q33a, q33b, q33c⟩ := isOf hZ e5 EX5
    obtain ⟨_, _, ⟨T33, L33, k33, n33⟩, -, X33, ⟨Lc33, hQ33, l33, y33, z33⟩, st33⟩ := X5.virtualBack hx (y := (⟨"java/lang/String", "charAt", "(I)C"⟩ : MethodName)) (z := (⟨"java/lang/String", "charAt", "(I)C"⟩ : MethodName)) hown (mvT hZ (hw _ (List.mem_of_getElem? (i := 9) rfl))) (mvT hZ (hw _ (List.mem_of_getElem? (i := 10) rfl))) (notFace_of_selects (args := #[]) (mvT hZ (hw _ (List.mem_of_getElem? (i := 12) rfl)))) (mvT hZ (hw _ (List.mem_of_getElem? (i := 12) rfl))) (mvT hZ (hw _ (List.mem_of_getElem? (i := 11) rfl))) (by decide) (backOf (W := 0) (rm50 l Z a0 hw [] b5 v13 cs fm d5 ([(48 : Int32), (49 : Int32), (50 : Int32), (51 : Int32), (52 : Int32), (53 : Int32), (54 : Int32), (55 : Int32), (56 : Int32), (57 : Int32), (65 : Int32), (66 : Int32), (67 : Int32), (68 : Int32), (69 : Int32), (70 : Int32)]) h5 n0 Z5 EX5 f6 f7 FC5 FV5 f12 (own_v qv13) hcs hfm) hZ (hw _ (List.mem_of_getElem? (i := 13) rfl)) (hw _ (List.mem_of_getElem? (i := 1) rfl)) (by decide) (by decide)) q33a q33c (g := (mkF m 34 #[.val (.int p0), .val (.int p1), .val (.ref b1), .val (.ref b5), .val (.int v13), .val (.int v14), .unset, .unset, .unset] [(.int v13), (.ref b5)])) rfl (by rw [hml]; rfl) (Steps.refl _) (argsL := [(.int v13)]) (rest := []) (lenOf pd0_0 rfl) rfl (by show 2 * 0 + _ ≤ _; exact Nat.le_of_eq rfl) (hb hby at_34) (fun _ _ => ⟨rfl, e5, (by decide : 4 + 0 ≤ _), (by decide : 136 + 0 ≤ _)⟩)
    dsimp only [Pt.U, Pt.locs, Pt.cells, Pt.slots] at X33 l33 y33 z33 st33 hQ33
    rw [l33, y33, z33] at X33
    obtain ⟨rfl, N33q, hh33⟩ := hQ33
    have N33 := Fr.app N0 N33q
    refine own_tr st33 ?_
    show own_Go p.tables e below _ (T33.setTop (mkF m 37 #[.val (.int p0), .val (.int p1), .val (.ref b1), .val (.ref b5), .val (.int v13), .val (.int v14), .unset, .unset, .unset] [(.int (own_chr [(48 : Int32), (49 : Int32), (50 : Int32), (51 : Int32), (52 : Int32), (53 : Int32), (54 : Int32), (55 : Int32), (56 : Int32), (57 : Int32), (65 : Int32), (66 : Int32), (67 : Int32), (68 : Int32), (69 : Int32), (70 : Int32)] v13))]))
    obtain ⟨v34, qv34⟩ : ∃ z : Int32, z = (own_chr [(48 : Int32), (49 : Int32), (50 : Int32), (51 : Int32), (52 : Int32), (53 : Int32), (54 : Int32), (55 : Int32), (56 : Int32), (57 : Int32), (65 : Int32), (66 : Int32), (67 : Int32), (68 : Int32), (69 : Int32), (70 : Int32)] v13) := ⟨_, rfl⟩
    rw [← qv34]
    refine own_st (S' := T33.setTop (mkF m 46 #[.val (.int p0), .val (.int p1), .val (.ref b1), .val (.ref b5), .val (.int v13), .val (.int v14), .unset, .unset, .unset] [(.int v34)])) (fun t k => XS.goto X33.here hx rfl (pc0 := 37) (pc' := 46) rfl (hb hby at_37) (by decide) (by decide) k) ?_
    refine own_st (S' := T33.setTop (mkF m 48 #[.val (.int p0), .val (.int p1), .val (.ref b1), .val (.ref b5), .val (.int v13), .val (.int v14), .val (.int v34), .unset, .unset] [])) (fun t k => XS.istore X33.here hx rfl (hb hby at_46) rfl (l' := #[.val (.int p0), .val (.int p1), .val (.ref b1), .val (.ref b5), .val (.int v13), .val (.int v14), .val (.int v34), .unset, .unset]) rfl k) ?_
    refine own_st (S' := T33.setTop (mkF m 50 #[.val (.int p0), .val (.int p1), .val (.ref b1), .val (.ref b5), .val (.int v13), .val (.int v14), .val (.int v34), .unset, .unset] [(.int v34)])) (fun t k => XS.iload X33.here hx rfl (hb hby at_48) rfl k) ?_
    obtain ⟨_, _, ⟨T35, L35, k35, n35⟩, -, X35, ⟨Lc35, hQ35, l35, y35, z35⟩, st35⟩ := Jvm.LawKit.callS X33 hx (y := (⟨"kithrank/cli/Json", "hexadecimal", "(C)I"⟩ : MethodName)) hown (mvT hZ (hw _ (List.mem_of_getElem? (i := 34) rfl))) (mvT hZ (hw _ (List.mem_of_getElem? (i := 35) rfl))) (mvT hZ (hw _ (List.mem_of_getElem? (i := 36) rfl))) (mvT hZ (hw _ (List.mem_of_getElem? (i := 37) rfl))) (by decide) (backOf (W := 0) (rm60 l Z a0 hw [] v34 h5 n0 Z5 ) hZ (hw _ (List.mem_of_getElem? (i := 37) rfl)) (hw _ (List.mem_of_getElem? (i := 36) rfl)) (by decide) (by decide)) (g := (mkF m 50 #[.val (.int p0), .val (.int p1), .val (.ref b1), .val (.ref b5), .val (.int v13), .val (.int v14), .val (.int v34), .unset, .unset] [(.int v34)])) rfl (by rw [hml]; rfl) (argsL := [(.int v34)]) (rest := []) (lenOf pd0_1 rfl) rfl (by show 2 * 0 + _ ≤ _; exact Nat.le_of_eq rfl) (hb hby at_50) (fun _ _ => ⟨rfl, hh33, (by decide : 4 + 0 ≤ _), (by decide : 136 + 0 ≤ _)⟩)
    dsimp only [Pt.U, Pt.locs, Pt.cells, Pt.slots] at X35 l35 y35 z35 st35 hQ35
    rw [l35, y35, z35] at X35
    obtain ⟨rfl, N35q, hh35⟩ := hQ35
    have N35 := Fr.app N33 N35q
    refine own_st st35 ?_
    show own_Go p.tables e below _ (T35.setTop (mkF m 53 #[.val (.int p0), .val (.int p1), .val (.ref b1), .val (.ref b5), .val (.int v13), .val (.int v14), .val (.int v34), .unset, .unset] [(.int (own_hex v34))]))
    obtain ⟨v36, qv36⟩ : ∃ z : Int32, z = (own_hex v34) := ⟨_, rfl⟩
    rw [← qv36]
    refine own_st (S' := T35.setTop (mkF m 55 #[.val (.int p0), .val (.int p1), .val (.ref b1), .val (.ref b5), .val (.int v13), .val (.int v14), .val (.int v34), .unset, .unset] [(.int v13), (.int v36)])) (fun t k => XS.iload X35.here hx rfl (hb hby at_53) rfl k) ?_
    have hc37 : v36 = v13 := by rw [qv36, qv34]; exact own_up' (own_v qv13)
    refine own_st (S' := T35.setTop (mkF m 60 #[.val (.int p0), .val (.int p1), .val (.ref b1), .val (.ref b5), .val (.int v13), .val (.int v14), .val (.int v34), .unset, .unset] [])) (fun t k => XS.icmpYes X35.here hx rfl (pc0 := 55) (pc' := 60) rfl (hb hby at_55) rfl (teq hc37).1 (by decide) (by decide) k) ?_
    show own_Go p.tables e below _ (T35.setTop (mkF m 60 #[.val (.int p0), .val (.int p1), .val (.ref b1), .val (.ref b5), .val (.int v13), .val (.int v14), .val (.int v34), .unset, .unset] []))
    refine own_st (S' := T35.setTop (mkF m 61 #[.val (.int p0), .val (.int p1), .val (.ref b1), .val (.ref b5), .val (.int v13), .val (.int v14), .val (.int v34), .unset, .unset] [(.int p0)])) (fun t k => XS.iloadN X35.here hx rfl (hb hby at_60) rfl k) ?_
    refine own_st (S' := T35.setTop (mkF m 62 #[.val (.int p0), .val (.int p1), .val (.ref b1), .val (.ref b5), .val (.int v13), .val (.int v14), .val (.int v34), .unset, .unset] [(.int p0.toUInt32.toUInt16.toUInt32.toInt32)])) (fun t k => XS.i2c X35.here hx rfl (hb hby at_61) rfl k) ?_
    refine own_st (S' := T35.setTop (mkF m 64 #[.val (.int p0), .val (.int p1), .val (.ref b1), .val (.ref b5), .val (.int v13), .val (.int v14), .val (.int v34), .val (.int p0.toUInt32.toUInt16.toUInt32.toInt32), .unset] [])) (fun t k => XS.istore X35.here hx rfl (hb hby at_62) rfl (l' := #[.val (.int p0), .val (.int p1), .val (.ref b1), .val (.ref b5), .val (.int v13), .val (.int v14), .val (.int v34), .val (.int p0.toUInt32.toUInt16.toUInt32.toInt32), .unset]) rfl k) ?_
    refine own_st (S' := T35.setTop (mkF m 66 #[.val (.int p0), .val (.int p1), .val (.ref b1), .val (.ref b5), .val (.int v13), .val (.int v14), .val (.int v34), .val (.int p0.toUInt32.toUInt16.toUInt32.toInt32), .unset] [(.int p0.toUInt32.toUInt16.toUInt32.toInt32)])) (fun t k => XS.iload X35.here hx rfl (hb hby at_64) rfl k) ?_
    obtain ⟨_, _, ⟨T38, L38, k38, n38⟩, -, X38, ⟨Lc38, hQ38, l38, y38, z38⟩, st38⟩ := Jvm.LawKit.callS X35 hx (y := (⟨"kithrank/cli/Json", "hexadecimal", "(C)I"⟩ : MethodName)) hown (mvT hZ (hw _ (List.mem_of_getElem? (i := 34) rfl))) (mvT hZ (hw _ (List.mem_of_getElem? (i := 35) rfl))) (mvT hZ (hw _ (List.mem_of_getElem? (i := 36) rfl))) (mvT hZ (hw _ (List.mem_of_getElem? (i := 37) rfl))) (by decide) (backOf (W := 0) (rm60 l Z a0 hw [] p0.toUInt32.toUInt16.toUInt32.toInt32 h5 n0 Z5 ) hZ (hw _ (List.mem_of_getElem? (i := 37) rfl)) (hw _ (List.mem_of_getElem? (i := 36) rfl)) (by decide) (by decide)) (g := (mkF m 66 #[.val (.int p0), .val (.int p1), .val (.ref b1), .val (.ref b5), .val (.int v13), .val (.int v14), .val (.int v34), .val (.int p0.toUInt32.toUInt16.toUInt32.toInt32), .unset] [(.int p0.toUInt32.toUInt16.toUInt32.toInt32)])) rfl (by rw [hml]; rfl) (argsL := [(.int p0.toUInt32.toUInt16.toUInt32.toInt32)]) (rest := []) (lenOf pd0_1 rfl) rfl (by show 2 * 0 + _ ≤ _; exact Nat.le_of_eq rfl) (hb hby at_66) (fun _ _ => ⟨rfl, hh35, (by decide : 4 + 0 ≤ _), (by decide : 136 + 0 ≤ _)⟩)
    dsimp only [Pt.U, Pt.locs, Pt.cells, Pt.slots] at X38 l38 y38 z38 st38 hQ38
    rw [l38, y38, z38] at X38
    obtain ⟨rfl, N38q, hh38⟩ := hQ38
    have N38 := Fr.app N35 N38q
    refine own_st st38 ?_
    show own_Go p.tables e below _ (T38.setTop (mkF m 69 #[.val (.int p0), .val (.int p1), .val (.ref b1), .val (.ref b5), .val (.int v13), .val (.int v14), .val (.int v34), .val (.int p0.toUInt32.toUInt16.toUInt32.toInt32), .unset] [(.int (own_hex p0.toUInt32.toUInt16.toUInt32.toInt32))]))
    obtain ⟨v39, qv39⟩ : ∃ z : Int32, z = (own_hex p0.toUInt32.toUInt16.toUInt32.toInt32) := ⟨_, rfl⟩
    rw [← qv39]
    refine own_st (S' := T38.setTop (mkF m 71 #[.val (.int p0), .val (.int p1), .val (.ref b1), .val (.ref b5), .val (.int v13), .val (.int v14), .val (.int v34), .val (.int p0.toUInt32.toUInt16.toUInt32.toInt32), .val (.int v39)] [])) (fun t k => XS.istore X38.here hx rfl (hb hby at_69) rfl (l' := #[.val (.int p0), .val (.int p1), .val (.ref b1), .val (.ref b5), .val (.int v13), .val (.int v14), .val (.int v34), .val (.int p0.toUInt32.toUInt16.toUInt32.toInt32), .val (.int v39)]) rfl k) ?_
    refine own_st (S' := T38.setTop (mkF m 73 #[.val (.int p0), .val (.int p1), .val (.ref b1), .val (.ref b5), .val (.int v13), .val (.int v14), .val (.int v34), .val (.int p0.toUInt32.toUInt16.toUInt32.toInt32), .val (.int v39)] [(.int v39)])) (fun t k => XS.iload X38.here hx rfl (hb hby at_71) rfl k) ?_
    refine own_st (S' := T38.setTop (mkF m 74 #[.val (.int p0), .val (.int p1), .val (.ref b1), .val (.ref b5), .val (.int v13), .val (.int v14), .val (.int v34), .val (.int p0.toUInt32.toUInt16.toUInt32.toInt32), .val (.int v39)] [(.int (-1 : Int32)), (.int v39)])) (fun t k => XS.iconst X38.here hx rfl (hb hby at_73) k) ?_
    by_cases hc40 : v39 = (-1 : Int32)
    · refine own_st (S' := T38.setTop (mkF m 77 #[.val (.int p0), .val (.int p1), .val (.ref b1), .val (.ref b5), .val (.int v13), .val (.int v14), .val (.int v34), .val (.int p0.toUInt32.toUInt16.toUInt32.toInt32), .val (.int v39)] [])) (fun t k => XS.icmpNo X38.here hx rfl (hb hby at_74) rfl (teq hc40).2 k) ?_
      show own_Go p.tables e below _ (T38.setTop (mkF m 77 #[.val (.int p0), .val (.int p1), .val (.ref b1), .val (.ref b5), .val (.int v13), .val (.int v14), .val (.int v34), .val (.int p0.toUInt32.toUInt16.toUInt32.toInt32), .val (.int v39)] []))
      refine own_st (S' := T38.setTop (mkF m 78 #[.val (.int p0), .val (.int p1), .val (.ref b1), .val (.ref b5), .val (.int v13), .val (.int v14), .val (.int v34), .val (.int p0.toUInt32.toUInt16.toUInt32.toInt32), .val (.int v39)] [(.int (1 : Int32))])) (fun t k => XS.iconst X38.here hx rfl (hb hby at_77) k) ?_
      refine own_retNW X38 hS (by rw [hh38]; exact hk) hx (t := .boolean) hret (by simp) hlk (hb hby at_78) ?_ (by decide) (by decide)
      rw [hh38]
      exact ⟨rfl, N38⟩
    · refine own_st (S' := T38.setTop (mkF m 79 #[.val (.int p0), .val (.int p1), .val (.ref b1), .val (.ref b5), .val (.int v13), .val (.int v14), .val (.int v34), .val (.int p0.toUInt32.toUInt16.toUInt32.toInt32), .val (.int v39)] [])) (fun t k => XS.icmpYes X38.here hx rfl (pc0 := 74) (pc' := 79) rfl (hb hby at_74) rfl (feq hc40).2 (by decide) (by decide) k) ?_
      show own_Go p.tables e below _ (T38.setTop (mkF m 79 #[.val (.int p0), .val (.int p1), .val (.ref b1), .val (.ref b5), .val (.int v13), .val (.int v14), .val (.int v34), .val (.int p0.toUInt32.toUInt16.toUInt32.toInt32), .val (.int v39)] []))
      have hbk := own_back p0.toUInt32.toUInt16.toUInt32.toInt32 (by rw [← qv39]; exact hc40)
      rw [← qv39] at hbk
      have hr15 := own_r15 hbk.1
      refine own_st (S' := T38.setTop (mkF m 81 #[.val (.int p0), .val (.int p1), .val (.ref b1), .val (.ref b5), .val (.int v13), .val (.int v14), .val (.int v34), .val (.int p0.toUInt32.toUInt16.toUInt32.toInt32), .val (.int v39)] [(.int v39)])) (fun t k => XS.iload X38.here hx rfl (hb hby at_79) rfl k) ?_
      have hc41 : ¬ (v39 < (0 : Int32)) := hbk.1.1
      refine own_st (S' := T38.setTop (mkF m 84 #[.val (.int p0), .val (.int p1), .val (.ref b1), .val (.ref b5), .val (.int v13), .val (.int v14), .val (.int v34), .val (.int p0.toUInt32.toUInt16.toUInt32.toInt32), .val (.int v39)] [])) (fun t k => XS.ifNo X38.here hx rfl (hb hby at_81) rfl ((if0 _ _).trans (flt hc41).1) k) ?_
      show own_Go p.tables e below _ (T38.setTop (mkF m 84 #[.val (.int p0), .val (.int p1), .val (.ref b1), .val (.ref b5), .val (.int v13), .val (.int v14), .val (.int v34), .val (.int p0.toUInt32.toUInt16.toUInt32.toInt32), .val (.int v39)] []))
      refine own_st (S' := T38.setTop (mkF m 86 #[.val (.int p0), .val (.int p1), .val (.ref b1), .val (.ref b5), .val (.int v13), .val (.int v14), .val (.int v34), .val (.int p0.toUInt32.toUInt16.toUInt32.toInt32), .val (.int v39)] [(.int v39)])) (fun t k => XS.iload X38.here hx rfl (hb hby at_84) rfl k) ?_
      refine own_st (S' := T38.setTop (mkF m 88 #[.val (.int p0), .val (.int p1), .val (.ref b1), .val (.ref b5), .val (.int v13), .val (.int v14), .val (.int v34), .val (.int p0.toUInt32.toUInt16.toUInt32.toInt32), .val (.int v39)] [(.int (15 : Int32)), (.int v39)])) (fun t k => XS.bipush X38.here hx rfl (hb hby at_86) k) ?_
      have hc42 : ¬ ((15 : Int32) < v39) := hbk.1.2
      refine own_st (S' := T38.setTop (mkF m 93 #[.val (.int p0), .val (.int p1), .val (.ref b1), .val (.ref b5), .val (.int v13), .val (.int v14), .val (.int v34), .val (.int p0.toUInt32.toUInt16.toUInt32.toInt32), .val (.int v39)] [])) (fun t k => XS.icmpYes X38.here hx rfl (pc0 := 88) (pc' := 93) rfl (hb hby at_88) rfl (flt hc42).2.2.2 (by decide) (by decide) k) ?_
      show own_Go p.tables e below _ (T38.setTop (mkF m 93 #[.val (.int p0), .val (.int p1), .val (.ref b1), .val (.ref b5), .val (.int v13), .val (.int v14), .val (.int v34), .val (.int p0.toUInt32.toUInt16.toUInt32.toInt32), .val (.int v39)] []))
      refine own_st (S' := T38.setTop (mkF m 95 #[.val (.int p0), .val (.int p1), .val (.ref b1), .val (.ref b5), .val (.int v13), .val (.int v14), .val (.int v34), .val (.int p0.toUInt32.toUInt16.toUInt32.toInt32), .val (.int v39)] [(.int p0.toUInt32.toUInt16.toUInt32.toInt32)])) (fun t k => XS.iload X38.here hx rfl (hb hby at_93) rfl k) ?_
      refine own_st (S' := T38.setTop (mkF m 96 #[.val (.int p0), .val (.int p1), .val (.ref b1), .val (.ref b5), .val (.int v13), .val (.int v14), .val (.int v34), .val (.int p0.toUInt32.toUInt16.toUInt32.toInt32), .val (.int v39)] [(.ref b1), (.int p0.toUInt32.toUInt16.toUInt32.toInt32)])) (fun t k => XS.aloadN X38.here hx rfl (hb hby at_95) rfl rfl k) ?_
      refine own_st (S' := T38.setTop (mkF m 98 #[.val (.int p0), .val (.int p1), .val (.ref b1), .val (.ref b5), .val (.int v13), .val (.int v14), .val (.int v34), .val (.int p0.toUInt32.toUInt16.toUInt32.toInt32), .val (.int v39)] [(.int v39), (.ref b1), (.int p0.toUInt32.toUInt16.toUInt32.toInt32)])) (fun t k => XS.iload X38.here hx rfl (hb hby at_96) rfl k) ?_
      obtain ⟨cq43, kq43, q43a, q43b, q43c⟩ := isOf hZ hh38 f8
      obtain ⟨_, _, ⟨T43, L43, k43, n43⟩, -, X43, ⟨Lc43, hQ43, l43, y43, z43⟩, st43⟩ := X38.virtualBack hx (y := (⟨"java/lang/String", "charAt", "(I)C"⟩ : MethodName)) (z := (⟨"java/lang/String", "charAt", "(I)C"⟩ : MethodName)) hown (mvT hZ (hw _ (List.mem_of_getElem? (i := 9) rfl))) (mvT hZ (hw _ (List.mem_of_getElem? (i := 10) rfl))) (notFace_of_selects (args := #[]) (mvT hZ (hw _ (List.mem_of_getElem? (i := 12) rfl)))) (mvT hZ (hw _ (List.mem_of_getElem? (i := 12) rfl))) (mvT hZ (hw _ (List.mem_of_getElem? (i := 11) rfl))) (by decide) (backOf (W := 1) (rm50 l Z a0 hw [] b1 v39 cs fm d1 ([(48 : Int32), (49 : Int32), (50 : Int32), (51 : Int32), (52 : Int32), (53 : Int32), (54 : Int32), (55 : Int32), (56 : Int32), (57 : Int32), (97 : Int32), (98 : Int32), (99 : Int32), (100 : Int32), (101 : Int32), (102 : Int32)]) h5 n0 Z5 f8 f6 f7 f9 f10 f11 hr15 hcs hfm) hZ (hw _ (List.mem_of_getElem? (i := 13) rfl)) (hw _ (List.mem_of_getElem? (i := 1) rfl)) (by decide) (by decide)) q43a q43c (g := (mkF m 98 #[.val (.int p0), .val (.int p1), .val (.ref b1), .val (.ref b5), .val (.int v13), .val (.int v14), .val (.int v34), .val (.int p0.toUInt32.toUInt16.toUInt32.toInt32), .val (.int v39)] [(.int v39), (.ref b1), (.int p0.toUInt32.toUInt16.toUInt32.toInt32)])) rfl (by rw [hml]; rfl) (Steps.refl _) (argsL := [(.int v39)]) (rest := [(.int p0.toUInt32.toUInt16.toUInt32.toInt32)]) (lenOf pd0_0 rfl) rfl (by show 2 * 0 + _ ≤ _; exact Nat.le_of_eq rfl) (hb hby at_98) (fun _ _ => ⟨rfl, hh38, (by decide : 4 + 0 ≤ _), (by decide : 136 + 0 ≤ _)⟩)
      dsimp only [Pt.U, Pt.locs, Pt.cells, Pt.slots] at X43 l43 y43 z43 st43 hQ43
      rw [l43, y43, z43] at X43
      obtain ⟨rfl, N43q, hh43⟩ := hQ43
      have N43 := Fr.app N38 N43q
      refine own_tr st43 ?_
      show own_Go p.tables e below _ (T43.setTop (mkF m 101 #[.val (.int p0), .val (.int p1), .val (.ref b1), .val (.ref b5), .val (.int v13), .val (.int v14), .val (.int v34), .val (.int p0.toUInt32.toUInt16.toUInt32.toInt32), .val (.int v39)] [(.int (own_chr [(48 : Int32), (49 : Int32), (50 : Int32), (51 : Int32), (52 : Int32), (53 : Int32), (54 : Int32), (55 : Int32), (56 : Int32), (57 : Int32), (97 : Int32), (98 : Int32), (99 : Int32), (100 : Int32), (101 : Int32), (102 : Int32)] v39)), (.int p0.toUInt32.toUInt16.toUInt32.toInt32)]))
      obtain ⟨v44, qv44⟩ : ∃ z : Int32, z = (own_chr [(48 : Int32), (49 : Int32), (50 : Int32), (51 : Int32), (52 : Int32), (53 : Int32), (54 : Int32), (55 : Int32), (56 : Int32), (57 : Int32), (97 : Int32), (98 : Int32), (99 : Int32), (100 : Int32), (101 : Int32), (102 : Int32)] v39) := ⟨_, rfl⟩
      rw [← qv44]
      by_cases hc45 : p0.toUInt32.toUInt16.toUInt32.toInt32 = v44
      · refine own_st (S' := T43.setTop (mkF m 115 #[.val (.int p0), .val (.int p1), .val (.ref b1), .val (.ref b5), .val (.int v13), .val (.int v14), .val (.int v34), .val (.int p0.toUInt32.toUInt16.toUInt32.toInt32), .val (.int v39)] [])) (fun t k => XS.icmpYes X43.here hx rfl (pc0 := 101) (pc' := 115) rfl (hb hby at_101) rfl (teq hc45).1 (by decide) (by decide) k) ?_
        show own_Go p.tables e below _ (T43.setTop (mkF m 115 #[.val (.int p0), .val (.int p1), .val (.ref b1), .val (.ref b5), .val (.int v13), .val (.int v14), .val (.int v34), .val (.int p0.toUInt32.toUInt16.toUInt32.toInt32), .val (.int v39)] []))
        refine own_st (S' := T43.setTop (mkF m 116 #[.val (.int p0), .val (.int p1), .val (.ref b1), .val (.ref b5), .val (.int v13), .val (.int v14), .val (.int v34), .val (.int p0.toUInt32.toUInt16.toUInt32.toInt32), .val (.int v39)] [(.int (1 : Int32))])) (fun t k => XS.iconst X43.here hx rfl (hb hby at_115) k) ?_
        refine own_st (S' := T43.setTop (mkF m 120 #[.val (.int p0), .val (.int p1), .val (.ref b1), .val (.ref b5), .val (.int v13), .val (.int v14), .val (.int v34), .val (.int p0.toUInt32.toUInt16.toUInt32.toInt32), .val (.int v39)] [(.int (1 : Int32))])) (fun t k => XS.goto X43.here hx rfl (pc0 := 116) (pc' := 120) rfl (hb hby at_116) (by decide) (by decide) k) ?_
        refine own_retNW X43 hS (by rw [hh43]; exact hk) hx (t := .boolean) hret (by simp) hlk (hb hby at_120) ?_ (by decide) (by decide)
        rw [hh43]
        exact ⟨rfl, N43⟩
      · refine own_st (S' := T43.setTop (mkF m 104 #[.val (.int p0), .val (.int p1), .val (.ref b1), .val (.ref b5), .val (.int v13), .val (.int v14), .val (.int v34), .val (.int p0.toUInt32.toUInt16.toUInt32.toInt32), .val (.int v39)] [])) (fun t k => XS.icmpNo X43.here hx rfl (hb hby at_101) rfl (feq hc45).1 k) ?_
        show own_Go p.tables e below _ (T43.setTop (mkF m 104 #[.val (.int p0), .val (.int p1), .val (.ref b1), .val (.ref b5), .val (.int v13), .val (.int v14), .val (.int v34), .val (.int p0.toUInt32.toUInt16.toUInt32.toInt32), .val (.int v39)] []))
        refine own_st (S' := T43.setTop (mkF m 106 #[.val (.int p0), .val (.int p1), .val (.ref b1), .val (.ref b5), .val (.int v13), .val (.int v14), .val (.int v34), .val (.int p0.toUInt32.toUInt16.toUInt32.toInt32), .val (.int v39)] [(.int p0.toUInt32.toUInt16.toUInt32.toInt32)])) (fun t k => XS.iload X43.here hx rfl (hb hby at_104) rfl k) ?_
        refine own_st (S' := T43.setTop (mkF m 107 #[.val (.int p0), .val (.int p1), .val (.ref b1), .val (.ref b5), .val (.int v13), .val (.int v14), .val (.int v34), .val (.int p0.toUInt32.toUInt16.toUInt32.toInt32), .val (.int v39)] [(.ref b5), (.int p0.toUInt32.toUInt16.toUInt32.toInt32)])) (fun t k => XS.aloadN X43.here hx rfl (hb hby at_106) rfl rfl k) ?_
        refine own_st (S' := T43.setTop (mkF m 109 #[.val (.int p0), .val (.int p1), .val (.ref b1), .val (.ref b5), .val (.int v13), .val (.int v14), .val (.int v34), .val (.int p0.toUInt32.toUInt16.toUInt32.toInt32), .val (.int v39)] [(.int v39), (.ref b5), (.int p0.toUInt32.toUInt16.toUInt32.toInt32)])) (fun t k => XS.iload X43.here hx rfl (hb hby at_107) rfl k) ?_
        obtain ⟨cq46, kq46, q46a, q46b, q46c⟩ := isOf hZ hh43 EX5
        obtain ⟨_, _, ⟨T46, L46, k46, n46⟩, -, X46, ⟨Lc46, hQ46, l46, y46, z46⟩, st46⟩ := X43.virtualBack hx (y := (⟨"java/lang/String", "charAt", "(I)C"⟩ : MethodName)) (z := (⟨"java/lang/String", "charAt", "(I)C"⟩ : MethodName)) hown (mvT hZ (hw _ (List.mem_of_getElem? (i := 9) rfl))) (mvT hZ (hw _ (List.mem_of_getElem? (i := 10) rfl))) (notFace_of_selects (args := #[]) (mvT hZ (hw _ (List.mem_of_getElem? (i := 12) rfl)))) (mvT hZ (hw _ (List.mem_of_getElem? (i := 12) rfl))) (mvT hZ (hw _ (List.mem_of_getElem? (i := 11) rfl))) (by decide) (backOf (W := 1) (rm50 l Z a0 hw [] b5 v39 cs fm d5 ([(48 : Int32), (49 : Int32), (50 : Int32), (51 : Int32), (52 : Int32), (53 : Int32), (54 : Int32), (55 : Int32), (56 : Int32), (57 : Int32), (65 : Int32), (66 : Int32), (67 : Int32), (68 : Int32), (69 : Int32), (70 : Int32)]) h5 n0 Z5 EX5 f6 f7 FC5 FV5 f12 hr15 hcs hfm) hZ (hw _ (List.mem_of_getElem? (i := 13) rfl)) (hw _ (List.mem_of_getElem? (i := 1) rfl)) (by decide) (by decide)) q46a q46c (g := (mkF m 109 #[.val (.int p0), .val (.int p1), .val (.ref b1), .val (.ref b5), .val (.int v13), .val (.int v14), .val (.int v34), .val (.int p0.toUInt32.toUInt16.toUInt32.toInt32), .val (.int v39)] [(.int v39), (.ref b5), (.int p0.toUInt32.toUInt16.toUInt32.toInt32)])) rfl (by rw [hml]; rfl) (Steps.refl _) (argsL := [(.int v39)]) (rest := [(.int p0.toUInt32.toUInt16.toUInt32.toInt32)]) (lenOf pd0_0 rfl) rfl (by show 2 * 0 + _ ≤ _; exact Nat.le_of_eq rfl) (hb hby at_109) (fun _ _ => ⟨rfl, hh43, (by decide : 4 + 0 ≤ _), (by decide : 136 + 0 ≤ _)⟩)
        dsimp only [Pt.U, Pt.locs, Pt.cells, Pt.slots] at X46 l46 y46 z46 st46 hQ46
        rw [l46, y46, z46] at X46
        obtain ⟨rfl, N46q, hh46⟩ := hQ46
        have N46 := Fr.app N43 N46q
        refine own_tr st46 ?_
        show own_Go p.tables e below _ (T46.setTop (mkF m 112 #[.val (.int p0), .val (.int p1), .val (.ref b1), .val (.ref b5), .val (.int v13), .val (.int v14), .val (.int v34), .val (.int p0.toUInt32.toUInt16.toUInt32.toInt32), .val (.int v39)] [(.int (own_chr [(48 : Int32), (49 : Int32), (50 : Int32), (51 : Int32), (52 : Int32), (53 : Int32), (54 : Int32), (55 : Int32), (56 : Int32), (57 : Int32), (65 : Int32), (66 : Int32), (67 : Int32), (68 : Int32), (69 : Int32), (70 : Int32)] v39)), (.int p0.toUInt32.toUInt16.toUInt32.toInt32)]))
        obtain ⟨v47, qv47⟩ : ∃ z : Int32, z = (own_chr [(48 : Int32), (49 : Int32), (50 : Int32), (51 : Int32), (52 : Int32), (53 : Int32), (54 : Int32), (55 : Int32), (56 : Int32), (57 : Int32), (65 : Int32), (66 : Int32), (67 : Int32), (68 : Int32), (69 : Int32), (70 : Int32)] v39) := ⟨_, rfl⟩
        rw [← qv47]
        have hc48 : p0.toUInt32.toUInt16.toUInt32.toInt32 = v47 := by rw [qv47]; exact hbk.2.resolve_left (fun z => hc45 (z.trans (qv44).symm))
        refine own_st (S' := T46.setTop (mkF m 115 #[.val (.int p0), .val (.int p1), .val (.ref b1), .val (.ref b5), .val (.int v13), .val (.int v14), .val (.int v34), .val (.int p0.toUInt32.toUInt16.toUInt32.toInt32), .val (.int v39)] [])) (fun t k => XS.icmpNo X46.here hx rfl (hb hby at_112) rfl (teq hc48).2 k) ?_
        show own_Go p.tables e below _ (T46.setTop (mkF m 115 #[.val (.int p0), .val (.int p1), .val (.ref b1), .val (.ref b5), .val (.int v13), .val (.int v14), .val (.int v34), .val (.int p0.toUInt32.toUInt16.toUInt32.toInt32), .val (.int v39)] []))
        refine own_st (S' := T46.setTop (mkF m 116 #[.val (.int p0), .val (.int p1), .val (.ref b1), .val (.ref b5), .val (.int v13), .val (.int v14), .val (.int v34), .val (.int p0.toUInt32.toUInt16.toUInt32.toInt32), .val (.int v39)] [(.int (1 : Int32))])) (fun t k => XS.iconst X46.here hx rfl (hb hby at_115) k) ?_
        refine own_st (S' := T46.setTop (mkF m 120 #[.val (.int p0), .val (.int p1), .val (.ref b1), .val (.ref b5), .val (.int v13), .val (.int v14), .val (.int v34), .val (.int p0.toUInt32.toUInt16.toUInt32.toInt32), .val (.int v39)] [(.int (1 : Int32))])) (fun t k => XS.goto X46.here hx rfl (pc0 := 116) (pc' := 120) rfl (hb hby at_116) (by decide) (by decide) k) ?_
        refine own_retNW X46 hS (by rw [hh46]; exact hk) hx (t := .boolean) hret (by simp) hlk (hb hby at_120) ?_ (by decide) (by decide)
        rw [hh46]
        exact ⟨rfl, N46⟩
set_option maxRecDepth 65536 in
set_option maxHeartbeats 40000000 in
theorem comes_1 {Post : Tables → Env → Array Value → State → Outcome → State → Prop} (hpost : ∀ tb e args s v u, (limb_1_1.after args s (.returned v) u = true ∧ limb_1_2.after args s (.returned v) u = true ∧ True) → ReturnedEndW s (.returned v) u (Jvm.fieldLocs frame_1_writes args s ++ Jvm.arrayLocs frame_1_arrays args s ++ Jvm.staticLocs frame_1_statics s) 8 2112 → Post tb e args s (.returned v) u) :
    ArmFor flags0 classFile x code maxLocals ret World_1 tables_1 room_1 Calls_1 rest_1 Pre_1 Post := by
  intro l hfl _ _ p e ha hc hk s m args below hf hA hF happ hP
  obtain ⟨hcalls, hrest, hpre⟩ := hP
  obtain ⟨-, -, -, hnamed, -, -, -, hat⟩ := (Spec.applies_iff hf).mp happ
  obtain ⟨hg, hn⟩ := and_e (Cond.before_iff.mp (show (Jvm.Cond.and given_1 narrow_1).before args s = true from hpre))
  obtain ⟨c0, d0⟩ := and_e hg
  obtain ⟨c1, d1⟩ := and_e d0
  obtain ⟨w0, w1, rfl⟩ : ∃ w0 w1 : Value, args = #[w0, w1] := by
    have hs : args.size = 2 := by simpa [Cond.value, given_1] using c0
    obtain ⟨L⟩ := args
    match L, hs with
    | [w0, w1], _ => exact ⟨w0, w1, rfl⟩
  have hw := fun d (hd : d ∈ tables_1) => atoms_spec (ws := Jvm.Cond.code x code maxLocals ret :: tables_1) hat d (List.mem_cons_of_mem _ hd)
  have hfit : Fit s := fun {y c} hc i hi => by
    obtain ⟨ha, rfl⟩ := Array.getElem?_eq_some_iff.mp hc
    have q := List.all_eq_true.mp ((Array.all_eq_true_iff_forall_mem.mp hF) _ (Array.getElem_mem ha)) i (List.mem_range.mpr hi)
    simpa [Array.getElem?_eq_getElem hi] using q
  obtain ⟨hsets, hown0⟩ := atoms_of _ (rest_1_c_eq ▸ (show rest_1_c.before _ s = true from hrest))
  have hr0 := Cond.before_iff.mp hown0
  obtain ⟨i0, ei0⟩ := is_v c1
  obtain rfl : w0 = (.int i0) := Option.some.inj ei0
  obtain ⟨i1, ei1⟩ := is_v d1
  obtain rfl : w1 = (.int i1) := Option.some.inj ei1
  have SC0 := hsets _ (List.mem_of_getElem? (i := 1) rfl)
  obtain ⟨cs, ecs⟩ := is_v (Cond.before_iff.mp SC0)
  have SC := Sta.start ecs (Or.inl (hsets _ (List.mem_of_getElem? (i := 0) rfl)))
  have hcs : ¬ cs = (0 : Int32) := gotF (Jvm.Cond.eq_ints ecs (Term.int_eval 0)) (not_v (Cond.before_iff.mp (hsets _ (List.mem_of_getElem? (i := 2) rfl))))
  obtain ⟨fm, efm, hfm⟩ := isR_v (Cond.before_iff.mp (hsets _ (List.mem_of_getElem? (i := 8) rfl)))
  have SF := Sta.start efm (Or.inl (hsets _ (List.mem_of_getElem? (i := 7) rfl)))
  have HH7 := hcalls.1 _ (List.mem_of_getElem? (i := 0) rfl)
  have HH9 := hcalls.1 _ (List.mem_of_getElem? (i := 1) rfl)
  have HCW := hsets _ (List.mem_of_getElem? (i := 2) rfl)
  obtain ⟨n, o, h1, h2, h3, _, L, rfl, ⟨rfl, N⟩, hq⟩ := rm0 l s _ hw tables_1 i0 i1 cs fm SC SF hcs hfm HH7 HH9 HCW p e ha hc hk s m _ below hf ((Spec.applies_iff_loose hf).mp happ).1 ⟨rfl, rfl⟩ trivial
  refine ⟨n, _, h1, h2, h3, hpost _ _ _ _ _ _ ⟨Cond.after_iff.mpr rfl, Cond.after_iff.mpr (eq_i res_at (Term.int_eval (1)) rfl), trivial⟩ ⟨hq.1, hq.2.1, hq.2.2.1, (hq.2.2.2.sift fun y hy => Or.inr (N y hy)).mono (by decide) (by decide)⟩⟩
theorem main_1_1 : Claimed_1_1 := comes_1 fun _ _ _ _ _ _ h hF => ⟨h.1, hF⟩
theorem main_1_2 : Claimed_1_2 := comes_1 fun _ _ _ _ _ _ h hF => ⟨h.2.1, hF⟩
end Jvm.Pilot.@@N@@
namespace Jvm.Pilot.@@N@@
open Jvm Jvm.ClassFile Sem Op Lib Jvm.Free Jvm.Stand Jvm.Pilot.@@N@@.Jvm.D
/-! MADE BY PROGRAM (witnessworld.py) out of the Statement's table words and the real class files: 17 classes; the members and pool entries that the words name. The judged class is class 1, her method 1. -/
namespace start1
open Jvm.ClassFile
def u (s : String) : CpInfo := .utf8 (stringToUtf16 s)
/-- a pool by its gaps: so many unusable entries, then the entry; so many at the end -/
def gap : Nat → List CpInfo → List CpInfo
  | 0, r => r
  | n + 1, r => .unusable :: gap n r
def poolList (es : List (Nat × CpInfo)) (last : Nat) : List CpInfo := es.foldr (fun e r => gap e.1 (e.2 :: r)) (gap last [])
def pool (es : List (Nat × CpInfo)) (last : Nat) : Array CpInfo := ⟨poolList es last⟩
def fileOf (pool : Array CpInfo) (this : Nat) (attrs : Array Attribute := #[]) (ms : Array MethodInfo := #[]) (fl : Nat := 33) (sup : Nat := 0) (ifs : Array Nat := #[]) (fds : Array FieldInfo := #[]) : ClassFile where
  minorVersion := 0
  majorVersion := 65
  constantPool := pool
  accessFlags := fl
  thisClass := this
  superClass := sup
  interfaces := ifs
  fields := fds
  methods := ms
  attributes := attrs
def plain (name : String) (sup : Option ClassId) : Class where
  name := name
  kind := .ordinary
  loader := none
  accessFlags := 33
  super := sup
  interfaces := #[]
  cf := none
  fields := #[]
  methods := #[]
  instanceTypes := #[]
  staticTypes := #[]
  resolved := #[]
  callSites := []
  init := .initialized
  statics := none
  mirror := none

def pool0 : Array CpInfo := pool [(5, u "<init>"), (0, u "()V"), (1, .class_ 10), (1, u "java/lang/Object")] 113

def k0m0 : Method := { name := "<init>", desc := "()V", sig := { parameters := [], returnType := none }, accessFlags := 1, code := none }
/-- java/lang/Object -/
def k0 : Class := { plain "java/lang/Object" none with
  accessFlags := 33
  interfaces := #[]
  cf := some (fileOf pool0 8 #[] #[{ accessFlags := 1, nameIndex := 5, descriptorIndex := 6, attributes := #[] }] 33 0 #[] #[])
  fields := #[]
  methods := #[k0m0]
  instanceTypes := #[]
  staticTypes := #[]
  resolved := Array.replicate 124 none
  statics := none }

def pool1 : Array CpInfo := pool [(2, .class_ 4), (1, u "java/lang/Object"), (0, u "<init>"), (0, u "()V"), (0, .string 8), (0, u "0123456789abcdef"), (0, .string 10), (0, u "0123456789ABCDEF"), (0, .methodref 12 13), (0, .class_ 14), (0, .nameAndType 15 16), (0, u "java/lang/String"), (0, u "charAt"), (0, u "(I)C"), (0, .methodref 18 19), (0, .class_ 20), (0, .nameAndType 21 22), (0, u "kithrank/cli/Json"), (0, u "hexadecimal"), (0, u "(C)I"), (0, .class_ 24), (0, u "kithrank/cli/JsonHexadecimalPinLaw"), (2, u "law"), (0, u "(II)Z")] 3

def k1m0 : Method := { name := "<init>", desc := "()V", sig := { parameters := [], returnType := none }, accessFlags := 1, code := none }
def k1c1 : Code := { maxStack := 3, maxLocals := 9, code := code, exceptionTable := #[], attributes := #[] }
def k1m1 : Method := { name := "law", desc := "(II)Z", sig := { parameters := [.int, .int], returnType := some .boolean }, accessFlags := 9, code := some k1c1 }
/-- kithrank/cli/JsonHexadecimalPinLaw -/
def k1 : Class := { plain "kithrank/cli/JsonHexadecimalPinLaw" (some 0) with
  accessFlags := 49
  interfaces := #[]
  cf := some (fileOf pool1 23 #[] #[{ accessFlags := 1, nameIndex := 5, descriptorIndex := 6, attributes := #[] }, { accessFlags := 9, nameIndex := 27, descriptorIndex := 28, attributes := #[] }] 49 2 #[] #[])
  fields := #[]
  methods := #[k1m0, k1m1]
  instanceTypes := #[]
  staticTypes := #[]
  resolved := Array.replicate 32 none
  statics := none }

def pool2 : Array CpInfo := pool [(1, .class_ 2), (0, u "java/io/Serializable"), (0, .class_ 4), (0, u "java/lang/Object")] 2

/-- java/io/Serializable -/
def k2 : Class := { plain "java/io/Serializable" (some 0) with
  accessFlags := 1537
  interfaces := #[]
  cf := some (fileOf pool2 1 #[] #[] 1537 3 #[] #[])
  fields := #[]
  methods := #[]
  instanceTypes := #[]
  staticTypes := #[]
  resolved := Array.replicate 7 none
  statics := none }

def pool3 : Array CpInfo := pool [(1, .class_ 2), (0, u "java/lang/Comparable"), (0, .class_ 4), (0, u "java/lang/Object")] 7

/-- java/lang/Comparable -/
def k3 : Class := { plain "java/lang/Comparable" (some 0) with
  accessFlags := 1537
  interfaces := #[]
  cf := some (fileOf pool3 1 #[] #[] 1537 3 #[] #[])
  fields := #[]
  methods := #[]
  instanceTypes := #[]
  staticTypes := #[]
  resolved := Array.replicate 12 none
  statics := none }

def pool4 : Array CpInfo := pool [(2, .class_ 4), (1, u "java/lang/CharSequence"), (42, .class_ 48), (0, u "java/lang/CharSequence$1CodePointIterator"), (10, .class_ 60), (0, u "java/lang/CharSequence$1CharIterator"), (5, .class_ 67), (0, u "java/lang/Object")] 63

/-- java/lang/CharSequence -/
def k4 : Class := { plain "java/lang/CharSequence" (some 0) with
  accessFlags := 1537
  interfaces := #[]
  cf := some (fileOf pool4 2 #[.nestMembers #[47, 59]] #[] 1537 66 #[] #[])
  fields := #[]
  methods := #[]
  instanceTypes := #[]
  staticTypes := #[]
  resolved := Array.replicate 131 none
  statics := none }

def pool5 : Array CpInfo := pool [(1, .class_ 2), (0, u "java/lang/constant/Constable"), (0, .class_ 4), (0, u "java/lang/Object")] 6

/-- java/lang/constant/Constable -/
def k5 : Class := { plain "java/lang/constant/Constable" (some 0) with
  accessFlags := 1537
  interfaces := #[]
  cf := some (fileOf pool5 1 #[] #[] 1537 3 #[] #[])
  fields := #[]
  methods := #[]
  instanceTypes := #[]
  staticTypes := #[]
  resolved := Array.replicate 11 none
  statics := none }

def pool6 : Array CpInfo := pool [(1, .class_ 2), (0, u "java/lang/constant/ConstantDesc"), (0, .class_ 4), (0, u "java/lang/Object")] 32

/-- java/lang/constant/ConstantDesc -/
def k6 : Class := { plain "java/lang/constant/ConstantDesc" (some 0) with
  accessFlags := 1537
  interfaces := #[]
  cf := some (fileOf pool6 1 #[] #[] 1537 3 #[] #[])
  fields := #[]
  methods := #[]
  instanceTypes := #[]
  staticTypes := #[]
  resolved := Array.replicate 37 none
  statics := none }

def pool7 : Array CpInfo := pool [(2, .class_ 4), (1, u "java/lang/Object"), (0, u "<init>"), (0, u "()V"), (2, .fieldref 10 11), (0, .class_ 12), (0, .nameAndType 13 14), (0, u "java/lang/String"), (0, u "value"), (0, u "[B"), (0, .fieldref 10 16), (0, .nameAndType 17 18), (0, u "coder"), (0, u "B"), (2, u "hash"), (0, u "I"), (2, u "hashIsZero"), (0, u "Z"), (11, .fieldref 10 39), (0, .nameAndType 40 26), (0, u "COMPACT_STRINGS"), (66, .class_ 109), (1, u "java/lang/StringLatin1"), (32, u "()Z"), (220, u "([BI)C"), (27, u "(II)V"), (35, u "(I)C"), (64, .methodref 10 493), (0, .nameAndType 494 142), (0, u "isLatin1"), (0, .methodref 107 496), (0, .nameAndType 497 363), (0, u "charAt"), (3, u "checkIndex"), (73, .class_ 576), (0, u "java/lang/CharSequence"), (22, u "CASE_INSENSITIVE_ORDER"), (0, u "Ljava/util/Comparator;"), (452, .fieldref 1054 1055), (0, .class_ 1056), (0, .nameAndType 1057 1058), (0, u "jdk/internal/util/Preconditions"), (0, u "SIOOBE_FORMATTER"), (0, u "Ljava/util/function/BiFunction;"), (0, .methodref 1054 1060), (0, .nameAndType 501 1061), (0, u "(IILjava/util/function/BiFunction;)I"), (39, u "serialPersistentFields"), (0, u "[Ljava/io/ObjectStreamField;"), (0, .class_ 1104), (0, u "java/lang/String$CaseInsensitiveComparator"), (1, .class_ 1107), (0, u "java/io/Serializable"), (0, .class_ 1109), (0, u "java/lang/Comparable"), (0, .class_ 1111), (0, u "java/lang/constant/Constable"), (0, .class_ 1113), (0, u "java/lang/constant/ConstantDesc"), (2, u "serialVersionUID"), (0, u "J"), (3, u "REPL"), (0, u "C"), (2, u "LATIN1"), (1, u "UTF16")] 323

def k7m0 : Method := { name := "<init>", desc := "()V", sig := { parameters := [], returnType := none }, accessFlags := 1, code := none }
def k7c1 : Code := { maxStack := 2, maxLocals := 2, code := jdk_42_method_56_code, exceptionTable := #[], attributes := #[] }
def k7m1 : Method := { name := "charAt", desc := "(I)C", sig := { parameters := [.int], returnType := some .char }, accessFlags := 1, code := some k7c1 }
def k7c2 : Code := { maxStack := 1, maxLocals := 1, code := jdk_42_method_154_code, exceptionTable := #[], attributes := #[] }
def k7m2 : Method := { name := "isLatin1", desc := "()Z", sig := { parameters := [], returnType := some .boolean }, accessFlags := 0, code := some k7c2 }
def k7c3 : Code := { maxStack := 3, maxLocals := 2, code := jdk_42_method_155_code, exceptionTable := #[], attributes := #[] }
def k7m3 : Method := { name := "checkIndex", desc := "(II)V", sig := { parameters := [.int, .int], returnType := none }, accessFlags := 8, code := some k7c3 }
/-- java/lang/String -/
def k7 : Class := { plain "java/lang/String" (some 0) with
  accessFlags := 49
  interfaces := #[2, 3, 4, 5, 6]
  cf := some (fileOf pool7 10 #[.nestMembers #[1103]] #[{ accessFlags := 1, nameIndex := 5, descriptorIndex := 6, attributes := #[] }, { accessFlags := 1, nameIndex := 497, descriptorIndex := 427, attributes := #[] }, { accessFlags := 0, nameIndex := 494, descriptorIndex := 142, attributes := #[] }, { accessFlags := 8, nameIndex := 501, descriptorIndex := 391, attributes := #[] }] 49 2 #[1106, 1108, 575, 1110, 1112] #[{ accessFlags := 18, nameIndex := 13, descriptorIndex := 14, attributes := #[] }, { accessFlags := 18, nameIndex := 17, descriptorIndex := 18, attributes := #[] }, { accessFlags := 2, nameIndex := 21, descriptorIndex := 22, attributes := #[] }, { accessFlags := 2, nameIndex := 25, descriptorIndex := 26, attributes := #[] }, { accessFlags := 26, nameIndex := 1116, descriptorIndex := 1117, attributes := #[] }, { accessFlags := 24, nameIndex := 40, descriptorIndex := 26, attributes := #[] }, { accessFlags := 26, nameIndex := 1101, descriptorIndex := 1102, attributes := #[] }, { accessFlags := 26, nameIndex := 1121, descriptorIndex := 1122, attributes := #[] }, { accessFlags := 25, nameIndex := 599, descriptorIndex := 600, attributes := #[] }, { accessFlags := 24, nameIndex := 1125, descriptorIndex := 18, attributes := #[] }, { accessFlags := 24, nameIndex := 1127, descriptorIndex := 18, attributes := #[] }])
  fields := #[{ name := "value", type := (.array .byte), accessFlags := 18, slot := 0, constantValue := 0 }, { name := "coder", type := .byte, accessFlags := 18, slot := 1, constantValue := 0 }, { name := "hash", type := .int, accessFlags := 2, slot := 2, constantValue := 0 }, { name := "hashIsZero", type := .boolean, accessFlags := 2, slot := 3, constantValue := 0 }, { name := "serialVersionUID", type := .long, accessFlags := 26, slot := 0, constantValue := 0 }, { name := "COMPACT_STRINGS", type := .boolean, accessFlags := 24, slot := 1, constantValue := 0 }, { name := "serialPersistentFields", type := (.array (.object "java/io/ObjectStreamField")), accessFlags := 26, slot := 2, constantValue := 0 }, { name := "REPL", type := .char, accessFlags := 26, slot := 3, constantValue := 0 }, { name := "CASE_INSENSITIVE_ORDER", type := (.object "java/util/Comparator"), accessFlags := 25, slot := 4, constantValue := 0 }, { name := "LATIN1", type := .byte, accessFlags := 24, slot := 5, constantValue := 0 }, { name := "UTF16", type := .byte, accessFlags := 24, slot := 6, constantValue := 0 }]
  methods := #[k7m0, k7m1, k7m2, k7m3]
  instanceTypes := #[(.array .byte), .byte, .int, .boolean]
  staticTypes := #[.long, .boolean, (.array (.object "java/io/ObjectStreamField")), .char, (.object "java/util/Comparator"), .byte, .byte]
  resolved := Array.replicate 1451 none
  statics := some 0 }

def pool8 : Array CpInfo := pool [(1, .class_ 2), (0, u "java/lang/String"), (1, .class_ 6), (1, u "java/lang/Object"), (0, u "<init>"), (0, u "()V"), (0, .methodref 1 10), (0, .nameAndType 11 12), (0, u "checkIndex"), (0, u "(II)V"), (1, .class_ 16), (1, u "java/lang/StringLatin1"), (36, u "([BI)C"), (67, u "$assertionsDisabled"), (0, u "Z"), (98, .class_ 223), (1, u "java/lang/StringLatin1$LinesSpliterator"), (28, u "charAt"), (137, .class_ 391), (0, u "java/lang/StringLatin1$CharsSpliterator")] 3

def k8m0 : Method := { name := "<init>", desc := "()V", sig := { parameters := [], returnType := none }, accessFlags := 0, code := none }
def k8c1 : Code := { maxStack := 2, maxLocals := 2, code := jdk_43_method_2_code, exceptionTable := #[], attributes := #[] }
def k8m1 : Method := { name := "charAt", desc := "([BI)C", sig := { parameters := [(.array .byte), .int], returnType := some .char }, accessFlags := 9, code := some k8c1 }
/-- java/lang/StringLatin1 -/
def k8 : Class := { plain "java/lang/StringLatin1" (some 0) with
  accessFlags := 48
  interfaces := #[]
  cf := some (fileOf pool8 14 #[.nestMembers #[390, 221]] #[{ accessFlags := 0, nameIndex := 7, descriptorIndex := 8, attributes := #[] }, { accessFlags := 9, nameIndex := 252, descriptorIndex := 53, attributes := #[] }] 48 4 #[] #[{ accessFlags := 4120, nameIndex := 121, descriptorIndex := 122, attributes := #[] }])
  fields := #[{ name := "$assertionsDisabled", type := .boolean, accessFlags := 4120, slot := 0, constantValue := 0 }]
  methods := #[k8m0, k8m1]
  instanceTypes := #[]
  staticTypes := #[.boolean]
  resolved := Array.replicate 395 none
  statics := none }

def pool9 : Array CpInfo := pool [(2, .class_ 4), (1, u "java/lang/Object"), (0, u "<init>"), (0, u "()V"), (17, .class_ 26), (1, u "jdk/internal/util/Preconditions"), (6, u "checkIndex"), (21, .class_ 56), (0, u "jdk/internal/util/Preconditions$4"), (57, .class_ 115), (0, u "jdk/internal/util/Preconditions$1"), (7, u "SIOOBE_FORMATTER"), (0, u "Ljava/util/function/BiFunction;"), (0, .class_ 126), (0, u "jdk/internal/util/Preconditions$2"), (3, u "AIOOBE_FORMATTER"), (0, .class_ 132), (0, u "jdk/internal/util/Preconditions$3"), (3, u "IOOBE_FORMATTER"), (41, u "(IILjava/util/function/BiFunction;)I")] 15

def k9m0 : Method := { name := "<init>", desc := "()V", sig := { parameters := [], returnType := none }, accessFlags := 1, code := none }
def k9c1 : Code := { maxStack := 3, maxLocals := 3, code := jdk_41_method_11_code, exceptionTable := #[], attributes := #[] }
def k9m1 : Method := { name := "checkIndex", desc := "(IILjava/util/function/BiFunction;)I", sig := { parameters := [.int, .int, (.object "java/util/function/BiFunction")], returnType := some .int }, accessFlags := 9, code := some k9c1 }
/-- jdk/internal/util/Preconditions -/
def k9 : Class := { plain "jdk/internal/util/Preconditions" (some 0) with
  accessFlags := 33
  interfaces := #[]
  cf := some (fileOf pool9 24 #[.nestMembers #[55, 131, 125, 114]] #[{ accessFlags := 1, nameIndex := 5, descriptorIndex := 6, attributes := #[] }, { accessFlags := 9, nameIndex := 33, descriptorIndex := 178, attributes := #[] }] 33 2 #[] #[{ accessFlags := 25, nameIndex := 123, descriptorIndex := 124, attributes := #[] }, { accessFlags := 25, nameIndex := 130, descriptorIndex := 124, attributes := #[] }, { accessFlags := 25, nameIndex := 136, descriptorIndex := 124, attributes := #[] }])
  fields := #[{ name := "SIOOBE_FORMATTER", type := (.object "java/util/function/BiFunction"), accessFlags := 25, slot := 0, constantValue := 0 }, { name := "AIOOBE_FORMATTER", type := (.object "java/util/function/BiFunction"), accessFlags := 25, slot := 1, constantValue := 0 }, { name := "IOOBE_FORMATTER", type := (.object "java/util/function/BiFunction"), accessFlags := 25, slot := 2, constantValue := 0 }]
  methods := #[k9m0, k9m1]
  instanceTypes := #[]
  staticTypes := #[(.object "java/util/function/BiFunction"), (.object "java/util/function/BiFunction"), (.object "java/util/function/BiFunction")]
  resolved := Array.replicate 194 none
  statics := some 1 }

def pool10 : Array CpInfo := pool [(2, .class_ 4), (1, u "java/lang/Object"), (3, .class_ 10), (1, u "kithrank/cli/Json"), (0, u "text"), (0, u "Ljava/lang/String;"), (12, u "at"), (0, u "I"), (148, u "hexadecimal"), (0, u "(C)I"), (11, .class_ 189), (0, u "kithrank/cli/Json$Number"), (17, u "DEPTH")] 35

def k10c0 : Code := { maxStack := 2, maxLocals := 1, code := prog_163_method_10_code, exceptionTable := #[], attributes := #[] }
def k10m0 : Method := { name := "hexadecimal", desc := "(C)I", sig := { parameters := [.char], returnType := some .int }, accessFlags := 8, code := some k10c0 }
/-- kithrank/cli/Json -/
def k10 : Class := { plain "kithrank/cli/Json" (some 0) with
  accessFlags := 48
  interfaces := #[]
  cf := some (fileOf pool10 8 #[.nestMembers #[188]] #[{ accessFlags := 8, nameIndex := 175, descriptorIndex := 176, attributes := #[] }] 48 2 #[] #[{ accessFlags := 24, nameIndex := 207, descriptorIndex := 26, attributes := #[] }, { accessFlags := 18, nameIndex := 11, descriptorIndex := 12, attributes := #[] }, { accessFlags := 2, nameIndex := 25, descriptorIndex := 26, attributes := #[] }])
  fields := #[{ name := "DEPTH", type := .int, accessFlags := 24, slot := 0, constantValue := 0 }, { name := "text", type := (.object "java/lang/String"), accessFlags := 18, slot := 0, constantValue := 0 }, { name := "at", type := .int, accessFlags := 2, slot := 1, constantValue := 0 }]
  methods := #[k10m0]
  instanceTypes := #[(.object "java/lang/String"), .int]
  staticTypes := #[.int]
  resolved := Array.replicate 243 none
  statics := none }

def pool11 : Array CpInfo := pool [(9, u "<init>"), (6, .class_ 18), (1, u "java/lang/Object"), (0, u "()V"), (1, .class_ 23), (1, u "jdk/internal/util/ArraysSupport"), (0, u "LOG2_ARRAY_LONG_INDEX_SCALE"), (0, u "I"), (2, u "U"), (0, u "Ljdk/internal/misc/Unsafe;"), (8, u "BIG_ENDIAN"), (0, u "Z"), (8, u "LOG2_BYTE_BIT_SIZE"), (4, u "LOG2_ARRAY_INT_INDEX_SCALE"), (54, u "JLA"), (0, u "Ljdk/internal/access/JavaLangAccess;"), (11, u "LOG2_ARRAY_BOOLEAN_INDEX_SCALE"), (9, u "LOG2_ARRAY_BYTE_INDEX_SCALE"), (5, u "LOG2_ARRAY_CHAR_INDEX_SCALE"), (5, u "LOG2_ARRAY_SHORT_INDEX_SCALE"), (18, u "LOG2_ARRAY_FLOAT_INDEX_SCALE"), (24, u "LOG2_ARRAY_DOUBLE_INDEX_SCALE"), (89, u "T_BOOLEAN"), (2, u "T_CHAR"), (1, u "T_FLOAT"), (1, u "T_DOUBLE"), (1, u "T_BYTE"), (1, u "T_SHORT"), (1, u "T_INT"), (1, u "T_LONG"), (1, u "SOFT_MAX_ARRAY_LENGTH")] 83

def k11m0 : Method := { name := "<init>", desc := "()V", sig := { parameters := [], returnType := none }, accessFlags := 2, code := none }
/-- jdk/internal/util/ArraysSupport -/
def k11 : Class := { plain "jdk/internal/util/ArraysSupport" (some 0) with
  accessFlags := 33
  interfaces := #[]
  cf := some (fileOf pool11 21 #[] #[{ accessFlags := 2, nameIndex := 9, descriptorIndex := 19, attributes := #[] }] 33 16 #[] #[{ accessFlags := 24, nameIndex := 28, descriptorIndex := 29, attributes := #[] }, { accessFlags := 26, nameIndex := 38, descriptorIndex := 39, attributes := #[] }, { accessFlags := 25, nameIndex := 121, descriptorIndex := 25, attributes := #[] }, { accessFlags := 25, nameIndex := 131, descriptorIndex := 25, attributes := #[] }, { accessFlags := 25, nameIndex := 137, descriptorIndex := 25, attributes := #[] }, { accessFlags := 25, nameIndex := 143, descriptorIndex := 25, attributes := #[] }, { accessFlags := 25, nameIndex := 53, descriptorIndex := 25, attributes := #[] }, { accessFlags := 25, nameIndex := 24, descriptorIndex := 25, attributes := #[] }, { accessFlags := 25, nameIndex := 162, descriptorIndex := 25, attributes := #[] }, { accessFlags := 25, nameIndex := 187, descriptorIndex := 25, attributes := #[] }, { accessFlags := 26, nameIndex := 48, descriptorIndex := 25, attributes := #[] }, { accessFlags := 25, nameIndex := 277, descriptorIndex := 25, attributes := #[] }, { accessFlags := 25, nameIndex := 280, descriptorIndex := 25, attributes := #[] }, { accessFlags := 25, nameIndex := 282, descriptorIndex := 25, attributes := #[] }, { accessFlags := 25, nameIndex := 284, descriptorIndex := 25, attributes := #[] }, { accessFlags := 25, nameIndex := 286, descriptorIndex := 25, attributes := #[] }, { accessFlags := 25, nameIndex := 288, descriptorIndex := 25, attributes := #[] }, { accessFlags := 25, nameIndex := 290, descriptorIndex := 25, attributes := #[] }, { accessFlags := 25, nameIndex := 292, descriptorIndex := 25, attributes := #[] }, { accessFlags := 26, nameIndex := 108, descriptorIndex := 109, attributes := #[] }, { accessFlags := 25, nameIndex := 294, descriptorIndex := 25, attributes := #[] }])
  fields := #[{ name := "U", type := (.object "jdk/internal/misc/Unsafe"), accessFlags := 24, slot := 0, constantValue := 0 }, { name := "BIG_ENDIAN", type := .boolean, accessFlags := 26, slot := 1, constantValue := 0 }, { name := "LOG2_ARRAY_BOOLEAN_INDEX_SCALE", type := .int, accessFlags := 25, slot := 2, constantValue := 0 }, { name := "LOG2_ARRAY_BYTE_INDEX_SCALE", type := .int, accessFlags := 25, slot := 3, constantValue := 0 }, { name := "LOG2_ARRAY_CHAR_INDEX_SCALE", type := .int, accessFlags := 25, slot := 4, constantValue := 0 }, { name := "LOG2_ARRAY_SHORT_INDEX_SCALE", type := .int, accessFlags := 25, slot := 5, constantValue := 0 }, { name := "LOG2_ARRAY_INT_INDEX_SCALE", type := .int, accessFlags := 25, slot := 6, constantValue := 0 }, { name := "LOG2_ARRAY_LONG_INDEX_SCALE", type := .int, accessFlags := 25, slot := 7, constantValue := 0 }, { name := "LOG2_ARRAY_FLOAT_INDEX_SCALE", type := .int, accessFlags := 25, slot := 8, constantValue := 0 }, { name := "LOG2_ARRAY_DOUBLE_INDEX_SCALE", type := .int, accessFlags := 25, slot := 9, constantValue := 0 }, { name := "LOG2_BYTE_BIT_SIZE", type := .int, accessFlags := 26, slot := 10, constantValue := 0 }, { name := "T_BOOLEAN", type := .int, accessFlags := 25, slot := 11, constantValue := 0 }, { name := "T_CHAR", type := .int, accessFlags := 25, slot := 12, constantValue := 0 }, { name := "T_FLOAT", type := .int, accessFlags := 25, slot := 13, constantValue := 0 }, { name := "T_DOUBLE", type := .int, accessFlags := 25, slot := 14, constantValue := 0 }, { name := "T_BYTE", type := .int, accessFlags := 25, slot := 15, constantValue := 0 }, { name := "T_SHORT", type := .int, accessFlags := 25, slot := 16, constantValue := 0 }, { name := "T_INT", type := .int, accessFlags := 25, slot := 17, constantValue := 0 }, { name := "T_LONG", type := .int, accessFlags := 25, slot := 18, constantValue := 0 }, { name := "JLA", type := (.object "jdk/internal/access/JavaLangAccess"), accessFlags := 26, slot := 19, constantValue := 0 }, { name := "SOFT_MAX_ARRAY_LENGTH", type := .int, accessFlags := 25, slot := 20, constantValue := 0 }]
  methods := #[k11m0]
  instanceTypes := #[]
  staticTypes := #[(.object "jdk/internal/misc/Unsafe"), .boolean, .int, .int, .int, .int, .int, .int, .int, .int, .int, .int, .int, .int, .int, .int, .int, .int, .int, (.object "jdk/internal/access/JavaLangAccess"), .int]
  resolved := Array.replicate 378 none
  statics := none }

def pool12 : Array CpInfo := pool [(1, u "java/lang/Cloneable"), (0, .class_ 1), (0, u "java/lang/Object"), (0, .class_ 3)] 3

/-- java/lang/Cloneable -/
def k12 : Class := { plain "java/lang/Cloneable" (some 0) with
  accessFlags := 1537
  interfaces := #[]
  cf := some (fileOf pool12 2 #[] #[] 1537 4 #[] #[])
  fields := #[]
  methods := #[]
  instanceTypes := #[]
  staticTypes := #[]
  resolved := Array.replicate 8 none
  statics := none }

/-- the primitive byte -/
def k13 : Class := { plain "byte" none with kind := .primitive 'B', accessFlags := 0x411 }
/-- [B -/
def k14 : Class := { plain "[B" (some 0) with kind := .array 13 .byte, interfaces := #[12, 2], accessFlags := 1041 }

/-- the primitive int -/
def k15 : Class := { plain "int" none with kind := .primitive 'I', accessFlags := 0x411 }
/-- [I -/
def k16 : Class := { plain "[I" (some 0) with kind := .array 15 .int, interfaces := #[12, 2], accessFlags := 1041 }

def heap : Heap := #[{ cls := 7, slots := #[.long 0, .int 1, .null, .int 0, .null, .int 0, .int 0], vm := .statics 7 },
  { cls := 9, slots := #[.null, .null, .null], vm := .statics 9 }]
def classes : Array Class := #[k0, k1, k2, k3, k4, k5, k6, k7, k8, k9, k10, k11, k12, k13, k14, k15, k16]
def interned : List (Array UInt16 × Addr) := []
def slotsUsed : Nat := 10
def theMethod : MethodId := ⟨1, 1⟩
def args0 : Array Value := #[.int 5, .int 6]
def aboutOver (below : List Frame) : State where
  vm := { classes := classes, interned := interned.toArray }
  heap := heap
  slotsUsed := slotsUsed
  threads := #[{ frames := .invoking theMethod args0 :: below }]
def below0 : List Frame := [.native { method := ⟨0, 0⟩, args := #[] }]
def about1 : State := aboutOver below0
def p0 : Program := .bare "" "" ""
def e0 : Env := launch0.env 0 0 0
theorem w_frames : about1.frames = Frame.invoking theMethod args0 :: below0 := rfl
set_option maxRecDepth 65536 in
theorem w_args : argsFit about1.vm theMethod args0 = true := by decide +kernel
set_option maxRecDepth 65536 in
theorem w_heap : heapFits about1 = true := by decide +kernel
set_option maxRecDepth 65536 in
theorem w_runnable : about1.curStatus? = some .runnable := by decide +kernel
set_option maxRecDepth 65536 in
theorem w_alone : about1.alone = true := by decide +kernel
set_option maxRecDepth 65536 in
theorem w_named : about1.methodNamed? x = some theMethod := by decide +kernel
set_option maxRecDepth 65536 in
theorem w_hears : about1.hears theMethod below0 = true := by decide +kernel
set_option maxRecDepth 65536 in
theorem w_ripe : about1.ripe theMethod args0 below0 = true := by decide +kernel
theorem w_running : about1.status = .running := rfl
set_option maxRecDepth 65536 in
theorem w_room : about1.hasRoom e0.platform room_1 = true :=
  launch0.hasRoom_least _ room_1 (by decide +kernel) (by decide +kernel) (by decide +kernel) (by decide +kernel) (by decide +kernel) (by decide +kernel)
theorem allAtoms_all (ts : List Jvm.Cond) (a : Array Jvm.Value) (st : Jvm.State) : (allAtoms ts).before a st = ts.all (fun c => c.before a st) := by
  induction ts with
  | nil => rfl
  | cons c t ih =>
    show (Jvm.Cond.and c (allAtoms t)).before a st = _
    rw [Jvm.Cond.before_and, ih, List.all_cons]
def words1 : List Jvm.Cond := Jvm.Cond.code x code maxLocals ret :: tables_1
/-- a 'code' word, met by the world's own term for the bytes: nothing is compared byte by byte -/
theorem code_word {y : MethodName} {bytes : ByteArray} {mx : Nat} {rt : Option FieldType} {a : Array Value} {s : State} {m : MethodId} {meth : Method} {c : Code} (h1 : s.methodNamed? y = some m) (h2 : s.vm.method? m = some meth) (h3 : meth.code = some c) (h4 : c.code = bytes)
    (h5 : (c.maxLocals == mx && c.exceptionTable.isEmpty && decide (c.maxStack ≤ mostOperands) && decide (meth.sig.returnType = rt) && !meth.locks && decide (parseMethodDescriptor y.desc = some meth.sig)) = true) : (Jvm.Cond.code y bytes mx rt).before a s = true := by
  simp only [Bool.and_eq_true, beq_iff_eq, Bool.not_eq_true', decide_eq_true_eq] at h5
  obtain ⟨⟨⟨⟨⟨g1, g2⟩, g3⟩, g4⟩, g5⟩, g6⟩ := h5
  simp [Cond.before, Cond.holds, Cond.value, h1, h2, h3, h4, g1, g2, g3, g4, g5, g6]
def isCode : Jvm.Cond → Bool
  | .code _ _ _ _ => true
  | _ => false
theorem all_split {L : List Jvm.Cond} {P : Jvm.Cond → Bool} (h1 : L.all (fun c => isCode c || P c) = true) (h2 : ∀ c ∈ L.filter isCode, P c = true) : L.all P = true := by
  refine List.all_eq_true.mpr fun c hc => ?_
  have h := List.all_eq_true.mp h1 c hc
  rcases Bool.eq_false_or_eq_true (isCode c) with hi | hi
  · exact h2 c (List.mem_filter.mpr ⟨hc, hi⟩)
  · simpa [hi] using h
set_option maxRecDepth 65536 in
theorem w_c0 : (Jvm.Cond.code x code maxLocals ret).before args0 about1 = true := code_word (m := ⟨1, 1⟩) (meth := k1m1) (c := k1c1) (by decide +kernel) rfl rfl rfl (by decide +kernel)
set_option maxRecDepth 65536 in
theorem w_c1 : (Jvm.Cond.code ({ cls := "java/lang/String", name := "charAt", desc := "(I)C" } : Jvm.MethodName) jdk_42_method_56_code (2 : Nat) (Option.some Jvm.ClassFile.FieldType.char)).before args0 about1 = true := code_word (m := ⟨7, 1⟩) (meth := k7m1) (c := k7c1) (by decide +kernel) rfl rfl rfl (by decide +kernel)
set_option maxRecDepth 65536 in
theorem w_c2 : (Jvm.Cond.code ({ cls := "java/lang/String", name := "isLatin1", desc := "()Z" } : Jvm.MethodName) jdk_42_method_154_code (1 : Nat) (Option.some Jvm.ClassFile.FieldType.boolean)).before args0 about1 = true := code_word (m := ⟨7, 2⟩) (meth := k7m2) (c := k7c2) (by decide +kernel) rfl rfl rfl (by decide +kernel)
set_option maxRecDepth 65536 in
theorem w_c3 : (Jvm.Cond.code ({ cls := "java/lang/StringLatin1", name := "charAt", desc := "([BI)C" } : Jvm.MethodName) jdk_43_method_2_code (2 : Nat) (Option.some Jvm.ClassFile.FieldType.char)).before args0 about1 = true := code_word (m := ⟨8, 1⟩) (meth := k8m1) (c := k8c1) (by decide +kernel) rfl rfl rfl (by decide +kernel)
set_option maxRecDepth 65536 in
theorem w_c4 : (Jvm.Cond.code ({ cls := "java/lang/String", name := "checkIndex", desc := "(II)V" } : Jvm.MethodName) jdk_42_method_155_code (2 : Nat) (Option.none : Option Jvm.ClassFile.FieldType)).before args0 about1 = true := code_word (m := ⟨7, 3⟩) (meth := k7m3) (c := k7c3) (by decide +kernel) rfl rfl rfl (by decide +kernel)
set_option maxRecDepth 65536 in
theorem w_c5 : (Jvm.Cond.code ({ cls := "jdk/internal/util/Preconditions", name := "checkIndex", desc := "(IILjava/util/function/BiFunction;)I" } : Jvm.MethodName) jdk_41_method_11_code (3 : Nat) (Option.some Jvm.ClassFile.FieldType.int)).before args0 about1 = true := code_word (m := ⟨9, 1⟩) (meth := k9m1) (c := k9c1) (by decide +kernel) rfl rfl rfl (by decide +kernel)
set_option maxRecDepth 65536 in
theorem w_c6 : (Jvm.Cond.code ({ cls := "kithrank/cli/Json", name := "hexadecimal", desc := "(C)I" } : Jvm.MethodName) prog_163_method_10_code (1 : Nat) (Option.some Jvm.ClassFile.FieldType.int)).before args0 about1 = true := code_word (m := ⟨10, 0⟩) (meth := k10m0) (c := k10c0) (by decide +kernel) rfl rfl rfl (by decide +kernel)
def codes1 : List Jvm.Cond := [Jvm.Cond.code x code maxLocals ret, Jvm.Cond.code ({ cls := "java/lang/String", name := "charAt", desc := "(I)C" } : Jvm.MethodName) jdk_42_method_56_code (2 : Nat) (Option.some Jvm.ClassFile.FieldType.char), Jvm.Cond.code ({ cls := "java/lang/String", name := "isLatin1", desc := "()Z" } : Jvm.MethodName) jdk_42_method_154_code (1 : Nat) (Option.some Jvm.ClassFile.FieldType.boolean), Jvm.Cond.code ({ cls := "java/lang/StringLatin1", name := "charAt", desc := "([BI)C" } : Jvm.MethodName) jdk_43_method_2_code (2 : Nat) (Option.some Jvm.ClassFile.FieldType.char), Jvm.Cond.code ({ cls := "java/lang/String", name := "checkIndex", desc := "(II)V" } : Jvm.MethodName) jdk_42_method_155_code (2 : Nat) (Option.none : Option Jvm.ClassFile.FieldType), Jvm.Cond.code ({ cls := "jdk/internal/util/Preconditions", name := "checkIndex", desc := "(IILjava/util/function/BiFunction;)I" } : Jvm.MethodName) jdk_41_method_11_code (3 : Nat) (Option.some Jvm.ClassFile.FieldType.int), Jvm.Cond.code ({ cls := "kithrank/cli/Json", name := "hexadecimal", desc := "(C)I" } : Jvm.MethodName) prog_163_method_10_code (1 : Nat) (Option.some Jvm.ClassFile.FieldType.int)]
set_option maxRecDepth 65536 in
theorem codes_eq : words1.filter isCode = codes1 := rfl
theorem w_codes : ∀ c ∈ words1.filter isCode, c.before args0 about1 = true := by
  rw [codes_eq]
  intro c hc
  simp only [codes1, List.mem_cons, List.not_mem_nil, or_false] at hc
  rcases hc with rfl | rfl | rfl | rfl | rfl | rfl | rfl
  · exact w_c0
  · exact w_c1
  · exact w_c2
  · exact w_c3
  · exact w_c4
  · exact w_c5
  · exact w_c6
set_option maxRecDepth 65536 in
theorem w_t1 : (words1.take 24).all (fun c => isCode c || c.before args0 about1) = true := by decide +kernel
set_option maxRecDepth 65536 in
theorem w_t2 : (words1.drop 24).all (fun c => isCode c || c.before args0 about1) = true := by decide +kernel
theorem w_tables : (allAtoms (Jvm.Cond.code x code maxLocals ret :: tables_1)).before args0 about1 = true := by
  rw [allAtoms_all]
  show words1.all (fun c => c.before args0 about1) = true
  refine all_split ?_ w_codes
  rw [← List.take_append_drop 24 words1, List.all_append, w_t1, w_t2]
  rfl
set_option maxRecDepth 65536 in
theorem w_rest : rest_1_c.before args0 about1 = true := by decide +kernel
set_option maxRecDepth 65536 in
theorem w_case : (Jvm.Cond.and given_1 narrow_1).before args0 about1 = true := by decide +kernel
set_option maxRecDepth 65536 in
theorem w_consts : constsHeld consts_1 about1 := Jvm.Lit.constsHeldB_iff.mp (by decide +kernel)
theorem w_applies : (headSpec (Jvm.Cond.code x code maxLocals ret :: tables_1) room_1).applies x e0.platform about1 = true :=
  (Spec.applies_iff w_frames).mpr ⟨w_running, w_runnable, w_alone, w_named, w_hears, w_ripe, w_room, w_tables⟩
theorem atStart : AtStart classFile x code maxLocals ret World_1 tables_1 room_1 Calls_1 rest_1 Pre_1 launch0 p0 e0 about1 theMethod args0 below0 :=
  ⟨lists_1, trivial, launch0.admits_env _ _ _, launch0.least_env, fairChoices_fair.cas, fairChoices_fair.clock, w_frames, w_args, w_heap, w_applies, ⟨w_consts, trivial⟩, w_rest, w_case⟩
end start1
theorem witness_1 : WitnessClaimed_1 := ⟨start1.p0, start1.e0, start1.about1, start1.theMethod, start1.args0, start1.below0, start1.atStart⟩
end Jvm.Pilot.@@N@@
