import JvmDerived
import JvmDerived.Pilot.@@N@@Statement
import JvmDerived.Pilot.@@N@@Code
set_option linter.unusedVariables false
set_option linter.unusedSimpArgs false
namespace Jvm.Pilot.@@N@@
open Jvm Jvm.ClassFile Sem Op Lib Jvm.Free Jvm.Stand Jvm.LawKit Jvm.RoadKit Bundle Jvm.Pilot.@@N@@.Jvm.D
section Own
variable {p : Program} {l : Launch} {e : Env} {R : Room} {s : State} {m : MethodId} {args : Array Value} {below : List Frame} {meth : Method} {c : Code} {T : State} {locs : List Loc} {cells slots : Nat} {Q : Option Value → Heap → List Loc → Prop} {k n : Nat}
/-- from this state the body comes to an end that meets Φ -/
def own_Go (tb : Tables) (e : Env) (below : List Frame) (Φ : Outcome → State → Prop) (S : State) : Prop :=
  ∃ U o, Steps tb e below S U ∧ U.status = .running ∧ Ended U below o ∧ Φ o U
/-- it returned; what it leaves meets Q; nothing else moved -/
def own_F (s : State) (Q : Option Value → Heap → List Loc → Prop) (k n : Nat) (o : Outcome) (U : State) : Prop := ∃ v L, o = .returned v ∧ Q v U.heap L ∧ FrameEnd s o U L k n
theorem own_st {tb : Tables} {Φ : Outcome → State → Prop} {S S' : State} (h : ∀ t, Steps tb e below S' t → Steps tb e below S t) (g : own_Go tb e below Φ S') : own_Go tb e below Φ S := by
  obtain ⟨U, o, h1, r⟩ := g
  exact ⟨U, o, h _ h1, r⟩
theorem own_tr {tb : Tables} {Φ : Outcome → State → Prop} {S S' : State} (h : Steps tb e below S S') (g : own_Go tb e below Φ S') : own_Go tb e below Φ S := by
  obtain ⟨U, o, h1, r⟩ := g
  exact ⟨U, o, h.trans h1, r⟩
theorem own_end (X : Stand p l e R s m args below meth c T locs cells slots) (v : Option Value) (hv : meth.sig.returnType = none → v = none) (hlk : meth.locks = false) (hq : Q v T.heap locs) (hk : cells ≤ k) (hn : slots ≤ n) {S : State}
    (hs : ∀ fs, (∀ (f : JFrame) (acts : List Action), f.method = m → f.locked = none → f.entered = [] → (doReturn e (T.setTop f) acts v).1 = T.setFrames fs) → Steps p.tables e below S (T.setFrames fs)) : own_Go p.tables e below (own_F s Q k n) S := by
  obtain ⟨fs, hr, hrun, hended, hW, hsame⟩ := X.leave (v := v) hv hlk
  exact ⟨_, _, hs fs hr, hrun, hended, v, locs, rfl, hq, ⟨_, rfl⟩, hW, hsame.mono hk hn⟩
theorem own_retN (X : Stand p l e R s m args below meth c T locs cells slots) (hx : p.tables.exec = Jvm.exec) {pc : Nat} {Ls : Array Slot} {z : Int32} {t : FieldType} {rest : List Value} (hret : meth.sig.returnType = some t) (ht : t = .boolean ∨ t = .byte ∨ t = .char ∨ t = .short) (hlk : meth.locks = false)
    (hd : decode c.code pc = .ok (.ireturn, 1)) (hq : Q (some (.int (nar t z))) T.heap locs) (hk : cells ≤ k) (hn : slots ≤ n) : own_Go p.tables e below (own_F s Q k n) (T.setTop (mkF m pc Ls (.int z :: rest))) :=
  own_end X _ (fun h => by rw [hret] at h; cases h) hlk hq hk hn fun fs hr => retN X hx hret ht hd hr
theorem own_retI (X : Stand p l e R s m args below meth c T locs cells slots) (hx : p.tables.exec = Jvm.exec) {pc : Nat} {Ls : Array Slot} {z : Int32} {rest : List Value} (hret : meth.sig.returnType = some .int) (hlk : meth.locks = false)
    (hd : decode c.code pc = .ok (.ireturn, 1)) (hq : Q (some (.int z)) T.heap locs) (hk : cells ≤ k) (hn : slots ≤ n) : own_Go p.tables e below (own_F s Q k n) (T.setTop (mkF m pc Ls (.int z :: rest))) :=
  own_end X _ (fun h => by rw [hret] at h; cases h) hlk hq hk hn fun fs hr => retOut X hx hret rfl (Or.inl ⟨rfl, Or.inl rfl, z, rfl⟩) hd hr
theorem own_retL (X : Stand p l e R s m args below meth c T locs cells slots) (hx : p.tables.exec = Jvm.exec) {pc : Nat} {Ls : Array Slot} {z : Int64} {rest : List Value} (hret : meth.sig.returnType = some .long) (hlk : meth.locks = false)
    (hd : decode c.code pc = .ok (.lreturn, 1)) (hq : Q (some (.long z)) T.heap locs) (hk : cells ≤ k) (hn : slots ≤ n) : own_Go p.tables e below (own_F s Q k n) (T.setTop (mkF m pc Ls (.long z :: rest))) :=
  own_end X _ (fun h => by rw [hret] at h; cases h) hlk hq hk hn fun fs hr => retOut X hx hret rfl (Or.inr (Or.inl ⟨rfl, rfl, z, rfl⟩)) hd hr
theorem own_retA (X : Stand p l e R s m args below meth c T locs cells slots) (hx : p.tables.exec = Jvm.exec) {pc : Nat} {Ls : Array Slot} {w : Value} {t : FieldType} {rest : List Value} (hret : meth.sig.returnType = some t) (ht : t.isReference = true) (hw : w.isRef = true) (hnw : narrow t w = w) (hlk : meth.locks = false)
    (hd : decode c.code pc = .ok (.areturn, 1)) (hq : Q (some w) T.heap locs) (hk : cells ≤ k) (hn : slots ≤ n) : own_Go p.tables e below (own_F s Q k n) (T.setTop (mkF m pc Ls (w :: rest))) :=
  own_end X _ (fun h => by rw [hret] at h; cases h) hlk hq hk hn fun fs hr => retOut X hx hret hnw (Or.inr (Or.inr (Or.inr (Or.inr ⟨rfl, ht, hw⟩)))) hd hr
theorem own_retV (X : Stand p l e R s m args below meth c T locs cells slots) (hx : p.tables.exec = Jvm.exec) {pc : Nat} {Ls : Array Slot} (hret : meth.sig.returnType = none) (hlk : meth.locks = false)
    (hd : decode c.code pc = .ok (.return_, 1)) (hq : Q none T.heap locs) (hk : cells ≤ k) (hn : slots ≤ n) : own_Go p.tables e below (own_F s Q k n) (T.setTop (mkF m pc Ls [])) :=
  own_end X _ (fun _ => rfl) hlk hq hk hn fun fs hr => X.returnOut hx hret hd hr
theorem own_body {y : MethodName} {cd : ByteArray} {mx : Nat} {rt : Option FieldType} {ws : List Jvm.Cond} {rm : Room} {Z : State} {h0 : Heap} {as : Array Value} (hp : plainFor y = true)
    (go : ∀ (p : Program) (e : Env) (s : State) (m : MethodId) (below : List Frame) (meth : Method) (c : Code) (s₁ : State), p.tables.exec = Jvm.exec → c.code = cd → c.maxLocals = mx → s.vm.findClass y.cls = some m.cls → meth.name = y.name → meth.sig.returnType = rt → meth.locks = false → Z.Warmed39 s.vm →
      Stand p l e rm s m as below meth c s₁ [] 0 0 → s₁.heap = h0 → own_Go p.tables e below (own_F s Q rm.cells rm.slots) (s₁.setTop (entryFrame m as mx))) :
    MetFree l y (head1 (Jvm.Cond.code y cd mx rt :: ws) rm) (fun a U => a = as ∧ Z.Warmed39 U.vm ∧ U.heap = h0) (fun _ _ _ _ _ => True) (fun _ U o U' => ∃ v L, o = .returned v ∧ Q v U'.heap L ∧ FrameEnd U o U' L rm.cells rm.slots) := by
  refine MetFree.of_bodySF hp hisR ?_
  intro p e s m args below meth c s₁ Bd hml0 hP hK
  obtain ⟨rfl, hZ, hh⟩ := hP
  exact go p e s m below meth c s₁ Bd.exec Bd.bytes hml0 (findClass_of_methodNamed Bd.named) (name_of_methodNamed Bd.named Bd.method).1 Bd.returns Bd.notSynchronized hZ (Stand.of_body Bd) (by rw [← hh, Bd.state]; rfl)
end Own
theorem own_narb {P : Prop} [Decidable P] : nar .boolean (if P then (1 : Int32) else (0 : Int32)) = if P then (1 : Int32) else (0 : Int32) := by split <;> rfl
/-- an array by its length and what each place holds -/
def own_A (Z : State) (h : Heap) (a : Addr) (ty : FieldType) (n : Nat) (f : Nat → Value) : Prop := ∃ c : Cell, Arr Z h a c ty ∧ c.slots.size = n ∧ n < 2 ^ 31 ∧ ∀ j, j < n → c.slots[j]? = some (f j)
def own_up (f : Nat → Value) (i : Nat) (v : Value) : Nat → Value := fun j => if j = i then v else f j
def own_Ix (j : Int32) (i n : Nat) : Prop := ¬ j < 0 ∧ j.toNatClampNeg = i ∧ i < n
section Arrs
variable {Z : State} {h h' : Heap} {a b : Addr} {ty : FieldType} {n i : Nat} {f : Nat → Value} {v : Value} {sl : Nat} {ws : List Addr} {c : Cell} {j z : Int32}
theorem own_A.lt (F : own_A Z h a ty n f) : a < h.size := by obtain ⟨c, A, -⟩ := F; exact A.lt
theorem own_A.ext (F : own_A Z h a ty n f) (E : Ext h h') : own_A Z h' a ty n f := by obtain ⟨c, A, r⟩ := F; exact ⟨c, A.ext E, r⟩
theorem own_A.other (F : own_A Z h b ty n f) (W : Wr h h' a sl v) (q : b ≠ a) : own_A Z h' b ty n f := by obtain ⟨c, A, r⟩ := F; exact ⟨c, A.other W q, r⟩
theorem own_A.keep (F : own_A Z h a ty n f) (K : Keep h h' ws) (q : a ∉ ws) : own_A Z h' a ty n f := by obtain ⟨c, A, r⟩ := F; exact ⟨c, ⟨K.2.1 a c A.1 q, A.2⟩, r⟩
theorem own_clamp (z : Int32) : z.toNatClampNeg < 2 ^ 31 := by
  have := Int32.toInt_lt z
  simp only [Int32.toNatClampNeg]; omega
theorem own_A.new {k : ClassId} (A : Arr Z h a (newA k ty z) ty) (hz : z.toNatClampNeg = n) : own_A Z h a ty n (fun _ => defaultValue ty) := by
  refine ⟨_, A, by rw [sz_new, hz], by rw [← hz]; exact own_clamp z, fun j hj => ?_⟩
  simp [newA, hz, hj]
theorem own_ix (h1 : ¬ j < 0) (h2 : j.toNatClampNeg = i) (h3 : i < n) : own_Ix j i n := ⟨h1, h2, h3⟩
theorem own_in (S : c.slots.size = n) (h : own_Ix j i n) : ¬ (j < 0 ∨ c.slots.size ≤ j.toNatClampNeg) := by
  obtain ⟨h1, h2, h3⟩ := h
  rw [S, h2]
  exact fun q => q.elim h1 (fun r => absurd h3 (Nat.not_lt.mpr r))
theorem own_at (S : c.slots.size = n) (V : ∀ j, j < n → c.slots[j]? = some (f j)) (h : own_Ix j i n) (hv : f i = v) : c.slots[j.toNatClampNeg]? = some v := by
  obtain ⟨h1, h2, h3⟩ := h
  rw [h2, V i h3, hv]
theorem own_A.set (F : own_A Z h a ty n f) (hj : own_Ix j i n) (W : Wr h h' a j.toNatClampNeg v) : own_A Z h' a ty n (own_up f i v) := by
  obtain ⟨c, A, S, M, V⟩ := F
  obtain ⟨h1, h2, h3⟩ := hj
  rw [h2] at W
  refine ⟨c.setSlot i v, A.same W, by rw [sz_set]; exact S, M, fun j' hj' => ?_⟩
  show (c.slots.setIfInBounds i v)[j']? = _
  unfold own_up
  by_cases e : j' = i
  · subst e; rw [if_pos rfl]; simp [S, hj']
  · rw [if_neg e, Array.getElem?_setIfInBounds_ne (Ne.symm e)]; exact V j' hj'
theorem own_A.cong {g : Nat → Value} (F : own_A Z h a ty n f) (q : ∀ j, j < n → f j = g j) : own_A Z h a ty n g := by
  obtain ⟨c, A, S, M, V⟩ := F
  exact ⟨c, A, S, M, fun j hj => by rw [V j hj, q j hj]⟩
end Arrs
/-- a short array's values by a list -/
def own_V (vs : List Value) : Nat → Value := fun j => vs.getD j .null
theorem own_selP {Z s : State} {a0 args : Array Value} {y : MethodName} {n : Nat} (hZ : Z.Warmed39 s.vm) (wi : (Jvm.Cond.instantiable y.cls n).before a0 Z = true) (wp : (Jvm.Cond.privateMethod y).before a0 Z = true) (wm : (Jvm.Cond.instanceMethod y).before a0 Z = true)
    (hy : y.cls ≠ "java/lang/invoke/MethodHandle" ∧ y.cls ≠ "java/lang/invoke/VarHandle") : (Jvm.Cond.selects y.cls y y).before args s = true := by
  have w : (Jvm.Cond.instantiable y.cls n).before args s = true := mvT hZ wi
  obtain ⟨c, k, h1, h2, -, h4, -⟩ := Cond.instantiable_spec w
  exact selects_self_of_private h1 h2 (Bool.or_eq_false_iff.mp h4).1 (Cond.privateMethod_at (mvP hZ wp (args := #[]))) (mvT hZ wm) hy
section OwnW
variable {p : Program} {l : Launch} {e : Env} {R : Room} {s : State} {vm0 : Vm} {k0 : Nat} {m : MethodId} {args : Array Value} {below : List Frame} {meth : Method} {c : Code} {T : State} {locs : List Loc} {cells slots : Nat} {Q : Option Value → Heap → List Loc → Prop} {k n : Nat}
/-- as own_F, of a body that may load String constants -/
def own_FW (s : State) (Q : Option Value → Heap → List Loc → Prop) (k n : Nat) (o : Outcome) (U : State) : Prop := ∃ v L, o = .returned v ∧ Q v U.heap L ∧ ReturnedEndW s o U L k n
theorem own_endW (X : Stand p l e R (s.setVm vm0) m args below meth c T locs cells slots) (hS : s.Since vm0 k0) (hk0 : k0 ≤ T.heap.size) (v : Option Value) (hv : meth.sig.returnType = none → v = none) (hlk : meth.locks = false) (hq : Q v T.heap locs) (hk : cells ≤ k) (hn : slots ≤ n) {S : State}
    (hs : ∀ fs, (∀ (f : JFrame) (acts : List Action), f.method = m → f.locked = none → f.entered = [] → (doReturn e (T.setTop f) acts v).1 = T.setFrames fs) → Steps p.tables e below S (T.setFrames fs)) : own_Go p.tables e below (own_FW s Q k n) S := by
  obtain ⟨fs, hr, hrun, hended, hW, hsame⟩ := X.leave (v := v) hv hlk
  obtain ⟨h1, h2, h3⟩ := hS.ended (U := T.setFrames fs) hW hk0 hsame
  exact ⟨_, _, hs fs hr, hrun, hended, v, locs, rfl, hq, ⟨_, rfl⟩, h1, h2, h3.mono hk hn⟩
theorem own_retNW (X : Stand p l e R (s.setVm vm0) m args below meth c T locs cells slots) (hS : s.Since vm0 k0) (hk0 : k0 ≤ T.heap.size) (hx : p.tables.exec = Jvm.exec) {pc : Nat} {Ls : Array Slot} {z : Int32} {t : FieldType} {rest : List Value} (hret : meth.sig.returnType = some t) (ht : t = .boolean ∨ t = .byte ∨ t = .char ∨ t = .short) (hlk : meth.locks = false)
    (hd : decode c.code pc = .ok (.ireturn, 1)) (hq : Q (some (.int (nar t z))) T.heap locs) (hk : cells ≤ k) (hn : slots ≤ n) : own_Go p.tables e below (own_FW s Q k n) (T.setTop (mkF m pc Ls (.int z :: rest))) :=
  own_endW X hS hk0 _ (fun h => by rw [hret] at h; cases h) hlk hq hk hn fun fs hr => retN X hx hret ht hd hr
theorem own_retVW (X : Stand p l e R (s.setVm vm0) m args below meth c T locs cells slots) (hS : s.Since vm0 k0) (hk0 : k0 ≤ T.heap.size) (hx : p.tables.exec = Jvm.exec) {pc : Nat} {Ls : Array Slot} (hret : meth.sig.returnType = none) (hlk : meth.locks = false)
    (hd : decode c.code pc = .ok (.return_, 1)) (hq : Q none T.heap locs) (hk : cells ≤ k) (hn : slots ≤ n) : own_Go p.tables e below (own_FW s Q k n) (T.setTop (mkF m pc Ls [])) :=
  own_endW X hS hk0 _ (fun _ => rfl) hlk hq hk hn fun fs hr => X.returnOut hx hret hd hr
theorem own_bodyW {y : MethodName} {cd : ByteArray} {mx : Nat} {rt : Option FieldType} {ws : List Jvm.Cond} {rm : Room} {Z : State} {h0 : Heap} {as : Array Value} (hp : plainFor y = true)
    (go : ∀ (p : Program) (e : Env) (s : State) (m : MethodId) (below : List Frame) (meth : Method) (c : Code) (s₁ : State), p.tables.exec = Jvm.exec → c.code = cd → c.maxLocals = mx → s.vm.findClass y.cls = some m.cls → meth.name = y.name → meth.sig.returnType = rt → meth.locks = false → Z.Warmed39 s.vm →
      Stand p l e rm s m as below meth c s₁ [] 0 0 → s₁.heap = h0 → own_Go p.tables e below (own_FW s Q rm.cells rm.slots) (s₁.setTop (entryFrame m as mx))) :
    MetFree l y (head1 (Jvm.Cond.code y cd mx rt :: ws) rm) (fun a U => a = as ∧ Z.Warmed39 U.vm ∧ U.heap = h0) (fun _ _ _ _ _ => True) (fun _ U o U' => ∃ v L, o = .returned v ∧ Q v U'.heap L ∧ ReturnedEndW U o U' L rm.cells rm.slots) := by
  refine MetFree.of_bodySF hp hisR ?_
  intro p e s m args below meth c s₁ Bd hml0 hP hK
  obtain ⟨rfl, hZ, hh⟩ := hP
  exact go p e s m below meth c s₁ Bd.exec Bd.bytes hml0 (findClass_of_methodNamed Bd.named) (name_of_methodNamed Bd.named Bd.method).1 Bd.returns Bd.notSynchronized hZ (Stand.of_body Bd) (by rw [← hh, Bd.state]; rfl)
end OwnW

theorem own_six {j : Int32} (h : 0 ≤ j.toInt ∧ j.toInt < 6) : j = 0 ∨ j = 1 ∨ j = 2 ∨ j = 3 ∨ j = 4 ∨ j = 5 := by
  have e : ∀ k : Int32, j.toInt = k.toInt → j = k := fun k q => Int32.toInt_inj.mp q
  have c : j.toInt = 0 ∨ j.toInt = 1 ∨ j.toInt = 2 ∨ j.toInt = 3 ∨ j.toInt = 4 ∨ j.toInt = 5 := by omega
  rcases c with c | c | c | c | c | c
  · exact Or.inl (e 0 c)
  · exact Or.inr (Or.inl (e 1 c))
  · exact Or.inr (Or.inr (Or.inl (e 2 c)))
  · exact Or.inr (Or.inr (Or.inr (Or.inl (e 3 c))))
  · exact Or.inr (Or.inr (Or.inr (Or.inr (Or.inl (e 4 c)))))
  · exact Or.inr (Or.inr (Or.inr (Or.inr (Or.inr (e 5 c)))))
def own_s6 (i w0 w1 w2 w3 w4 w5 : Int32) : Int32 := if i = 0 then w0 else if i = 1 then w1 else if i = 2 then w2 else if i = 3 then w3 else if i = 4 then w4 else w5
theorem own_ix6 {j : Int32} (h : 0 ≤ j.toInt ∧ j.toInt < 6) : own_Ix j j.toNatClampNeg 6 := by
  refine ⟨?_, rfl, ?_⟩
  · rw [Int32.lt_iff_toInt_lt]; show ¬ j.toInt < 0; omega
  · show j.toInt.toNat < 6; omega
theorem own_at6 {j : Int32} (h : 0 ≤ j.toInt ∧ j.toInt < 6) (w0 w1 w2 w3 w4 w5 : Int32) : own_V [(.int w0), (.int w1), (.int w2), (.int w3), (.int w4), (.int w5)] j.toNatClampNeg = .int (own_s6 j w0 w1 w2 w3 w4 w5) := by
  rcases own_six h with rfl | rfl | rfl | rfl | rfl | rfl <;> rfl
theorem own_upd6 {j : Int32} (h : 0 ≤ j.toInt ∧ j.toInt < 6) (x w0 w1 w2 w3 w4 w5 : Int32) : ∀ k, k < 6 → own_up (own_V [(.int w0), (.int w1), (.int w2), (.int w3), (.int w4), (.int w5)]) j.toNatClampNeg (.int x) k = own_V [(.int (if j = (0 : Int32) then x else w0)), (.int (if j = (1 : Int32) then x else w1)), (.int (if j = (2 : Int32) then x else w2)), (.int (if j = (3 : Int32) then x else w3)), (.int (if j = (4 : Int32) then x else w4)), (.int (if j = (5 : Int32) then x else w5))] k := by
  rcases own_six h with rfl | rfl | rfl | rfl | rfl | rfl <;> (intro k hk; match k, hk with  | 0, _ => rfl | 1, _ => rfl | 2, _ => rfl | 3, _ => rfl | 4, _ => rfl | 5, _ => rfl | k + 6, h => exact absurd h (by omega))
theorem own_fitI {Z : State} {h : Heap} {a : Addr} {c : Cell} {n : Nat} {f : Nat → Value} (A : Arr Z h a c .int) (S : c.slots.size = n) (V : ∀ j, j < n → c.slots[j]? = some (f j)) (hf : ∀ j, j < n → fits .int (f j) = true) : FitC Z c :=
  fitC_of A fun i hi v hv => by
    have q := V i (S ▸ hi)
    cases hv.symm.trans q
    exact hf i (S ▸ hi)
theorem own_i6 {n v : Int32} (q : v = (n &&& (2147483647 : Int32)) % (6 : Int32)) : 0 ≤ v.toInt ∧ v.toInt < 6 := by
  have a := c_mask n (2147483647 : Int32) 31 (by decide) (by decide)
  have r := (c_irem (n &&& (2147483647 : Int32)) (6 : Int32) 6 rfl).1 (by rw [a]; omega)
  rw [q, r]
  omega
theorem own_k6 {i v : Int32} (h : 0 ≤ i.toInt ∧ i.toInt < 6) (q : v = (if i = (5 : Int32) then (0 : Int32) else (i + (1 : Int32)))) : 0 ≤ v.toInt ∧ v.toInt < 6 := by
  rcases own_six h with rfl | rfl | rfl | rfl | rfl | rfl <;> rw [q] <;> decide
theorem own_wi {i : Int32} (h : 0 ≤ i.toInt ∧ i.toInt < 6) (x w0 w1 w2 w3 w4 w5 : Int32) : own_s6 i (if i = (0 : Int32) then x else w0) (if i = (1 : Int32) then x else w1) (if i = (2 : Int32) then x else w2) (if i = (3 : Int32) then x else w3) (if i = (4 : Int32) then x else w4) (if i = (5 : Int32) then x else w5) = x := by
  rcases own_six h with rfl | rfl | rfl | rfl | rfl | rfl <;> rfl
theorem own_be1 {i : Int32} (h : 0 ≤ i.toInt ∧ i.toInt < 6) (x w0 w1 w2 w3 w4 w5 : Int32) : ((0 : Int32) + (if i = (0 : Int32) then (((0 : Int32) + w0) + (x - w0)) else ((0 : Int32) + w0))) = (if i = (0 : Int32) then x else w0) := by
  rcases own_six h with rfl | rfl | rfl | rfl | rfl | rfl <;> simp +decide <;> grind
theorem own_be2 {i : Int32} (h : 0 ≤ i.toInt ∧ i.toInt < 6) (x w0 w1 w2 w3 w4 w5 : Int32) : ((0 : Int32) + (if i = (0 : Int32) then ((((0 : Int32) + ((0 : Int32) + w0)) + w1) + (x - w0)) else (if i = (1 : Int32) then ((((0 : Int32) + ((0 : Int32) + w0)) + w1) + (x - w1)) else (((0 : Int32) + ((0 : Int32) + w0)) + w1)))) = ((if i = (0 : Int32) then x else w0) + (if i = (1 : Int32) then x else w1)) := by
  rcases own_six h with rfl | rfl | rfl | rfl | rfl | rfl <;> simp +decide <;> grind
theorem own_be3 {i : Int32} (h : 0 ≤ i.toInt ∧ i.toInt < 6) (x w0 w1 w2 w3 w4 w5 : Int32) : (((0 : Int32) + (if i = (2 : Int32) then (((0 : Int32) + w2) + (x - w2)) else ((0 : Int32) + w2))) + (if i = (0 : Int32) then ((((0 : Int32) + ((0 : Int32) + w0)) + w1) + (x - w0)) else (if i = (1 : Int32) then ((((0 : Int32) + ((0 : Int32) + w0)) + w1) + (x - w1)) else (((0 : Int32) + ((0 : Int32) + w0)) + w1)))) = (((if i = (0 : Int32) then x else w0) + (if i = (1 : Int32) then x else w1)) + (if i = (2 : Int32) then x else w2)) := by
  rcases own_six h with rfl | rfl | rfl | rfl | rfl | rfl <;> simp +decide <;> grind
theorem own_be4 {i : Int32} (h : 0 ≤ i.toInt ∧ i.toInt < 6) (x w0 w1 w2 w3 w4 w5 : Int32) : ((0 : Int32) + (if i = (0 : Int32) then (((((0 : Int32) + (((0 : Int32) + ((0 : Int32) + w0)) + w1)) + ((0 : Int32) + w2)) + w3) + (x - w0)) else (if i = (1 : Int32) then (((((0 : Int32) + (((0 : Int32) + ((0 : Int32) + w0)) + w1)) + ((0 : Int32) + w2)) + w3) + (x - w1)) else (if i = (2 : Int32) then (((((0 : Int32) + (((0 : Int32) + ((0 : Int32) + w0)) + w1)) + ((0 : Int32) + w2)) + w3) + (x - w2)) else (if i = (3 : Int32) then (((((0 : Int32) + (((0 : Int32) + ((0 : Int32) + w0)) + w1)) + ((0 : Int32) + w2)) + w3) + (x - w3)) else ((((0 : Int32) + (((0 : Int32) + ((0 : Int32) + w0)) + w1)) + ((0 : Int32) + w2)) + w3)))))) = ((((if i = (0 : Int32) then x else w0) + (if i = (1 : Int32) then x else w1)) + (if i = (2 : Int32) then x else w2)) + (if i = (3 : Int32) then x else w3)) := by
  rcases own_six h with rfl | rfl | rfl | rfl | rfl | rfl <;> simp +decide <;> grind
theorem own_be5 {i : Int32} (h : 0 ≤ i.toInt ∧ i.toInt < 6) (x w0 w1 w2 w3 w4 w5 : Int32) : (((0 : Int32) + (if i = (4 : Int32) then (((0 : Int32) + w4) + (x - w4)) else ((0 : Int32) + w4))) + (if i = (0 : Int32) then (((((0 : Int32) + (((0 : Int32) + ((0 : Int32) + w0)) + w1)) + ((0 : Int32) + w2)) + w3) + (x - w0)) else (if i = (1 : Int32) then (((((0 : Int32) + (((0 : Int32) + ((0 : Int32) + w0)) + w1)) + ((0 : Int32) + w2)) + w3) + (x - w1)) else (if i = (2 : Int32) then (((((0 : Int32) + (((0 : Int32) + ((0 : Int32) + w0)) + w1)) + ((0 : Int32) + w2)) + w3) + (x - w2)) else (if i = (3 : Int32) then (((((0 : Int32) + (((0 : Int32) + ((0 : Int32) + w0)) + w1)) + ((0 : Int32) + w2)) + w3) + (x - w3)) else ((((0 : Int32) + (((0 : Int32) + ((0 : Int32) + w0)) + w1)) + ((0 : Int32) + w2)) + w3)))))) = (((((if i = (0 : Int32) then x else w0) + (if i = (1 : Int32) then x else w1)) + (if i = (2 : Int32) then x else w2)) + (if i = (3 : Int32) then x else w3)) + (if i = (4 : Int32) then x else w4)) := by
  rcases own_six h with rfl | rfl | rfl | rfl | rfl | rfl <;> simp +decide <;> grind
theorem own_be6 {i : Int32} (h : 0 ≤ i.toInt ∧ i.toInt < 6) (x w0 w1 w2 w3 w4 w5 : Int32) : (((0 : Int32) + (if i = (4 : Int32) then ((((0 : Int32) + ((0 : Int32) + w4)) + w5) + (x - w4)) else (if i = (5 : Int32) then ((((0 : Int32) + ((0 : Int32) + w4)) + w5) + (x - w5)) else (((0 : Int32) + ((0 : Int32) + w4)) + w5)))) + (if i = (0 : Int32) then (((((0 : Int32) + (((0 : Int32) + ((0 : Int32) + w0)) + w1)) + ((0 : Int32) + w2)) + w3) + (x - w0)) else (if i = (1 : Int32) then (((((0 : Int32) + (((0 : Int32) + ((0 : Int32) + w0)) + w1)) + ((0 : Int32) + w2)) + w3) + (x - w1)) else (if i = (2 : Int32) then (((((0 : Int32) + (((0 : Int32) + ((0 : Int32) + w0)) + w1)) + ((0 : Int32) + w2)) + w3) + (x - w2)) else (if i = (3 : Int32) then (((((0 : Int32) + (((0 : Int32) + ((0 : Int32) + w0)) + w1)) + ((0 : Int32) + w2)) + w3) + (x - w3)) else ((((0 : Int32) + (((0 : Int32) + ((0 : Int32) + w0)) + w1)) + ((0 : Int32) + w2)) + w3)))))) = ((((((if i = (0 : Int32) then x else w0) + (if i = (1 : Int32) then x else w1)) + (if i = (2 : Int32) then x else w2)) + (if i = (3 : Int32) then x else w3)) + (if i = (4 : Int32) then x else w4)) + (if i = (5 : Int32) then x else w5)) := by
  rcases own_six h with rfl | rfl | rfl | rfl | rfl | rfl <;> simp +decide <;> grind

theorem d1_0 : decode prog_135_method_1_code 0 = .ok (.aload_n 0, 1) := by decide +kernel
theorem d1_1 : decode prog_135_method_1_code 1 = .ok (.invokespecial 1, 3) := by decide +kernel
theorem d1_4 : decode prog_135_method_1_code 4 = .ok (.aload_n 0, 1) := by decide +kernel
theorem d1_5 : decode prog_135_method_1_code 5 = .ok (.aload_n 1, 1) := by decide +kernel
theorem d1_6 : decode prog_135_method_1_code 6 = .ok (.invokevirtual 7, 3) := by decide +kernel
theorem d1_9 : decode prog_135_method_1_code 9 = .ok (.checkcast 8, 3) := by decide +kernel
theorem d1_12 : decode prog_135_method_1_code 12 = .ok (.putfield 13, 3) := by decide +kernel
theorem d1_15 : decode prog_135_method_1_code 15 = .ok (.aload_n 0, 1) := by decide +kernel
theorem d1_16 : decode prog_135_method_1_code 16 = .ok (.aload_n 1, 1) := by decide +kernel
theorem d1_17 : decode prog_135_method_1_code 17 = .ok (.arraylength, 1) := by decide +kernel
theorem d1_18 : decode prog_135_method_1_code 18 = .ok (.iconst 1, 1) := by decide +kernel
theorem d1_19 : decode prog_135_method_1_code 19 = .ok (.iadd, 1) := by decide +kernel
theorem d1_20 : decode prog_135_method_1_code 20 = .ok (.newarray .int, 2) := by decide +kernel
theorem d1_22 : decode prog_135_method_1_code 22 = .ok (.putfield 18, 3) := by decide +kernel
theorem d1_25 : decode prog_135_method_1_code 25 = .ok (.iconst 1, 1) := by decide +kernel
theorem d1_26 : decode prog_135_method_1_code 26 = .ok (.istore_n 2, 1) := by decide +kernel
theorem d1_27 : decode prog_135_method_1_code 27 = .ok (.iload_n 2, 1) := by decide +kernel
theorem d1_28 : decode prog_135_method_1_code 28 = .ok (.aload_n 1, 1) := by decide +kernel
theorem d1_29 : decode prog_135_method_1_code 29 = .ok (.arraylength, 1) := by decide +kernel
theorem d1_30 : decode prog_135_method_1_code 30 = .ok (.if_icmp .gt 54, 3) := by decide +kernel
theorem d1_33 : decode prog_135_method_1_code 33 = .ok (.aload_n 0, 1) := by decide +kernel
theorem d1_34 : decode prog_135_method_1_code 34 = .ok (.getfield 18, 3) := by decide +kernel
theorem d1_37 : decode prog_135_method_1_code 37 = .ok (.iload_n 2, 1) := by decide +kernel
theorem d1_38 : decode prog_135_method_1_code 38 = .ok (.dup2, 1) := by decide +kernel
theorem d1_39 : decode prog_135_method_1_code 39 = .ok (.iaload, 1) := by decide +kernel
theorem d1_40 : decode prog_135_method_1_code 40 = .ok (.aload_n 0, 1) := by decide +kernel
theorem d1_41 : decode prog_135_method_1_code 41 = .ok (.getfield 13, 3) := by decide +kernel
theorem d1_44 : decode prog_135_method_1_code 44 = .ok (.iload_n 2, 1) := by decide +kernel
theorem d1_45 : decode prog_135_method_1_code 45 = .ok (.iconst 1, 1) := by decide +kernel
theorem d1_46 : decode prog_135_method_1_code 46 = .ok (.isub, 1) := by decide +kernel
theorem d1_47 : decode prog_135_method_1_code 47 = .ok (.iaload, 1) := by decide +kernel
theorem d1_48 : decode prog_135_method_1_code 48 = .ok (.iadd, 1) := by decide +kernel
theorem d1_49 : decode prog_135_method_1_code 49 = .ok (.iastore, 1) := by decide +kernel
theorem d1_50 : decode prog_135_method_1_code 50 = .ok (.iload_n 2, 1) := by decide +kernel
theorem d1_51 : decode prog_135_method_1_code 51 = .ok (.iload_n 2, 1) := by decide +kernel
theorem d1_52 : decode prog_135_method_1_code 52 = .ok (.iload_n 2, 1) := by decide +kernel
theorem d1_53 : decode prog_135_method_1_code 53 = .ok (.ineg, 1) := by decide +kernel
theorem d1_54 : decode prog_135_method_1_code 54 = .ok (.iand, 1) := by decide +kernel
theorem d1_55 : decode prog_135_method_1_code 55 = .ok (.iadd, 1) := by decide +kernel
theorem d1_56 : decode prog_135_method_1_code 56 = .ok (.istore_n 3, 1) := by decide +kernel
theorem d1_57 : decode prog_135_method_1_code 57 = .ok (.iload_n 3, 1) := by decide +kernel
theorem d1_58 : decode prog_135_method_1_code 58 = .ok (.aload_n 1, 1) := by decide +kernel
theorem d1_59 : decode prog_135_method_1_code 59 = .ok (.arraylength, 1) := by decide +kernel
theorem d1_60 : decode prog_135_method_1_code 60 = .ok (.if_icmp .gt 18, 3) := by decide +kernel
theorem d1_63 : decode prog_135_method_1_code 63 = .ok (.aload_n 0, 1) := by decide +kernel
theorem d1_64 : decode prog_135_method_1_code 64 = .ok (.getfield 18, 3) := by decide +kernel
theorem d1_67 : decode prog_135_method_1_code 67 = .ok (.iload_n 3, 1) := by decide +kernel
theorem d1_68 : decode prog_135_method_1_code 68 = .ok (.dup2, 1) := by decide +kernel
theorem d1_69 : decode prog_135_method_1_code 69 = .ok (.iaload, 1) := by decide +kernel
theorem d1_70 : decode prog_135_method_1_code 70 = .ok (.aload_n 0, 1) := by decide +kernel
theorem d1_71 : decode prog_135_method_1_code 71 = .ok (.getfield 18, 3) := by decide +kernel
theorem d1_74 : decode prog_135_method_1_code 74 = .ok (.iload_n 2, 1) := by decide +kernel
theorem d1_75 : decode prog_135_method_1_code 75 = .ok (.iaload, 1) := by decide +kernel
theorem d1_76 : decode prog_135_method_1_code 76 = .ok (.iadd, 1) := by decide +kernel
theorem d1_77 : decode prog_135_method_1_code 77 = .ok (.iastore, 1) := by decide +kernel
theorem d1_78 : decode prog_135_method_1_code 78 = .ok (.iinc 2 1, 3) := by decide +kernel
theorem d1_81 : decode prog_135_method_1_code 81 = .ok (.goto (-54), 3) := by decide +kernel
theorem d1_84 : decode prog_135_method_1_code 84 = .ok (.return_, 1) := by decide +kernel
theorem pn1 : plainName "kithrank/Weights" = true := by first | (simp [plainName, overriddenIn]; done) | decide +kernel
theorem ef1 (m : MethodId) (a : Addr) (ar : Addr) : entryFrame m #[(.ref a), (.ref ar)] 4 = mkF m 0 #[.val (.ref a), .val (.ref ar), .unset, .unset] [] := by first | (simp [entryFrame, mkF, argsToLocals, Value.category]; done) | rfl
def Q1 (Z : State) (a : Addr) (ar : Addr) (w0 : Int32) (w1 : Int32) (w2 : Int32) (w3 : Int32) (w4 : Int32) (w5 : Int32) (h0 : Heap) (n0 : Nat) (v : Option Value) (h : Heap) (L : List Loc) : Prop := ∃ (wt tr : Addr), v = none ∧ Fr n0 L ∧ Keep h0 h [a] ∧ h0.size ≤ wt ∧ h0.size ≤ tr ∧ wt ≠ tr ∧ Exa Z h a "kithrank/Weights" ∧ Fld Z h a "kithrank/Weights" "weight" "[I" (.ref wt) ∧ Fld Z h a "kithrank/Weights" "tree" "[I" (.ref tr) ∧ own_A Z h wt .int 6 (own_V [(.int w0), (.int w1), (.int w2), (.int w3), (.int w4), (.int w5)]) ∧ own_A Z h tr .int 7 (own_V [(.int (0 : Int32)), (.int ((0 : Int32) + w0)), (.int (((0 : Int32) + ((0 : Int32) + w0)) + w1)), (.int ((0 : Int32) + w2)), (.int ((((0 : Int32) + (((0 : Int32) + ((0 : Int32) + w0)) + w1)) + ((0 : Int32) + w2)) + w3)), (.int ((0 : Int32) + w4)), (.int (((0 : Int32) + ((0 : Int32) + w4)) + w5))])
set_option maxRecDepth 65536 in
set_option maxHeartbeats 40000000 in
theorem rm1 (l : Launch) (Z : State) (a0 : Array Value) (hw : ∀ d ∈ tables_1, d.before a0 Z = true) (ws : List Jvm.Cond) (a : Addr) (ar : Addr) (w0 : Int32) (w1 : Int32) (w2 : Int32) (w3 : Int32) (w4 : Int32) (w5 : Int32) (h0 : Heap) (n0 : Nat) (Z0 : n0 ≤ h0.size) (E_a : Exa Z h0 a "kithrank/Weights") (F_a_weight : Fld Z h0 a "kithrank/Weights" "weight" "[I" .null) (F_a_tree : Fld Z h0 a "kithrank/Weights" "tree" "[I" .null) (G_a : n0 ≤ a) (A_ar : own_A Z h0 ar .int 6 (own_V [(.int w0), (.int w1), (.int w2), (.int w3), (.int w4), (.int w5)])) (E_ar : Exa Z h0 ar "[I") (ne_a_ar : a ≠ ar) :
    MetFree l (⟨"kithrank/Weights", "<init>", "([I)V"⟩ : MethodName) (head1 (Jvm.Cond.code (⟨"kithrank/Weights", "<init>", "([I)V"⟩ : MethodName) prog_135_method_1_code 4 none :: ws) ({ frames := 1, cells := 2, slots := 13, locals := 15 } : Room)) (fun as' U => as' = #[(.ref a), (.ref ar)] ∧ Z.Warmed39 U.vm ∧ U.heap = h0) (fun _ _ _ _ _ => True) (fun _ U o U' => ∃ v L, o = .returned v ∧ Q1 Z a ar w0 w1 w2 w3 w4 w5 h0 n0 v U'.heap L ∧ FrameEnd U o U' L ({ frames := 1, cells := 2, slots := 13, locals := 15 } : Room).cells ({ frames := 1, cells := 2, slots := 13, locals := 15 } : Room).slots) := by
  refine own_body (plainFor_of_name pn1) ?_
  intro p e s m below meth c s₁ hx hby hml hown0 hnm hret hlk hZ X0 e0
  have hown : s.vm.findClass "kithrank/Weights" = some m.cls := hown0
  have N0 := Fr.nil n0
  rw [ef1]
  have K0 : Keep h0 h0 [a] := Keep.refl h0 [a]
  show own_Go p.tables e below _ (s₁.setTop (mkF m 0 #[.val (.ref a), .val (.ref ar), .unset, .unset] []))
  refine own_st (S' := s₁.setTop (mkF m 1 #[.val (.ref a), .val (.ref ar), .unset, .unset] [(.ref a)])) (fun t k => XS.aloadN X0.here hx rfl (hb hby d1_0) rfl rfl k) ?_
  obtain ⟨T1, X1, e1, st1⟩ := initO X0 hx hZ hown (hw _ (List.mem_of_getElem? (i := 8) rfl)) (hw _ (List.mem_of_getElem? (i := 9) rfl)) (hw _ (List.mem_of_getElem? (i := 10) rfl)) e0 (g := (mkF m 1 #[.val (.ref a), .val (.ref ar), .unset, .unset] [(.ref a)])) rfl (by rw [hml]; rfl) rfl (hb hby d1_1) (by decide) (W := 0) (by show 2 * 0 + _ ≤ _; exact Nat.le_of_eq rfl) (by decide)
  refine own_st st1 ?_
  show own_Go p.tables e below _ (T1.setTop (mkF m 4 #[.val (.ref a), .val (.ref ar), .unset, .unset] []))
  refine own_st (S' := T1.setTop (mkF m 5 #[.val (.ref a), .val (.ref ar), .unset, .unset] [(.ref a)])) (fun t k => XS.aloadN X1.here hx rfl (hb hby d1_4) rfl rfl k) ?_
  refine own_st (S' := T1.setTop (mkF m 6 #[.val (.ref a), .val (.ref ar), .unset, .unset] [(.ref ar), (.ref a)])) (fun t k => XS.aloadN X1.here hx rfl (hb hby d1_5) rfl rfl k) ?_
  have O2 := A_ar
  obtain ⟨c2, Ar2, S2, M2, V2⟩ := O2
  obtain ⟨T2, h2, X2, e2, E2, A2, B2, st2⟩ := cloneA X1 hx hZ hown (hw _ (List.mem_of_getElem? (i := 11) rfl)) (hw _ (List.mem_of_getElem? (i := 12) rfl)) (hw _ (List.mem_of_getElem? (i := 16) rfl)) (hw _ (List.mem_of_getElem? (i := 14) rfl)) (hw _ (List.mem_of_getElem? (i := 15) rfl)) (hw _ (List.mem_of_getElem? (i := 17) rfl)) e1 Ar2 E_ar (own_fitI Ar2 S2 V2 (fun j hj => by match j, hj with | 0, _ => rfl | 1, _ => rfl | 2, _ => rfl | 3, _ => rfl | 4, _ => rfl | 5, _ => rfl | j + 6, h => exact absurd h (by omega))) (g := (mkF m 6 #[.val (.ref a), .val (.ref ar), .unset, .unset] [(.ref ar), (.ref a)])) rfl (by rw [hml]; rfl) rfl (hb hby d1_6) (by decide) (W := 1) (by show 2 * 0 + _ ≤ _; exact Nat.le_of_eq rfl) (by decide) (cap := 6) (Nat.le_of_eq S2) (by decide) (by decide)
  obtain ⟨b2, g2⟩ : ∃ z, z = h0.size := ⟨_, rfl⟩
  rw [← g2] at A2 B2 st2
  have G_b2 : n0 ≤ b2 := Nat.le_trans Z0 (Nat.le_of_eq g2.symm)
  have sz_b2 : h0.size ≤ b2 := Nat.le_trans K0.1 (Nat.le_of_eq g2.symm)
  have ne_ar_b2 : ar ≠ b2 := Nat.ne_of_lt (Nat.lt_of_lt_of_le A_ar.lt (Nat.le_of_eq g2.symm))
  have ne_a_b2 : a ≠ b2 := Nat.ne_of_lt (Nat.lt_of_lt_of_le E_a.lt (Nat.le_of_eq g2.symm))
  have f3 : Exa Z h2 a "kithrank/Weights" := E_a.ext E2
  have f4 : Fld Z h2 a "kithrank/Weights" "weight" "[I" .null := F_a_weight.ext E2
  have f5 : Fld Z h2 a "kithrank/Weights" "tree" "[I" .null := F_a_tree.ext E2
  have f6 : own_A Z h2 ar .int 6 (own_V [(.int w0), (.int w1), (.int w2), (.int w3), (.int w4), (.int w5)]) := A_ar.ext E2
  have f7 : Exa Z h2 ar "[I" := E_ar.ext E2
  have Z2 : n0 ≤ h2.size := Nat.le_trans Z0 E2.1
  have K2 : Keep h0 h2 [a] := K0.ext E2
  have f8 : own_A Z h2 b2 .int 6 (own_V [(.int w0), (.int w1), (.int w2), (.int w3), (.int w4), (.int w5)]) := ⟨_, A2, S2, M2, V2⟩
  refine own_st st2 ?_
  show own_Go p.tables e below _ (T2.setTop (mkF m 9 #[.val (.ref a), .val (.ref ar), .unset, .unset] [(.ref b2), (.ref a)]))
  obtain ⟨T9, X9, e9, st9⟩ := castY X2 hx hZ hown (hw _ (List.mem_of_getElem? (i := 18) rfl)) e2 (Ins.self B2) (g := (mkF m 9 #[.val (.ref a), .val (.ref ar), .unset, .unset] [(.ref b2), (.ref a)])) rfl rfl (hb hby d1_9)
  refine own_st st9 ?_
  show own_Go p.tables e below _ (T9.setTop (mkF m 12 #[.val (.ref a), .val (.ref ar), .unset, .unset] [(.ref b2), (.ref a)]))
  obtain ⟨T10, h10, X10, e10, W10, st10⟩ := putF X9 hx hZ hown (host := "") (Or.inl (hw _ (List.mem_of_getElem? (i := 20) rfl))) Via.refl e9 f4 f3 (Or.inr ⟨(hw _ (List.mem_of_getElem? (i := 21) rfl)), rfl, hnm⟩) (hw _ (List.mem_of_getElem? (i := 3) rfl)) (ty := (.array .int)) (by decide) rfl rfl (g := (mkF m 12 #[.val (.ref a), .val (.ref ar), .unset, .unset] [(.ref b2), (.ref a)])) rfl rfl (hb hby d1_12)
  refine own_st st10 ?_
  have f11 : Exa Z h10 a "kithrank/Weights" := f3.wr W10
  have f12 : Fld Z h10 a "kithrank/Weights" "tree" "[I" .null := f5.other W10 (Or.inr (slot_ne (Or.inr (hw _ (List.mem_of_getElem? (i := 23) rfl))) (Or.inr (hw _ (List.mem_of_getElem? (i := 21) rfl))) (by decide) (t := (.array .int)) (t' := (.array .int)) (by decide) (by decide)))
  have f13 : own_A Z h10 ar .int 6 (own_V [(.int w0), (.int w1), (.int w2), (.int w3), (.int w4), (.int w5)]) := f6.other W10 (Ne.symm ne_a_ar)
  have f14 : Exa Z h10 ar "[I" := f7.wr W10
  have f15 : own_A Z h10 b2 .int 6 (own_V [(.int w0), (.int w1), (.int w2), (.int w3), (.int w4), (.int w5)]) := f8.other W10 (Ne.symm ne_a_b2)
  have f16 : Exa Z h10 b2 "[I" := B2.wr W10
  have Z10 : n0 ≤ h10.size := Nat.le_trans Z2 (Keep.of_wr W10).1
  have N10 := Fr.snoc X10 N0 G_a
  have K10 : Keep h0 h10 [a] := K2.wr W10 (Or.inl (List.mem_of_getElem? (i := 0) rfl))
  have f17 : Fld Z h10 a "kithrank/Weights" "weight" "[I" (.ref b2) := f4.same W10
  show own_Go p.tables e below _ (T10.setTop (mkF m 15 #[.val (.ref a), .val (.ref ar), .unset, .unset] []))
  refine own_st (S' := T10.setTop (mkF m 16 #[.val (.ref a), .val (.ref ar), .unset, .unset] [(.ref a)])) (fun t k => XS.aloadN X10.here hx rfl (hb hby d1_15) rfl rfl k) ?_
  refine own_st (S' := T10.setTop (mkF m 17 #[.val (.ref a), .val (.ref ar), .unset, .unset] [(.ref ar), (.ref a)])) (fun t k => XS.aloadN X10.here hx rfl (hb hby d1_16) rfl rfl k) ?_
  have O18 := f13
  obtain ⟨c18, Ar18, S18, M18, V18⟩ := O18
  have ln18 : c18.slots.size.toInt32 = (6 : Int32) := by rw [S18]; first | rfl | decide | exact rfl
  refine own_st (S' := T10.setTop (mkF m 18 #[.val (.ref a), .val (.ref ar), .unset, .unset] [(.int (6 : Int32)), (.ref a)])) (fun t k => X10.arraylength hx (by rw [e10]; exact Ar18.1) (State.isArrayOf_alike hZ.alike Ar18.2.1) (g := (mkF m 17 #[.val (.ref a), .val (.ref ar), .unset, .unset] [(.ref ar), (.ref a)])) rfl rfl (hb hby d1_17) _ (by rw [ln18]; exact k)) ?_
  refine own_st (S' := T10.setTop (mkF m 19 #[.val (.ref a), .val (.ref ar), .unset, .unset] [(.int (1 : Int32)), (.int (6 : Int32)), (.ref a)])) (fun t k => XS.iconst X10.here hx rfl (hb hby d1_18) k) ?_
  refine own_st (S' := T10.setTop (mkF m 20 #[.val (.ref a), .val (.ref ar), .unset, .unset] [(.int (7 : Int32)), (.ref a)])) (fun t k => XS.iadd X10.here hx rfl (hb hby d1_19) rfl k) ?_
  obtain ⟨T19, h19, k19, X19, e19, E19, A19, st19⟩ := newP X10 hx hZ (hw _ (List.mem_of_getElem? (i := 1) rfl)) e10 (g := (mkF m 20 #[.val (.ref a), .val (.ref ar), .unset, .unset] [(.int (7 : Int32)), (.ref a)])) rfl (hb hby d1_20) rfl (by decide) (cap := 7) (by decide) (by decide) (by decide) (by decide)
  obtain ⟨b19, g19⟩ : ∃ z, z = h10.size := ⟨_, rfl⟩
  rw [← g19] at A19 st19
  have G_b19 : n0 ≤ b19 := Nat.le_trans Z10 (Nat.le_of_eq g19.symm)
  have sz_b19 : h0.size ≤ b19 := Nat.le_trans K10.1 (Nat.le_of_eq g19.symm)
  have ne_ar_b19 : ar ≠ b19 := Nat.ne_of_lt (Nat.lt_of_lt_of_le f13.lt (Nat.le_of_eq g19.symm))
  have ne_a_b19 : a ≠ b19 := Nat.ne_of_lt (Nat.lt_of_lt_of_le f11.lt (Nat.le_of_eq g19.symm))
  have ne_b2_b19 : b2 ≠ b19 := Nat.ne_of_lt (Nat.lt_of_lt_of_le f15.lt (Nat.le_of_eq g19.symm))
  have f20 : Exa Z h19 a "kithrank/Weights" := f11.ext E19
  have f21 : Fld Z h19 a "kithrank/Weights" "weight" "[I" (.ref b2) := f17.ext E19
  have f22 : Fld Z h19 a "kithrank/Weights" "tree" "[I" .null := f12.ext E19
  have f23 : own_A Z h19 ar .int 6 (own_V [(.int w0), (.int w1), (.int w2), (.int w3), (.int w4), (.int w5)]) := f13.ext E19
  have f24 : Exa Z h19 ar "[I" := f14.ext E19
  have f25 : own_A Z h19 b2 .int 6 (own_V [(.int w0), (.int w1), (.int w2), (.int w3), (.int w4), (.int w5)]) := f15.ext E19
  have f26 : Exa Z h19 b2 "[I" := f16.ext E19
  have Z19 : n0 ≤ h19.size := Nat.le_trans Z10 E19.1
  have K19 : Keep h0 h19 [a] := K10.ext E19
  have f27 : own_A Z h19 b19 .int 7 (fun _ => (.int (0 : Int32))) := own_A.new A19 (by first | rfl | decide | exact rfl)
  have f28 : own_A Z h19 b19 .int 7 (own_V [(.int (0 : Int32)), (.int (0 : Int32)), (.int (0 : Int32)), (.int (0 : Int32)), (.int (0 : Int32)), (.int (0 : Int32)), (.int (0 : Int32))]) := f27.cong (fun j hj => by match j, hj with | 0, _ => rfl | 1, _ => rfl | 2, _ => rfl | 3, _ => rfl | 4, _ => rfl | 5, _ => rfl | 6, _ => rfl | j + 7, h => exact absurd h (by omega))
  refine own_st st19 ?_
  show own_Go p.tables e below _ (T19.setTop (mkF m 22 #[.val (.ref a), .val (.ref ar), .unset, .unset] [(.ref b19), (.ref a)]))
  obtain ⟨T29, h29, X29, e29, W29, st29⟩ := putF X19 hx hZ hown (host := "") (Or.inl (hw _ (List.mem_of_getElem? (i := 22) rfl))) Via.refl e19 f22 f20 (Or.inr ⟨(hw _ (List.mem_of_getElem? (i := 23) rfl)), rfl, hnm⟩) (hw _ (List.mem_of_getElem? (i := 3) rfl)) (ty := (.array .int)) (by decide) rfl rfl (g := (mkF m 22 #[.val (.ref a), .val (.ref ar), .unset, .unset] [(.ref b19), (.ref a)])) rfl rfl (hb hby d1_22)
  refine own_st st29 ?_
  have f30 : Exa Z h29 a "kithrank/Weights" := f20.wr W29
  have f31 : Fld Z h29 a "kithrank/Weights" "weight" "[I" (.ref b2) := f21.other W29 (Or.inr (slot_ne (Or.inr (hw _ (List.mem_of_getElem? (i := 21) rfl))) (Or.inr (hw _ (List.mem_of_getElem? (i := 23) rfl))) (by decide) (t := (.array .int)) (t' := (.array .int)) (by decide) (by decide)))
  have f32 : own_A Z h29 ar .int 6 (own_V [(.int w0), (.int w1), (.int w2), (.int w3), (.int w4), (.int w5)]) := f23.other W29 (Ne.symm ne_a_ar)
  have f33 : Exa Z h29 ar "[I" := f24.wr W29
  have f34 : own_A Z h29 b2 .int 6 (own_V [(.int w0), (.int w1), (.int w2), (.int w3), (.int w4), (.int w5)]) := f25.other W29 (Ne.symm ne_a_b2)
  have f35 : Exa Z h29 b2 "[I" := f26.wr W29
  have f36 : own_A Z h29 b19 .int 7 (own_V [(.int (0 : Int32)), (.int (0 : Int32)), (.int (0 : Int32)), (.int (0 : Int32)), (.int (0 : Int32)), (.int (0 : Int32)), (.int (0 : Int32))]) := f28.other W29 (Ne.symm ne_a_b19)
  have Z29 : n0 ≤ h29.size := Nat.le_trans Z19 (Keep.of_wr W29).1
  have N29 := Fr.snoc X29 N10 G_a
  have K29 : Keep h0 h29 [a] := K19.wr W29 (Or.inl (List.mem_of_getElem? (i := 0) rfl))
  have f37 : Fld Z h29 a "kithrank/Weights" "tree" "[I" (.ref b19) := f22.same W29
  show own_Go p.tables e below _ (T29.setTop (mkF m 25 #[.val (.ref a), .val (.ref ar), .unset, .unset] []))
  refine own_st (S' := T29.setTop (mkF m 26 #[.val (.ref a), .val (.ref ar), .unset, .unset] [(.int (1 : Int32))])) (fun t k => XS.iconst X29.here hx rfl (hb hby d1_25) k) ?_
  refine own_st (S' := T29.setTop (mkF m 27 #[.val (.ref a), .val (.ref ar), .val (.int (1 : Int32)), .unset] [])) (fun t k => XS.istoreN X29.here hx rfl (hb hby d1_26) rfl (l' := #[.val (.ref a), .val (.ref ar), .val (.int (1 : Int32)), .unset]) rfl k) ?_
  refine own_st (S' := T29.setTop (mkF m 28 #[.val (.ref a), .val (.ref ar), .val (.int (1 : Int32)), .unset] [(.int (1 : Int32))])) (fun t k => XS.iloadN X29.here hx rfl (hb hby d1_27) rfl k) ?_
  refine own_st (S' := T29.setTop (mkF m 29 #[.val (.ref a), .val (.ref ar), .val (.int (1 : Int32)), .unset] [(.ref ar), (.int (1 : Int32))])) (fun t k => XS.aloadN X29.here hx rfl (hb hby d1_28) rfl rfl k) ?_
  have O38 := f32
  obtain ⟨c38, Ar38, S38, M38, V38⟩ := O38
  have ln38 : c38.slots.size.toInt32 = (6 : Int32) := by rw [S38]; first | rfl | decide | exact rfl
  refine own_st (S' := T29.setTop (mkF m 30 #[.val (.ref a), .val (.ref ar), .val (.int (1 : Int32)), .unset] [(.int (6 : Int32)), (.int (1 : Int32))])) (fun t k => X29.arraylength hx (by rw [e29]; exact Ar38.1) (State.isArrayOf_alike hZ.alike Ar38.2.1) (g := (mkF m 29 #[.val (.ref a), .val (.ref ar), .val (.int (1 : Int32)), .unset] [(.ref ar), (.int (1 : Int32))])) rfl rfl (hb hby d1_29) _ (by rw [ln38]; exact k)) ?_
  refine own_st (S' := T29.setTop (mkF m 33 #[.val (.ref a), .val (.ref ar), .val (.int (1 : Int32)), .unset] [])) (fun t k => XS.icmpNo X29.here hx rfl (hb hby d1_30) rfl (flt (by decide)).2.2.1 k) ?_
  show own_Go p.tables e below _ (T29.setTop (mkF m 33 #[.val (.ref a), .val (.ref ar), .val (.int (1 : Int32)), .unset] []))
  refine own_st (S' := T29.setTop (mkF m 34 #[.val (.ref a), .val (.ref ar), .val (.int (1 : Int32)), .unset] [(.ref a)])) (fun t k => XS.aloadN X29.here hx rfl (hb hby d1_33) rfl rfl k) ?_
  obtain ⟨T39, X39, e39, st39⟩ := getF X29 hx hZ hown (host := "") (Or.inl (hw _ (List.mem_of_getElem? (i := 22) rfl))) Via.refl e29 f37 (g := (mkF m 34 #[.val (.ref a), .val (.ref ar), .val (.int (1 : Int32)), .unset] [(.ref a)])) rfl rfl (hb hby d1_34)
  refine own_st st39 ?_
  show own_Go p.tables e below _ (T39.setTop (mkF m 37 #[.val (.ref a), .val (.ref ar), .val (.int (1 : Int32)), .unset] [(.ref b19)]))
  refine own_st (S' := T39.setTop (mkF m 38 #[.val (.ref a), .val (.ref ar), .val (.int (1 : Int32)), .unset] [(.int (1 : Int32)), (.ref b19)])) (fun t k => XS.iloadN X39.here hx rfl (hb hby d1_37) rfl k) ?_
  refine own_st (S' := T39.setTop (mkF m 39 #[.val (.ref a), .val (.ref ar), .val (.int (1 : Int32)), .unset] [(.int (1 : Int32)), (.ref b19), (.int (1 : Int32)), (.ref b19)])) (fun t k => Jvm.Free.XT.dup2 X39.here hx rfl (hb hby d1_38) rfl rfl rfl k) ?_
  have O40 := f36
  obtain ⟨c40, Ar40, S40, M40, V40⟩ := O40
  have at40 : c40.slots[((1 : Int32)).toNatClampNeg]? = some (.int (0 : Int32)) := own_at S40 V40 (own_ix (j := (1 : Int32)) (i := 1) (n := 7) (by decide) (by decide) (by decide)) rfl
  refine own_st (S' := T39.setTop (mkF m 40 #[.val (.ref a), .val (.ref ar), .val (.int (1 : Int32)), .unset] [(.int (0 : Int32)), (.int (1 : Int32)), (.ref b19)])) (fun t k => X39.iaload hx (j := (1 : Int32)) (v := (.int (0 : Int32))) (by rw [e39]; exact Ar40.1) (State.isArrayOf_alike hZ.alike Ar40.2.1) Ar40.2.2 (own_in S40 (own_ix (j := (1 : Int32)) (i := 1) (n := 7) (by decide) (by decide) (by decide))) at40 (g := (mkF m 39 #[.val (.ref a), .val (.ref ar), .val (.int (1 : Int32)), .unset] [(.int (1 : Int32)), (.ref b19), (.int (1 : Int32)), (.ref b19)])) rfl rfl (hb hby d1_39) _ k) ?_
  refine own_st (S' := T39.setTop (mkF m 41 #[.val (.ref a), .val (.ref ar), .val (.int (1 : Int32)), .unset] [(.ref a), (.int (0 : Int32)), (.int (1 : Int32)), (.ref b19)])) (fun t k => XS.aloadN X39.here hx rfl (hb hby d1_40) rfl rfl k) ?_
  obtain ⟨T41, X41, e41, st41⟩ := getF X39 hx hZ hown (host := "") (Or.inl (hw _ (List.mem_of_getElem? (i := 20) rfl))) Via.refl e39 f31 (g := (mkF m 41 #[.val (.ref a), .val (.ref ar), .val (.int (1 : Int32)), .unset] [(.ref a), (.int (0 : Int32)), (.int (1 : Int32)), (.ref b19)])) rfl rfl (hb hby d1_41)
  refine own_st st41 ?_
  show own_Go p.tables e below _ (T41.setTop (mkF m 44 #[.val (.ref a), .val (.ref ar), .val (.int (1 : Int32)), .unset] [(.ref b2), (.int (0 : Int32)), (.int (1 : Int32)), (.ref b19)]))
  refine own_st (S' := T41.setTop (mkF m 45 #[.val (.ref a), .val (.ref ar), .val (.int (1 : Int32)), .unset] [(.int (1 : Int32)), (.ref b2), (.int (0 : Int32)), (.int (1 : Int32)), (.ref b19)])) (fun t k => XS.iloadN X41.here hx rfl (hb hby d1_44) rfl k) ?_
  refine own_st (S' := T41.setTop (mkF m 46 #[.val (.ref a), .val (.ref ar), .val (.int (1 : Int32)), .unset] [(.int (1 : Int32)), (.int (1 : Int32)), (.ref b2), (.int (0 : Int32)), (.int (1 : Int32)), (.ref b19)])) (fun t k => XS.iconst X41.here hx rfl (hb hby d1_45) k) ?_
  refine own_st (S' := T41.setTop (mkF m 47 #[.val (.ref a), .val (.ref ar), .val (.int (1 : Int32)), .unset] [(.int (0 : Int32)), (.ref b2), (.int (0 : Int32)), (.int (1 : Int32)), (.ref b19)])) (fun t k => XS.isub X41.here hx rfl (hb hby d1_46) rfl k) ?_
  have O42 := f34
  obtain ⟨c42, Ar42, S42, M42, V42⟩ := O42
  have at42 : c42.slots[((0 : Int32)).toNatClampNeg]? = some (.int w0) := own_at S42 V42 (own_ix (j := (0 : Int32)) (i := 0) (n := 6) (by decide) (by decide) (by decide)) rfl
  refine own_st (S' := T41.setTop (mkF m 48 #[.val (.ref a), .val (.ref ar), .val (.int (1 : Int32)), .unset] [(.int w0), (.int (0 : Int32)), (.int (1 : Int32)), (.ref b19)])) (fun t k => X41.iaload hx (j := (0 : Int32)) (v := (.int w0)) (by rw [e41]; exact Ar42.1) (State.isArrayOf_alike hZ.alike Ar42.2.1) Ar42.2.2 (own_in S42 (own_ix (j := (0 : Int32)) (i := 0) (n := 6) (by decide) (by decide) (by decide))) at42 (g := (mkF m 47 #[.val (.ref a), .val (.ref ar), .val (.int (1 : Int32)), .unset] [(.int (0 : Int32)), (.ref b2), (.int (0 : Int32)), (.int (1 : Int32)), (.ref b19)])) rfl rfl (hb hby d1_47) _ k) ?_
  refine own_st (S' := T41.setTop (mkF m 49 #[.val (.ref a), .val (.ref ar), .val (.int (1 : Int32)), .unset] [(.int ((0 : Int32) + w0)), (.int (1 : Int32)), (.ref b19)])) (fun t k => XS.iadd X41.here hx rfl (hb hby d1_48) rfl k) ?_
  obtain ⟨v43, qv43⟩ : ∃ z : Int32, z = ((0 : Int32) + w0) := ⟨_, rfl⟩
  show own_Go p.tables e below _ (T41.setTop (mkF m 49 #[.val (.ref a), .val (.ref ar), .val (.int (1 : Int32)), .unset] [(.int ((0 : Int32) + w0)), (.int (1 : Int32)), (.ref b19)]))
  rw [← qv43]
  have O44 := f36
  obtain ⟨c44, Ar44, S44, M44, V44⟩ := O44
  obtain ⟨T44, h44, X44, e44, W44, st44⟩ := stI X41 hx hZ e41 Ar44 (j := (1 : Int32)) (own_in S44 (own_ix (j := (1 : Int32)) (i := 1) (n := 7) (by decide) (by decide) (by decide))) (g := (mkF m 49 #[.val (.ref a), .val (.ref ar), .val (.int (1 : Int32)), .unset] [(.int v43), (.int (1 : Int32)), (.ref b19)])) rfl rfl (hb hby d1_49)
  refine own_st st44 ?_
  have f45 : Exa Z h44 a "kithrank/Weights" := f30.wr W44
  have f46 : Fld Z h44 a "kithrank/Weights" "weight" "[I" (.ref b2) := f31.other W44 (Or.inl ne_a_b19)
  have f47 : Fld Z h44 a "kithrank/Weights" "tree" "[I" (.ref b19) := f37.other W44 (Or.inl ne_a_b19)
  have f48 : own_A Z h44 ar .int 6 (own_V [(.int w0), (.int w1), (.int w2), (.int w3), (.int w4), (.int w5)]) := f32.other W44 ne_ar_b19
  have f49 : Exa Z h44 ar "[I" := f33.wr W44
  have f50 : own_A Z h44 b2 .int 6 (own_V [(.int w0), (.int w1), (.int w2), (.int w3), (.int w4), (.int w5)]) := f34.other W44 ne_b2_b19
  have f51 : Exa Z h44 b2 "[I" := f35.wr W44
  have Z44 : n0 ≤ h44.size := Nat.le_trans Z29 (Keep.of_wr W44).1
  have N44 := Fr.snoc X44 N29 G_b19
  have K44 : Keep h0 h44 [a] := K29.wr W44 (Or.inr sz_b19)
  have f52 : own_A Z h44 b19 .int 7 (own_V [(.int (0 : Int32)), (.int v43), (.int (0 : Int32)), (.int (0 : Int32)), (.int (0 : Int32)), (.int (0 : Int32)), (.int (0 : Int32))]) := (own_A.set ⟨c44, Ar44, S44, M44, V44⟩ (own_ix (j := (1 : Int32)) (i := 1) (n := 7) (by decide) (by decide) (by decide)) W44).cong (fun j hj => by match j, hj with | 0, _ => rfl | 1, _ => rfl | 2, _ => rfl | 3, _ => rfl | 4, _ => rfl | 5, _ => rfl | 6, _ => rfl | j + 7, h => exact absurd h (by omega))
  show own_Go p.tables e below _ (T44.setTop (mkF m 50 #[.val (.ref a), .val (.ref ar), .val (.int (1 : Int32)), .unset] []))
  refine own_st (S' := T44.setTop (mkF m 51 #[.val (.ref a), .val (.ref ar), .val (.int (1 : Int32)), .unset] [(.int (1 : Int32))])) (fun t k => XS.iloadN X44.here hx rfl (hb hby d1_50) rfl k) ?_
  refine own_st (S' := T44.setTop (mkF m 52 #[.val (.ref a), .val (.ref ar), .val (.int (1 : Int32)), .unset] [(.int (1 : Int32)), (.int (1 : Int32))])) (fun t k => XS.iloadN X44.here hx rfl (hb hby d1_51) rfl k) ?_
  refine own_st (S' := T44.setTop (mkF m 53 #[.val (.ref a), .val (.ref ar), .val (.int (1 : Int32)), .unset] [(.int (1 : Int32)), (.int (1 : Int32)), (.int (1 : Int32))])) (fun t k => XS.iloadN X44.here hx rfl (hb hby d1_52) rfl k) ?_
  refine own_st (S' := T44.setTop (mkF m 54 #[.val (.ref a), .val (.ref ar), .val (.int (1 : Int32)), .unset] [(.int (-1 : Int32)), (.int (1 : Int32)), (.int (1 : Int32))])) (fun t k => XS.ineg X44.here hx rfl (hb hby d1_53) rfl k) ?_
  refine own_st (S' := T44.setTop (mkF m 55 #[.val (.ref a), .val (.ref ar), .val (.int (1 : Int32)), .unset] [(.int (1 : Int32)), (.int (1 : Int32))])) (fun t k => XS.iand X44.here hx rfl (hb hby d1_54) rfl k) ?_
  refine own_st (S' := T44.setTop (mkF m 56 #[.val (.ref a), .val (.ref ar), .val (.int (1 : Int32)), .unset] [(.int (2 : Int32))])) (fun t k => XS.iadd X44.here hx rfl (hb hby d1_55) rfl k) ?_
  refine own_st (S' := T44.setTop (mkF m 57 #[.val (.ref a), .val (.ref ar), .val (.int (1 : Int32)), .val (.int (2 : Int32))] [])) (fun t k => XS.istoreN X44.here hx rfl (hb hby d1_56) rfl (l' := #[.val (.ref a), .val (.ref ar), .val (.int (1 : Int32)), .val (.int (2 : Int32))]) rfl k) ?_
  refine own_st (S' := T44.setTop (mkF m 58 #[.val (.ref a), .val (.ref ar), .val (.int (1 : Int32)), .val (.int (2 : Int32))] [(.int (2 : Int32))])) (fun t k => XS.iloadN X44.here hx rfl (hb hby d1_57) rfl k) ?_
  refine own_st (S' := T44.setTop (mkF m 59 #[.val (.ref a), .val (.ref ar), .val (.int (1 : Int32)), .val (.int (2 : Int32))] [(.ref ar), (.int (2 : Int32))])) (fun t k => XS.aloadN X44.here hx rfl (hb hby d1_58) rfl rfl k) ?_
  have O53 := f48
  obtain ⟨c53, Ar53, S53, M53, V53⟩ := O53
  have ln53 : c53.slots.size.toInt32 = (6 : Int32) := by rw [S53]; first | rfl | decide | exact rfl
  refine own_st (S' := T44.setTop (mkF m 60 #[.val (.ref a), .val (.ref ar), .val (.int (1 : Int32)), .val (.int (2 : Int32))] [(.int (6 : Int32)), (.int (2 : Int32))])) (fun t k => X44.arraylength hx (by rw [e44]; exact Ar53.1) (State.isArrayOf_alike hZ.alike Ar53.2.1) (g := (mkF m 59 #[.val (.ref a), .val (.ref ar), .val (.int (1 : Int32)), .val (.int (2 : Int32))] [(.ref ar), (.int (2 : Int32))])) rfl rfl (hb hby d1_59) _ (by rw [ln53]; exact k)) ?_
  refine own_st (S' := T44.setTop (mkF m 63 #[.val (.ref a), .val (.ref ar), .val (.int (1 : Int32)), .val (.int (2 : Int32))] [])) (fun t k => XS.icmpNo X44.here hx rfl (hb hby d1_60) rfl (flt (by decide)).2.2.1 k) ?_
  show own_Go p.tables e below _ (T44.setTop (mkF m 63 #[.val (.ref a), .val (.ref ar), .val (.int (1 : Int32)), .val (.int (2 : Int32))] []))
  refine own_st (S' := T44.setTop (mkF m 64 #[.val (.ref a), .val (.ref ar), .val (.int (1 : Int32)), .val (.int (2 : Int32))] [(.ref a)])) (fun t k => XS.aloadN X44.here hx rfl (hb hby d1_63) rfl rfl k) ?_
  obtain ⟨T54, X54, e54, st54⟩ := getF X44 hx hZ hown (host := "") (Or.inl (hw _ (List.mem_of_getElem? (i := 22) rfl))) Via.refl e44 f47 (g := (mkF m 64 #[.val (.ref a), .val (.ref ar), .val (.int (1 : Int32)), .val (.int (2 : Int32))] [(.ref a)])) rfl rfl (hb hby d1_64)
  refine own_st st54 ?_
  show own_Go p.tables e below _ (T54.setTop (mkF m 67 #[.val (.ref a), .val (.ref ar), .val (.int (1 : Int32)), .val (.int (2 : Int32))] [(.ref b19)]))
  refine own_st (S' := T54.setTop (mkF m 68 #[.val (.ref a), .val (.ref ar), .val (.int (1 : Int32)), .val (.int (2 : Int32))] [(.int (2 : Int32)), (.ref b19)])) (fun t k => XS.iloadN X54.here hx rfl (hb hby d1_67) rfl k) ?_
  refine own_st (S' := T54.setTop (mkF m 69 #[.val (.ref a), .val (.ref ar), .val (.int (1 : Int32)), .val (.int (2 : Int32))] [(.int (2 : Int32)), (.ref b19), (.int (2 : Int32)), (.ref b19)])) (fun t k => Jvm.Free.XT.dup2 X54.here hx rfl (hb hby d1_68) rfl rfl rfl k) ?_
  have O55 := f52
  obtain ⟨c55, Ar55, S55, M55, V55⟩ := O55
  have at55 : c55.slots[((2 : Int32)).toNatClampNeg]? = some (.int (0 : Int32)) := own_at S55 V55 (own_ix (j := (2 : Int32)) (i := 2) (n := 7) (by decide) (by decide) (by decide)) rfl
  refine own_st (S' := T54.setTop (mkF m 70 #[.val (.ref a), .val (.ref ar), .val (.int (1 : Int32)), .val (.int (2 : Int32))] [(.int (0 : Int32)), (.int (2 : Int32)), (.ref b19)])) (fun t k => X54.iaload hx (j := (2 : Int32)) (v := (.int (0 : Int32))) (by rw [e54]; exact Ar55.1) (State.isArrayOf_alike hZ.alike Ar55.2.1) Ar55.2.2 (own_in S55 (own_ix (j := (2 : Int32)) (i := 2) (n := 7) (by decide) (by decide) (by decide))) at55 (g := (mkF m 69 #[.val (.ref a), .val (.ref ar), .val (.int (1 : Int32)), .val (.int (2 : Int32))] [(.int (2 : Int32)), (.ref b19), (.int (2 : Int32)), (.ref b19)])) rfl rfl (hb hby d1_69) _ k) ?_
  refine own_st (S' := T54.setTop (mkF m 71 #[.val (.ref a), .val (.ref ar), .val (.int (1 : Int32)), .val (.int (2 : Int32))] [(.ref a), (.int (0 : Int32)), (.int (2 : Int32)), (.ref b19)])) (fun t k => XS.aloadN X54.here hx rfl (hb hby d1_70) rfl rfl k) ?_
  obtain ⟨T56, X56, e56, st56⟩ := getF X54 hx hZ hown (host := "") (Or.inl (hw _ (List.mem_of_getElem? (i := 22) rfl))) Via.refl e54 f47 (g := (mkF m 71 #[.val (.ref a), .val (.ref ar), .val (.int (1 : Int32)), .val (.int (2 : Int32))] [(.ref a), (.int (0 : Int32)), (.int (2 : Int32)), (.ref b19)])) rfl rfl (hb hby d1_71)
  refine own_st st56 ?_
  show own_Go p.tables e below _ (T56.setTop (mkF m 74 #[.val (.ref a), .val (.ref ar), .val (.int (1 : Int32)), .val (.int (2 : Int32))] [(.ref b19), (.int (0 : Int32)), (.int (2 : Int32)), (.ref b19)]))
  refine own_st (S' := T56.setTop (mkF m 75 #[.val (.ref a), .val (.ref ar), .val (.int (1 : Int32)), .val (.int (2 : Int32))] [(.int (1 : Int32)), (.ref b19), (.int (0 : Int32)), (.int (2 : Int32)), (.ref b19)])) (fun t k => XS.iloadN X56.here hx rfl (hb hby d1_74) rfl k) ?_
  have O57 := f52
  obtain ⟨c57, Ar57, S57, M57, V57⟩ := O57
  have at57 : c57.slots[((1 : Int32)).toNatClampNeg]? = some (.int v43) := own_at S57 V57 (own_ix (j := (1 : Int32)) (i := 1) (n := 7) (by decide) (by decide) (by decide)) rfl
  refine own_st (S' := T56.setTop (mkF m 76 #[.val (.ref a), .val (.ref ar), .val (.int (1 : Int32)), .val (.int (2 : Int32))] [(.int v43), (.int (0 : Int32)), (.int (2 : Int32)), (.ref b19)])) (fun t k => X56.iaload hx (j := (1 : Int32)) (v := (.int v43)) (by rw [e56]; exact Ar57.1) (State.isArrayOf_alike hZ.alike Ar57.2.1) Ar57.2.2 (own_in S57 (own_ix (j := (1 : Int32)) (i := 1) (n := 7) (by decide) (by decide) (by decide))) at57 (g := (mkF m 75 #[.val (.ref a), .val (.ref ar), .val (.int (1 : Int32)), .val (.int (2 : Int32))] [(.int (1 : Int32)), (.ref b19), (.int (0 : Int32)), (.int (2 : Int32)), (.ref b19)])) rfl rfl (hb hby d1_75) _ k) ?_
  refine own_st (S' := T56.setTop (mkF m 77 #[.val (.ref a), .val (.ref ar), .val (.int (1 : Int32)), .val (.int (2 : Int32))] [(.int ((0 : Int32) + v43)), (.int (2 : Int32)), (.ref b19)])) (fun t k => XS.iadd X56.here hx rfl (hb hby d1_76) rfl k) ?_
  obtain ⟨v58, qv58⟩ : ∃ z : Int32, z = ((0 : Int32) + v43) := ⟨_, rfl⟩
  show own_Go p.tables e below _ (T56.setTop (mkF m 77 #[.val (.ref a), .val (.ref ar), .val (.int (1 : Int32)), .val (.int (2 : Int32))] [(.int ((0 : Int32) + v43)), (.int (2 : Int32)), (.ref b19)]))
  rw [← qv58]
  have O59 := f52
  obtain ⟨c59, Ar59, S59, M59, V59⟩ := O59
  obtain ⟨T59, h59, X59, e59, W59, st59⟩ := stI X56 hx hZ e56 Ar59 (j := (2 : Int32)) (own_in S59 (own_ix (j := (2 : Int32)) (i := 2) (n := 7) (by decide) (by decide) (by decide))) (g := (mkF m 77 #[.val (.ref a), .val (.ref ar), .val (.int (1 : Int32)), .val (.int (2 : Int32))] [(.int v58), (.int (2 : Int32)), (.ref b19)])) rfl rfl (hb hby d1_77)
  refine own_st st59 ?_
  have f60 : Exa Z h59 a "kithrank/Weights" := f45.wr W59
  have f61 : Fld Z h59 a "kithrank/Weights" "weight" "[I" (.ref b2) := f46.other W59 (Or.inl ne_a_b19)
  have f62 : Fld Z h59 a "kithrank/Weights" "tree" "[I" (.ref b19) := f47.other W59 (Or.inl ne_a_b19)
  have f63 : own_A Z h59 ar .int 6 (own_V [(.int w0), (.int w1), (.int w2), (.int w3), (.int w4), (.int w5)]) := f48.other W59 ne_ar_b19
  have f64 : Exa Z h59 ar "[I" := f49.wr W59
  have f65 : own_A Z h59 b2 .int 6 (own_V [(.int w0), (.int w1), (.int w2), (.int w3), (.int w4), (.int w5)]) := f50.other W59 ne_b2_b19
  have f66 : Exa Z h59 b2 "[I" := f51.wr W59
  have Z59 : n0 ≤ h59.size := Nat.le_trans Z44 (Keep.of_wr W59).1
  have N59 := Fr.snoc X59 N44 G_b19
  have K59 : Keep h0 h59 [a] := K44.wr W59 (Or.inr sz_b19)
  have f67 : own_A Z h59 b19 .int 7 (own_V [(.int (0 : Int32)), (.int v43), (.int v58), (.int (0 : Int32)), (.int (0 : Int32)), (.int (0 : Int32)), (.int (0 : Int32))]) := (own_A.set ⟨c59, Ar59, S59, M59, V59⟩ (own_ix (j := (2 : Int32)) (i := 2) (n := 7) (by decide) (by decide) (by decide)) W59).cong (fun j hj => by match j, hj with | 0, _ => rfl | 1, _ => rfl | 2, _ => rfl | 3, _ => rfl | 4, _ => rfl | 5, _ => rfl | 6, _ => rfl | j + 7, h => exact absurd h (by omega))
  show own_Go p.tables e below _ (T59.setTop (mkF m 78 #[.val (.ref a), .val (.ref ar), .val (.int (1 : Int32)), .val (.int (2 : Int32))] []))
  refine own_st (S' := T59.setTop (mkF m 81 #[.val (.ref a), .val (.ref ar), .val (.int (2 : Int32)), .val (.int (2 : Int32))] [])) (fun t k => XS.iinc X59.here hx rfl (hb hby d1_78) rfl (l' := #[.val (.ref a), .val (.ref ar), .val (.int (2 : Int32)), .val (.int (2 : Int32))]) rfl k) ?_
  refine own_st (S' := T59.setTop (mkF m 27 #[.val (.ref a), .val (.ref ar), .val (.int (2 : Int32)), .val (.int (2 : Int32))] [])) (fun t k => XS.goto X59.here hx rfl (pc0 := 81) (pc' := 27) rfl (hb hby d1_81) (by decide) (by decide) k) ?_
  refine own_st (S' := T59.setTop (mkF m 28 #[.val (.ref a), .val (.ref ar), .val (.int (2 : Int32)), .val (.int (2 : Int32))] [(.int (2 : Int32))])) (fun t k => XS.iloadN X59.here hx rfl (hb hby d1_27) rfl k) ?_
  refine own_st (S' := T59.setTop (mkF m 29 #[.val (.ref a), .val (.ref ar), .val (.int (2 : Int32)), .val (.int (2 : Int32))] [(.ref ar), (.int (2 : Int32))])) (fun t k => XS.aloadN X59.here hx rfl (hb hby d1_28) rfl rfl k) ?_
  have O68 := f63
  obtain ⟨c68, Ar68, S68, M68, V68⟩ := O68
  have ln68 : c68.slots.size.toInt32 = (6 : Int32) := by rw [S68]; first | rfl | decide | exact rfl
  refine own_st (S' := T59.setTop (mkF m 30 #[.val (.ref a), .val (.ref ar), .val (.int (2 : Int32)), .val (.int (2 : Int32))] [(.int (6 : Int32)), (.int (2 : Int32))])) (fun t k => X59.arraylength hx (by rw [e59]; exact Ar68.1) (State.isArrayOf_alike hZ.alike Ar68.2.1) (g := (mkF m 29 #[.val (.ref a), .val (.ref ar), .val (.int (2 : Int32)), .val (.int (2 : Int32))] [(.ref ar), (.int (2 : Int32))])) rfl rfl (hb hby d1_29) _ (by rw [ln68]; exact k)) ?_
  refine own_st (S' := T59.setTop (mkF m 33 #[.val (.ref a), .val (.ref ar), .val (.int (2 : Int32)), .val (.int (2 : Int32))] [])) (fun t k => XS.icmpNo X59.here hx rfl (hb hby d1_30) rfl (flt (by decide)).2.2.1 k) ?_
  show own_Go p.tables e below _ (T59.setTop (mkF m 33 #[.val (.ref a), .val (.ref ar), .val (.int (2 : Int32)), .val (.int (2 : Int32))] []))
  refine own_st (S' := T59.setTop (mkF m 34 #[.val (.ref a), .val (.ref ar), .val (.int (2 : Int32)), .val (.int (2 : Int32))] [(.ref a)])) (fun t k => XS.aloadN X59.here hx rfl (hb hby d1_33) rfl rfl k) ?_
  obtain ⟨T69, X69, e69, st69⟩ := getF X59 hx hZ hown (host := "") (Or.inl (hw _ (List.mem_of_getElem? (i := 22) rfl))) Via.refl e59 f62 (g := (mkF m 34 #[.val (.ref a), .val (.ref ar), .val (.int (2 : Int32)), .val (.int (2 : Int32))] [(.ref a)])) rfl rfl (hb hby d1_34)
  refine own_st st69 ?_
  show own_Go p.tables e below _ (T69.setTop (mkF m 37 #[.val (.ref a), .val (.ref ar), .val (.int (2 : Int32)), .val (.int (2 : Int32))] [(.ref b19)]))
  refine own_st (S' := T69.setTop (mkF m 38 #[.val (.ref a), .val (.ref ar), .val (.int (2 : Int32)), .val (.int (2 : Int32))] [(.int (2 : Int32)), (.ref b19)])) (fun t k => XS.iloadN X69.here hx rfl (hb hby d1_37) rfl k) ?_
  refine own_st (S' := T69.setTop (mkF m 39 #[.val (.ref a), .val (.ref ar), .val (.int (2 : Int32)), .val (.int (2 : Int32))] [(.int (2 : Int32)), (.ref b19), (.int (2 : Int32)), (.ref b19)])) (fun t k => Jvm.Free.XT.dup2 X69.here hx rfl (hb hby d1_38) rfl rfl rfl k) ?_
  have O70 := f67
  obtain ⟨c70, Ar70, S70, M70, V70⟩ := O70
  have at70 : c70.slots[((2 : Int32)).toNatClampNeg]? = some (.int v58) := own_at S70 V70 (own_ix (j := (2 : Int32)) (i := 2) (n := 7) (by decide) (by decide) (by decide)) rfl
  refine own_st (S' := T69.setTop (mkF m 40 #[.val (.ref a), .val (.ref ar), .val (.int (2 : Int32)), .val (.int (2 : Int32))] [(.int v58), (.int (2 : Int32)), (.ref b19)])) (fun t k => X69.iaload hx (j := (2 : Int32)) (v := (.int v58)) (by rw [e69]; exact Ar70.1) (State.isArrayOf_alike hZ.alike Ar70.2.1) Ar70.2.2 (own_in S70 (own_ix (j := (2 : Int32)) (i := 2) (n := 7) (by decide) (by decide) (by decide))) at70 (g := (mkF m 39 #[.val (.ref a), .val (.ref ar), .val (.int (2 : Int32)), .val (.int (2 : Int32))] [(.int (2 : Int32)), (.ref b19), (.int (2 : Int32)), (.ref b19)])) rfl rfl (hb hby d1_39) _ k) ?_
  refine own_st (S' := T69.setTop (mkF m 41 #[.val (.ref a), .val (.ref ar), .val (.int (2 : Int32)), .val (.int (2 : Int32))] [(.ref a), (.int v58), (.int (2 : Int32)), (.ref b19)])) (fun t k => XS.aloadN X69.here hx rfl (hb hby d1_40) rfl rfl k) ?_
  obtain ⟨T71, X71, e71, st71⟩ := getF X69 hx hZ hown (host := "") (Or.inl (hw _ (List.mem_of_getElem? (i := 20) rfl))) Via.refl e69 f61 (g := (mkF m 41 #[.val (.ref a), .val (.ref ar), .val (.int (2 : Int32)), .val (.int (2 : Int32))] [(.ref a), (.int v58), (.int (2 : Int32)), (.ref b19)])) rfl rfl (hb hby d1_41)
  refine own_st st71 ?_
  show own_Go p.tables e below _ (T71.setTop (mkF m 44 #[.val (.ref a), .val (.ref ar), .val (.int (2 : Int32)), .val (.int (2 : Int32))] [(.ref b2), (.int v58), (.int (2 : Int32)), (.ref b19)]))
  refine own_st (S' := T71.setTop (mkF m 45 #[.val (.ref a), .val (.ref ar), .val (.int (2 : Int32)), .val (.int (2 : Int32))] [(.int (2 : Int32)), (.ref b2), (.int v58), (.int (2 : Int32)), (.ref b19)])) (fun t k => XS.iloadN X71.here hx rfl (hb hby d1_44) rfl k) ?_
  refine own_st (S' := T71.setTop (mkF m 46 #[.val (.ref a), .val (.ref ar), .val (.int (2 : Int32)), .val (.int (2 : Int32))] [(.int (1 : Int32)), (.int (2 : Int32)), (.ref b2), (.int v58), (.int (2 : Int32)), (.ref b19)])) (fun t k => XS.iconst X71.here hx rfl (hb hby d1_45) k) ?_
  refine own_st (S' := T71.setTop (mkF m 47 #[.val (.ref a), .val (.ref ar), .val (.int (2 : Int32)), .val (.int (2 : Int32))] [(.int (1 : Int32)), (.ref b2), (.int v58), (.int (2 : Int32)), (.ref b19)])) (fun t k => XS.isub X71.here hx rfl (hb hby d1_46) rfl k) ?_
  have O72 := f65
  obtain ⟨c72, Ar72, S72, M72, V72⟩ := O72
  have at72 : c72.slots[((1 : Int32)).toNatClampNeg]? = some (.int w1) := own_at S72 V72 (own_ix (j := (1 : Int32)) (i := 1) (n := 6) (by decide) (by decide) (by decide)) rfl
  refine own_st (S' := T71.setTop (mkF m 48 #[.val (.ref a), .val (.ref ar), .val (.int (2 : Int32)), .val (.int (2 : Int32))] [(.int w1), (.int v58), (.int (2 : Int32)), (.ref b19)])) (fun t k => X71.iaload hx (j := (1 : Int32)) (v := (.int w1)) (by rw [e71]; exact Ar72.1) (State.isArrayOf_alike hZ.alike Ar72.2.1) Ar72.2.2 (own_in S72 (own_ix (j := (1 : Int32)) (i := 1) (n := 6) (by decide) (by decide) (by decide))) at72 (g := (mkF m 47 #[.val (.ref a), .val (.ref ar), .val (.int (2 : Int32)), .val (.int (2 : Int32))] [(.int (1 : Int32)), (.ref b2), (.int v58), (.int (2 : Int32)), (.ref b19)])) rfl rfl (hb hby d1_47) _ k) ?_
  refine own_st (S' := T71.setTop (mkF m 49 #[.val (.ref a), .val (.ref ar), .val (.int (2 : Int32)), .val (.int (2 : Int32))] [(.int (v58 + w1)), (.int (2 : Int32)), (.ref b19)])) (fun t k => XS.iadd X71.here hx rfl (hb hby d1_48) rfl k) ?_
  obtain ⟨v73, qv73⟩ : ∃ z : Int32, z = (v58 + w1) := ⟨_, rfl⟩
  show own_Go p.tables e below _ (T71.setTop (mkF m 49 #[.val (.ref a), .val (.ref ar), .val (.int (2 : Int32)), .val (.int (2 : Int32))] [(.int (v58 + w1)), (.int (2 : Int32)), (.ref b19)]))
  rw [← qv73]
  have O74 := f67
  obtain ⟨c74, Ar74, S74, M74, V74⟩ := O74
  obtain ⟨T74, h74, X74, e74, W74, st74⟩ := stI X71 hx hZ e71 Ar74 (j := (2 : Int32)) (own_in S74 (own_ix (j := (2 : Int32)) (i := 2) (n := 7) (by decide) (by decide) (by decide))) (g := (mkF m 49 #[.val (.ref a), .val (.ref ar), .val (.int (2 : Int32)), .val (.int (2 : Int32))] [(.int v73), (.int (2 : Int32)), (.ref b19)])) rfl rfl (hb hby d1_49)
  refine own_st st74 ?_
  have f75 : Exa Z h74 a "kithrank/Weights" := f60.wr W74
  have f76 : Fld Z h74 a "kithrank/Weights" "weight" "[I" (.ref b2) := f61.other W74 (Or.inl ne_a_b19)
  have f77 : Fld Z h74 a "kithrank/Weights" "tree" "[I" (.ref b19) := f62.other W74 (Or.inl ne_a_b19)
  have f78 : own_A Z h74 ar .int 6 (own_V [(.int w0), (.int w1), (.int w2), (.int w3), (.int w4), (.int w5)]) := f63.other W74 ne_ar_b19
  have f79 : Exa Z h74 ar "[I" := f64.wr W74
  have f80 : own_A Z h74 b2 .int 6 (own_V [(.int w0), (.int w1), (.int w2), (.int w3), (.int w4), (.int w5)]) := f65.other W74 ne_b2_b19
  have f81 : Exa Z h74 b2 "[I" := f66.wr W74
  have Z74 : n0 ≤ h74.size := Nat.le_trans Z59 (Keep.of_wr W74).1
  have N74 := Fr.snoc X74 N59 G_b19
  have K74 : Keep h0 h74 [a] := K59.wr W74 (Or.inr sz_b19)
  have f82 : own_A Z h74 b19 .int 7 (own_V [(.int (0 : Int32)), (.int v43), (.int v73), (.int (0 : Int32)), (.int (0 : Int32)), (.int (0 : Int32)), (.int (0 : Int32))]) := (own_A.set ⟨c74, Ar74, S74, M74, V74⟩ (own_ix (j := (2 : Int32)) (i := 2) (n := 7) (by decide) (by decide) (by decide)) W74).cong (fun j hj => by match j, hj with | 0, _ => rfl | 1, _ => rfl | 2, _ => rfl | 3, _ => rfl | 4, _ => rfl | 5, _ => rfl | 6, _ => rfl | j + 7, h => exact absurd h (by omega))
  show own_Go p.tables e below _ (T74.setTop (mkF m 50 #[.val (.ref a), .val (.ref ar), .val (.int (2 : Int32)), .val (.int (2 : Int32))] []))
  refine own_st (S' := T74.setTop (mkF m 51 #[.val (.ref a), .val (.ref ar), .val (.int (2 : Int32)), .val (.int (2 : Int32))] [(.int (2 : Int32))])) (fun t k => XS.iloadN X74.here hx rfl (hb hby d1_50) rfl k) ?_
  refine own_st (S' := T74.setTop (mkF m 52 #[.val (.ref a), .val (.ref ar), .val (.int (2 : Int32)), .val (.int (2 : Int32))] [(.int (2 : Int32)), (.int (2 : Int32))])) (fun t k => XS.iloadN X74.here hx rfl (hb hby d1_51) rfl k) ?_
  refine own_st (S' := T74.setTop (mkF m 53 #[.val (.ref a), .val (.ref ar), .val (.int (2 : Int32)), .val (.int (2 : Int32))] [(.int (2 : Int32)), (.int (2 : Int32)), (.int (2 : Int32))])) (fun t k => XS.iloadN X74.here hx rfl (hb hby d1_52) rfl k) ?_
  refine own_st (S' := T74.setTop (mkF m 54 #[.val (.ref a), .val (.ref ar), .val (.int (2 : Int32)), .val (.int (2 : Int32))] [(.int (-2 : Int32)), (.int (2 : Int32)), (.int (2 : Int32))])) (fun t k => XS.ineg X74.here hx rfl (hb hby d1_53) rfl k) ?_
  refine own_st (S' := T74.setTop (mkF m 55 #[.val (.ref a), .val (.ref ar), .val (.int (2 : Int32)), .val (.int (2 : Int32))] [(.int (2 : Int32)), (.int (2 : Int32))])) (fun t k => XS.iand X74.here hx rfl (hb hby d1_54) rfl k) ?_
  refine own_st (S' := T74.setTop (mkF m 56 #[.val (.ref a), .val (.ref ar), .val (.int (2 : Int32)), .val (.int (2 : Int32))] [(.int (4 : Int32))])) (fun t k => XS.iadd X74.here hx rfl (hb hby d1_55) rfl k) ?_
  refine own_st (S' := T74.setTop (mkF m 57 #[.val (.ref a), .val (.ref ar), .val (.int (2 : Int32)), .val (.int (4 : Int32))] [])) (fun t k => XS.istoreN X74.here hx rfl (hb hby d1_56) rfl (l' := #[.val (.ref a), .val (.ref ar), .val (.int (2 : Int32)), .val (.int (4 : Int32))]) rfl k) ?_
  refine own_st (S' := T74.setTop (mkF m 58 #[.val (.ref a), .val (.ref ar), .val (.int (2 : Int32)), .val (.int (4 : Int32))] [(.int (4 : Int32))])) (fun t k => XS.iloadN X74.here hx rfl (hb hby d1_57) rfl k) ?_
  refine own_st (S' := T74.setTop (mkF m 59 #[.val (.ref a), .val (.ref ar), .val (.int (2 : Int32)), .val (.int (4 : Int32))] [(.ref ar), (.int (4 : Int32))])) (fun t k => XS.aloadN X74.here hx rfl (hb hby d1_58) rfl rfl k) ?_
  have O83 := f78
  obtain ⟨c83, Ar83, S83, M83, V83⟩ := O83
  have ln83 : c83.slots.size.toInt32 = (6 : Int32) := by rw [S83]; first | rfl | decide | exact rfl
  refine own_st (S' := T74.setTop (mkF m 60 #[.val (.ref a), .val (.ref ar), .val (.int (2 : Int32)), .val (.int (4 : Int32))] [(.int (6 : Int32)), (.int (4 : Int32))])) (fun t k => X74.arraylength hx (by rw [e74]; exact Ar83.1) (State.isArrayOf_alike hZ.alike Ar83.2.1) (g := (mkF m 59 #[.val (.ref a), .val (.ref ar), .val (.int (2 : Int32)), .val (.int (4 : Int32))] [(.ref ar), (.int (4 : Int32))])) rfl rfl (hb hby d1_59) _ (by rw [ln83]; exact k)) ?_
  refine own_st (S' := T74.setTop (mkF m 63 #[.val (.ref a), .val (.ref ar), .val (.int (2 : Int32)), .val (.int (4 : Int32))] [])) (fun t k => XS.icmpNo X74.here hx rfl (hb hby d1_60) rfl (flt (by decide)).2.2.1 k) ?_
  show own_Go p.tables e below _ (T74.setTop (mkF m 63 #[.val (.ref a), .val (.ref ar), .val (.int (2 : Int32)), .val (.int (4 : Int32))] []))
  refine own_st (S' := T74.setTop (mkF m 64 #[.val (.ref a), .val (.ref ar), .val (.int (2 : Int32)), .val (.int (4 : Int32))] [(.ref a)])) (fun t k => XS.aloadN X74.here hx rfl (hb hby d1_63) rfl rfl k) ?_
  obtain ⟨T84, X84, e84, st84⟩ := getF X74 hx hZ hown (host := "") (Or.inl (hw _ (List.mem_of_getElem? (i := 22) rfl))) Via.refl e74 f77 (g := (mkF m 64 #[.val (.ref a), .val (.ref ar), .val (.int (2 : Int32)), .val (.int (4 : Int32))] [(.ref a)])) rfl rfl (hb hby d1_64)
  refine own_st st84 ?_
  show own_Go p.tables e below _ (T84.setTop (mkF m 67 #[.val (.ref a), .val (.ref ar), .val (.int (2 : Int32)), .val (.int (4 : Int32))] [(.ref b19)]))
  refine own_st (S' := T84.setTop (mkF m 68 #[.val (.ref a), .val (.ref ar), .val (.int (2 : Int32)), .val (.int (4 : Int32))] [(.int (4 : Int32)), (.ref b19)])) (fun t k => XS.iloadN X84.here hx rfl (hb hby d1_67) rfl k) ?_
  refine own_st (S' := T84.setTop (mkF m 69 #[.val (.ref a), .val (.ref ar), .val (.int (2 : Int32)), .val (.int (4 : Int32))] [(.int (4 : Int32)), (.ref b19), (.int (4 : Int32)), (.ref b19)])) (fun t k => Jvm.Free.XT.dup2 X84.here hx rfl (hb hby d1_68) rfl rfl rfl k) ?_
  have O85 := f82
  obtain ⟨c85, Ar85, S85, M85, V85⟩ := O85
  have at85 : c85.slots[((4 : Int32)).toNatClampNeg]? = some (.int (0 : Int32)) := own_at S85 V85 (own_ix (j := (4 : Int32)) (i := 4) (n := 7) (by decide) (by decide) (by decide)) rfl
  refine own_st (S' := T84.setTop (mkF m 70 #[.val (.ref a), .val (.ref ar), .val (.int (2 : Int32)), .val (.int (4 : Int32))] [(.int (0 : Int32)), (.int (4 : Int32)), (.ref b19)])) (fun t k => X84.iaload hx (j := (4 : Int32)) (v := (.int (0 : Int32))) (by rw [e84]; exact Ar85.1) (State.isArrayOf_alike hZ.alike Ar85.2.1) Ar85.2.2 (own_in S85 (own_ix (j := (4 : Int32)) (i := 4) (n := 7) (by decide) (by decide) (by decide))) at85 (g := (mkF m 69 #[.val (.ref a), .val (.ref ar), .val (.int (2 : Int32)), .val (.int (4 : Int32))] [(.int (4 : Int32)), (.ref b19), (.int (4 : Int32)), (.ref b19)])) rfl rfl (hb hby d1_69) _ k) ?_
  refine own_st (S' := T84.setTop (mkF m 71 #[.val (.ref a), .val (.ref ar), .val (.int (2 : Int32)), .val (.int (4 : Int32))] [(.ref a), (.int (0 : Int32)), (.int (4 : Int32)), (.ref b19)])) (fun t k => XS.aloadN X84.here hx rfl (hb hby d1_70) rfl rfl k) ?_
  obtain ⟨T86, X86, e86, st86⟩ := getF X84 hx hZ hown (host := "") (Or.inl (hw _ (List.mem_of_getElem? (i := 22) rfl))) Via.refl e84 f77 (g := (mkF m 71 #[.val (.ref a), .val (.ref ar), .val (.int (2 : Int32)), .val (.int (4 : Int32))] [(.ref a), (.int (0 : Int32)), (.int (4 : Int32)), (.ref b19)])) rfl rfl (hb hby d1_71)
  refine own_st st86 ?_
  show own_Go p.tables e below _ (T86.setTop (mkF m 74 #[.val (.ref a), .val (.ref ar), .val (.int (2 : Int32)), .val (.int (4 : Int32))] [(.ref b19), (.int (0 : Int32)), (.int (4 : Int32)), (.ref b19)]))
  refine own_st (S' := T86.setTop (mkF m 75 #[.val (.ref a), .val (.ref ar), .val (.int (2 : Int32)), .val (.int (4 : Int32))] [(.int (2 : Int32)), (.ref b19), (.int (0 : Int32)), (.int (4 : Int32)), (.ref b19)])) (fun t k => XS.iloadN X86.here hx rfl (hb hby d1_74) rfl k) ?_
  have O87 := f82
  obtain ⟨c87, Ar87, S87, M87, V87⟩ := O87
  have at87 : c87.slots[((2 : Int32)).toNatClampNeg]? = some (.int v73) := own_at S87 V87 (own_ix (j := (2 : Int32)) (i := 2) (n := 7) (by decide) (by decide) (by decide)) rfl
  refine own_st (S' := T86.setTop (mkF m 76 #[.val (.ref a), .val (.ref ar), .val (.int (2 : Int32)), .val (.int (4 : Int32))] [(.int v73), (.int (0 : Int32)), (.int (4 : Int32)), (.ref b19)])) (fun t k => X86.iaload hx (j := (2 : Int32)) (v := (.int v73)) (by rw [e86]; exact Ar87.1) (State.isArrayOf_alike hZ.alike Ar87.2.1) Ar87.2.2 (own_in S87 (own_ix (j := (2 : Int32)) (i := 2) (n := 7) (by decide) (by decide) (by decide))) at87 (g := (mkF m 75 #[.val (.ref a), .val (.ref ar), .val (.int (2 : Int32)), .val (.int (4 : Int32))] [(.int (2 : Int32)), (.ref b19), (.int (0 : Int32)), (.int (4 : Int32)), (.ref b19)])) rfl rfl (hb hby d1_75) _ k) ?_
  refine own_st (S' := T86.setTop (mkF m 77 #[.val (.ref a), .val (.ref ar), .val (.int (2 : Int32)), .val (.int (4 : Int32))] [(.int ((0 : Int32) + v73)), (.int (4 : Int32)), (.ref b19)])) (fun t k => XS.iadd X86.here hx rfl (hb hby d1_76) rfl k) ?_
  obtain ⟨v88, qv88⟩ : ∃ z : Int32, z = ((0 : Int32) + v73) := ⟨_, rfl⟩
  show own_Go p.tables e below _ (T86.setTop (mkF m 77 #[.val (.ref a), .val (.ref ar), .val (.int (2 : Int32)), .val (.int (4 : Int32))] [(.int ((0 : Int32) + v73)), (.int (4 : Int32)), (.ref b19)]))
  rw [← qv88]
  have O89 := f82
  obtain ⟨c89, Ar89, S89, M89, V89⟩ := O89
  obtain ⟨T89, h89, X89, e89, W89, st89⟩ := stI X86 hx hZ e86 Ar89 (j := (4 : Int32)) (own_in S89 (own_ix (j := (4 : Int32)) (i := 4) (n := 7) (by decide) (by decide) (by decide))) (g := (mkF m 77 #[.val (.ref a), .val (.ref ar), .val (.int (2 : Int32)), .val (.int (4 : Int32))] [(.int v88), (.int (4 : Int32)), (.ref b19)])) rfl rfl (hb hby d1_77)
  refine own_st st89 ?_
  have f90 : Exa Z h89 a "kithrank/Weights" := f75.wr W89
  have f91 : Fld Z h89 a "kithrank/Weights" "weight" "[I" (.ref b2) := f76.other W89 (Or.inl ne_a_b19)
  have f92 : Fld Z h89 a "kithrank/Weights" "tree" "[I" (.ref b19) := f77.other W89 (Or.inl ne_a_b19)
  have f93 : own_A Z h89 ar .int 6 (own_V [(.int w0), (.int w1), (.int w2), (.int w3), (.int w4), (.int w5)]) := f78.other W89 ne_ar_b19
  have f94 : Exa Z h89 ar "[I" := f79.wr W89
  have f95 : own_A Z h89 b2 .int 6 (own_V [(.int w0), (.int w1), (.int w2), (.int w3), (.int w4), (.int w5)]) := f80.other W89 ne_b2_b19
  have f96 : Exa Z h89 b2 "[I" := f81.wr W89
  have Z89 : n0 ≤ h89.size := Nat.le_trans Z74 (Keep.of_wr W89).1
  have N89 := Fr.snoc X89 N74 G_b19
  have K89 : Keep h0 h89 [a] := K74.wr W89 (Or.inr sz_b19)
  have f97 : own_A Z h89 b19 .int 7 (own_V [(.int (0 : Int32)), (.int v43), (.int v73), (.int (0 : Int32)), (.int v88), (.int (0 : Int32)), (.int (0 : Int32))]) := (own_A.set ⟨c89, Ar89, S89, M89, V89⟩ (own_ix (j := (4 : Int32)) (i := 4) (n := 7) (by decide) (by decide) (by decide)) W89).cong (fun j hj => by match j, hj with | 0, _ => rfl | 1, _ => rfl | 2, _ => rfl | 3, _ => rfl | 4, _ => rfl | 5, _ => rfl | 6, _ => rfl | j + 7, h => exact absurd h (by omega))
  show own_Go p.tables e below _ (T89.setTop (mkF m 78 #[.val (.ref a), .val (.ref ar), .val (.int (2 : Int32)), .val (.int (4 : Int32))] []))
  refine own_st (S' := T89.setTop (mkF m 81 #[.val (.ref a), .val (.ref ar), .val (.int (3 : Int32)), .val (.int (4 : Int32))] [])) (fun t k => XS.iinc X89.here hx rfl (hb hby d1_78) rfl (l' := #[.val (.ref a), .val (.ref ar), .val (.int (3 : Int32)), .val (.int (4 : Int32))]) rfl k) ?_
  refine own_st (S' := T89.setTop (mkF m 27 #[.val (.ref a), .val (.ref ar), .val (.int (3 : Int32)), .val (.int (4 : Int32))] [])) (fun t k => XS.goto X89.here hx rfl (pc0 := 81) (pc' := 27) rfl (hb hby d1_81) (by decide) (by decide) k) ?_
  refine own_st (S' := T89.setTop (mkF m 28 #[.val (.ref a), .val (.ref ar), .val (.int (3 : Int32)), .val (.int (4 : Int32))] [(.int (3 : Int32))])) (fun t k => XS.iloadN X89.here hx rfl (hb hby d1_27) rfl k) ?_
  refine own_st (S' := T89.setTop (mkF m 29 #[.val (.ref a), .val (.ref ar), .val (.int (3 : Int32)), .val (.int (4 : Int32))] [(.ref ar), (.int (3 : Int32))])) (fun t k => XS.aloadN X89.here hx rfl (hb hby d1_28) rfl rfl k) ?_
  have O98 := f93
  obtain ⟨c98, Ar98, S98, M98, V98⟩ := O98
  have ln98 : c98.slots.size.toInt32 = (6 : Int32) := by rw [S98]; first | rfl | decide | exact rfl
  refine own_st (S' := T89.setTop (mkF m 30 #[.val (.ref a), .val (.ref ar), .val (.int (3 : Int32)), .val (.int (4 : Int32))] [(.int (6 : Int32)), (.int (3 : Int32))])) (fun t k => X89.arraylength hx (by rw [e89]; exact Ar98.1) (State.isArrayOf_alike hZ.alike Ar98.2.1) (g := (mkF m 29 #[.val (.ref a), .val (.ref ar), .val (.int (3 : Int32)), .val (.int (4 : Int32))] [(.ref ar), (.int (3 : Int32))])) rfl rfl (hb hby d1_29) _ (by rw [ln98]; exact k)) ?_
  refine own_st (S' := T89.setTop (mkF m 33 #[.val (.ref a), .val (.ref ar), .val (.int (3 : Int32)), .val (.int (4 : Int32))] [])) (fun t k => XS.icmpNo X89.here hx rfl (hb hby d1_30) rfl (flt (by decide)).2.2.1 k) ?_
  show own_Go p.tables e below _ (T89.setTop (mkF m 33 #[.val (.ref a), .val (.ref ar), .val (.int (3 : Int32)), .val (.int (4 : Int32))] []))
  refine own_st (S' := T89.setTop (mkF m 34 #[.val (.ref a), .val (.ref ar), .val (.int (3 : Int32)), .val (.int (4 : Int32))] [(.ref a)])) (fun t k => XS.aloadN X89.here hx rfl (hb hby d1_33) rfl rfl k) ?_
  obtain ⟨T99, X99, e99, st99⟩ := getF X89 hx hZ hown (host := "") (Or.inl (hw _ (List.mem_of_getElem? (i := 22) rfl))) Via.refl e89 f92 (g := (mkF m 34 #[.val (.ref a), .val (.ref ar), .val (.int (3 : Int32)), .val (.int (4 : Int32))] [(.ref a)])) rfl rfl (hb hby d1_34)
  refine own_st st99 ?_
  show own_Go p.tables e below _ (T99.setTop (mkF m 37 #[.val (.ref a), .val (.ref ar), .val (.int (3 : Int32)), .val (.int (4 : Int32))] [(.ref b19)]))
  refine own_st (S' := T99.setTop (mkF m 38 #[.val (.ref a), .val (.ref ar), .val (.int (3 : Int32)), .val (.int (4 : Int32))] [(.int (3 : Int32)), (.ref b19)])) (fun t k => XS.iloadN X99.here hx rfl (hb hby d1_37) rfl k) ?_
  refine own_st (S' := T99.setTop (mkF m 39 #[.val (.ref a), .val (.ref ar), .val (.int (3 : Int32)), .val (.int (4 : Int32))] [(.int (3 : Int32)), (.ref b19), (.int (3 : Int32)), (.ref b19)])) (fun t k => Jvm.Free.XT.dup2 X99.here hx rfl (hb hby d1_38) rfl rfl rfl k) ?_
  have O100 := f97
  obtain ⟨c100, Ar100, S100, M100, V100⟩ := O100
  have at100 : c100.slots[((3 : Int32)).toNatClampNeg]? = some (.int (0 : Int32)) := own_at S100 V100 (own_ix (j := (3 : Int32)) (i := 3) (n := 7) (by decide) (by decide) (by decide)) rfl
  refine own_st (S' := T99.setTop (mkF m 40 #[.val (.ref a), .val (.ref ar), .val (.int (3 : Int32)), .val (.int (4 : Int32))] [(.int (0 : Int32)), (.int (3 : Int32)), (.ref b19)])) (fun t k => X99.iaload hx (j := (3 : Int32)) (v := (.int (0 : Int32))) (by rw [e99]; exact Ar100.1) (State.isArrayOf_alike hZ.alike Ar100.2.1) Ar100.2.2 (own_in S100 (own_ix (j := (3 : Int32)) (i := 3) (n := 7) (by decide) (by decide) (by decide))) at100 (g := (mkF m 39 #[.val (.ref a), .val (.ref ar), .val (.int (3 : Int32)), .val (.int (4 : Int32))] [(.int (3 : Int32)), (.ref b19), (.int (3 : Int32)), (.ref b19)])) rfl rfl (hb hby d1_39) _ k) ?_
  refine own_st (S' := T99.setTop (mkF m 41 #[.val (.ref a), .val (.ref ar), .val (.int (3 : Int32)), .val (.int (4 : Int32))] [(.ref a), (.int (0 : Int32)), (.int (3 : Int32)), (.ref b19)])) (fun t k => XS.aloadN X99.here hx rfl (hb hby d1_40) rfl rfl k) ?_
  obtain ⟨T101, X101, e101, st101⟩ := getF X99 hx hZ hown (host := "") (Or.inl (hw _ (List.mem_of_getElem? (i := 20) rfl))) Via.refl e99 f91 (g := (mkF m 41 #[.val (.ref a), .val (.ref ar), .val (.int (3 : Int32)), .val (.int (4 : Int32))] [(.ref a), (.int (0 : Int32)), (.int (3 : Int32)), (.ref b19)])) rfl rfl (hb hby d1_41)
  refine own_st st101 ?_
  show own_Go p.tables e below _ (T101.setTop (mkF m 44 #[.val (.ref a), .val (.ref ar), .val (.int (3 : Int32)), .val (.int (4 : Int32))] [(.ref b2), (.int (0 : Int32)), (.int (3 : Int32)), (.ref b19)]))
  refine own_st (S' := T101.setTop (mkF m 45 #[.val (.ref a), .val (.ref ar), .val (.int (3 : Int32)), .val (.int (4 : Int32))] [(.int (3 : Int32)), (.ref b2), (.int (0 : Int32)), (.int (3 : Int32)), (.ref b19)])) (fun t k => XS.iloadN X101.here hx rfl (hb hby d1_44) rfl k) ?_
  refine own_st (S' := T101.setTop (mkF m 46 #[.val (.ref a), .val (.ref ar), .val (.int (3 : Int32)), .val (.int (4 : Int32))] [(.int (1 : Int32)), (.int (3 : Int32)), (.ref b2), (.int (0 : Int32)), (.int (3 : Int32)), (.ref b19)])) (fun t k => XS.iconst X101.here hx rfl (hb hby d1_45) k) ?_
  refine own_st (S' := T101.setTop (mkF m 47 #[.val (.ref a), .val (.ref ar), .val (.int (3 : Int32)), .val (.int (4 : Int32))] [(.int (2 : Int32)), (.ref b2), (.int (0 : Int32)), (.int (3 : Int32)), (.ref b19)])) (fun t k => XS.isub X101.here hx rfl (hb hby d1_46) rfl k) ?_
  have O102 := f95
  obtain ⟨c102, Ar102, S102, M102, V102⟩ := O102
  have at102 : c102.slots[((2 : Int32)).toNatClampNeg]? = some (.int w2) := own_at S102 V102 (own_ix (j := (2 : Int32)) (i := 2) (n := 6) (by decide) (by decide) (by decide)) rfl
  refine own_st (S' := T101.setTop (mkF m 48 #[.val (.ref a), .val (.ref ar), .val (.int (3 : Int32)), .val (.int (4 : Int32))] [(.int w2), (.int (0 : Int32)), (.int (3 : Int32)), (.ref b19)])) (fun t k => X101.iaload hx (j := (2 : Int32)) (v := (.int w2)) (by rw [e101]; exact Ar102.1) (State.isArrayOf_alike hZ.alike Ar102.2.1) Ar102.2.2 (own_in S102 (own_ix (j := (2 : Int32)) (i := 2) (n := 6) (by decide) (by decide) (by decide))) at102 (g := (mkF m 47 #[.val (.ref a), .val (.ref ar), .val (.int (3 : Int32)), .val (.int (4 : Int32))] [(.int (2 : Int32)), (.ref b2), (.int (0 : Int32)), (.int (3 : Int32)), (.ref b19)])) rfl rfl (hb hby d1_47) _ k) ?_
  refine own_st (S' := T101.setTop (mkF m 49 #[.val (.ref a), .val (.ref ar), .val (.int (3 : Int32)), .val (.int (4 : Int32))] [(.int ((0 : Int32) + w2)), (.int (3 : Int32)), (.ref b19)])) (fun t k => XS.iadd X101.here hx rfl (hb hby d1_48) rfl k) ?_
  obtain ⟨v103, qv103⟩ : ∃ z : Int32, z = ((0 : Int32) + w2) := ⟨_, rfl⟩
  show own_Go p.tables e below _ (T101.setTop (mkF m 49 #[.val (.ref a), .val (.ref ar), .val (.int (3 : Int32)), .val (.int (4 : Int32))] [(.int ((0 : Int32) + w2)), (.int (3 : Int32)), (.ref b19)]))
  rw [← qv103]
  have O104 := f97
  obtain ⟨c104, Ar104, S104, M104, V104⟩ := O104
  obtain ⟨T104, h104, X104, e104, W104, st104⟩ := stI X101 hx hZ e101 Ar104 (j := (3 : Int32)) (own_in S104 (own_ix (j := (3 : Int32)) (i := 3) (n := 7) (by decide) (by decide) (by decide))) (g := (mkF m 49 #[.val (.ref a), .val (.ref ar), .val (.int (3 : Int32)), .val (.int (4 : Int32))] [(.int v103), (.int (3 : Int32)), (.ref b19)])) rfl rfl (hb hby d1_49)
  refine own_st st104 ?_
  have f105 : Exa Z h104 a "kithrank/Weights" := f90.wr W104
  have f106 : Fld Z h104 a "kithrank/Weights" "weight" "[I" (.ref b2) := f91.other W104 (Or.inl ne_a_b19)
  have f107 : Fld Z h104 a "kithrank/Weights" "tree" "[I" (.ref b19) := f92.other W104 (Or.inl ne_a_b19)
  have f108 : own_A Z h104 ar .int 6 (own_V [(.int w0), (.int w1), (.int w2), (.int w3), (.int w4), (.int w5)]) := f93.other W104 ne_ar_b19
  have f109 : Exa Z h104 ar "[I" := f94.wr W104
  have f110 : own_A Z h104 b2 .int 6 (own_V [(.int w0), (.int w1), (.int w2), (.int w3), (.int w4), (.int w5)]) := f95.other W104 ne_b2_b19
  have f111 : Exa Z h104 b2 "[I" := f96.wr W104
  have Z104 : n0 ≤ h104.size := Nat.le_trans Z89 (Keep.of_wr W104).1
  have N104 := Fr.snoc X104 N89 G_b19
  have K104 : Keep h0 h104 [a] := K89.wr W104 (Or.inr sz_b19)
  have f112 : own_A Z h104 b19 .int 7 (own_V [(.int (0 : Int32)), (.int v43), (.int v73), (.int v103), (.int v88), (.int (0 : Int32)), (.int (0 : Int32))]) := (own_A.set ⟨c104, Ar104, S104, M104, V104⟩ (own_ix (j := (3 : Int32)) (i := 3) (n := 7) (by decide) (by decide) (by decide)) W104).cong (fun j hj => by match j, hj with | 0, _ => rfl | 1, _ => rfl | 2, _ => rfl | 3, _ => rfl | 4, _ => rfl | 5, _ => rfl | 6, _ => rfl | j + 7, h => exact absurd h (by omega))
  show own_Go p.tables e below _ (T104.setTop (mkF m 50 #[.val (.ref a), .val (.ref ar), .val (.int (3 : Int32)), .val (.int (4 : Int32))] []))
  refine own_st (S' := T104.setTop (mkF m 51 #[.val (.ref a), .val (.ref ar), .val (.int (3 : Int32)), .val (.int (4 : Int32))] [(.int (3 : Int32))])) (fun t k => XS.iloadN X104.here hx rfl (hb hby d1_50) rfl k) ?_
  refine own_st (S' := T104.setTop (mkF m 52 #[.val (.ref a), .val (.ref ar), .val (.int (3 : Int32)), .val (.int (4 : Int32))] [(.int (3 : Int32)), (.int (3 : Int32))])) (fun t k => XS.iloadN X104.here hx rfl (hb hby d1_51) rfl k) ?_
  refine own_st (S' := T104.setTop (mkF m 53 #[.val (.ref a), .val (.ref ar), .val (.int (3 : Int32)), .val (.int (4 : Int32))] [(.int (3 : Int32)), (.int (3 : Int32)), (.int (3 : Int32))])) (fun t k => XS.iloadN X104.here hx rfl (hb hby d1_52) rfl k) ?_
  refine own_st (S' := T104.setTop (mkF m 54 #[.val (.ref a), .val (.ref ar), .val (.int (3 : Int32)), .val (.int (4 : Int32))] [(.int (-3 : Int32)), (.int (3 : Int32)), (.int (3 : Int32))])) (fun t k => XS.ineg X104.here hx rfl (hb hby d1_53) rfl k) ?_
  refine own_st (S' := T104.setTop (mkF m 55 #[.val (.ref a), .val (.ref ar), .val (.int (3 : Int32)), .val (.int (4 : Int32))] [(.int (1 : Int32)), (.int (3 : Int32))])) (fun t k => XS.iand X104.here hx rfl (hb hby d1_54) rfl k) ?_
  refine own_st (S' := T104.setTop (mkF m 56 #[.val (.ref a), .val (.ref ar), .val (.int (3 : Int32)), .val (.int (4 : Int32))] [(.int (4 : Int32))])) (fun t k => XS.iadd X104.here hx rfl (hb hby d1_55) rfl k) ?_
  refine own_st (S' := T104.setTop (mkF m 57 #[.val (.ref a), .val (.ref ar), .val (.int (3 : Int32)), .val (.int (4 : Int32))] [])) (fun t k => XS.istoreN X104.here hx rfl (hb hby d1_56) rfl (l' := #[.val (.ref a), .val (.ref ar), .val (.int (3 : Int32)), .val (.int (4 : Int32))]) rfl k) ?_
  refine own_st (S' := T104.setTop (mkF m 58 #[.val (.ref a), .val (.ref ar), .val (.int (3 : Int32)), .val (.int (4 : Int32))] [(.int (4 : Int32))])) (fun t k => XS.iloadN X104.here hx rfl (hb hby d1_57) rfl k) ?_
  refine own_st (S' := T104.setTop (mkF m 59 #[.val (.ref a), .val (.ref ar), .val (.int (3 : Int32)), .val (.int (4 : Int32))] [(.ref ar), (.int (4 : Int32))])) (fun t k => XS.aloadN X104.here hx rfl (hb hby d1_58) rfl rfl k) ?_
  have O113 := f108
  obtain ⟨c113, Ar113, S113, M113, V113⟩ := O113
  have ln113 : c113.slots.size.toInt32 = (6 : Int32) := by rw [S113]; first | rfl | decide | exact rfl
  refine own_st (S' := T104.setTop (mkF m 60 #[.val (.ref a), .val (.ref ar), .val (.int (3 : Int32)), .val (.int (4 : Int32))] [(.int (6 : Int32)), (.int (4 : Int32))])) (fun t k => X104.arraylength hx (by rw [e104]; exact Ar113.1) (State.isArrayOf_alike hZ.alike Ar113.2.1) (g := (mkF m 59 #[.val (.ref a), .val (.ref ar), .val (.int (3 : Int32)), .val (.int (4 : Int32))] [(.ref ar), (.int (4 : Int32))])) rfl rfl (hb hby d1_59) _ (by rw [ln113]; exact k)) ?_
  refine own_st (S' := T104.setTop (mkF m 63 #[.val (.ref a), .val (.ref ar), .val (.int (3 : Int32)), .val (.int (4 : Int32))] [])) (fun t k => XS.icmpNo X104.here hx rfl (hb hby d1_60) rfl (flt (by decide)).2.2.1 k) ?_
  show own_Go p.tables e below _ (T104.setTop (mkF m 63 #[.val (.ref a), .val (.ref ar), .val (.int (3 : Int32)), .val (.int (4 : Int32))] []))
  refine own_st (S' := T104.setTop (mkF m 64 #[.val (.ref a), .val (.ref ar), .val (.int (3 : Int32)), .val (.int (4 : Int32))] [(.ref a)])) (fun t k => XS.aloadN X104.here hx rfl (hb hby d1_63) rfl rfl k) ?_
  obtain ⟨T114, X114, e114, st114⟩ := getF X104 hx hZ hown (host := "") (Or.inl (hw _ (List.mem_of_getElem? (i := 22) rfl))) Via.refl e104 f107 (g := (mkF m 64 #[.val (.ref a), .val (.ref ar), .val (.int (3 : Int32)), .val (.int (4 : Int32))] [(.ref a)])) rfl rfl (hb hby d1_64)
  refine own_st st114 ?_
  show own_Go p.tables e below _ (T114.setTop (mkF m 67 #[.val (.ref a), .val (.ref ar), .val (.int (3 : Int32)), .val (.int (4 : Int32))] [(.ref b19)]))
  refine own_st (S' := T114.setTop (mkF m 68 #[.val (.ref a), .val (.ref ar), .val (.int (3 : Int32)), .val (.int (4 : Int32))] [(.int (4 : Int32)), (.ref b19)])) (fun t k => XS.iloadN X114.here hx rfl (hb hby d1_67) rfl k) ?_
  refine own_st (S' := T114.setTop (mkF m 69 #[.val (.ref a), .val (.ref ar), .val (.int (3 : Int32)), .val (.int (4 : Int32))] [(.int (4 : Int32)), (.ref b19), (.int (4 : Int32)), (.ref b19)])) (fun t k => Jvm.Free.XT.dup2 X114.here hx rfl (hb hby d1_68) rfl rfl rfl k) ?_
  have O115 := f112
  obtain ⟨c115, Ar115, S115, M115, V115⟩ := O115
  have at115 : c115.slots[((4 : Int32)).toNatClampNeg]? = some (.int v88) := own_at S115 V115 (own_ix (j := (4 : Int32)) (i := 4) (n := 7) (by decide) (by decide) (by decide)) rfl
  refine own_st (S' := T114.setTop (mkF m 70 #[.val (.ref a), .val (.ref ar), .val (.int (3 : Int32)), .val (.int (4 : Int32))] [(.int v88), (.int (4 : Int32)), (.ref b19)])) (fun t k => X114.iaload hx (j := (4 : Int32)) (v := (.int v88)) (by rw [e114]; exact Ar115.1) (State.isArrayOf_alike hZ.alike Ar115.2.1) Ar115.2.2 (own_in S115 (own_ix (j := (4 : Int32)) (i := 4) (n := 7) (by decide) (by decide) (by decide))) at115 (g := (mkF m 69 #[.val (.ref a), .val (.ref ar), .val (.int (3 : Int32)), .val (.int (4 : Int32))] [(.int (4 : Int32)), (.ref b19), (.int (4 : Int32)), (.ref b19)])) rfl rfl (hb hby d1_69) _ k) ?_
  refine own_st (S' := T114.setTop (mkF m 71 #[.val (.ref a), .val (.ref ar), .val (.int (3 : Int32)), .val (.int (4 : Int32))] [(.ref a), (.int v88), (.int (4 : Int32)), (.ref b19)])) (fun t k => XS.aloadN X114.here hx rfl (hb hby d1_70) rfl rfl k) ?_
  obtain ⟨T116, X116, e116, st116⟩ := getF X114 hx hZ hown (host := "") (Or.inl (hw _ (List.mem_of_getElem? (i := 22) rfl))) Via.refl e114 f107 (g := (mkF m 71 #[.val (.ref a), .val (.ref ar), .val (.int (3 : Int32)), .val (.int (4 : Int32))] [(.ref a), (.int v88), (.int (4 : Int32)), (.ref b19)])) rfl rfl (hb hby d1_71)
  refine own_st st116 ?_
  show own_Go p.tables e below _ (T116.setTop (mkF m 74 #[.val (.ref a), .val (.ref ar), .val (.int (3 : Int32)), .val (.int (4 : Int32))] [(.ref b19), (.int v88), (.int (4 : Int32)), (.ref b19)]))
  refine own_st (S' := T116.setTop (mkF m 75 #[.val (.ref a), .val (.ref ar), .val (.int (3 : Int32)), .val (.int (4 : Int32))] [(.int (3 : Int32)), (.ref b19), (.int v88), (.int (4 : Int32)), (.ref b19)])) (fun t k => XS.iloadN X116.here hx rfl (hb hby d1_74) rfl k) ?_
  have O117 := f112
  obtain ⟨c117, Ar117, S117, M117, V117⟩ := O117
  have at117 : c117.slots[((3 : Int32)).toNatClampNeg]? = some (.int v103) := own_at S117 V117 (own_ix (j := (3 : Int32)) (i := 3) (n := 7) (by decide) (by decide) (by decide)) rfl
  refine own_st (S' := T116.setTop (mkF m 76 #[.val (.ref a), .val (.ref ar), .val (.int (3 : Int32)), .val (.int (4 : Int32))] [(.int v103), (.int v88), (.int (4 : Int32)), (.ref b19)])) (fun t k => X116.iaload hx (j := (3 : Int32)) (v := (.int v103)) (by rw [e116]; exact Ar117.1) (State.isArrayOf_alike hZ.alike Ar117.2.1) Ar117.2.2 (own_in S117 (own_ix (j := (3 : Int32)) (i := 3) (n := 7) (by decide) (by decide) (by decide))) at117 (g := (mkF m 75 #[.val (.ref a), .val (.ref ar), .val (.int (3 : Int32)), .val (.int (4 : Int32))] [(.int (3 : Int32)), (.ref b19), (.int v88), (.int (4 : Int32)), (.ref b19)])) rfl rfl (hb hby d1_75) _ k) ?_
  refine own_st (S' := T116.setTop (mkF m 77 #[.val (.ref a), .val (.ref ar), .val (.int (3 : Int32)), .val (.int (4 : Int32))] [(.int (v88 + v103)), (.int (4 : Int32)), (.ref b19)])) (fun t k => XS.iadd X116.here hx rfl (hb hby d1_76) rfl k) ?_
  obtain ⟨v118, qv118⟩ : ∃ z : Int32, z = (v88 + v103) := ⟨_, rfl⟩
  show own_Go p.tables e below _ (T116.setTop (mkF m 77 #[.val (.ref a), .val (.ref ar), .val (.int (3 : Int32)), .val (.int (4 : Int32))] [(.int (v88 + v103)), (.int (4 : Int32)), (.ref b19)]))
  rw [← qv118]
  have O119 := f112
  obtain ⟨c119, Ar119, S119, M119, V119⟩ := O119
  obtain ⟨T119, h119, X119, e119, W119, st119⟩ := stI X116 hx hZ e116 Ar119 (j := (4 : Int32)) (own_in S119 (own_ix (j := (4 : Int32)) (i := 4) (n := 7) (by decide) (by decide) (by decide))) (g := (mkF m 77 #[.val (.ref a), .val (.ref ar), .val (.int (3 : Int32)), .val (.int (4 : Int32))] [(.int v118), (.int (4 : Int32)), (.ref b19)])) rfl rfl (hb hby d1_77)
  refine own_st st119 ?_
  have f120 : Exa Z h119 a "kithrank/Weights" := f105.wr W119
  have f121 : Fld Z h119 a "kithrank/Weights" "weight" "[I" (.ref b2) := f106.other W119 (Or.inl ne_a_b19)
  have f122 : Fld Z h119 a "kithrank/Weights" "tree" "[I" (.ref b19) := f107.other W119 (Or.inl ne_a_b19)
  have f123 : own_A Z h119 ar .int 6 (own_V [(.int w0), (.int w1), (.int w2), (.int w3), (.int w4), (.int w5)]) := f108.other W119 ne_ar_b19
  have f124 : Exa Z h119 ar "[I" := f109.wr W119
  have f125 : own_A Z h119 b2 .int 6 (own_V [(.int w0), (.int w1), (.int w2), (.int w3), (.int w4), (.int w5)]) := f110.other W119 ne_b2_b19
  have f126 : Exa Z h119 b2 "[I" := f111.wr W119
  have Z119 : n0 ≤ h119.size := Nat.le_trans Z104 (Keep.of_wr W119).1
  have N119 := Fr.snoc X119 N104 G_b19
  have K119 : Keep h0 h119 [a] := K104.wr W119 (Or.inr sz_b19)
  have f127 : own_A Z h119 b19 .int 7 (own_V [(.int (0 : Int32)), (.int v43), (.int v73), (.int v103), (.int v118), (.int (0 : Int32)), (.int (0 : Int32))]) := (own_A.set ⟨c119, Ar119, S119, M119, V119⟩ (own_ix (j := (4 : Int32)) (i := 4) (n := 7) (by decide) (by decide) (by decide)) W119).cong (fun j hj => by match j, hj with | 0, _ => rfl | 1, _ => rfl | 2, _ => rfl | 3, _ => rfl | 4, _ => rfl | 5, _ => rfl | 6, _ => rfl | j + 7, h => exact absurd h (by omega))
  show own_Go p.tables e below _ (T119.setTop (mkF m 78 #[.val (.ref a), .val (.ref ar), .val (.int (3 : Int32)), .val (.int (4 : Int32))] []))
  refine own_st (S' := T119.setTop (mkF m 81 #[.val (.ref a), .val (.ref ar), .val (.int (4 : Int32)), .val (.int (4 : Int32))] [])) (fun t k => XS.iinc X119.here hx rfl (hb hby d1_78) rfl (l' := #[.val (.ref a), .val (.ref ar), .val (.int (4 : Int32)), .val (.int (4 : Int32))]) rfl k) ?_
  refine own_st (S' := T119.setTop (mkF m 27 #[.val (.ref a), .val (.ref ar), .val (.int (4 : Int32)), .val (.int (4 : Int32))] [])) (fun t k => XS.goto X119.here hx rfl (pc0 := 81) (pc' := 27) rfl (hb hby d1_81) (by decide) (by decide) k) ?_
  refine own_st (S' := T119.setTop (mkF m 28 #[.val (.ref a), .val (.ref ar), .val (.int (4 : Int32)), .val (.int (4 : Int32))] [(.int (4 : Int32))])) (fun t k => XS.iloadN X119.here hx rfl (hb hby d1_27) rfl k) ?_
  refine own_st (S' := T119.setTop (mkF m 29 #[.val (.ref a), .val (.ref ar), .val (.int (4 : Int32)), .val (.int (4 : Int32))] [(.ref ar), (.int (4 : Int32))])) (fun t k => XS.aloadN X119.here hx rfl (hb hby d1_28) rfl rfl k) ?_
  have O128 := f123
  obtain ⟨c128, Ar128, S128, M128, V128⟩ := O128
  have ln128 : c128.slots.size.toInt32 = (6 : Int32) := by rw [S128]; first | rfl | decide | exact rfl
  refine own_st (S' := T119.setTop (mkF m 30 #[.val (.ref a), .val (.ref ar), .val (.int (4 : Int32)), .val (.int (4 : Int32))] [(.int (6 : Int32)), (.int (4 : Int32))])) (fun t k => X119.arraylength hx (by rw [e119]; exact Ar128.1) (State.isArrayOf_alike hZ.alike Ar128.2.1) (g := (mkF m 29 #[.val (.ref a), .val (.ref ar), .val (.int (4 : Int32)), .val (.int (4 : Int32))] [(.ref ar), (.int (4 : Int32))])) rfl rfl (hb hby d1_29) _ (by rw [ln128]; exact k)) ?_
  refine own_st (S' := T119.setTop (mkF m 33 #[.val (.ref a), .val (.ref ar), .val (.int (4 : Int32)), .val (.int (4 : Int32))] [])) (fun t k => XS.icmpNo X119.here hx rfl (hb hby d1_30) rfl (flt (by decide)).2.2.1 k) ?_
  show own_Go p.tables e below _ (T119.setTop (mkF m 33 #[.val (.ref a), .val (.ref ar), .val (.int (4 : Int32)), .val (.int (4 : Int32))] []))
  refine own_st (S' := T119.setTop (mkF m 34 #[.val (.ref a), .val (.ref ar), .val (.int (4 : Int32)), .val (.int (4 : Int32))] [(.ref a)])) (fun t k => XS.aloadN X119.here hx rfl (hb hby d1_33) rfl rfl k) ?_
  obtain ⟨T129, X129, e129, st129⟩ := getF X119 hx hZ hown (host := "") (Or.inl (hw _ (List.mem_of_getElem? (i := 22) rfl))) Via.refl e119 f122 (g := (mkF m 34 #[.val (.ref a), .val (.ref ar), .val (.int (4 : Int32)), .val (.int (4 : Int32))] [(.ref a)])) rfl rfl (hb hby d1_34)
  refine own_st st129 ?_
  show own_Go p.tables e below _ (T129.setTop (mkF m 37 #[.val (.ref a), .val (.ref ar), .val (.int (4 : Int32)), .val (.int (4 : Int32))] [(.ref b19)]))
  refine own_st (S' := T129.setTop (mkF m 38 #[.val (.ref a), .val (.ref ar), .val (.int (4 : Int32)), .val (.int (4 : Int32))] [(.int (4 : Int32)), (.ref b19)])) (fun t k => XS.iloadN X129.here hx rfl (hb hby d1_37) rfl k) ?_
  refine own_st (S' := T129.setTop (mkF m 39 #[.val (.ref a), .val (.ref ar), .val (.int (4 : Int32)), .val (.int (4 : Int32))] [(.int (4 : Int32)), (.ref b19), (.int (4 : Int32)), (.ref b19)])) (fun t k => Jvm.Free.XT.dup2 X129.here hx rfl (hb hby d1_38) rfl rfl rfl k) ?_
  have O130 := f127
  obtain ⟨c130, Ar130, S130, M130, V130⟩ := O130
  have at130 : c130.slots[((4 : Int32)).toNatClampNeg]? = some (.int v118) := own_at S130 V130 (own_ix (j := (4 : Int32)) (i := 4) (n := 7) (by decide) (by decide) (by decide)) rfl
  refine own_st (S' := T129.setTop (mkF m 40 #[.val (.ref a), .val (.ref ar), .val (.int (4 : Int32)), .val (.int (4 : Int32))] [(.int v118), (.int (4 : Int32)), (.ref b19)])) (fun t k => X129.iaload hx (j := (4 : Int32)) (v := (.int v118)) (by rw [e129]; exact Ar130.1) (State.isArrayOf_alike hZ.alike Ar130.2.1) Ar130.2.2 (own_in S130 (own_ix (j := (4 : Int32)) (i := 4) (n := 7) (by decide) (by decide) (by decide))) at130 (g := (mkF m 39 #[.val (.ref a), .val (.ref ar), .val (.int (4 : Int32)), .val (.int (4 : Int32))] [(.int (4 : Int32)), (.ref b19), (.int (4 : Int32)), (.ref b19)])) rfl rfl (hb hby d1_39) _ k) ?_
  refine own_st (S' := T129.setTop (mkF m 41 #[.val (.ref a), .val (.ref ar), .val (.int (4 : Int32)), .val (.int (4 : Int32))] [(.ref a), (.int v118), (.int (4 : Int32)), (.ref b19)])) (fun t k => XS.aloadN X129.here hx rfl (hb hby d1_40) rfl rfl k) ?_
  obtain ⟨T131, X131, e131, st131⟩ := getF X129 hx hZ hown (host := "") (Or.inl (hw _ (List.mem_of_getElem? (i := 20) rfl))) Via.refl e129 f121 (g := (mkF m 41 #[.val (.ref a), .val (.ref ar), .val (.int (4 : Int32)), .val (.int (4 : Int32))] [(.ref a), (.int v118), (.int (4 : Int32)), (.ref b19)])) rfl rfl (hb hby d1_41)
  refine own_st st131 ?_
  show own_Go p.tables e below _ (T131.setTop (mkF m 44 #[.val (.ref a), .val (.ref ar), .val (.int (4 : Int32)), .val (.int (4 : Int32))] [(.ref b2), (.int v118), (.int (4 : Int32)), (.ref b19)]))
  refine own_st (S' := T131.setTop (mkF m 45 #[.val (.ref a), .val (.ref ar), .val (.int (4 : Int32)), .val (.int (4 : Int32))] [(.int (4 : Int32)), (.ref b2), (.int v118), (.int (4 : Int32)), (.ref b19)])) (fun t k => XS.iloadN X131.here hx rfl (hb hby d1_44) rfl k) ?_
  refine own_st (S' := T131.setTop (mkF m 46 #[.val (.ref a), .val (.ref ar), .val (.int (4 : Int32)), .val (.int (4 : Int32))] [(.int (1 : Int32)), (.int (4 : Int32)), (.ref b2), (.int v118), (.int (4 : Int32)), (.ref b19)])) (fun t k => XS.iconst X131.here hx rfl (hb hby d1_45) k) ?_
  refine own_st (S' := T131.setTop (mkF m 47 #[.val (.ref a), .val (.ref ar), .val (.int (4 : Int32)), .val (.int (4 : Int32))] [(.int (3 : Int32)), (.ref b2), (.int v118), (.int (4 : Int32)), (.ref b19)])) (fun t k => XS.isub X131.here hx rfl (hb hby d1_46) rfl k) ?_
  have O132 := f125
  obtain ⟨c132, Ar132, S132, M132, V132⟩ := O132
  have at132 : c132.slots[((3 : Int32)).toNatClampNeg]? = some (.int w3) := own_at S132 V132 (own_ix (j := (3 : Int32)) (i := 3) (n := 6) (by decide) (by decide) (by decide)) rfl
  refine own_st (S' := T131.setTop (mkF m 48 #[.val (.ref a), .val (.ref ar), .val (.int (4 : Int32)), .val (.int (4 : Int32))] [(.int w3), (.int v118), (.int (4 : Int32)), (.ref b19)])) (fun t k => X131.iaload hx (j := (3 : Int32)) (v := (.int w3)) (by rw [e131]; exact Ar132.1) (State.isArrayOf_alike hZ.alike Ar132.2.1) Ar132.2.2 (own_in S132 (own_ix (j := (3 : Int32)) (i := 3) (n := 6) (by decide) (by decide) (by decide))) at132 (g := (mkF m 47 #[.val (.ref a), .val (.ref ar), .val (.int (4 : Int32)), .val (.int (4 : Int32))] [(.int (3 : Int32)), (.ref b2), (.int v118), (.int (4 : Int32)), (.ref b19)])) rfl rfl (hb hby d1_47) _ k) ?_
  refine own_st (S' := T131.setTop (mkF m 49 #[.val (.ref a), .val (.ref ar), .val (.int (4 : Int32)), .val (.int (4 : Int32))] [(.int (v118 + w3)), (.int (4 : Int32)), (.ref b19)])) (fun t k => XS.iadd X131.here hx rfl (hb hby d1_48) rfl k) ?_
  obtain ⟨v133, qv133⟩ : ∃ z : Int32, z = (v118 + w3) := ⟨_, rfl⟩
  show own_Go p.tables e below _ (T131.setTop (mkF m 49 #[.val (.ref a), .val (.ref ar), .val (.int (4 : Int32)), .val (.int (4 : Int32))] [(.int (v118 + w3)), (.int (4 : Int32)), (.ref b19)]))
  rw [← qv133]
  have O134 := f127
  obtain ⟨c134, Ar134, S134, M134, V134⟩ := O134
  obtain ⟨T134, h134, X134, e134, W134, st134⟩ := stI X131 hx hZ e131 Ar134 (j := (4 : Int32)) (own_in S134 (own_ix (j := (4 : Int32)) (i := 4) (n := 7) (by decide) (by decide) (by decide))) (g := (mkF m 49 #[.val (.ref a), .val (.ref ar), .val (.int (4 : Int32)), .val (.int (4 : Int32))] [(.int v133), (.int (4 : Int32)), (.ref b19)])) rfl rfl (hb hby d1_49)
  refine own_st st134 ?_
  have f135 : Exa Z h134 a "kithrank/Weights" := f120.wr W134
  have f136 : Fld Z h134 a "kithrank/Weights" "weight" "[I" (.ref b2) := f121.other W134 (Or.inl ne_a_b19)
  have f137 : Fld Z h134 a "kithrank/Weights" "tree" "[I" (.ref b19) := f122.other W134 (Or.inl ne_a_b19)
  have f138 : own_A Z h134 ar .int 6 (own_V [(.int w0), (.int w1), (.int w2), (.int w3), (.int w4), (.int w5)]) := f123.other W134 ne_ar_b19
  have f139 : Exa Z h134 ar "[I" := f124.wr W134
  have f140 : own_A Z h134 b2 .int 6 (own_V [(.int w0), (.int w1), (.int w2), (.int w3), (.int w4), (.int w5)]) := f125.other W134 ne_b2_b19
  have f141 : Exa Z h134 b2 "[I" := f126.wr W134
  have Z134 : n0 ≤ h134.size := Nat.le_trans Z119 (Keep.of_wr W134).1
  have N134 := Fr.snoc X134 N119 G_b19
  have K134 : Keep h0 h134 [a] := K119.wr W134 (Or.inr sz_b19)
  have f142 : own_A Z h134 b19 .int 7 (own_V [(.int (0 : Int32)), (.int v43), (.int v73), (.int v103), (.int v133), (.int (0 : Int32)), (.int (0 : Int32))]) := (own_A.set ⟨c134, Ar134, S134, M134, V134⟩ (own_ix (j := (4 : Int32)) (i := 4) (n := 7) (by decide) (by decide) (by decide)) W134).cong (fun j hj => by match j, hj with | 0, _ => rfl | 1, _ => rfl | 2, _ => rfl | 3, _ => rfl | 4, _ => rfl | 5, _ => rfl | 6, _ => rfl | j + 7, h => exact absurd h (by omega))
  show own_Go p.tables e below _ (T134.setTop (mkF m 50 #[.val (.ref a), .val (.ref ar), .val (.int (4 : Int32)), .val (.int (4 : Int32))] []))
  refine own_st (S' := T134.setTop (mkF m 51 #[.val (.ref a), .val (.ref ar), .val (.int (4 : Int32)), .val (.int (4 : Int32))] [(.int (4 : Int32))])) (fun t k => XS.iloadN X134.here hx rfl (hb hby d1_50) rfl k) ?_
  refine own_st (S' := T134.setTop (mkF m 52 #[.val (.ref a), .val (.ref ar), .val (.int (4 : Int32)), .val (.int (4 : Int32))] [(.int (4 : Int32)), (.int (4 : Int32))])) (fun t k => XS.iloadN X134.here hx rfl (hb hby d1_51) rfl k) ?_
  refine own_st (S' := T134.setTop (mkF m 53 #[.val (.ref a), .val (.ref ar), .val (.int (4 : Int32)), .val (.int (4 : Int32))] [(.int (4 : Int32)), (.int (4 : Int32)), (.int (4 : Int32))])) (fun t k => XS.iloadN X134.here hx rfl (hb hby d1_52) rfl k) ?_
  refine own_st (S' := T134.setTop (mkF m 54 #[.val (.ref a), .val (.ref ar), .val (.int (4 : Int32)), .val (.int (4 : Int32))] [(.int (-4 : Int32)), (.int (4 : Int32)), (.int (4 : Int32))])) (fun t k => XS.ineg X134.here hx rfl (hb hby d1_53) rfl k) ?_
  refine own_st (S' := T134.setTop (mkF m 55 #[.val (.ref a), .val (.ref ar), .val (.int (4 : Int32)), .val (.int (4 : Int32))] [(.int (4 : Int32)), (.int (4 : Int32))])) (fun t k => XS.iand X134.here hx rfl (hb hby d1_54) rfl k) ?_
  refine own_st (S' := T134.setTop (mkF m 56 #[.val (.ref a), .val (.ref ar), .val (.int (4 : Int32)), .val (.int (4 : Int32))] [(.int (8 : Int32))])) (fun t k => XS.iadd X134.here hx rfl (hb hby d1_55) rfl k) ?_
  refine own_st (S' := T134.setTop (mkF m 57 #[.val (.ref a), .val (.ref ar), .val (.int (4 : Int32)), .val (.int (8 : Int32))] [])) (fun t k => XS.istoreN X134.here hx rfl (hb hby d1_56) rfl (l' := #[.val (.ref a), .val (.ref ar), .val (.int (4 : Int32)), .val (.int (8 : Int32))]) rfl k) ?_
  refine own_st (S' := T134.setTop (mkF m 58 #[.val (.ref a), .val (.ref ar), .val (.int (4 : Int32)), .val (.int (8 : Int32))] [(.int (8 : Int32))])) (fun t k => XS.iloadN X134.here hx rfl (hb hby d1_57) rfl k) ?_
  refine own_st (S' := T134.setTop (mkF m 59 #[.val (.ref a), .val (.ref ar), .val (.int (4 : Int32)), .val (.int (8 : Int32))] [(.ref ar), (.int (8 : Int32))])) (fun t k => XS.aloadN X134.here hx rfl (hb hby d1_58) rfl rfl k) ?_
  have O143 := f138
  obtain ⟨c143, Ar143, S143, M143, V143⟩ := O143
  have ln143 : c143.slots.size.toInt32 = (6 : Int32) := by rw [S143]; first | rfl | decide | exact rfl
  refine own_st (S' := T134.setTop (mkF m 60 #[.val (.ref a), .val (.ref ar), .val (.int (4 : Int32)), .val (.int (8 : Int32))] [(.int (6 : Int32)), (.int (8 : Int32))])) (fun t k => X134.arraylength hx (by rw [e134]; exact Ar143.1) (State.isArrayOf_alike hZ.alike Ar143.2.1) (g := (mkF m 59 #[.val (.ref a), .val (.ref ar), .val (.int (4 : Int32)), .val (.int (8 : Int32))] [(.ref ar), (.int (8 : Int32))])) rfl rfl (hb hby d1_59) _ (by rw [ln143]; exact k)) ?_
  refine own_st (S' := T134.setTop (mkF m 78 #[.val (.ref a), .val (.ref ar), .val (.int (4 : Int32)), .val (.int (8 : Int32))] [])) (fun t k => XS.icmpYes X134.here hx rfl (pc0 := 60) (pc' := 78) rfl (hb hby d1_60) rfl (tlt (by decide)).2.2.1 (by decide) (by decide) k) ?_
  show own_Go p.tables e below _ (T134.setTop (mkF m 78 #[.val (.ref a), .val (.ref ar), .val (.int (4 : Int32)), .val (.int (8 : Int32))] []))
  refine own_st (S' := T134.setTop (mkF m 81 #[.val (.ref a), .val (.ref ar), .val (.int (5 : Int32)), .val (.int (8 : Int32))] [])) (fun t k => XS.iinc X134.here hx rfl (hb hby d1_78) rfl (l' := #[.val (.ref a), .val (.ref ar), .val (.int (5 : Int32)), .val (.int (8 : Int32))]) rfl k) ?_
  refine own_st (S' := T134.setTop (mkF m 27 #[.val (.ref a), .val (.ref ar), .val (.int (5 : Int32)), .val (.int (8 : Int32))] [])) (fun t k => XS.goto X134.here hx rfl (pc0 := 81) (pc' := 27) rfl (hb hby d1_81) (by decide) (by decide) k) ?_
  refine own_st (S' := T134.setTop (mkF m 28 #[.val (.ref a), .val (.ref ar), .val (.int (5 : Int32)), .val (.int (8 : Int32))] [(.int (5 : Int32))])) (fun t k => XS.iloadN X134.here hx rfl (hb hby d1_27) rfl k) ?_
  refine own_st (S' := T134.setTop (mkF m 29 #[.val (.ref a), .val (.ref ar), .val (.int (5 : Int32)), .val (.int (8 : Int32))] [(.ref ar), (.int (5 : Int32))])) (fun t k => XS.aloadN X134.here hx rfl (hb hby d1_28) rfl rfl k) ?_
  have O144 := f138
  obtain ⟨c144, Ar144, S144, M144, V144⟩ := O144
  have ln144 : c144.slots.size.toInt32 = (6 : Int32) := by rw [S144]; first | rfl | decide | exact rfl
  refine own_st (S' := T134.setTop (mkF m 30 #[.val (.ref a), .val (.ref ar), .val (.int (5 : Int32)), .val (.int (8 : Int32))] [(.int (6 : Int32)), (.int (5 : Int32))])) (fun t k => X134.arraylength hx (by rw [e134]; exact Ar144.1) (State.isArrayOf_alike hZ.alike Ar144.2.1) (g := (mkF m 29 #[.val (.ref a), .val (.ref ar), .val (.int (5 : Int32)), .val (.int (8 : Int32))] [(.ref ar), (.int (5 : Int32))])) rfl rfl (hb hby d1_29) _ (by rw [ln144]; exact k)) ?_
  refine own_st (S' := T134.setTop (mkF m 33 #[.val (.ref a), .val (.ref ar), .val (.int (5 : Int32)), .val (.int (8 : Int32))] [])) (fun t k => XS.icmpNo X134.here hx rfl (hb hby d1_30) rfl (flt (by decide)).2.2.1 k) ?_
  show own_Go p.tables e below _ (T134.setTop (mkF m 33 #[.val (.ref a), .val (.ref ar), .val (.int (5 : Int32)), .val (.int (8 : Int32))] []))
  refine own_st (S' := T134.setTop (mkF m 34 #[.val (.ref a), .val (.ref ar), .val (.int (5 : Int32)), .val (.int (8 : Int32))] [(.ref a)])) (fun t k => XS.aloadN X134.here hx rfl (hb hby d1_33) rfl rfl k) ?_
  obtain ⟨T145, X145, e145, st145⟩ := getF X134 hx hZ hown (host := "") (Or.inl (hw _ (List.mem_of_getElem? (i := 22) rfl))) Via.refl e134 f137 (g := (mkF m 34 #[.val (.ref a), .val (.ref ar), .val (.int (5 : Int32)), .val (.int (8 : Int32))] [(.ref a)])) rfl rfl (hb hby d1_34)
  refine own_st st145 ?_
  show own_Go p.tables e below _ (T145.setTop (mkF m 37 #[.val (.ref a), .val (.ref ar), .val (.int (5 : Int32)), .val (.int (8 : Int32))] [(.ref b19)]))
  refine own_st (S' := T145.setTop (mkF m 38 #[.val (.ref a), .val (.ref ar), .val (.int (5 : Int32)), .val (.int (8 : Int32))] [(.int (5 : Int32)), (.ref b19)])) (fun t k => XS.iloadN X145.here hx rfl (hb hby d1_37) rfl k) ?_
  refine own_st (S' := T145.setTop (mkF m 39 #[.val (.ref a), .val (.ref ar), .val (.int (5 : Int32)), .val (.int (8 : Int32))] [(.int (5 : Int32)), (.ref b19), (.int (5 : Int32)), (.ref b19)])) (fun t k => Jvm.Free.XT.dup2 X145.here hx rfl (hb hby d1_38) rfl rfl rfl k) ?_
  have O146 := f142
  obtain ⟨c146, Ar146, S146, M146, V146⟩ := O146
  have at146 : c146.slots[((5 : Int32)).toNatClampNeg]? = some (.int (0 : Int32)) := own_at S146 V146 (own_ix (j := (5 : Int32)) (i := 5) (n := 7) (by decide) (by decide) (by decide)) rfl
  refine own_st (S' := T145.setTop (mkF m 40 #[.val (.ref a), .val (.ref ar), .val (.int (5 : Int32)), .val (.int (8 : Int32))] [(.int (0 : Int32)), (.int (5 : Int32)), (.ref b19)])) (fun t k => X145.iaload hx (j := (5 : Int32)) (v := (.int (0 : Int32))) (by rw [e145]; exact Ar146.1) (State.isArrayOf_alike hZ.alike Ar146.2.1) Ar146.2.2 (own_in S146 (own_ix (j := (5 : Int32)) (i := 5) (n := 7) (by decide) (by decide) (by decide))) at146 (g := (mkF m 39 #[.val (.ref a), .val (.ref ar), .val (.int (5 : Int32)), .val (.int (8 : Int32))] [(.int (5 : Int32)), (.ref b19), (.int (5 : Int32)), (.ref b19)])) rfl rfl (hb hby d1_39) _ k) ?_
  refine own_st (S' := T145.setTop (mkF m 41 #[.val (.ref a), .val (.ref ar), .val (.int (5 : Int32)), .val (.int (8 : Int32))] [(.ref a), (.int (0 : Int32)), (.int (5 : Int32)), (.ref b19)])) (fun t k => XS.aloadN X145.here hx rfl (hb hby d1_40) rfl rfl k) ?_
  obtain ⟨T147, X147, e147, st147⟩ := getF X145 hx hZ hown (host := "") (Or.inl (hw _ (List.mem_of_getElem? (i := 20) rfl))) Via.refl e145 f136 (g := (mkF m 41 #[.val (.ref a), .val (.ref ar), .val (.int (5 : Int32)), .val (.int (8 : Int32))] [(.ref a), (.int (0 : Int32)), (.int (5 : Int32)), (.ref b19)])) rfl rfl (hb hby d1_41)
  refine own_st st147 ?_
  show own_Go p.tables e below _ (T147.setTop (mkF m 44 #[.val (.ref a), .val (.ref ar), .val (.int (5 : Int32)), .val (.int (8 : Int32))] [(.ref b2), (.int (0 : Int32)), (.int (5 : Int32)), (.ref b19)]))
  refine own_st (S' := T147.setTop (mkF m 45 #[.val (.ref a), .val (.ref ar), .val (.int (5 : Int32)), .val (.int (8 : Int32))] [(.int (5 : Int32)), (.ref b2), (.int (0 : Int32)), (.int (5 : Int32)), (.ref b19)])) (fun t k => XS.iloadN X147.here hx rfl (hb hby d1_44) rfl k) ?_
  refine own_st (S' := T147.setTop (mkF m 46 #[.val (.ref a), .val (.ref ar), .val (.int (5 : Int32)), .val (.int (8 : Int32))] [(.int (1 : Int32)), (.int (5 : Int32)), (.ref b2), (.int (0 : Int32)), (.int (5 : Int32)), (.ref b19)])) (fun t k => XS.iconst X147.here hx rfl (hb hby d1_45) k) ?_
  refine own_st (S' := T147.setTop (mkF m 47 #[.val (.ref a), .val (.ref ar), .val (.int (5 : Int32)), .val (.int (8 : Int32))] [(.int (4 : Int32)), (.ref b2), (.int (0 : Int32)), (.int (5 : Int32)), (.ref b19)])) (fun t k => XS.isub X147.here hx rfl (hb hby d1_46) rfl k) ?_
  have O148 := f140
  obtain ⟨c148, Ar148, S148, M148, V148⟩ := O148
  have at148 : c148.slots[((4 : Int32)).toNatClampNeg]? = some (.int w4) := own_at S148 V148 (own_ix (j := (4 : Int32)) (i := 4) (n := 6) (by decide) (by decide) (by decide)) rfl
  refine own_st (S' := T147.setTop (mkF m 48 #[.val (.ref a), .val (.ref ar), .val (.int (5 : Int32)), .val (.int (8 : Int32))] [(.int w4), (.int (0 : Int32)), (.int (5 : Int32)), (.ref b19)])) (fun t k => X147.iaload hx (j := (4 : Int32)) (v := (.int w4)) (by rw [e147]; exact Ar148.1) (State.isArrayOf_alike hZ.alike Ar148.2.1) Ar148.2.2 (own_in S148 (own_ix (j := (4 : Int32)) (i := 4) (n := 6) (by decide) (by decide) (by decide))) at148 (g := (mkF m 47 #[.val (.ref a), .val (.ref ar), .val (.int (5 : Int32)), .val (.int (8 : Int32))] [(.int (4 : Int32)), (.ref b2), (.int (0 : Int32)), (.int (5 : Int32)), (.ref b19)])) rfl rfl (hb hby d1_47) _ k) ?_
  refine own_st (S' := T147.setTop (mkF m 49 #[.val (.ref a), .val (.ref ar), .val (.int (5 : Int32)), .val (.int (8 : Int32))] [(.int ((0 : Int32) + w4)), (.int (5 : Int32)), (.ref b19)])) (fun t k => XS.iadd X147.here hx rfl (hb hby d1_48) rfl k) ?_
  obtain ⟨v149, qv149⟩ : ∃ z : Int32, z = ((0 : Int32) + w4) := ⟨_, rfl⟩
  show own_Go p.tables e below _ (T147.setTop (mkF m 49 #[.val (.ref a), .val (.ref ar), .val (.int (5 : Int32)), .val (.int (8 : Int32))] [(.int ((0 : Int32) + w4)), (.int (5 : Int32)), (.ref b19)]))
  rw [← qv149]
  have O150 := f142
  obtain ⟨c150, Ar150, S150, M150, V150⟩ := O150
  obtain ⟨T150, h150, X150, e150, W150, st150⟩ := stI X147 hx hZ e147 Ar150 (j := (5 : Int32)) (own_in S150 (own_ix (j := (5 : Int32)) (i := 5) (n := 7) (by decide) (by decide) (by decide))) (g := (mkF m 49 #[.val (.ref a), .val (.ref ar), .val (.int (5 : Int32)), .val (.int (8 : Int32))] [(.int v149), (.int (5 : Int32)), (.ref b19)])) rfl rfl (hb hby d1_49)
  refine own_st st150 ?_
  have f151 : Exa Z h150 a "kithrank/Weights" := f135.wr W150
  have f152 : Fld Z h150 a "kithrank/Weights" "weight" "[I" (.ref b2) := f136.other W150 (Or.inl ne_a_b19)
  have f153 : Fld Z h150 a "kithrank/Weights" "tree" "[I" (.ref b19) := f137.other W150 (Or.inl ne_a_b19)
  have f154 : own_A Z h150 ar .int 6 (own_V [(.int w0), (.int w1), (.int w2), (.int w3), (.int w4), (.int w5)]) := f138.other W150 ne_ar_b19
  have f155 : Exa Z h150 ar "[I" := f139.wr W150
  have f156 : own_A Z h150 b2 .int 6 (own_V [(.int w0), (.int w1), (.int w2), (.int w3), (.int w4), (.int w5)]) := f140.other W150 ne_b2_b19
  have f157 : Exa Z h150 b2 "[I" := f141.wr W150
  have Z150 : n0 ≤ h150.size := Nat.le_trans Z134 (Keep.of_wr W150).1
  have N150 := Fr.snoc X150 N134 G_b19
  have K150 : Keep h0 h150 [a] := K134.wr W150 (Or.inr sz_b19)
  have f158 : own_A Z h150 b19 .int 7 (own_V [(.int (0 : Int32)), (.int v43), (.int v73), (.int v103), (.int v133), (.int v149), (.int (0 : Int32))]) := (own_A.set ⟨c150, Ar150, S150, M150, V150⟩ (own_ix (j := (5 : Int32)) (i := 5) (n := 7) (by decide) (by decide) (by decide)) W150).cong (fun j hj => by match j, hj with | 0, _ => rfl | 1, _ => rfl | 2, _ => rfl | 3, _ => rfl | 4, _ => rfl | 5, _ => rfl | 6, _ => rfl | j + 7, h => exact absurd h (by omega))
  show own_Go p.tables e below _ (T150.setTop (mkF m 50 #[.val (.ref a), .val (.ref ar), .val (.int (5 : Int32)), .val (.int (8 : Int32))] []))
  refine own_st (S' := T150.setTop (mkF m 51 #[.val (.ref a), .val (.ref ar), .val (.int (5 : Int32)), .val (.int (8 : Int32))] [(.int (5 : Int32))])) (fun t k => XS.iloadN X150.here hx rfl (hb hby d1_50) rfl k) ?_
  refine own_st (S' := T150.setTop (mkF m 52 #[.val (.ref a), .val (.ref ar), .val (.int (5 : Int32)), .val (.int (8 : Int32))] [(.int (5 : Int32)), (.int (5 : Int32))])) (fun t k => XS.iloadN X150.here hx rfl (hb hby d1_51) rfl k) ?_
  refine own_st (S' := T150.setTop (mkF m 53 #[.val (.ref a), .val (.ref ar), .val (.int (5 : Int32)), .val (.int (8 : Int32))] [(.int (5 : Int32)), (.int (5 : Int32)), (.int (5 : Int32))])) (fun t k => XS.iloadN X150.here hx rfl (hb hby d1_52) rfl k) ?_
  refine own_st (S' := T150.setTop (mkF m 54 #[.val (.ref a), .val (.ref ar), .val (.int (5 : Int32)), .val (.int (8 : Int32))] [(.int (-5 : Int32)), (.int (5 : Int32)), (.int (5 : Int32))])) (fun t k => XS.ineg X150.here hx rfl (hb hby d1_53) rfl k) ?_
  refine own_st (S' := T150.setTop (mkF m 55 #[.val (.ref a), .val (.ref ar), .val (.int (5 : Int32)), .val (.int (8 : Int32))] [(.int (1 : Int32)), (.int (5 : Int32))])) (fun t k => XS.iand X150.here hx rfl (hb hby d1_54) rfl k) ?_
  refine own_st (S' := T150.setTop (mkF m 56 #[.val (.ref a), .val (.ref ar), .val (.int (5 : Int32)), .val (.int (8 : Int32))] [(.int (6 : Int32))])) (fun t k => XS.iadd X150.here hx rfl (hb hby d1_55) rfl k) ?_
  refine own_st (S' := T150.setTop (mkF m 57 #[.val (.ref a), .val (.ref ar), .val (.int (5 : Int32)), .val (.int (6 : Int32))] [])) (fun t k => XS.istoreN X150.here hx rfl (hb hby d1_56) rfl (l' := #[.val (.ref a), .val (.ref ar), .val (.int (5 : Int32)), .val (.int (6 : Int32))]) rfl k) ?_
  refine own_st (S' := T150.setTop (mkF m 58 #[.val (.ref a), .val (.ref ar), .val (.int (5 : Int32)), .val (.int (6 : Int32))] [(.int (6 : Int32))])) (fun t k => XS.iloadN X150.here hx rfl (hb hby d1_57) rfl k) ?_
  refine own_st (S' := T150.setTop (mkF m 59 #[.val (.ref a), .val (.ref ar), .val (.int (5 : Int32)), .val (.int (6 : Int32))] [(.ref ar), (.int (6 : Int32))])) (fun t k => XS.aloadN X150.here hx rfl (hb hby d1_58) rfl rfl k) ?_
  have O159 := f154
  obtain ⟨c159, Ar159, S159, M159, V159⟩ := O159
  have ln159 : c159.slots.size.toInt32 = (6 : Int32) := by rw [S159]; first | rfl | decide | exact rfl
  refine own_st (S' := T150.setTop (mkF m 60 #[.val (.ref a), .val (.ref ar), .val (.int (5 : Int32)), .val (.int (6 : Int32))] [(.int (6 : Int32)), (.int (6 : Int32))])) (fun t k => X150.arraylength hx (by rw [e150]; exact Ar159.1) (State.isArrayOf_alike hZ.alike Ar159.2.1) (g := (mkF m 59 #[.val (.ref a), .val (.ref ar), .val (.int (5 : Int32)), .val (.int (6 : Int32))] [(.ref ar), (.int (6 : Int32))])) rfl rfl (hb hby d1_59) _ (by rw [ln159]; exact k)) ?_
  refine own_st (S' := T150.setTop (mkF m 63 #[.val (.ref a), .val (.ref ar), .val (.int (5 : Int32)), .val (.int (6 : Int32))] [])) (fun t k => XS.icmpNo X150.here hx rfl (hb hby d1_60) rfl (flt (by decide)).2.2.1 k) ?_
  show own_Go p.tables e below _ (T150.setTop (mkF m 63 #[.val (.ref a), .val (.ref ar), .val (.int (5 : Int32)), .val (.int (6 : Int32))] []))
  refine own_st (S' := T150.setTop (mkF m 64 #[.val (.ref a), .val (.ref ar), .val (.int (5 : Int32)), .val (.int (6 : Int32))] [(.ref a)])) (fun t k => XS.aloadN X150.here hx rfl (hb hby d1_63) rfl rfl k) ?_
  obtain ⟨T160, X160, e160, st160⟩ := getF X150 hx hZ hown (host := "") (Or.inl (hw _ (List.mem_of_getElem? (i := 22) rfl))) Via.refl e150 f153 (g := (mkF m 64 #[.val (.ref a), .val (.ref ar), .val (.int (5 : Int32)), .val (.int (6 : Int32))] [(.ref a)])) rfl rfl (hb hby d1_64)
  refine own_st st160 ?_
  show own_Go p.tables e below _ (T160.setTop (mkF m 67 #[.val (.ref a), .val (.ref ar), .val (.int (5 : Int32)), .val (.int (6 : Int32))] [(.ref b19)]))
  refine own_st (S' := T160.setTop (mkF m 68 #[.val (.ref a), .val (.ref ar), .val (.int (5 : Int32)), .val (.int (6 : Int32))] [(.int (6 : Int32)), (.ref b19)])) (fun t k => XS.iloadN X160.here hx rfl (hb hby d1_67) rfl k) ?_
  refine own_st (S' := T160.setTop (mkF m 69 #[.val (.ref a), .val (.ref ar), .val (.int (5 : Int32)), .val (.int (6 : Int32))] [(.int (6 : Int32)), (.ref b19), (.int (6 : Int32)), (.ref b19)])) (fun t k => Jvm.Free.XT.dup2 X160.here hx rfl (hb hby d1_68) rfl rfl rfl k) ?_
  have O161 := f158
  obtain ⟨c161, Ar161, S161, M161, V161⟩ := O161
  have at161 : c161.slots[((6 : Int32)).toNatClampNeg]? = some (.int (0 : Int32)) := own_at S161 V161 (own_ix (j := (6 : Int32)) (i := 6) (n := 7) (by decide) (by decide) (by decide)) rfl
  refine own_st (S' := T160.setTop (mkF m 70 #[.val (.ref a), .val (.ref ar), .val (.int (5 : Int32)), .val (.int (6 : Int32))] [(.int (0 : Int32)), (.int (6 : Int32)), (.ref b19)])) (fun t k => X160.iaload hx (j := (6 : Int32)) (v := (.int (0 : Int32))) (by rw [e160]; exact Ar161.1) (State.isArrayOf_alike hZ.alike Ar161.2.1) Ar161.2.2 (own_in S161 (own_ix (j := (6 : Int32)) (i := 6) (n := 7) (by decide) (by decide) (by decide))) at161 (g := (mkF m 69 #[.val (.ref a), .val (.ref ar), .val (.int (5 : Int32)), .val (.int (6 : Int32))] [(.int (6 : Int32)), (.ref b19), (.int (6 : Int32)), (.ref b19)])) rfl rfl (hb hby d1_69) _ k) ?_
  refine own_st (S' := T160.setTop (mkF m 71 #[.val (.ref a), .val (.ref ar), .val (.int (5 : Int32)), .val (.int (6 : Int32))] [(.ref a), (.int (0 : Int32)), (.int (6 : Int32)), (.ref b19)])) (fun t k => XS.aloadN X160.here hx rfl (hb hby d1_70) rfl rfl k) ?_
  obtain ⟨T162, X162, e162, st162⟩ := getF X160 hx hZ hown (host := "") (Or.inl (hw _ (List.mem_of_getElem? (i := 22) rfl))) Via.refl e160 f153 (g := (mkF m 71 #[.val (.ref a), .val (.ref ar), .val (.int (5 : Int32)), .val (.int (6 : Int32))] [(.ref a), (.int (0 : Int32)), (.int (6 : Int32)), (.ref b19)])) rfl rfl (hb hby d1_71)
  refine own_st st162 ?_
  show own_Go p.tables e below _ (T162.setTop (mkF m 74 #[.val (.ref a), .val (.ref ar), .val (.int (5 : Int32)), .val (.int (6 : Int32))] [(.ref b19), (.int (0 : Int32)), (.int (6 : Int32)), (.ref b19)]))
  refine own_st (S' := T162.setTop (mkF m 75 #[.val (.ref a), .val (.ref ar), .val (.int (5 : Int32)), .val (.int (6 : Int32))] [(.int (5 : Int32)), (.ref b19), (.int (0 : Int32)), (.int (6 : Int32)), (.ref b19)])) (fun t k => XS.iloadN X162.here hx rfl (hb hby d1_74) rfl k) ?_
  have O163 := f158
  obtain ⟨c163, Ar163, S163, M163, V163⟩ := O163
  have at163 : c163.slots[((5 : Int32)).toNatClampNeg]? = some (.int v149) := own_at S163 V163 (own_ix (j := (5 : Int32)) (i := 5) (n := 7) (by decide) (by decide) (by decide)) rfl
  refine own_st (S' := T162.setTop (mkF m 76 #[.val (.ref a), .val (.ref ar), .val (.int (5 : Int32)), .val (.int (6 : Int32))] [(.int v149), (.int (0 : Int32)), (.int (6 : Int32)), (.ref b19)])) (fun t k => X162.iaload hx (j := (5 : Int32)) (v := (.int v149)) (by rw [e162]; exact Ar163.1) (State.isArrayOf_alike hZ.alike Ar163.2.1) Ar163.2.2 (own_in S163 (own_ix (j := (5 : Int32)) (i := 5) (n := 7) (by decide) (by decide) (by decide))) at163 (g := (mkF m 75 #[.val (.ref a), .val (.ref ar), .val (.int (5 : Int32)), .val (.int (6 : Int32))] [(.int (5 : Int32)), (.ref b19), (.int (0 : Int32)), (.int (6 : Int32)), (.ref b19)])) rfl rfl (hb hby d1_75) _ k) ?_
  refine own_st (S' := T162.setTop (mkF m 77 #[.val (.ref a), .val (.ref ar), .val (.int (5 : Int32)), .val (.int (6 : Int32))] [(.int ((0 : Int32) + v149)), (.int (6 : Int32)), (.ref b19)])) (fun t k => XS.iadd X162.here hx rfl (hb hby d1_76) rfl k) ?_
  obtain ⟨v164, qv164⟩ : ∃ z : Int32, z = ((0 : Int32) + v149) := ⟨_, rfl⟩
  show own_Go p.tables e below _ (T162.setTop (mkF m 77 #[.val (.ref a), .val (.ref ar), .val (.int (5 : Int32)), .val (.int (6 : Int32))] [(.int ((0 : Int32) + v149)), (.int (6 : Int32)), (.ref b19)]))
  rw [← qv164]
  have O165 := f158
  obtain ⟨c165, Ar165, S165, M165, V165⟩ := O165
  obtain ⟨T165, h165, X165, e165, W165, st165⟩ := stI X162 hx hZ e162 Ar165 (j := (6 : Int32)) (own_in S165 (own_ix (j := (6 : Int32)) (i := 6) (n := 7) (by decide) (by decide) (by decide))) (g := (mkF m 77 #[.val (.ref a), .val (.ref ar), .val (.int (5 : Int32)), .val (.int (6 : Int32))] [(.int v164), (.int (6 : Int32)), (.ref b19)])) rfl rfl (hb hby d1_77)
  refine own_st st165 ?_
  have f166 : Exa Z h165 a "kithrank/Weights" := f151.wr W165
  have f167 : Fld Z h165 a "kithrank/Weights" "weight" "[I" (.ref b2) := f152.other W165 (Or.inl ne_a_b19)
  have f168 : Fld Z h165 a "kithrank/Weights" "tree" "[I" (.ref b19) := f153.other W165 (Or.inl ne_a_b19)
  have f169 : own_A Z h165 ar .int 6 (own_V [(.int w0), (.int w1), (.int w2), (.int w3), (.int w4), (.int w5)]) := f154.other W165 ne_ar_b19
  have f170 : Exa Z h165 ar "[I" := f155.wr W165
  have f171 : own_A Z h165 b2 .int 6 (own_V [(.int w0), (.int w1), (.int w2), (.int w3), (.int w4), (.int w5)]) := f156.other W165 ne_b2_b19
  have f172 : Exa Z h165 b2 "[I" := f157.wr W165
  have Z165 : n0 ≤ h165.size := Nat.le_trans Z150 (Keep.of_wr W165).1
  have N165 := Fr.snoc X165 N150 G_b19
  have K165 : Keep h0 h165 [a] := K150.wr W165 (Or.inr sz_b19)
  have f173 : own_A Z h165 b19 .int 7 (own_V [(.int (0 : Int32)), (.int v43), (.int v73), (.int v103), (.int v133), (.int v149), (.int v164)]) := (own_A.set ⟨c165, Ar165, S165, M165, V165⟩ (own_ix (j := (6 : Int32)) (i := 6) (n := 7) (by decide) (by decide) (by decide)) W165).cong (fun j hj => by match j, hj with | 0, _ => rfl | 1, _ => rfl | 2, _ => rfl | 3, _ => rfl | 4, _ => rfl | 5, _ => rfl | 6, _ => rfl | j + 7, h => exact absurd h (by omega))
  show own_Go p.tables e below _ (T165.setTop (mkF m 78 #[.val (.ref a), .val (.ref ar), .val (.int (5 : Int32)), .val (.int (6 : Int32))] []))
  refine own_st (S' := T165.setTop (mkF m 81 #[.val (.ref a), .val (.ref ar), .val (.int (6 : Int32)), .val (.int (6 : Int32))] [])) (fun t k => XS.iinc X165.here hx rfl (hb hby d1_78) rfl (l' := #[.val (.ref a), .val (.ref ar), .val (.int (6 : Int32)), .val (.int (6 : Int32))]) rfl k) ?_
  refine own_st (S' := T165.setTop (mkF m 27 #[.val (.ref a), .val (.ref ar), .val (.int (6 : Int32)), .val (.int (6 : Int32))] [])) (fun t k => XS.goto X165.here hx rfl (pc0 := 81) (pc' := 27) rfl (hb hby d1_81) (by decide) (by decide) k) ?_
  refine own_st (S' := T165.setTop (mkF m 28 #[.val (.ref a), .val (.ref ar), .val (.int (6 : Int32)), .val (.int (6 : Int32))] [(.int (6 : Int32))])) (fun t k => XS.iloadN X165.here hx rfl (hb hby d1_27) rfl k) ?_
  refine own_st (S' := T165.setTop (mkF m 29 #[.val (.ref a), .val (.ref ar), .val (.int (6 : Int32)), .val (.int (6 : Int32))] [(.ref ar), (.int (6 : Int32))])) (fun t k => XS.aloadN X165.here hx rfl (hb hby d1_28) rfl rfl k) ?_
  have O174 := f169
  obtain ⟨c174, Ar174, S174, M174, V174⟩ := O174
  have ln174 : c174.slots.size.toInt32 = (6 : Int32) := by rw [S174]; first | rfl | decide | exact rfl
  refine own_st (S' := T165.setTop (mkF m 30 #[.val (.ref a), .val (.ref ar), .val (.int (6 : Int32)), .val (.int (6 : Int32))] [(.int (6 : Int32)), (.int (6 : Int32))])) (fun t k => X165.arraylength hx (by rw [e165]; exact Ar174.1) (State.isArrayOf_alike hZ.alike Ar174.2.1) (g := (mkF m 29 #[.val (.ref a), .val (.ref ar), .val (.int (6 : Int32)), .val (.int (6 : Int32))] [(.ref ar), (.int (6 : Int32))])) rfl rfl (hb hby d1_29) _ (by rw [ln174]; exact k)) ?_
  refine own_st (S' := T165.setTop (mkF m 33 #[.val (.ref a), .val (.ref ar), .val (.int (6 : Int32)), .val (.int (6 : Int32))] [])) (fun t k => XS.icmpNo X165.here hx rfl (hb hby d1_30) rfl (flt (by decide)).2.2.1 k) ?_
  show own_Go p.tables e below _ (T165.setTop (mkF m 33 #[.val (.ref a), .val (.ref ar), .val (.int (6 : Int32)), .val (.int (6 : Int32))] []))
  refine own_st (S' := T165.setTop (mkF m 34 #[.val (.ref a), .val (.ref ar), .val (.int (6 : Int32)), .val (.int (6 : Int32))] [(.ref a)])) (fun t k => XS.aloadN X165.here hx rfl (hb hby d1_33) rfl rfl k) ?_
  obtain ⟨T175, X175, e175, st175⟩ := getF X165 hx hZ hown (host := "") (Or.inl (hw _ (List.mem_of_getElem? (i := 22) rfl))) Via.refl e165 f168 (g := (mkF m 34 #[.val (.ref a), .val (.ref ar), .val (.int (6 : Int32)), .val (.int (6 : Int32))] [(.ref a)])) rfl rfl (hb hby d1_34)
  refine own_st st175 ?_
  show own_Go p.tables e below _ (T175.setTop (mkF m 37 #[.val (.ref a), .val (.ref ar), .val (.int (6 : Int32)), .val (.int (6 : Int32))] [(.ref b19)]))
  refine own_st (S' := T175.setTop (mkF m 38 #[.val (.ref a), .val (.ref ar), .val (.int (6 : Int32)), .val (.int (6 : Int32))] [(.int (6 : Int32)), (.ref b19)])) (fun t k => XS.iloadN X175.here hx rfl (hb hby d1_37) rfl k) ?_
  refine own_st (S' := T175.setTop (mkF m 39 #[.val (.ref a), .val (.ref ar), .val (.int (6 : Int32)), .val (.int (6 : Int32))] [(.int (6 : Int32)), (.ref b19), (.int (6 : Int32)), (.ref b19)])) (fun t k => Jvm.Free.XT.dup2 X175.here hx rfl (hb hby d1_38) rfl rfl rfl k) ?_
  have O176 := f173
  obtain ⟨c176, Ar176, S176, M176, V176⟩ := O176
  have at176 : c176.slots[((6 : Int32)).toNatClampNeg]? = some (.int v164) := own_at S176 V176 (own_ix (j := (6 : Int32)) (i := 6) (n := 7) (by decide) (by decide) (by decide)) rfl
  refine own_st (S' := T175.setTop (mkF m 40 #[.val (.ref a), .val (.ref ar), .val (.int (6 : Int32)), .val (.int (6 : Int32))] [(.int v164), (.int (6 : Int32)), (.ref b19)])) (fun t k => X175.iaload hx (j := (6 : Int32)) (v := (.int v164)) (by rw [e175]; exact Ar176.1) (State.isArrayOf_alike hZ.alike Ar176.2.1) Ar176.2.2 (own_in S176 (own_ix (j := (6 : Int32)) (i := 6) (n := 7) (by decide) (by decide) (by decide))) at176 (g := (mkF m 39 #[.val (.ref a), .val (.ref ar), .val (.int (6 : Int32)), .val (.int (6 : Int32))] [(.int (6 : Int32)), (.ref b19), (.int (6 : Int32)), (.ref b19)])) rfl rfl (hb hby d1_39) _ k) ?_
  refine own_st (S' := T175.setTop (mkF m 41 #[.val (.ref a), .val (.ref ar), .val (.int (6 : Int32)), .val (.int (6 : Int32))] [(.ref a), (.int v164), (.int (6 : Int32)), (.ref b19)])) (fun t k => XS.aloadN X175.here hx rfl (hb hby d1_40) rfl rfl k) ?_
  obtain ⟨T177, X177, e177, st177⟩ := getF X175 hx hZ hown (host := "") (Or.inl (hw _ (List.mem_of_getElem? (i := 20) rfl))) Via.refl e175 f167 (g := (mkF m 41 #[.val (.ref a), .val (.ref ar), .val (.int (6 : Int32)), .val (.int (6 : Int32))] [(.ref a), (.int v164), (.int (6 : Int32)), (.ref b19)])) rfl rfl (hb hby d1_41)
  refine own_st st177 ?_
  show own_Go p.tables e below _ (T177.setTop (mkF m 44 #[.val (.ref a), .val (.ref ar), .val (.int (6 : Int32)), .val (.int (6 : Int32))] [(.ref b2), (.int v164), (.int (6 : Int32)), (.ref b19)]))
  refine own_st (S' := T177.setTop (mkF m 45 #[.val (.ref a), .val (.ref ar), .val (.int (6 : Int32)), .val (.int (6 : Int32))] [(.int (6 : Int32)), (.ref b2), (.int v164), (.int (6 : Int32)), (.ref b19)])) (fun t k => XS.iloadN X177.here hx rfl (hb hby d1_44) rfl k) ?_
  refine own_st (S' := T177.setTop (mkF m 46 #[.val (.ref a), .val (.ref ar), .val (.int (6 : Int32)), .val (.int (6 : Int32))] [(.int (1 : Int32)), (.int (6 : Int32)), (.ref b2), (.int v164), (.int (6 : Int32)), (.ref b19)])) (fun t k => XS.iconst X177.here hx rfl (hb hby d1_45) k) ?_
  refine own_st (S' := T177.setTop (mkF m 47 #[.val (.ref a), .val (.ref ar), .val (.int (6 : Int32)), .val (.int (6 : Int32))] [(.int (5 : Int32)), (.ref b2), (.int v164), (.int (6 : Int32)), (.ref b19)])) (fun t k => XS.isub X177.here hx rfl (hb hby d1_46) rfl k) ?_
  have O178 := f171
  obtain ⟨c178, Ar178, S178, M178, V178⟩ := O178
  have at178 : c178.slots[((5 : Int32)).toNatClampNeg]? = some (.int w5) := own_at S178 V178 (own_ix (j := (5 : Int32)) (i := 5) (n := 6) (by decide) (by decide) (by decide)) rfl
  refine own_st (S' := T177.setTop (mkF m 48 #[.val (.ref a), .val (.ref ar), .val (.int (6 : Int32)), .val (.int (6 : Int32))] [(.int w5), (.int v164), (.int (6 : Int32)), (.ref b19)])) (fun t k => X177.iaload hx (j := (5 : Int32)) (v := (.int w5)) (by rw [e177]; exact Ar178.1) (State.isArrayOf_alike hZ.alike Ar178.2.1) Ar178.2.2 (own_in S178 (own_ix (j := (5 : Int32)) (i := 5) (n := 6) (by decide) (by decide) (by decide))) at178 (g := (mkF m 47 #[.val (.ref a), .val (.ref ar), .val (.int (6 : Int32)), .val (.int (6 : Int32))] [(.int (5 : Int32)), (.ref b2), (.int v164), (.int (6 : Int32)), (.ref b19)])) rfl rfl (hb hby d1_47) _ k) ?_
  refine own_st (S' := T177.setTop (mkF m 49 #[.val (.ref a), .val (.ref ar), .val (.int (6 : Int32)), .val (.int (6 : Int32))] [(.int (v164 + w5)), (.int (6 : Int32)), (.ref b19)])) (fun t k => XS.iadd X177.here hx rfl (hb hby d1_48) rfl k) ?_
  obtain ⟨v179, qv179⟩ : ∃ z : Int32, z = (v164 + w5) := ⟨_, rfl⟩
  show own_Go p.tables e below _ (T177.setTop (mkF m 49 #[.val (.ref a), .val (.ref ar), .val (.int (6 : Int32)), .val (.int (6 : Int32))] [(.int (v164 + w5)), (.int (6 : Int32)), (.ref b19)]))
  rw [← qv179]
  have O180 := f173
  obtain ⟨c180, Ar180, S180, M180, V180⟩ := O180
  obtain ⟨T180, h180, X180, e180, W180, st180⟩ := stI X177 hx hZ e177 Ar180 (j := (6 : Int32)) (own_in S180 (own_ix (j := (6 : Int32)) (i := 6) (n := 7) (by decide) (by decide) (by decide))) (g := (mkF m 49 #[.val (.ref a), .val (.ref ar), .val (.int (6 : Int32)), .val (.int (6 : Int32))] [(.int v179), (.int (6 : Int32)), (.ref b19)])) rfl rfl (hb hby d1_49)
  refine own_st st180 ?_
  have f181 : Exa Z h180 a "kithrank/Weights" := f166.wr W180
  have f182 : Fld Z h180 a "kithrank/Weights" "weight" "[I" (.ref b2) := f167.other W180 (Or.inl ne_a_b19)
  have f183 : Fld Z h180 a "kithrank/Weights" "tree" "[I" (.ref b19) := f168.other W180 (Or.inl ne_a_b19)
  have f184 : own_A Z h180 ar .int 6 (own_V [(.int w0), (.int w1), (.int w2), (.int w3), (.int w4), (.int w5)]) := f169.other W180 ne_ar_b19
  have f185 : Exa Z h180 ar "[I" := f170.wr W180
  have f186 : own_A Z h180 b2 .int 6 (own_V [(.int w0), (.int w1), (.int w2), (.int w3), (.int w4), (.int w5)]) := f171.other W180 ne_b2_b19
  have f187 : Exa Z h180 b2 "[I" := f172.wr W180
  have Z180 : n0 ≤ h180.size := Nat.le_trans Z165 (Keep.of_wr W180).1
  have N180 := Fr.snoc X180 N165 G_b19
  have K180 : Keep h0 h180 [a] := K165.wr W180 (Or.inr sz_b19)
  have f188 : own_A Z h180 b19 .int 7 (own_V [(.int (0 : Int32)), (.int v43), (.int v73), (.int v103), (.int v133), (.int v149), (.int v179)]) := (own_A.set ⟨c180, Ar180, S180, M180, V180⟩ (own_ix (j := (6 : Int32)) (i := 6) (n := 7) (by decide) (by decide) (by decide)) W180).cong (fun j hj => by match j, hj with | 0, _ => rfl | 1, _ => rfl | 2, _ => rfl | 3, _ => rfl | 4, _ => rfl | 5, _ => rfl | 6, _ => rfl | j + 7, h => exact absurd h (by omega))
  show own_Go p.tables e below _ (T180.setTop (mkF m 50 #[.val (.ref a), .val (.ref ar), .val (.int (6 : Int32)), .val (.int (6 : Int32))] []))
  refine own_st (S' := T180.setTop (mkF m 51 #[.val (.ref a), .val (.ref ar), .val (.int (6 : Int32)), .val (.int (6 : Int32))] [(.int (6 : Int32))])) (fun t k => XS.iloadN X180.here hx rfl (hb hby d1_50) rfl k) ?_
  refine own_st (S' := T180.setTop (mkF m 52 #[.val (.ref a), .val (.ref ar), .val (.int (6 : Int32)), .val (.int (6 : Int32))] [(.int (6 : Int32)), (.int (6 : Int32))])) (fun t k => XS.iloadN X180.here hx rfl (hb hby d1_51) rfl k) ?_
  refine own_st (S' := T180.setTop (mkF m 53 #[.val (.ref a), .val (.ref ar), .val (.int (6 : Int32)), .val (.int (6 : Int32))] [(.int (6 : Int32)), (.int (6 : Int32)), (.int (6 : Int32))])) (fun t k => XS.iloadN X180.here hx rfl (hb hby d1_52) rfl k) ?_
  refine own_st (S' := T180.setTop (mkF m 54 #[.val (.ref a), .val (.ref ar), .val (.int (6 : Int32)), .val (.int (6 : Int32))] [(.int (-6 : Int32)), (.int (6 : Int32)), (.int (6 : Int32))])) (fun t k => XS.ineg X180.here hx rfl (hb hby d1_53) rfl k) ?_
  refine own_st (S' := T180.setTop (mkF m 55 #[.val (.ref a), .val (.ref ar), .val (.int (6 : Int32)), .val (.int (6 : Int32))] [(.int (2 : Int32)), (.int (6 : Int32))])) (fun t k => XS.iand X180.here hx rfl (hb hby d1_54) rfl k) ?_
  refine own_st (S' := T180.setTop (mkF m 56 #[.val (.ref a), .val (.ref ar), .val (.int (6 : Int32)), .val (.int (6 : Int32))] [(.int (8 : Int32))])) (fun t k => XS.iadd X180.here hx rfl (hb hby d1_55) rfl k) ?_
  refine own_st (S' := T180.setTop (mkF m 57 #[.val (.ref a), .val (.ref ar), .val (.int (6 : Int32)), .val (.int (8 : Int32))] [])) (fun t k => XS.istoreN X180.here hx rfl (hb hby d1_56) rfl (l' := #[.val (.ref a), .val (.ref ar), .val (.int (6 : Int32)), .val (.int (8 : Int32))]) rfl k) ?_
  refine own_st (S' := T180.setTop (mkF m 58 #[.val (.ref a), .val (.ref ar), .val (.int (6 : Int32)), .val (.int (8 : Int32))] [(.int (8 : Int32))])) (fun t k => XS.iloadN X180.here hx rfl (hb hby d1_57) rfl k) ?_
  refine own_st (S' := T180.setTop (mkF m 59 #[.val (.ref a), .val (.ref ar), .val (.int (6 : Int32)), .val (.int (8 : Int32))] [(.ref ar), (.int (8 : Int32))])) (fun t k => XS.aloadN X180.here hx rfl (hb hby d1_58) rfl rfl k) ?_
  have O189 := f184
  obtain ⟨c189, Ar189, S189, M189, V189⟩ := O189
  have ln189 : c189.slots.size.toInt32 = (6 : Int32) := by rw [S189]; first | rfl | decide | exact rfl
  refine own_st (S' := T180.setTop (mkF m 60 #[.val (.ref a), .val (.ref ar), .val (.int (6 : Int32)), .val (.int (8 : Int32))] [(.int (6 : Int32)), (.int (8 : Int32))])) (fun t k => X180.arraylength hx (by rw [e180]; exact Ar189.1) (State.isArrayOf_alike hZ.alike Ar189.2.1) (g := (mkF m 59 #[.val (.ref a), .val (.ref ar), .val (.int (6 : Int32)), .val (.int (8 : Int32))] [(.ref ar), (.int (8 : Int32))])) rfl rfl (hb hby d1_59) _ (by rw [ln189]; exact k)) ?_
  refine own_st (S' := T180.setTop (mkF m 78 #[.val (.ref a), .val (.ref ar), .val (.int (6 : Int32)), .val (.int (8 : Int32))] [])) (fun t k => XS.icmpYes X180.here hx rfl (pc0 := 60) (pc' := 78) rfl (hb hby d1_60) rfl (tlt (by decide)).2.2.1 (by decide) (by decide) k) ?_
  show own_Go p.tables e below _ (T180.setTop (mkF m 78 #[.val (.ref a), .val (.ref ar), .val (.int (6 : Int32)), .val (.int (8 : Int32))] []))
  refine own_st (S' := T180.setTop (mkF m 81 #[.val (.ref a), .val (.ref ar), .val (.int (7 : Int32)), .val (.int (8 : Int32))] [])) (fun t k => XS.iinc X180.here hx rfl (hb hby d1_78) rfl (l' := #[.val (.ref a), .val (.ref ar), .val (.int (7 : Int32)), .val (.int (8 : Int32))]) rfl k) ?_
  refine own_st (S' := T180.setTop (mkF m 27 #[.val (.ref a), .val (.ref ar), .val (.int (7 : Int32)), .val (.int (8 : Int32))] [])) (fun t k => XS.goto X180.here hx rfl (pc0 := 81) (pc' := 27) rfl (hb hby d1_81) (by decide) (by decide) k) ?_
  refine own_st (S' := T180.setTop (mkF m 28 #[.val (.ref a), .val (.ref ar), .val (.int (7 : Int32)), .val (.int (8 : Int32))] [(.int (7 : Int32))])) (fun t k => XS.iloadN X180.here hx rfl (hb hby d1_27) rfl k) ?_
  refine own_st (S' := T180.setTop (mkF m 29 #[.val (.ref a), .val (.ref ar), .val (.int (7 : Int32)), .val (.int (8 : Int32))] [(.ref ar), (.int (7 : Int32))])) (fun t k => XS.aloadN X180.here hx rfl (hb hby d1_28) rfl rfl k) ?_
  have O190 := f184
  obtain ⟨c190, Ar190, S190, M190, V190⟩ := O190
  have ln190 : c190.slots.size.toInt32 = (6 : Int32) := by rw [S190]; first | rfl | decide | exact rfl
  refine own_st (S' := T180.setTop (mkF m 30 #[.val (.ref a), .val (.ref ar), .val (.int (7 : Int32)), .val (.int (8 : Int32))] [(.int (6 : Int32)), (.int (7 : Int32))])) (fun t k => X180.arraylength hx (by rw [e180]; exact Ar190.1) (State.isArrayOf_alike hZ.alike Ar190.2.1) (g := (mkF m 29 #[.val (.ref a), .val (.ref ar), .val (.int (7 : Int32)), .val (.int (8 : Int32))] [(.ref ar), (.int (7 : Int32))])) rfl rfl (hb hby d1_29) _ (by rw [ln190]; exact k)) ?_
  refine own_st (S' := T180.setTop (mkF m 84 #[.val (.ref a), .val (.ref ar), .val (.int (7 : Int32)), .val (.int (8 : Int32))] [])) (fun t k => XS.icmpYes X180.here hx rfl (pc0 := 30) (pc' := 84) rfl (hb hby d1_30) rfl (tlt (by decide)).2.2.1 (by decide) (by decide) k) ?_
  show own_Go p.tables e below _ (T180.setTop (mkF m 84 #[.val (.ref a), .val (.ref ar), .val (.int (7 : Int32)), .val (.int (8 : Int32))] []))
  refine own_retV X180 hx hret hlk (hb hby d1_84) ?_ (by decide) (by decide)
  rw [e180]
  subst qv43
  subst qv58
  subst qv73
  subst qv88
  subst qv103
  subst qv118
  subst qv133
  subst qv149
  subst qv164
  subst qv179
  exact ⟨b2, b19, rfl, N180, K180, sz_b2, sz_b19, ne_b2_b19, f181, f182, f183, f186, (f188.cong (fun j hj => by match j, hj with | 0, _ => rfl | 1, _ => rfl | 2, _ => rfl | 3, _ => rfl | 4, _ => rfl | 5, _ => rfl | 6, _ => rfl | j + 7, h => exact absurd h (by omega)))⟩
theorem d2_0 : decode prog_135_method_3_code 0 = .ok (.iload_n 2, 1) := by decide +kernel
theorem d2_1 : decode prog_135_method_3_code 1 = .ok (.aload_n 0, 1) := by decide +kernel
theorem d2_2 : decode prog_135_method_3_code 2 = .ok (.getfield 13, 3) := by decide +kernel
theorem d2_5 : decode prog_135_method_3_code 5 = .ok (.iload_n 1, 1) := by decide +kernel
theorem d2_6 : decode prog_135_method_3_code 6 = .ok (.iaload, 1) := by decide +kernel
theorem d2_7 : decode prog_135_method_3_code 7 = .ok (.isub, 1) := by decide +kernel
theorem d2_8 : decode prog_135_method_3_code 8 = .ok (.istore_n 3, 1) := by decide +kernel
theorem d2_9 : decode prog_135_method_3_code 9 = .ok (.aload_n 0, 1) := by decide +kernel
theorem d2_10 : decode prog_135_method_3_code 10 = .ok (.getfield 13, 3) := by decide +kernel
theorem d2_13 : decode prog_135_method_3_code 13 = .ok (.iload_n 1, 1) := by decide +kernel
theorem d2_14 : decode prog_135_method_3_code 14 = .ok (.iload_n 2, 1) := by decide +kernel
theorem d2_15 : decode prog_135_method_3_code 15 = .ok (.iastore, 1) := by decide +kernel
theorem d2_16 : decode prog_135_method_3_code 16 = .ok (.iload_n 1, 1) := by decide +kernel
theorem d2_17 : decode prog_135_method_3_code 17 = .ok (.iconst 1, 1) := by decide +kernel
theorem d2_18 : decode prog_135_method_3_code 18 = .ok (.iadd, 1) := by decide +kernel
theorem d2_19 : decode prog_135_method_3_code 19 = .ok (.istore 4, 2) := by decide +kernel
theorem d2_21 : decode prog_135_method_3_code 21 = .ok (.iload 4, 2) := by decide +kernel
theorem d2_23 : decode prog_135_method_3_code 23 = .ok (.aload_n 0, 1) := by decide +kernel
theorem d2_24 : decode prog_135_method_3_code 24 = .ok (.getfield 18, 3) := by decide +kernel
theorem d2_27 : decode prog_135_method_3_code 27 = .ok (.arraylength, 1) := by decide +kernel
theorem d2_28 : decode prog_135_method_3_code 28 = .ok (.if_icmp .ge 28, 3) := by decide +kernel
theorem d2_31 : decode prog_135_method_3_code 31 = .ok (.aload_n 0, 1) := by decide +kernel
theorem d2_32 : decode prog_135_method_3_code 32 = .ok (.getfield 18, 3) := by decide +kernel
theorem d2_35 : decode prog_135_method_3_code 35 = .ok (.iload 4, 2) := by decide +kernel
theorem d2_37 : decode prog_135_method_3_code 37 = .ok (.dup2, 1) := by decide +kernel
theorem d2_38 : decode prog_135_method_3_code 38 = .ok (.iaload, 1) := by decide +kernel
theorem d2_39 : decode prog_135_method_3_code 39 = .ok (.iload_n 3, 1) := by decide +kernel
theorem d2_40 : decode prog_135_method_3_code 40 = .ok (.iadd, 1) := by decide +kernel
theorem d2_41 : decode prog_135_method_3_code 41 = .ok (.iastore, 1) := by decide +kernel
theorem d2_42 : decode prog_135_method_3_code 42 = .ok (.iload 4, 2) := by decide +kernel
theorem d2_44 : decode prog_135_method_3_code 44 = .ok (.iload 4, 2) := by decide +kernel
theorem d2_46 : decode prog_135_method_3_code 46 = .ok (.iload 4, 2) := by decide +kernel
theorem d2_48 : decode prog_135_method_3_code 48 = .ok (.ineg, 1) := by decide +kernel
theorem d2_49 : decode prog_135_method_3_code 49 = .ok (.iand, 1) := by decide +kernel
theorem d2_50 : decode prog_135_method_3_code 50 = .ok (.iadd, 1) := by decide +kernel
theorem d2_51 : decode prog_135_method_3_code 51 = .ok (.istore 4, 2) := by decide +kernel
theorem d2_53 : decode prog_135_method_3_code 53 = .ok (.goto (-32), 3) := by decide +kernel
theorem d2_56 : decode prog_135_method_3_code 56 = .ok (.return_, 1) := by decide +kernel
theorem pn2 : plainName "kithrank/Weights" = true := by first | (simp [plainName, overriddenIn]; done) | decide +kernel
theorem ef2 (m : MethodId) (a : Addr) (p1 : Int32) (p2 : Int32) : entryFrame m #[(.ref a), (.int p1), (.int p2)] 5 = mkF m 0 #[.val (.ref a), .val (.int p1), .val (.int p2), .unset, .unset] [] := by first | (simp [entryFrame, mkF, argsToLocals, Value.category]; done) | rfl
def Q2 (Z : State) (a : Addr) (p1 : Int32) (p2 : Int32) (wt : Addr) (tr : Addr) (w0 : Int32) (w1 : Int32) (w2 : Int32) (w3 : Int32) (w4 : Int32) (w5 : Int32) (t0 : Int32) (t1 : Int32) (t2 : Int32) (t3 : Int32) (t4 : Int32) (t5 : Int32) (t6 : Int32) (h0 : Heap) (n0 : Nat) (v : Option Value) (h : Heap) (L : List Loc) : Prop := v = none ∧ Fr n0 L ∧ Keep h0 h [wt, tr] ∧ own_A Z h wt .int 6 (own_V [(.int (if p1 = (0 : Int32) then p2 else w0)), (.int (if p1 = (1 : Int32) then p2 else w1)), (.int (if p1 = (2 : Int32) then p2 else w2)), (.int (if p1 = (3 : Int32) then p2 else w3)), (.int (if p1 = (4 : Int32) then p2 else w4)), (.int (if p1 = (5 : Int32) then p2 else w5))]) ∧ own_A Z h tr .int 7 (own_V [(.int t0), (.int (if p1 = (0 : Int32) then (t1 + (p2 - w0)) else t1)), (.int (if p1 = (0 : Int32) then (t2 + (p2 - w0)) else (if p1 = (1 : Int32) then (t2 + (p2 - w1)) else t2))), (.int (if p1 = (2 : Int32) then (t3 + (p2 - w2)) else t3)), (.int (if p1 = (0 : Int32) then (t4 + (p2 - w0)) else (if p1 = (1 : Int32) then (t4 + (p2 - w1)) else (if p1 = (2 : Int32) then (t4 + (p2 - w2)) else (if p1 = (3 : Int32) then (t4 + (p2 - w3)) else t4))))), (.int (if p1 = (4 : Int32) then (t5 + (p2 - w4)) else t5)), (.int (if p1 = (4 : Int32) then (t6 + (p2 - w4)) else (if p1 = (5 : Int32) then (t6 + (p2 - w5)) else t6)))])
set_option maxRecDepth 65536 in
set_option maxHeartbeats 40000000 in
theorem rm2 (l : Launch) (Z : State) (a0 : Array Value) (hw : ∀ d ∈ tables_1, d.before a0 Z = true) (ws : List Jvm.Cond) (a : Addr) (p1 : Int32) (p2 : Int32) (wt : Addr) (tr : Addr) (w0 : Int32) (w1 : Int32) (w2 : Int32) (w3 : Int32) (w4 : Int32) (w5 : Int32) (t0 : Int32) (t1 : Int32) (t2 : Int32) (t3 : Int32) (t4 : Int32) (t5 : Int32) (t6 : Int32) (h0 : Heap) (n0 : Nat) (Z0 : n0 ≤ h0.size) (F_a_weight : Fld Z h0 a "kithrank/Weights" "weight" "[I" (.ref wt)) (F_a_tree : Fld Z h0 a "kithrank/Weights" "tree" "[I" (.ref tr)) (A_wt : own_A Z h0 wt .int 6 (own_V [(.int w0), (.int w1), (.int w2), (.int w3), (.int w4), (.int w5)])) (A_tr : own_A Z h0 tr .int 7 (own_V [(.int t0), (.int t1), (.int t2), (.int t3), (.int t4), (.int t5), (.int t6)])) (G_wt : n0 ≤ wt) (G_tr : n0 ≤ tr) (ne_wt_tr : wt ≠ tr) (ne_a_wt : a ≠ wt) (ne_a_tr : a ≠ tr) (hi : 0 ≤ p1.toInt ∧ p1.toInt < 6) :
    MetFree l (⟨"kithrank/Weights", "set", "(II)V"⟩ : MethodName) (head1 (Jvm.Cond.code (⟨"kithrank/Weights", "set", "(II)V"⟩ : MethodName) prog_135_method_3_code 5 none :: ws) ({ frames := 0, cells := 0, slots := 0, locals := 0 } : Room)) (fun as' U => as' = #[(.ref a), (.int p1), (.int p2)] ∧ Z.Warmed39 U.vm ∧ U.heap = h0) (fun _ _ _ _ _ => True) (fun _ U o U' => ∃ v L, o = .returned v ∧ Q2 Z a p1 p2 wt tr w0 w1 w2 w3 w4 w5 t0 t1 t2 t3 t4 t5 t6 h0 n0 v U'.heap L ∧ FrameEnd U o U' L ({ frames := 0, cells := 0, slots := 0, locals := 0 } : Room).cells ({ frames := 0, cells := 0, slots := 0, locals := 0 } : Room).slots) := by
  refine own_body (plainFor_of_name pn2) ?_
  intro p e s m below meth c s₁ hx hby hml hown0 hnm hret hlk hZ X0 e0
  have hown : s.vm.findClass "kithrank/Weights" = some m.cls := hown0
  have N0 := Fr.nil n0
  rw [ef2]
  have K0 : Keep h0 h0 [wt, tr] := Keep.refl h0 [wt, tr]
  rcases own_six hi with rfl | rfl | rfl | rfl | rfl | rfl
  · show own_Go p.tables e below _ (s₁.setTop (mkF m 0 #[.val (.ref a), .val (.int (0 : Int32)), .val (.int p2), .unset, .unset] []))
    refine own_st (S' := s₁.setTop (mkF m 1 #[.val (.ref a), .val (.int (0 : Int32)), .val (.int p2), .unset, .unset] [(.int p2)])) (fun t k => XS.iloadN X0.here hx rfl (hb hby d2_0) rfl k) ?_
    refine own_st (S' := s₁.setTop (mkF m 2 #[.val (.ref a), .val (.int (0 : Int32)), .val (.int p2), .unset, .unset] [(.ref a), (.int p2)])) (fun t k => XS.aloadN X0.here hx rfl (hb hby d2_1) rfl rfl k) ?_
    obtain ⟨T1, X1, e1, st1⟩ := getF X0 hx hZ hown (host := "") (Or.inl (hw _ (List.mem_of_getElem? (i := 20) rfl))) Via.refl e0 F_a_weight (g := (mkF m 2 #[.val (.ref a), .val (.int (0 : Int32)), .val (.int p2), .unset, .unset] [(.ref a), (.int p2)])) rfl rfl (hb hby d2_2)
    refine own_st st1 ?_
    show own_Go p.tables e below _ (T1.setTop (mkF m 5 #[.val (.ref a), .val (.int (0 : Int32)), .val (.int p2), .unset, .unset] [(.ref wt), (.int p2)]))
    refine own_st (S' := T1.setTop (mkF m 6 #[.val (.ref a), .val (.int (0 : Int32)), .val (.int p2), .unset, .unset] [(.int (0 : Int32)), (.ref wt), (.int p2)])) (fun t k => XS.iloadN X1.here hx rfl (hb hby d2_5) rfl k) ?_
    have O2 := A_wt
    obtain ⟨c2, Ar2, S2, M2, V2⟩ := O2
    have at2 : c2.slots[((0 : Int32)).toNatClampNeg]? = some (.int w0) := own_at S2 V2 (own_ix (j := (0 : Int32)) (i := 0) (n := 6) (by decide) (by decide) (by decide)) rfl
    refine own_st (S' := T1.setTop (mkF m 7 #[.val (.ref a), .val (.int (0 : Int32)), .val (.int p2), .unset, .unset] [(.int w0), (.int p2)])) (fun t k => X1.iaload hx (j := (0 : Int32)) (v := (.int w0)) (by rw [e1]; exact Ar2.1) (State.isArrayOf_alike hZ.alike Ar2.2.1) Ar2.2.2 (own_in S2 (own_ix (j := (0 : Int32)) (i := 0) (n := 6) (by decide) (by decide) (by decide))) at2 (g := (mkF m 6 #[.val (.ref a), .val (.int (0 : Int32)), .val (.int p2), .unset, .unset] [(.int (0 : Int32)), (.ref wt), (.int p2)])) rfl rfl (hb hby d2_6) _ k) ?_
    refine own_st (S' := T1.setTop (mkF m 8 #[.val (.ref a), .val (.int (0 : Int32)), .val (.int p2), .unset, .unset] [(.int (p2 - w0))])) (fun t k => XS.isub X1.here hx rfl (hb hby d2_7) rfl k) ?_
    obtain ⟨v3, qv3⟩ : ∃ z : Int32, z = (p2 - w0) := ⟨_, rfl⟩
    show own_Go p.tables e below _ (T1.setTop (mkF m 8 #[.val (.ref a), .val (.int (0 : Int32)), .val (.int p2), .unset, .unset] [(.int (p2 - w0))]))
    rw [← qv3]
    refine own_st (S' := T1.setTop (mkF m 9 #[.val (.ref a), .val (.int (0 : Int32)), .val (.int p2), .val (.int v3), .unset] [])) (fun t k => XS.istoreN X1.here hx rfl (hb hby d2_8) rfl (l' := #[.val (.ref a), .val (.int (0 : Int32)), .val (.int p2), .val (.int v3), .unset]) rfl k) ?_
    refine own_st (S' := T1.setTop (mkF m 10 #[.val (.ref a), .val (.int (0 : Int32)), .val (.int p2), .val (.int v3), .unset] [(.ref a)])) (fun t k => XS.aloadN X1.here hx rfl (hb hby d2_9) rfl rfl k) ?_
    obtain ⟨T4, X4, e4, st4⟩ := getF X1 hx hZ hown (host := "") (Or.inl (hw _ (List.mem_of_getElem? (i := 20) rfl))) Via.refl e1 F_a_weight (g := (mkF m 10 #[.val (.ref a), .val (.int (0 : Int32)), .val (.int p2), .val (.int v3), .unset] [(.ref a)])) rfl rfl (hb hby d2_10)
    refine own_st st4 ?_
    show own_Go p.tables e below _ (T4.setTop (mkF m 13 #[.val (.ref a), .val (.int (0 : Int32)), .val (.int p2), .val (.int v3), .unset] [(.ref wt)]))
    refine own_st (S' := T4.setTop (mkF m 14 #[.val (.ref a), .val (.int (0 : Int32)), .val (.int p2), .val (.int v3), .unset] [(.int (0 : Int32)), (.ref wt)])) (fun t k => XS.iloadN X4.here hx rfl (hb hby d2_13) rfl k) ?_
    refine own_st (S' := T4.setTop (mkF m 15 #[.val (.ref a), .val (.int (0 : Int32)), .val (.int p2), .val (.int v3), .unset] [(.int p2), (.int (0 : Int32)), (.ref wt)])) (fun t k => XS.iloadN X4.here hx rfl (hb hby d2_14) rfl k) ?_
    have O5 := A_wt
    obtain ⟨c5, Ar5, S5, M5, V5⟩ := O5
    obtain ⟨T5, h5, X5, e5, W5, st5⟩ := stI X4 hx hZ e4 Ar5 (j := (0 : Int32)) (own_in S5 (own_ix (j := (0 : Int32)) (i := 0) (n := 6) (by decide) (by decide) (by decide))) (g := (mkF m 15 #[.val (.ref a), .val (.int (0 : Int32)), .val (.int p2), .val (.int v3), .unset] [(.int p2), (.int (0 : Int32)), (.ref wt)])) rfl rfl (hb hby d2_15)
    refine own_st st5 ?_
    have f6 : Fld Z h5 a "kithrank/Weights" "weight" "[I" (.ref wt) := F_a_weight.other W5 (Or.inl ne_a_wt)
    have f7 : Fld Z h5 a "kithrank/Weights" "tree" "[I" (.ref tr) := F_a_tree.other W5 (Or.inl ne_a_wt)
    have f8 : own_A Z h5 tr .int 7 (own_V [(.int t0), (.int t1), (.int t2), (.int t3), (.int t4), (.int t5), (.int t6)]) := A_tr.other W5 (Ne.symm ne_wt_tr)
    have Z5 : n0 ≤ h5.size := Nat.le_trans Z0 (Keep.of_wr W5).1
    have N5 := Fr.snoc X5 N0 G_wt
    have K5 : Keep h0 h5 [wt, tr] := K0.wr W5 (Or.inl (List.mem_of_getElem? (i := 0) rfl))
    have f9 : own_A Z h5 wt .int 6 (own_V [(.int p2), (.int w1), (.int w2), (.int w3), (.int w4), (.int w5)]) := (own_A.set ⟨c5, Ar5, S5, M5, V5⟩ (own_ix (j := (0 : Int32)) (i := 0) (n := 6) (by decide) (by decide) (by decide)) W5).cong (fun j hj => by match j, hj with | 0, _ => rfl | 1, _ => rfl | 2, _ => rfl | 3, _ => rfl | 4, _ => rfl | 5, _ => rfl | j + 6, h => exact absurd h (by omega))
    show own_Go p.tables e below _ (T5.setTop (mkF m 16 #[.val (.ref a), .val (.int (0 : Int32)), .val (.int p2), .val (.int v3), .unset] []))
    refine own_st (S' := T5.setTop (mkF m 17 #[.val (.ref a), .val (.int (0 : Int32)), .val (.int p2), .val (.int v3), .unset] [(.int (0 : Int32))])) (fun t k => XS.iloadN X5.here hx rfl (hb hby d2_16) rfl k) ?_
    refine own_st (S' := T5.setTop (mkF m 18 #[.val (.ref a), .val (.int (0 : Int32)), .val (.int p2), .val (.int v3), .unset] [(.int (1 : Int32)), (.int (0 : Int32))])) (fun t k => XS.iconst X5.here hx rfl (hb hby d2_17) k) ?_
    refine own_st (S' := T5.setTop (mkF m 19 #[.val (.ref a), .val (.int (0 : Int32)), .val (.int p2), .val (.int v3), .unset] [(.int (1 : Int32))])) (fun t k => XS.iadd X5.here hx rfl (hb hby d2_18) rfl k) ?_
    refine own_st (S' := T5.setTop (mkF m 21 #[.val (.ref a), .val (.int (0 : Int32)), .val (.int p2), .val (.int v3), .val (.int (1 : Int32))] [])) (fun t k => XS.istore X5.here hx rfl (hb hby d2_19) rfl (l' := #[.val (.ref a), .val (.int (0 : Int32)), .val (.int p2), .val (.int v3), .val (.int (1 : Int32))]) rfl k) ?_
    refine own_st (S' := T5.setTop (mkF m 23 #[.val (.ref a), .val (.int (0 : Int32)), .val (.int p2), .val (.int v3), .val (.int (1 : Int32))] [(.int (1 : Int32))])) (fun t k => XS.iload X5.here hx rfl (hb hby d2_21) rfl k) ?_
    refine own_st (S' := T5.setTop (mkF m 24 #[.val (.ref a), .val (.int (0 : Int32)), .val (.int p2), .val (.int v3), .val (.int (1 : Int32))] [(.ref a), (.int (1 : Int32))])) (fun t k => XS.aloadN X5.here hx rfl (hb hby d2_23) rfl rfl k) ?_
    obtain ⟨T10, X10, e10, st10⟩ := getF X5 hx hZ hown (host := "") (Or.inl (hw _ (List.mem_of_getElem? (i := 22) rfl))) Via.refl e5 f7 (g := (mkF m 24 #[.val (.ref a), .val (.int (0 : Int32)), .val (.int p2), .val (.int v3), .val (.int (1 : Int32))] [(.ref a), (.int (1 : Int32))])) rfl rfl (hb hby d2_24)
    refine own_st st10 ?_
    show own_Go p.tables e below _ (T10.setTop (mkF m 27 #[.val (.ref a), .val (.int (0 : Int32)), .val (.int p2), .val (.int v3), .val (.int (1 : Int32))] [(.ref tr), (.int (1 : Int32))]))
    have O11 := f8
    obtain ⟨c11, Ar11, S11, M11, V11⟩ := O11
    have ln11 : c11.slots.size.toInt32 = (7 : Int32) := by rw [S11]; first | rfl | decide | exact rfl
    refine own_st (S' := T10.setTop (mkF m 28 #[.val (.ref a), .val (.int (0 : Int32)), .val (.int p2), .val (.int v3), .val (.int (1 : Int32))] [(.int (7 : Int32)), (.int (1 : Int32))])) (fun t k => X10.arraylength hx (by rw [e10]; exact Ar11.1) (State.isArrayOf_alike hZ.alike Ar11.2.1) (g := (mkF m 27 #[.val (.ref a), .val (.int (0 : Int32)), .val (.int p2), .val (.int v3), .val (.int (1 : Int32))] [(.ref tr), (.int (1 : Int32))])) rfl rfl (hb hby d2_27) _ (by rw [ln11]; exact k)) ?_
    refine own_st (S' := T10.setTop (mkF m 31 #[.val (.ref a), .val (.int (0 : Int32)), .val (.int p2), .val (.int v3), .val (.int (1 : Int32))] [])) (fun t k => XS.icmpNo X10.here hx rfl (hb hby d2_28) rfl (tlt (by decide)).2.1 k) ?_
    show own_Go p.tables e below _ (T10.setTop (mkF m 31 #[.val (.ref a), .val (.int (0 : Int32)), .val (.int p2), .val (.int v3), .val (.int (1 : Int32))] []))
    refine own_st (S' := T10.setTop (mkF m 32 #[.val (.ref a), .val (.int (0 : Int32)), .val (.int p2), .val (.int v3), .val (.int (1 : Int32))] [(.ref a)])) (fun t k => XS.aloadN X10.here hx rfl (hb hby d2_31) rfl rfl k) ?_
    obtain ⟨T12, X12, e12, st12⟩ := getF X10 hx hZ hown (host := "") (Or.inl (hw _ (List.mem_of_getElem? (i := 22) rfl))) Via.refl e10 f7 (g := (mkF m 32 #[.val (.ref a), .val (.int (0 : Int32)), .val (.int p2), .val (.int v3), .val (.int (1 : Int32))] [(.ref a)])) rfl rfl (hb hby d2_32)
    refine own_st st12 ?_
    show own_Go p.tables e below _ (T12.setTop (mkF m 35 #[.val (.ref a), .val (.int (0 : Int32)), .val (.int p2), .val (.int v3), .val (.int (1 : Int32))] [(.ref tr)]))
    refine own_st (S' := T12.setTop (mkF m 37 #[.val (.ref a), .val (.int (0 : Int32)), .val (.int p2), .val (.int v3), .val (.int (1 : Int32))] [(.int (1 : Int32)), (.ref tr)])) (fun t k => XS.iload X12.here hx rfl (hb hby d2_35) rfl k) ?_
    refine own_st (S' := T12.setTop (mkF m 38 #[.val (.ref a), .val (.int (0 : Int32)), .val (.int p2), .val (.int v3), .val (.int (1 : Int32))] [(.int (1 : Int32)), (.ref tr), (.int (1 : Int32)), (.ref tr)])) (fun t k => Jvm.Free.XT.dup2 X12.here hx rfl (hb hby d2_37) rfl rfl rfl k) ?_
    have O13 := f8
    obtain ⟨c13, Ar13, S13, M13, V13⟩ := O13
    have at13 : c13.slots[((1 : Int32)).toNatClampNeg]? = some (.int t1) := own_at S13 V13 (own_ix (j := (1 : Int32)) (i := 1) (n := 7) (by decide) (by decide) (by decide)) rfl
    refine own_st (S' := T12.setTop (mkF m 39 #[.val (.ref a), .val (.int (0 : Int32)), .val (.int p2), .val (.int v3), .val (.int (1 : Int32))] [(.int t1), (.int (1 : Int32)), (.ref tr)])) (fun t k => X12.iaload hx (j := (1 : Int32)) (v := (.int t1)) (by rw [e12]; exact Ar13.1) (State.isArrayOf_alike hZ.alike Ar13.2.1) Ar13.2.2 (own_in S13 (own_ix (j := (1 : Int32)) (i := 1) (n := 7) (by decide) (by decide) (by decide))) at13 (g := (mkF m 38 #[.val (.ref a), .val (.int (0 : Int32)), .val (.int p2), .val (.int v3), .val (.int (1 : Int32))] [(.int (1 : Int32)), (.ref tr), (.int (1 : Int32)), (.ref tr)])) rfl rfl (hb hby d2_38) _ k) ?_
    refine own_st (S' := T12.setTop (mkF m 40 #[.val (.ref a), .val (.int (0 : Int32)), .val (.int p2), .val (.int v3), .val (.int (1 : Int32))] [(.int v3), (.int t1), (.int (1 : Int32)), (.ref tr)])) (fun t k => XS.iloadN X12.here hx rfl (hb hby d2_39) rfl k) ?_
    refine own_st (S' := T12.setTop (mkF m 41 #[.val (.ref a), .val (.int (0 : Int32)), .val (.int p2), .val (.int v3), .val (.int (1 : Int32))] [(.int (t1 + v3)), (.int (1 : Int32)), (.ref tr)])) (fun t k => XS.iadd X12.here hx rfl (hb hby d2_40) rfl k) ?_
    obtain ⟨v14, qv14⟩ : ∃ z : Int32, z = (t1 + v3) := ⟨_, rfl⟩
    show own_Go p.tables e below _ (T12.setTop (mkF m 41 #[.val (.ref a), .val (.int (0 : Int32)), .val (.int p2), .val (.int v3), .val (.int (1 : Int32))] [(.int (t1 + v3)), (.int (1 : Int32)), (.ref tr)]))
    rw [← qv14]
    have O15 := f8
    obtain ⟨c15, Ar15, S15, M15, V15⟩ := O15
    obtain ⟨T15, h15, X15, e15, W15, st15⟩ := stI X12 hx hZ e12 Ar15 (j := (1 : Int32)) (own_in S15 (own_ix (j := (1 : Int32)) (i := 1) (n := 7) (by decide) (by decide) (by decide))) (g := (mkF m 41 #[.val (.ref a), .val (.int (0 : Int32)), .val (.int p2), .val (.int v3), .val (.int (1 : Int32))] [(.int v14), (.int (1 : Int32)), (.ref tr)])) rfl rfl (hb hby d2_41)
    refine own_st st15 ?_
    have f16 : Fld Z h15 a "kithrank/Weights" "weight" "[I" (.ref wt) := f6.other W15 (Or.inl ne_a_tr)
    have f17 : Fld Z h15 a "kithrank/Weights" "tree" "[I" (.ref tr) := f7.other W15 (Or.inl ne_a_tr)
    have f18 : own_A Z h15 wt .int 6 (own_V [(.int p2), (.int w1), (.int w2), (.int w3), (.int w4), (.int w5)]) := f9.other W15 ne_wt_tr
    have Z15 : n0 ≤ h15.size := Nat.le_trans Z5 (Keep.of_wr W15).1
    have N15 := Fr.snoc X15 N5 G_tr
    have K15 : Keep h0 h15 [wt, tr] := K5.wr W15 (Or.inl (List.mem_of_getElem? (i := 1) rfl))
    have f19 : own_A Z h15 tr .int 7 (own_V [(.int t0), (.int v14), (.int t2), (.int t3), (.int t4), (.int t5), (.int t6)]) := (own_A.set ⟨c15, Ar15, S15, M15, V15⟩ (own_ix (j := (1 : Int32)) (i := 1) (n := 7) (by decide) (by decide) (by decide)) W15).cong (fun j hj => by match j, hj with | 0, _ => rfl | 1, _ => rfl | 2, _ => rfl | 3, _ => rfl | 4, _ => rfl | 5, _ => rfl | 6, _ => rfl | j + 7, h => exact absurd h (by omega))
    show own_Go p.tables e below _ (T15.setTop (mkF m 42 #[.val (.ref a), .val (.int (0 : Int32)), .val (.int p2), .val (.int v3), .val (.int (1 : Int32))] []))
    refine own_st (S' := T15.setTop (mkF m 44 #[.val (.ref a), .val (.int (0 : Int32)), .val (.int p2), .val (.int v3), .val (.int (1 : Int32))] [(.int (1 : Int32))])) (fun t k => XS.iload X15.here hx rfl (hb hby d2_42) rfl k) ?_
    refine own_st (S' := T15.setTop (mkF m 46 #[.val (.ref a), .val (.int (0 : Int32)), .val (.int p2), .val (.int v3), .val (.int (1 : Int32))] [(.int (1 : Int32)), (.int (1 : Int32))])) (fun t k => XS.iload X15.here hx rfl (hb hby d2_44) rfl k) ?_
    refine own_st (S' := T15.setTop (mkF m 48 #[.val (.ref a), .val (.int (0 : Int32)), .val (.int p2), .val (.int v3), .val (.int (1 : Int32))] [(.int (1 : Int32)), (.int (1 : Int32)), (.int (1 : Int32))])) (fun t k => XS.iload X15.here hx rfl (hb hby d2_46) rfl k) ?_
    refine own_st (S' := T15.setTop (mkF m 49 #[.val (.ref a), .val (.int (0 : Int32)), .val (.int p2), .val (.int v3), .val (.int (1 : Int32))] [(.int (-1 : Int32)), (.int (1 : Int32)), (.int (1 : Int32))])) (fun t k => XS.ineg X15.here hx rfl (hb hby d2_48) rfl k) ?_
    refine own_st (S' := T15.setTop (mkF m 50 #[.val (.ref a), .val (.int (0 : Int32)), .val (.int p2), .val (.int v3), .val (.int (1 : Int32))] [(.int (1 : Int32)), (.int (1 : Int32))])) (fun t k => XS.iand X15.here hx rfl (hb hby d2_49) rfl k) ?_
    refine own_st (S' := T15.setTop (mkF m 51 #[.val (.ref a), .val (.int (0 : Int32)), .val (.int p2), .val (.int v3), .val (.int (1 : Int32))] [(.int (2 : Int32))])) (fun t k => XS.iadd X15.here hx rfl (hb hby d2_50) rfl k) ?_
    refine own_st (S' := T15.setTop (mkF m 53 #[.val (.ref a), .val (.int (0 : Int32)), .val (.int p2), .val (.int v3), .val (.int (2 : Int32))] [])) (fun t k => XS.istore X15.here hx rfl (hb hby d2_51) rfl (l' := #[.val (.ref a), .val (.int (0 : Int32)), .val (.int p2), .val (.int v3), .val (.int (2 : Int32))]) rfl k) ?_
    refine own_st (S' := T15.setTop (mkF m 21 #[.val (.ref a), .val (.int (0 : Int32)), .val (.int p2), .val (.int v3), .val (.int (2 : Int32))] [])) (fun t k => XS.goto X15.here hx rfl (pc0 := 53) (pc' := 21) rfl (hb hby d2_53) (by decide) (by decide) k) ?_
    refine own_st (S' := T15.setTop (mkF m 23 #[.val (.ref a), .val (.int (0 : Int32)), .val (.int p2), .val (.int v3), .val (.int (2 : Int32))] [(.int (2 : Int32))])) (fun t k => XS.iload X15.here hx rfl (hb hby d2_21) rfl k) ?_
    refine own_st (S' := T15.setTop (mkF m 24 #[.val (.ref a), .val (.int (0 : Int32)), .val (.int p2), .val (.int v3), .val (.int (2 : Int32))] [(.ref a), (.int (2 : Int32))])) (fun t k => XS.aloadN X15.here hx rfl (hb hby d2_23) rfl rfl k) ?_
    obtain ⟨T20, X20, e20, st20⟩ := getF X15 hx hZ hown (host := "") (Or.inl (hw _ (List.mem_of_getElem? (i := 22) rfl))) Via.refl e15 f17 (g := (mkF m 24 #[.val (.ref a), .val (.int (0 : Int32)), .val (.int p2), .val (.int v3), .val (.int (2 : Int32))] [(.ref a), (.int (2 : Int32))])) rfl rfl (hb hby d2_24)
    refine own_st st20 ?_
    show own_Go p.tables e below _ (T20.setTop (mkF m 27 #[.val (.ref a), .val (.int (0 : Int32)), .val (.int p2), .val (.int v3), .val (.int (2 : Int32))] [(.ref tr), (.int (2 : Int32))]))
    have O21 := f19
    obtain ⟨c21, Ar21, S21, M21, V21⟩ := O21
    have ln21 : c21.slots.size.toInt32 = (7 : Int32) := by rw [S21]; first | rfl | decide | exact rfl
    refine own_st (S' := T20.setTop (mkF m 28 #[.val (.ref a), .val (.int (0 : Int32)), .val (.int p2), .val (.int v3), .val (.int (2 : Int32))] [(.int (7 : Int32)), (.int (2 : Int32))])) (fun t k => X20.arraylength hx (by rw [e20]; exact Ar21.1) (State.isArrayOf_alike hZ.alike Ar21.2.1) (g := (mkF m 27 #[.val (.ref a), .val (.int (0 : Int32)), .val (.int p2), .val (.int v3), .val (.int (2 : Int32))] [(.ref tr), (.int (2 : Int32))])) rfl rfl (hb hby d2_27) _ (by rw [ln21]; exact k)) ?_
    refine own_st (S' := T20.setTop (mkF m 31 #[.val (.ref a), .val (.int (0 : Int32)), .val (.int p2), .val (.int v3), .val (.int (2 : Int32))] [])) (fun t k => XS.icmpNo X20.here hx rfl (hb hby d2_28) rfl (tlt (by decide)).2.1 k) ?_
    show own_Go p.tables e below _ (T20.setTop (mkF m 31 #[.val (.ref a), .val (.int (0 : Int32)), .val (.int p2), .val (.int v3), .val (.int (2 : Int32))] []))
    refine own_st (S' := T20.setTop (mkF m 32 #[.val (.ref a), .val (.int (0 : Int32)), .val (.int p2), .val (.int v3), .val (.int (2 : Int32))] [(.ref a)])) (fun t k => XS.aloadN X20.here hx rfl (hb hby d2_31) rfl rfl k) ?_
    obtain ⟨T22, X22, e22, st22⟩ := getF X20 hx hZ hown (host := "") (Or.inl (hw _ (List.mem_of_getElem? (i := 22) rfl))) Via.refl e20 f17 (g := (mkF m 32 #[.val (.ref a), .val (.int (0 : Int32)), .val (.int p2), .val (.int v3), .val (.int (2 : Int32))] [(.ref a)])) rfl rfl (hb hby d2_32)
    refine own_st st22 ?_
    show own_Go p.tables e below _ (T22.setTop (mkF m 35 #[.val (.ref a), .val (.int (0 : Int32)), .val (.int p2), .val (.int v3), .val (.int (2 : Int32))] [(.ref tr)]))
    refine own_st (S' := T22.setTop (mkF m 37 #[.val (.ref a), .val (.int (0 : Int32)), .val (.int p2), .val (.int v3), .val (.int (2 : Int32))] [(.int (2 : Int32)), (.ref tr)])) (fun t k => XS.iload X22.here hx rfl (hb hby d2_35) rfl k) ?_
    refine own_st (S' := T22.setTop (mkF m 38 #[.val (.ref a), .val (.int (0 : Int32)), .val (.int p2), .val (.int v3), .val (.int (2 : Int32))] [(.int (2 : Int32)), (.ref tr), (.int (2 : Int32)), (.ref tr)])) (fun t k => Jvm.Free.XT.dup2 X22.here hx rfl (hb hby d2_37) rfl rfl rfl k) ?_
    have O23 := f19
    obtain ⟨c23, Ar23, S23, M23, V23⟩ := O23
    have at23 : c23.slots[((2 : Int32)).toNatClampNeg]? = some (.int t2) := own_at S23 V23 (own_ix (j := (2 : Int32)) (i := 2) (n := 7) (by decide) (by decide) (by decide)) rfl
    refine own_st (S' := T22.setTop (mkF m 39 #[.val (.ref a), .val (.int (0 : Int32)), .val (.int p2), .val (.int v3), .val (.int (2 : Int32))] [(.int t2), (.int (2 : Int32)), (.ref tr)])) (fun t k => X22.iaload hx (j := (2 : Int32)) (v := (.int t2)) (by rw [e22]; exact Ar23.1) (State.isArrayOf_alike hZ.alike Ar23.2.1) Ar23.2.2 (own_in S23 (own_ix (j := (2 : Int32)) (i := 2) (n := 7) (by decide) (by decide) (by decide))) at23 (g := (mkF m 38 #[.val (.ref a), .val (.int (0 : Int32)), .val (.int p2), .val (.int v3), .val (.int (2 : Int32))] [(.int (2 : Int32)), (.ref tr), (.int (2 : Int32)), (.ref tr)])) rfl rfl (hb hby d2_38) _ k) ?_
    refine own_st (S' := T22.setTop (mkF m 40 #[.val (.ref a), .val (.int (0 : Int32)), .val (.int p2), .val (.int v3), .val (.int (2 : Int32))] [(.int v3), (.int t2), (.int (2 : Int32)), (.ref tr)])) (fun t k => XS.iloadN X22.here hx rfl (hb hby d2_39) rfl k) ?_
    refine own_st (S' := T22.setTop (mkF m 41 #[.val (.ref a), .val (.int (0 : Int32)), .val (.int p2), .val (.int v3), .val (.int (2 : Int32))] [(.int (t2 + v3)), (.int (2 : Int32)), (.ref tr)])) (fun t k => XS.iadd X22.here hx rfl (hb hby d2_40) rfl k) ?_
    obtain ⟨v24, qv24⟩ : ∃ z : Int32, z = (t2 + v3) := ⟨_, rfl⟩
    show own_Go p.tables e below _ (T22.setTop (mkF m 41 #[.val (.ref a), .val (.int (0 : Int32)), .val (.int p2), .val (.int v3), .val (.int (2 : Int32))] [(.int (t2 + v3)), (.int (2 : Int32)), (.ref tr)]))
    rw [← qv24]
    have O25 := f19
    obtain ⟨c25, Ar25, S25, M25, V25⟩ := O25
    obtain ⟨T25, h25, X25, e25, W25, st25⟩ := stI X22 hx hZ e22 Ar25 (j := (2 : Int32)) (own_in S25 (own_ix (j := (2 : Int32)) (i := 2) (n := 7) (by decide) (by decide) (by decide))) (g := (mkF m 41 #[.val (.ref a), .val (.int (0 : Int32)), .val (.int p2), .val (.int v3), .val (.int (2 : Int32))] [(.int v24), (.int (2 : Int32)), (.ref tr)])) rfl rfl (hb hby d2_41)
    refine own_st st25 ?_
    have f26 : Fld Z h25 a "kithrank/Weights" "weight" "[I" (.ref wt) := f16.other W25 (Or.inl ne_a_tr)
    have f27 : Fld Z h25 a "kithrank/Weights" "tree" "[I" (.ref tr) := f17.other W25 (Or.inl ne_a_tr)
    have f28 : own_A Z h25 wt .int 6 (own_V [(.int p2), (.int w1), (.int w2), (.int w3), (.int w4), (.int w5)]) := f18.other W25 ne_wt_tr
    have Z25 : n0 ≤ h25.size := Nat.le_trans Z15 (Keep.of_wr W25).1
    have N25 := Fr.snoc X25 N15 G_tr
    have K25 : Keep h0 h25 [wt, tr] := K15.wr W25 (Or.inl (List.mem_of_getElem? (i := 1) rfl))
    have f29 : own_A Z h25 tr .int 7 (own_V [(.int t0), (.int v14), (.int v24), (.int t3), (.int t4), (.int t5), (.int t6)]) := (own_A.set ⟨c25, Ar25, S25, M25, V25⟩ (own_ix (j := (2 : Int32)) (i := 2) (n := 7) (by decide) (by decide) (by decide)) W25).cong (fun j hj => by match j, hj with | 0, _ => rfl | 1, _ => rfl | 2, _ => rfl | 3, _ => rfl | 4, _ => rfl | 5, _ => rfl | 6, _ => rfl | j + 7, h => exact absurd h (by omega))
    show own_Go p.tables e below _ (T25.setTop (mkF m 42 #[.val (.ref a), .val (.int (0 : Int32)), .val (.int p2), .val (.int v3), .val (.int (2 : Int32))] []))
    refine own_st (S' := T25.setTop (mkF m 44 #[.val (.ref a), .val (.int (0 : Int32)), .val (.int p2), .val (.int v3), .val (.int (2 : Int32))] [(.int (2 : Int32))])) (fun t k => XS.iload X25.here hx rfl (hb hby d2_42) rfl k) ?_
    refine own_st (S' := T25.setTop (mkF m 46 #[.val (.ref a), .val (.int (0 : Int32)), .val (.int p2), .val (.int v3), .val (.int (2 : Int32))] [(.int (2 : Int32)), (.int (2 : Int32))])) (fun t k => XS.iload X25.here hx rfl (hb hby d2_44) rfl k) ?_
    refine own_st (S' := T25.setTop (mkF m 48 #[.val (.ref a), .val (.int (0 : Int32)), .val (.int p2), .val (.int v3), .val (.int (2 : Int32))] [(.int (2 : Int32)), (.int (2 : Int32)), (.int (2 : Int32))])) (fun t k => XS.iload X25.here hx rfl (hb hby d2_46) rfl k) ?_
    refine own_st (S' := T25.setTop (mkF m 49 #[.val (.ref a), .val (.int (0 : Int32)), .val (.int p2), .val (.int v3), .val (.int (2 : Int32))] [(.int (-2 : Int32)), (.int (2 : Int32)), (.int (2 : Int32))])) (fun t k => XS.ineg X25.here hx rfl (hb hby d2_48) rfl k) ?_
    refine own_st (S' := T25.setTop (mkF m 50 #[.val (.ref a), .val (.int (0 : Int32)), .val (.int p2), .val (.int v3), .val (.int (2 : Int32))] [(.int (2 : Int32)), (.int (2 : Int32))])) (fun t k => XS.iand X25.here hx rfl (hb hby d2_49) rfl k) ?_
    refine own_st (S' := T25.setTop (mkF m 51 #[.val (.ref a), .val (.int (0 : Int32)), .val (.int p2), .val (.int v3), .val (.int (2 : Int32))] [(.int (4 : Int32))])) (fun t k => XS.iadd X25.here hx rfl (hb hby d2_50) rfl k) ?_
    refine own_st (S' := T25.setTop (mkF m 53 #[.val (.ref a), .val (.int (0 : Int32)), .val (.int p2), .val (.int v3), .val (.int (4 : Int32))] [])) (fun t k => XS.istore X25.here hx rfl (hb hby d2_51) rfl (l' := #[.val (.ref a), .val (.int (0 : Int32)), .val (.int p2), .val (.int v3), .val (.int (4 : Int32))]) rfl k) ?_
    refine own_st (S' := T25.setTop (mkF m 21 #[.val (.ref a), .val (.int (0 : Int32)), .val (.int p2), .val (.int v3), .val (.int (4 : Int32))] [])) (fun t k => XS.goto X25.here hx rfl (pc0 := 53) (pc' := 21) rfl (hb hby d2_53) (by decide) (by decide) k) ?_
    refine own_st (S' := T25.setTop (mkF m 23 #[.val (.ref a), .val (.int (0 : Int32)), .val (.int p2), .val (.int v3), .val (.int (4 : Int32))] [(.int (4 : Int32))])) (fun t k => XS.iload X25.here hx rfl (hb hby d2_21) rfl k) ?_
    refine own_st (S' := T25.setTop (mkF m 24 #[.val (.ref a), .val (.int (0 : Int32)), .val (.int p2), .val (.int v3), .val (.int (4 : Int32))] [(.ref a), (.int (4 : Int32))])) (fun t k => XS.aloadN X25.here hx rfl (hb hby d2_23) rfl rfl k) ?_
    obtain ⟨T30, X30, e30, st30⟩ := getF X25 hx hZ hown (host := "") (Or.inl (hw _ (List.mem_of_getElem? (i := 22) rfl))) Via.refl e25 f27 (g := (mkF m 24 #[.val (.ref a), .val (.int (0 : Int32)), .val (.int p2), .val (.int v3), .val (.int (4 : Int32))] [(.ref a), (.int (4 : Int32))])) rfl rfl (hb hby d2_24)
    refine own_st st30 ?_
    show own_Go p.tables e below _ (T30.setTop (mkF m 27 #[.val (.ref a), .val (.int (0 : Int32)), .val (.int p2), .val (.int v3), .val (.int (4 : Int32))] [(.ref tr), (.int (4 : Int32))]))
    have O31 := f29
    obtain ⟨c31, Ar31, S31, M31, V31⟩ := O31
    have ln31 : c31.slots.size.toInt32 = (7 : Int32) := by rw [S31]; first | rfl | decide | exact rfl
    refine own_st (S' := T30.setTop (mkF m 28 #[.val (.ref a), .val (.int (0 : Int32)), .val (.int p2), .val (.int v3), .val (.int (4 : Int32))] [(.int (7 : Int32)), (.int (4 : Int32))])) (fun t k => X30.arraylength hx (by rw [e30]; exact Ar31.1) (State.isArrayOf_alike hZ.alike Ar31.2.1) (g := (mkF m 27 #[.val (.ref a), .val (.int (0 : Int32)), .val (.int p2), .val (.int v3), .val (.int (4 : Int32))] [(.ref tr), (.int (4 : Int32))])) rfl rfl (hb hby d2_27) _ (by rw [ln31]; exact k)) ?_
    refine own_st (S' := T30.setTop (mkF m 31 #[.val (.ref a), .val (.int (0 : Int32)), .val (.int p2), .val (.int v3), .val (.int (4 : Int32))] [])) (fun t k => XS.icmpNo X30.here hx rfl (hb hby d2_28) rfl (tlt (by decide)).2.1 k) ?_
    show own_Go p.tables e below _ (T30.setTop (mkF m 31 #[.val (.ref a), .val (.int (0 : Int32)), .val (.int p2), .val (.int v3), .val (.int (4 : Int32))] []))
    refine own_st (S' := T30.setTop (mkF m 32 #[.val (.ref a), .val (.int (0 : Int32)), .val (.int p2), .val (.int v3), .val (.int (4 : Int32))] [(.ref a)])) (fun t k => XS.aloadN X30.here hx rfl (hb hby d2_31) rfl rfl k) ?_
    obtain ⟨T32, X32, e32, st32⟩ := getF X30 hx hZ hown (host := "") (Or.inl (hw _ (List.mem_of_getElem? (i := 22) rfl))) Via.refl e30 f27 (g := (mkF m 32 #[.val (.ref a), .val (.int (0 : Int32)), .val (.int p2), .val (.int v3), .val (.int (4 : Int32))] [(.ref a)])) rfl rfl (hb hby d2_32)
    refine own_st st32 ?_
    show own_Go p.tables e below _ (T32.setTop (mkF m 35 #[.val (.ref a), .val (.int (0 : Int32)), .val (.int p2), .val (.int v3), .val (.int (4 : Int32))] [(.ref tr)]))
    refine own_st (S' := T32.setTop (mkF m 37 #[.val (.ref a), .val (.int (0 : Int32)), .val (.int p2), .val (.int v3), .val (.int (4 : Int32))] [(.int (4 : Int32)), (.ref tr)])) (fun t k => XS.iload X32.here hx rfl (hb hby d2_35) rfl k) ?_
    refine own_st (S' := T32.setTop (mkF m 38 #[.val (.ref a), .val (.int (0 : Int32)), .val (.int p2), .val (.int v3), .val (.int (4 : Int32))] [(.int (4 : Int32)), (.ref tr), (.int (4 : Int32)), (.ref tr)])) (fun t k => Jvm.Free.XT.dup2 X32.here hx rfl (hb hby d2_37) rfl rfl rfl k) ?_
    have O33 := f29
    obtain ⟨c33, Ar33, S33, M33, V33⟩ := O33
    have at33 : c33.slots[((4 : Int32)).toNatClampNeg]? = some (.int t4) := own_at S33 V33 (own_ix (j := (4 : Int32)) (i := 4) (n := 7) (by decide) (by decide) (by decide)) rfl
    refine own_st (S' := T32.setTop (mkF m 39 #[.val (.ref a), .val (.int (0 : Int32)), .val (.int p2), .val (.int v3), .val (.int (4 : Int32))] [(.int t4), (.int (4 : Int32)), (.ref tr)])) (fun t k => X32.iaload hx (j := (4 : Int32)) (v := (.int t4)) (by rw [e32]; exact Ar33.1) (State.isArrayOf_alike hZ.alike Ar33.2.1) Ar33.2.2 (own_in S33 (own_ix (j := (4 : Int32)) (i := 4) (n := 7) (by decide) (by decide) (by decide))) at33 (g := (mkF m 38 #[.val (.ref a), .val (.int (0 : Int32)), .val (.int p2), .val (.int v3), .val (.int (4 : Int32))] [(.int (4 : Int32)), (.ref tr), (.int (4 : Int32)), (.ref tr)])) rfl rfl (hb hby d2_38) _ k) ?_
    refine own_st (S' := T32.setTop (mkF m 40 #[.val (.ref a), .val (.int (0 : Int32)), .val (.int p2), .val (.int v3), .val (.int (4 : Int32))] [(.int v3), (.int t4), (.int (4 : Int32)), (.ref tr)])) (fun t k => XS.iloadN X32.here hx rfl (hb hby d2_39) rfl k) ?_
    refine own_st (S' := T32.setTop (mkF m 41 #[.val (.ref a), .val (.int (0 : Int32)), .val (.int p2), .val (.int v3), .val (.int (4 : Int32))] [(.int (t4 + v3)), (.int (4 : Int32)), (.ref tr)])) (fun t k => XS.iadd X32.here hx rfl (hb hby d2_40) rfl k) ?_
    obtain ⟨v34, qv34⟩ : ∃ z : Int32, z = (t4 + v3) := ⟨_, rfl⟩
    show own_Go p.tables e below _ (T32.setTop (mkF m 41 #[.val (.ref a), .val (.int (0 : Int32)), .val (.int p2), .val (.int v3), .val (.int (4 : Int32))] [(.int (t4 + v3)), (.int (4 : Int32)), (.ref tr)]))
    rw [← qv34]
    have O35 := f29
    obtain ⟨c35, Ar35, S35, M35, V35⟩ := O35
    obtain ⟨T35, h35, X35, e35, W35, st35⟩ := stI X32 hx hZ e32 Ar35 (j := (4 : Int32)) (own_in S35 (own_ix (j := (4 : Int32)) (i := 4) (n := 7) (by decide) (by decide) (by decide))) (g := (mkF m 41 #[.val (.ref a), .val (.int (0 : Int32)), .val (.int p2), .val (.int v3), .val (.int (4 : Int32))] [(.int v34), (.int (4 : Int32)), (.ref tr)])) rfl rfl (hb hby d2_41)
    refine own_st st35 ?_
    have f36 : Fld Z h35 a "kithrank/Weights" "weight" "[I" (.ref wt) := f26.other W35 (Or.inl ne_a_tr)
    have f37 : Fld Z h35 a "kithrank/Weights" "tree" "[I" (.ref tr) := f27.other W35 (Or.inl ne_a_tr)
    have f38 : own_A Z h35 wt .int 6 (own_V [(.int p2), (.int w1), (.int w2), (.int w3), (.int w4), (.int w5)]) := f28.other W35 ne_wt_tr
    have Z35 : n0 ≤ h35.size := Nat.le_trans Z25 (Keep.of_wr W35).1
    have N35 := Fr.snoc X35 N25 G_tr
    have K35 : Keep h0 h35 [wt, tr] := K25.wr W35 (Or.inl (List.mem_of_getElem? (i := 1) rfl))
    have f39 : own_A Z h35 tr .int 7 (own_V [(.int t0), (.int v14), (.int v24), (.int t3), (.int v34), (.int t5), (.int t6)]) := (own_A.set ⟨c35, Ar35, S35, M35, V35⟩ (own_ix (j := (4 : Int32)) (i := 4) (n := 7) (by decide) (by decide) (by decide)) W35).cong (fun j hj => by match j, hj with | 0, _ => rfl | 1, _ => rfl | 2, _ => rfl | 3, _ => rfl | 4, _ => rfl | 5, _ => rfl | 6, _ => rfl | j + 7, h => exact absurd h (by omega))
    show own_Go p.tables e below _ (T35.setTop (mkF m 42 #[.val (.ref a), .val (.int (0 : Int32)), .val (.int p2), .val (.int v3), .val (.int (4 : Int32))] []))
    refine own_st (S' := T35.setTop (mkF m 44 #[.val (.ref a), .val (.int (0 : Int32)), .val (.int p2), .val (.int v3), .val (.int (4 : Int32))] [(.int (4 : Int32))])) (fun t k => XS.iload X35.here hx rfl (hb hby d2_42) rfl k) ?_
    refine own_st (S' := T35.setTop (mkF m 46 #[.val (.ref a), .val (.int (0 : Int32)), .val (.int p2), .val (.int v3), .val (.int (4 : Int32))] [(.int (4 : Int32)), (.int (4 : Int32))])) (fun t k => XS.iload X35.here hx rfl (hb hby d2_44) rfl k) ?_
    refine own_st (S' := T35.setTop (mkF m 48 #[.val (.ref a), .val (.int (0 : Int32)), .val (.int p2), .val (.int v3), .val (.int (4 : Int32))] [(.int (4 : Int32)), (.int (4 : Int32)), (.int (4 : Int32))])) (fun t k => XS.iload X35.here hx rfl (hb hby d2_46) rfl k) ?_
    refine own_st (S' := T35.setTop (mkF m 49 #[.val (.ref a), .val (.int (0 : Int32)), .val (.int p2), .val (.int v3), .val (.int (4 : Int32))] [(.int (-4 : Int32)), (.int (4 : Int32)), (.int (4 : Int32))])) (fun t k => XS.ineg X35.here hx rfl (hb hby d2_48) rfl k) ?_
    refine own_st (S' := T35.setTop (mkF m 50 #[.val (.ref a), .val (.int (0 : Int32)), .val (.int p2), .val (.int v3), .val (.int (4 : Int32))] [(.int (4 : Int32)), (.int (4 : Int32))])) (fun t k => XS.iand X35.here hx rfl (hb hby d2_49) rfl k) ?_
    refine own_st (S' := T35.setTop (mkF m 51 #[.val (.ref a), .val (.int (0 : Int32)), .val (.int p2), .val (.int v3), .val (.int (4 : Int32))] [(.int (8 : Int32))])) (fun t k => XS.iadd X35.here hx rfl (hb hby d2_50) rfl k) ?_
    refine own_st (S' := T35.setTop (mkF m 53 #[.val (.ref a), .val (.int (0 : Int32)), .val (.int p2), .val (.int v3), .val (.int (8 : Int32))] [])) (fun t k => XS.istore X35.here hx rfl (hb hby d2_51) rfl (l' := #[.val (.ref a), .val (.int (0 : Int32)), .val (.int p2), .val (.int v3), .val (.int (8 : Int32))]) rfl k) ?_
    refine own_st (S' := T35.setTop (mkF m 21 #[.val (.ref a), .val (.int (0 : Int32)), .val (.int p2), .val (.int v3), .val (.int (8 : Int32))] [])) (fun t k => XS.goto X35.here hx rfl (pc0 := 53) (pc' := 21) rfl (hb hby d2_53) (by decide) (by decide) k) ?_
    refine own_st (S' := T35.setTop (mkF m 23 #[.val (.ref a), .val (.int (0 : Int32)), .val (.int p2), .val (.int v3), .val (.int (8 : Int32))] [(.int (8 : Int32))])) (fun t k => XS.iload X35.here hx rfl (hb hby d2_21) rfl k) ?_
    refine own_st (S' := T35.setTop (mkF m 24 #[.val (.ref a), .val (.int (0 : Int32)), .val (.int p2), .val (.int v3), .val (.int (8 : Int32))] [(.ref a), (.int (8 : Int32))])) (fun t k => XS.aloadN X35.here hx rfl (hb hby d2_23) rfl rfl k) ?_
    obtain ⟨T40, X40, e40, st40⟩ := getF X35 hx hZ hown (host := "") (Or.inl (hw _ (List.mem_of_getElem? (i := 22) rfl))) Via.refl e35 f37 (g := (mkF m 24 #[.val (.ref a), .val (.int (0 : Int32)), .val (.int p2), .val (.int v3), .val (.int (8 : Int32))] [(.ref a), (.int (8 : Int32))])) rfl rfl (hb hby d2_24)
    refine own_st st40 ?_
    show own_Go p.tables e below _ (T40.setTop (mkF m 27 #[.val (.ref a), .val (.int (0 : Int32)), .val (.int p2), .val (.int v3), .val (.int (8 : Int32))] [(.ref tr), (.int (8 : Int32))]))
    have O41 := f39
    obtain ⟨c41, Ar41, S41, M41, V41⟩ := O41
    have ln41 : c41.slots.size.toInt32 = (7 : Int32) := by rw [S41]; first | rfl | decide | exact rfl
    refine own_st (S' := T40.setTop (mkF m 28 #[.val (.ref a), .val (.int (0 : Int32)), .val (.int p2), .val (.int v3), .val (.int (8 : Int32))] [(.int (7 : Int32)), (.int (8 : Int32))])) (fun t k => X40.arraylength hx (by rw [e40]; exact Ar41.1) (State.isArrayOf_alike hZ.alike Ar41.2.1) (g := (mkF m 27 #[.val (.ref a), .val (.int (0 : Int32)), .val (.int p2), .val (.int v3), .val (.int (8 : Int32))] [(.ref tr), (.int (8 : Int32))])) rfl rfl (hb hby d2_27) _ (by rw [ln41]; exact k)) ?_
    refine own_st (S' := T40.setTop (mkF m 56 #[.val (.ref a), .val (.int (0 : Int32)), .val (.int p2), .val (.int v3), .val (.int (8 : Int32))] [])) (fun t k => XS.icmpYes X40.here hx rfl (pc0 := 28) (pc' := 56) rfl (hb hby d2_28) rfl (flt (by decide)).2.1 (by decide) (by decide) k) ?_
    show own_Go p.tables e below _ (T40.setTop (mkF m 56 #[.val (.ref a), .val (.int (0 : Int32)), .val (.int p2), .val (.int v3), .val (.int (8 : Int32))] []))
    refine own_retV X40 hx hret hlk (hb hby d2_56) ?_ (by decide) (by decide)
    rw [e40]
    subst qv3
    subst qv14
    subst qv24
    subst qv34
    exact ⟨rfl, N35, K35, (f38.cong (fun j hj => by match j, hj with | 0, _ => rfl | 1, _ => rfl | 2, _ => rfl | 3, _ => rfl | 4, _ => rfl | 5, _ => rfl | j + 6, h => exact absurd h (by omega))), (f39.cong (fun j hj => by match j, hj with | 0, _ => rfl | 1, _ => rfl | 2, _ => rfl | 3, _ => rfl | 4, _ => rfl | 5, _ => rfl | 6, _ => rfl | j + 7, h => exact absurd h (by omega)))⟩
  · show own_Go p.tables e below _ (s₁.setTop (mkF m 0 #[.val (.ref a), .val (.int (1 : Int32)), .val (.int p2), .unset, .unset] []))
    refine own_st (S' := s₁.setTop (mkF m 1 #[.val (.ref a), .val (.int (1 : Int32)), .val (.int p2), .unset, .unset] [(.int p2)])) (fun t k => XS.iloadN X0.here hx rfl (hb hby d2_0) rfl k) ?_
    refine own_st (S' := s₁.setTop (mkF m 2 #[.val (.ref a), .val (.int (1 : Int32)), .val (.int p2), .unset, .unset] [(.ref a), (.int p2)])) (fun t k => XS.aloadN X0.here hx rfl (hb hby d2_1) rfl rfl k) ?_
    obtain ⟨T42, X42, e42, st42⟩ := getF X0 hx hZ hown (host := "") (Or.inl (hw _ (List.mem_of_getElem? (i := 20) rfl))) Via.refl e0 F_a_weight (g := (mkF m 2 #[.val (.ref a), .val (.int (1 : Int32)), .val (.int p2), .unset, .unset] [(.ref a), (.int p2)])) rfl rfl (hb hby d2_2)
    refine own_st st42 ?_
    show own_Go p.tables e below _ (T42.setTop (mkF m 5 #[.val (.ref a), .val (.int (1 : Int32)), .val (.int p2), .unset, .unset] [(.ref wt), (.int p2)]))
    refine own_st (S' := T42.setTop (mkF m 6 #[.val (.ref a), .val (.int (1 : Int32)), .val (.int p2), .unset, .unset] [(.int (1 : Int32)), (.ref wt), (.int p2)])) (fun t k => XS.iloadN X42.here hx rfl (hb hby d2_5) rfl k) ?_
    have O43 := A_wt
    obtain ⟨c43, Ar43, S43, M43, V43⟩ := O43
    have at43 : c43.slots[((1 : Int32)).toNatClampNeg]? = some (.int w1) := own_at S43 V43 (own_ix (j := (1 : Int32)) (i := 1) (n := 6) (by decide) (by decide) (by decide)) rfl
    refine own_st (S' := T42.setTop (mkF m 7 #[.val (.ref a), .val (.int (1 : Int32)), .val (.int p2), .unset, .unset] [(.int w1), (.int p2)])) (fun t k => X42.iaload hx (j := (1 : Int32)) (v := (.int w1)) (by rw [e42]; exact Ar43.1) (State.isArrayOf_alike hZ.alike Ar43.2.1) Ar43.2.2 (own_in S43 (own_ix (j := (1 : Int32)) (i := 1) (n := 6) (by decide) (by decide) (by decide))) at43 (g := (mkF m 6 #[.val (.ref a), .val (.int (1 : Int32)), .val (.int p2), .unset, .unset] [(.int (1 : Int32)), (.ref wt), (.int p2)])) rfl rfl (hb hby d2_6) _ k) ?_
    refine own_st (S' := T42.setTop (mkF m 8 #[.val (.ref a), .val (.int (1 : Int32)), .val (.int p2), .unset, .unset] [(.int (p2 - w1))])) (fun t k => XS.isub X42.here hx rfl (hb hby d2_7) rfl k) ?_
    obtain ⟨v44, qv44⟩ : ∃ z : Int32, z = (p2 - w1) := ⟨_, rfl⟩
    show own_Go p.tables e below _ (T42.setTop (mkF m 8 #[.val (.ref a), .val (.int (1 : Int32)), .val (.int p2), .unset, .unset] [(.int (p2 - w1))]))
    rw [← qv44]
    refine own_st (S' := T42.setTop (mkF m 9 #[.val (.ref a), .val (.int (1 : Int32)), .val (.int p2), .val (.int v44), .unset] [])) (fun t k => XS.istoreN X42.here hx rfl (hb hby d2_8) rfl (l' := #[.val (.ref a), .val (.int (1 : Int32)), .val (.int p2), .val (.int v44), .unset]) rfl k) ?_
    refine own_st (S' := T42.setTop (mkF m 10 #[.val (.ref a), .val (.int (1 : Int32)), .val (.int p2), .val (.int v44), .unset] [(.ref a)])) (fun t k => XS.aloadN X42.here hx rfl (hb hby d2_9) rfl rfl k) ?_
    obtain ⟨T45, X45, e45, st45⟩ := getF X42 hx hZ hown (host := "") (Or.inl (hw _ (List.mem_of_getElem? (i := 20) rfl))) Via.refl e42 F_a_weight (g := (mkF m 10 #[.val (.ref a), .val (.int (1 : Int32)), .val (.int p2), .val (.int v44), .unset] [(.ref a)])) rfl rfl (hb hby d2_10)
    refine own_st st45 ?_
    show own_Go p.tables e below _ (T45.setTop (mkF m 13 #[.val (.ref a), .val (.int (1 : Int32)), .val (.int p2), .val (.int v44), .unset] [(.ref wt)]))
    refine own_st (S' := T45.setTop (mkF m 14 #[.val (.ref a), .val (.int (1 : Int32)), .val (.int p2), .val (.int v44), .unset] [(.int (1 : Int32)), (.ref wt)])) (fun t k => XS.iloadN X45.here hx rfl (hb hby d2_13) rfl k) ?_
    refine own_st (S' := T45.setTop (mkF m 15 #[.val (.ref a), .val (.int (1 : Int32)), .val (.int p2), .val (.int v44), .unset] [(.int p2), (.int (1 : Int32)), (.ref wt)])) (fun t k => XS.iloadN X45.here hx rfl (hb hby d2_14) rfl k) ?_
    have O46 := A_wt
    obtain ⟨c46, Ar46, S46, M46, V46⟩ := O46
    obtain ⟨T46, h46, X46, e46, W46, st46⟩ := stI X45 hx hZ e45 Ar46 (j := (1 : Int32)) (own_in S46 (own_ix (j := (1 : Int32)) (i := 1) (n := 6) (by decide) (by decide) (by decide))) (g := (mkF m 15 #[.val (.ref a), .val (.int (1 : Int32)), .val (.int p2), .val (.int v44), .unset] [(.int p2), (.int (1 : Int32)), (.ref wt)])) rfl rfl (hb hby d2_15)
    refine own_st st46 ?_
    have f47 : Fld Z h46 a "kithrank/Weights" "weight" "[I" (.ref wt) := F_a_weight.other W46 (Or.inl ne_a_wt)
    have f48 : Fld Z h46 a "kithrank/Weights" "tree" "[I" (.ref tr) := F_a_tree.other W46 (Or.inl ne_a_wt)
    have f49 : own_A Z h46 tr .int 7 (own_V [(.int t0), (.int t1), (.int t2), (.int t3), (.int t4), (.int t5), (.int t6)]) := A_tr.other W46 (Ne.symm ne_wt_tr)
    have Z46 : n0 ≤ h46.size := Nat.le_trans Z0 (Keep.of_wr W46).1
    have N46 := Fr.snoc X46 N0 G_wt
    have K46 : Keep h0 h46 [wt, tr] := K0.wr W46 (Or.inl (List.mem_of_getElem? (i := 0) rfl))
    have f50 : own_A Z h46 wt .int 6 (own_V [(.int w0), (.int p2), (.int w2), (.int w3), (.int w4), (.int w5)]) := (own_A.set ⟨c46, Ar46, S46, M46, V46⟩ (own_ix (j := (1 : Int32)) (i := 1) (n := 6) (by decide) (by decide) (by decide)) W46).cong (fun j hj => by match j, hj with | 0, _ => rfl | 1, _ => rfl | 2, _ => rfl | 3, _ => rfl | 4, _ => rfl | 5, _ => rfl | j + 6, h => exact absurd h (by omega))
    show own_Go p.tables e below _ (T46.setTop (mkF m 16 #[.val (.ref a), .val (.int (1 : Int32)), .val (.int p2), .val (.int v44), .unset] []))
    refine own_st (S' := T46.setTop (mkF m 17 #[.val (.ref a), .val (.int (1 : Int32)), .val (.int p2), .val (.int v44), .unset] [(.int (1 : Int32))])) (fun t k => XS.iloadN X46.here hx rfl (hb hby d2_16) rfl k) ?_
    refine own_st (S' := T46.setTop (mkF m 18 #[.val (.ref a), .val (.int (1 : Int32)), .val (.int p2), .val (.int v44), .unset] [(.int (1 : Int32)), (.int (1 : Int32))])) (fun t k => XS.iconst X46.here hx rfl (hb hby d2_17) k) ?_
    refine own_st (S' := T46.setTop (mkF m 19 #[.val (.ref a), .val (.int (1 : Int32)), .val (.int p2), .val (.int v44), .unset] [(.int (2 : Int32))])) (fun t k => XS.iadd X46.here hx rfl (hb hby d2_18) rfl k) ?_
    refine own_st (S' := T46.setTop (mkF m 21 #[.val (.ref a), .val (.int (1 : Int32)), .val (.int p2), .val (.int v44), .val (.int (2 : Int32))] [])) (fun t k => XS.istore X46.here hx rfl (hb hby d2_19) rfl (l' := #[.val (.ref a), .val (.int (1 : Int32)), .val (.int p2), .val (.int v44), .val (.int (2 : Int32))]) rfl k) ?_
    refine own_st (S' := T46.setTop (mkF m 23 #[.val (.ref a), .val (.int (1 : Int32)), .val (.int p2), .val (.int v44), .val (.int (2 : Int32))] [(.int (2 : Int32))])) (fun t k => XS.iload X46.here hx rfl (hb hby d2_21) rfl k) ?_
    refine own_st (S' := T46.setTop (mkF m 24 #[.val (.ref a), .val (.int (1 : Int32)), .val (.int p2), .val (.int v44), .val (.int (2 : Int32))] [(.ref a), (.int (2 : Int32))])) (fun t k => XS.aloadN X46.here hx rfl (hb hby d2_23) rfl rfl k) ?_
    obtain ⟨T51, X51, e51, st51⟩ := getF X46 hx hZ hown (host := "") (Or.inl (hw _ (List.mem_of_getElem? (i := 22) rfl))) Via.refl e46 f48 (g := (mkF m 24 #[.val (.ref a), .val (.int (1 : Int32)), .val (.int p2), .val (.int v44), .val (.int (2 : Int32))] [(.ref a), (.int (2 : Int32))])) rfl rfl (hb hby d2_24)
    refine own_st st51 ?_
    show own_Go p.tables e below _ (T51.setTop (mkF m 27 #[.val (.ref a), .val (.int (1 : Int32)), .val (.int p2), .val (.int v44), .val (.int (2 : Int32))] [(.ref tr), (.int (2 : Int32))]))
    have O52 := f49
    obtain ⟨c52, Ar52, S52, M52, V52⟩ := O52
    have ln52 : c52.slots.size.toInt32 = (7 : Int32) := by rw [S52]; first | rfl | decide | exact rfl
    refine own_st (S' := T51.setTop (mkF m 28 #[.val (.ref a), .val (.int (1 : Int32)), .val (.int p2), .val (.int v44), .val (.int (2 : Int32))] [(.int (7 : Int32)), (.int (2 : Int32))])) (fun t k => X51.arraylength hx (by rw [e51]; exact Ar52.1) (State.isArrayOf_alike hZ.alike Ar52.2.1) (g := (mkF m 27 #[.val (.ref a), .val (.int (1 : Int32)), .val (.int p2), .val (.int v44), .val (.int (2 : Int32))] [(.ref tr), (.int (2 : Int32))])) rfl rfl (hb hby d2_27) _ (by rw [ln52]; exact k)) ?_
    refine own_st (S' := T51.setTop (mkF m 31 #[.val (.ref a), .val (.int (1 : Int32)), .val (.int p2), .val (.int v44), .val (.int (2 : Int32))] [])) (fun t k => XS.icmpNo X51.here hx rfl (hb hby d2_28) rfl (tlt (by decide)).2.1 k) ?_
    show own_Go p.tables e below _ (T51.setTop (mkF m 31 #[.val (.ref a), .val (.int (1 : Int32)), .val (.int p2), .val (.int v44), .val (.int (2 : Int32))] []))
    refine own_st (S' := T51.setTop (mkF m 32 #[.val (.ref a), .val (.int (1 : Int32)), .val (.int p2), .val (.int v44), .val (.int (2 : Int32))] [(.ref a)])) (fun t k => XS.aloadN X51.here hx rfl (hb hby d2_31) rfl rfl k) ?_
    obtain ⟨T53, X53, e53, st53⟩ := getF X51 hx hZ hown (host := "") (Or.inl (hw _ (List.mem_of_getElem? (i := 22) rfl))) Via.refl e51 f48 (g := (mkF m 32 #[.val (.ref a), .val (.int (1 : Int32)), .val (.int p2), .val (.int v44), .val (.int (2 : Int32))] [(.ref a)])) rfl rfl (hb hby d2_32)
    refine own_st st53 ?_
    show own_Go p.tables e below _ (T53.setTop (mkF m 35 #[.val (.ref a), .val (.int (1 : Int32)), .val (.int p2), .val (.int v44), .val (.int (2 : Int32))] [(.ref tr)]))
    refine own_st (S' := T53.setTop (mkF m 37 #[.val (.ref a), .val (.int (1 : Int32)), .val (.int p2), .val (.int v44), .val (.int (2 : Int32))] [(.int (2 : Int32)), (.ref tr)])) (fun t k => XS.iload X53.here hx rfl (hb hby d2_35) rfl k) ?_
    refine own_st (S' := T53.setTop (mkF m 38 #[.val (.ref a), .val (.int (1 : Int32)), .val (.int p2), .val (.int v44), .val (.int (2 : Int32))] [(.int (2 : Int32)), (.ref tr), (.int (2 : Int32)), (.ref tr)])) (fun t k => Jvm.Free.XT.dup2 X53.here hx rfl (hb hby d2_37) rfl rfl rfl k) ?_
    have O54 := f49
    obtain ⟨c54, Ar54, S54, M54, V54⟩ := O54
    have at54 : c54.slots[((2 : Int32)).toNatClampNeg]? = some (.int t2) := own_at S54 V54 (own_ix (j := (2 : Int32)) (i := 2) (n := 7) (by decide) (by decide) (by decide)) rfl
    refine own_st (S' := T53.setTop (mkF m 39 #[.val (.ref a), .val (.int (1 : Int32)), .val (.int p2), .val (.int v44), .val (.int (2 : Int32))] [(.int t2), (.int (2 : Int32)), (.ref tr)])) (fun t k => X53.iaload hx (j := (2 : Int32)) (v := (.int t2)) (by rw [e53]; exact Ar54.1) (State.isArrayOf_alike hZ.alike Ar54.2.1) Ar54.2.2 (own_in S54 (own_ix (j := (2 : Int32)) (i := 2) (n := 7) (by decide) (by decide) (by decide))) at54 (g := (mkF m 38 #[.val (.ref a), .val (.int (1 : Int32)), .val (.int p2), .val (.int v44), .val (.int (2 : Int32))] [(.int (2 : Int32)), (.ref tr), (.int (2 : Int32)), (.ref tr)])) rfl rfl (hb hby d2_38) _ k) ?_
    refine own_st (S' := T53.setTop (mkF m 40 #[.val (.ref a), .val (.int (1 : Int32)), .val (.int p2), .val (.int v44), .val (.int (2 : Int32))] [(.int v44), (.int t2), (.int (2 : Int32)), (.ref tr)])) (fun t k => XS.iloadN X53.here hx rfl (hb hby d2_39) rfl k) ?_
    refine own_st (S' := T53.setTop (mkF m 41 #[.val (.ref a), .val (.int (1 : Int32)), .val (.int p2), .val (.int v44), .val (.int (2 : Int32))] [(.int (t2 + v44)), (.int (2 : Int32)), (.ref tr)])) (fun t k => XS.iadd X53.here hx rfl (hb hby d2_40) rfl k) ?_
    obtain ⟨v55, qv55⟩ : ∃ z : Int32, z = (t2 + v44) := ⟨_, rfl⟩
    show own_Go p.tables e below _ (T53.setTop (mkF m 41 #[.val (.ref a), .val (.int (1 : Int32)), .val (.int p2), .val (.int v44), .val (.int (2 : Int32))] [(.int (t2 + v44)), (.int (2 : Int32)), (.ref tr)]))
    rw [← qv55]
    have O56 := f49
    obtain ⟨c56, Ar56, S56, M56, V56⟩ := O56
    obtain ⟨T56, h56, X56, e56, W56, st56⟩ := stI X53 hx hZ e53 Ar56 (j := (2 : Int32)) (own_in S56 (own_ix (j := (2 : Int32)) (i := 2) (n := 7) (by decide) (by decide) (by decide))) (g := (mkF m 41 #[.val (.ref a), .val (.int (1 : Int32)), .val (.int p2), .val (.int v44), .val (.int (2 : Int32))] [(.int v55), (.int (2 : Int32)), (.ref tr)])) rfl rfl (hb hby d2_41)
    refine own_st st56 ?_
    have f57 : Fld Z h56 a "kithrank/Weights" "weight" "[I" (.ref wt) := f47.other W56 (Or.inl ne_a_tr)
    have f58 : Fld Z h56 a "kithrank/Weights" "tree" "[I" (.ref tr) := f48.other W56 (Or.inl ne_a_tr)
    have f59 : own_A Z h56 wt .int 6 (own_V [(.int w0), (.int p2), (.int w2), (.int w3), (.int w4), (.int w5)]) := f50.other W56 ne_wt_tr
    have Z56 : n0 ≤ h56.size := Nat.le_trans Z46 (Keep.of_wr W56).1
    have N56 := Fr.snoc X56 N46 G_tr
    have K56 : Keep h0 h56 [wt, tr] := K46.wr W56 (Or.inl (List.mem_of_getElem? (i := 1) rfl))
    have f60 : own_A Z h56 tr .int 7 (own_V [(.int t0), (.int t1), (.int v55), (.int t3), (.int t4), (.int t5), (.int t6)]) := (own_A.set ⟨c56, Ar56, S56, M56, V56⟩ (own_ix (j := (2 : Int32)) (i := 2) (n := 7) (by decide) (by decide) (by decide)) W56).cong (fun j hj => by match j, hj with | 0, _ => rfl | 1, _ => rfl | 2, _ => rfl | 3, _ => rfl | 4, _ => rfl | 5, _ => rfl | 6, _ => rfl | j + 7, h => exact absurd h (by omega))
    show own_Go p.tables e below _ (T56.setTop (mkF m 42 #[.val (.ref a), .val (.int (1 : Int32)), .val (.int p2), .val (.int v44), .val (.int (2 : Int32))] []))
    refine own_st (S' := T56.setTop (mkF m 44 #[.val (.ref a), .val (.int (1 : Int32)), .val (.int p2), .val (.int v44), .val (.int (2 : Int32))] [(.int (2 : Int32))])) (fun t k => XS.iload X56.here hx rfl (hb hby d2_42) rfl k) ?_
    refine own_st (S' := T56.setTop (mkF m 46 #[.val (.ref a), .val (.int (1 : Int32)), .val (.int p2), .val (.int v44), .val (.int (2 : Int32))] [(.int (2 : Int32)), (.int (2 : Int32))])) (fun t k => XS.iload X56.here hx rfl (hb hby d2_44) rfl k) ?_
    refine own_st (S' := T56.setTop (mkF m 48 #[.val (.ref a), .val (.int (1 : Int32)), .val (.int p2), .val (.int v44), .val (.int (2 : Int32))] [(.int (2 : Int32)), (.int (2 : Int32)), (.int (2 : Int32))])) (fun t k => XS.iload X56.here hx rfl (hb hby d2_46) rfl k) ?_
    refine own_st (S' := T56.setTop (mkF m 49 #[.val (.ref a), .val (.int (1 : Int32)), .val (.int p2), .val (.int v44), .val (.int (2 : Int32))] [(.int (-2 : Int32)), (.int (2 : Int32)), (.int (2 : Int32))])) (fun t k => XS.ineg X56.here hx rfl (hb hby d2_48) rfl k) ?_
    refine own_st (S' := T56.setTop (mkF m 50 #[.val (.ref a), .val (.int (1 : Int32)), .val (.int p2), .val (.int v44), .val (.int (2 : Int32))] [(.int (2 : Int32)), (.int (2 : Int32))])) (fun t k => XS.iand X56.here hx rfl (hb hby d2_49) rfl k) ?_
    refine own_st (S' := T56.setTop (mkF m 51 #[.val (.ref a), .val (.int (1 : Int32)), .val (.int p2), .val (.int v44), .val (.int (2 : Int32))] [(.int (4 : Int32))])) (fun t k => XS.iadd X56.here hx rfl (hb hby d2_50) rfl k) ?_
    refine own_st (S' := T56.setTop (mkF m 53 #[.val (.ref a), .val (.int (1 : Int32)), .val (.int p2), .val (.int v44), .val (.int (4 : Int32))] [])) (fun t k => XS.istore X56.here hx rfl (hb hby d2_51) rfl (l' := #[.val (.ref a), .val (.int (1 : Int32)), .val (.int p2), .val (.int v44), .val (.int (4 : Int32))]) rfl k) ?_
    refine own_st (S' := T56.setTop (mkF m 21 #[.val (.ref a), .val (.int (1 : Int32)), .val (.int p2), .val (.int v44), .val (.int (4 : Int32))] [])) (fun t k => XS.goto X56.here hx rfl (pc0 := 53) (pc' := 21) rfl (hb hby d2_53) (by decide) (by decide) k) ?_
    refine own_st (S' := T56.setTop (mkF m 23 #[.val (.ref a), .val (.int (1 : Int32)), .val (.int p2), .val (.int v44), .val (.int (4 : Int32))] [(.int (4 : Int32))])) (fun t k => XS.iload X56.here hx rfl (hb hby d2_21) rfl k) ?_
    refine own_st (S' := T56.setTop (mkF m 24 #[.val (.ref a), .val (.int (1 : Int32)), .val (.int p2), .val (.int v44), .val (.int (4 : Int32))] [(.ref a), (.int (4 : Int32))])) (fun t k => XS.aloadN X56.here hx rfl (hb hby d2_23) rfl rfl k) ?_
    obtain ⟨T61, X61, e61, st61⟩ := getF X56 hx hZ hown (host := "") (Or.inl (hw _ (List.mem_of_getElem? (i := 22) rfl))) Via.refl e56 f58 (g := (mkF m 24 #[.val (.ref a), .val (.int (1 : Int32)), .val (.int p2), .val (.int v44), .val (.int (4 : Int32))] [(.ref a), (.int (4 : Int32))])) rfl rfl (hb hby d2_24)
    refine own_st st61 ?_
    show own_Go p.tables e below _ (T61.setTop (mkF m 27 #[.val (.ref a), .val (.int (1 : Int32)), .val (.int p2), .val (.int v44), .val (.int (4 : Int32))] [(.ref tr), (.int (4 : Int32))]))
    have O62 := f60
    obtain ⟨c62, Ar62, S62, M62, V62⟩ := O62
    have ln62 : c62.slots.size.toInt32 = (7 : Int32) := by rw [S62]; first | rfl | decide | exact rfl
    refine own_st (S' := T61.setTop (mkF m 28 #[.val (.ref a), .val (.int (1 : Int32)), .val (.int p2), .val (.int v44), .val (.int (4 : Int32))] [(.int (7 : Int32)), (.int (4 : Int32))])) (fun t k => X61.arraylength hx (by rw [e61]; exact Ar62.1) (State.isArrayOf_alike hZ.alike Ar62.2.1) (g := (mkF m 27 #[.val (.ref a), .val (.int (1 : Int32)), .val (.int p2), .val (.int v44), .val (.int (4 : Int32))] [(.ref tr), (.int (4 : Int32))])) rfl rfl (hb hby d2_27) _ (by rw [ln62]; exact k)) ?_
    refine own_st (S' := T61.setTop (mkF m 31 #[.val (.ref a), .val (.int (1 : Int32)), .val (.int p2), .val (.int v44), .val (.int (4 : Int32))] [])) (fun t k => XS.icmpNo X61.here hx rfl (hb hby d2_28) rfl (tlt (by decide)).2.1 k) ?_
    show own_Go p.tables e below _ (T61.setTop (mkF m 31 #[.val (.ref a), .val (.int (1 : Int32)), .val (.int p2), .val (.int v44), .val (.int (4 : Int32))] []))
    refine own_st (S' := T61.setTop (mkF m 32 #[.val (.ref a), .val (.int (1 : Int32)), .val (.int p2), .val (.int v44), .val (.int (4 : Int32))] [(.ref a)])) (fun t k => XS.aloadN X61.here hx rfl (hb hby d2_31) rfl rfl k) ?_
    obtain ⟨T63, X63, e63, st63⟩ := getF X61 hx hZ hown (host := "") (Or.inl (hw _ (List.mem_of_getElem? (i := 22) rfl))) Via.refl e61 f58 (g := (mkF m 32 #[.val (.ref a), .val (.int (1 : Int32)), .val (.int p2), .val (.int v44), .val (.int (4 : Int32))] [(.ref a)])) rfl rfl (hb hby d2_32)
    refine own_st st63 ?_
    show own_Go p.tables e below _ (T63.setTop (mkF m 35 #[.val (.ref a), .val (.int (1 : Int32)), .val (.int p2), .val (.int v44), .val (.int (4 : Int32))] [(.ref tr)]))
    refine own_st (S' := T63.setTop (mkF m 37 #[.val (.ref a), .val (.int (1 : Int32)), .val (.int p2), .val (.int v44), .val (.int (4 : Int32))] [(.int (4 : Int32)), (.ref tr)])) (fun t k => XS.iload X63.here hx rfl (hb hby d2_35) rfl k) ?_
    refine own_st (S' := T63.setTop (mkF m 38 #[.val (.ref a), .val (.int (1 : Int32)), .val (.int p2), .val (.int v44), .val (.int (4 : Int32))] [(.int (4 : Int32)), (.ref tr), (.int (4 : Int32)), (.ref tr)])) (fun t k => Jvm.Free.XT.dup2 X63.here hx rfl (hb hby d2_37) rfl rfl rfl k) ?_
    have O64 := f60
    obtain ⟨c64, Ar64, S64, M64, V64⟩ := O64
    have at64 : c64.slots[((4 : Int32)).toNatClampNeg]? = some (.int t4) := own_at S64 V64 (own_ix (j := (4 : Int32)) (i := 4) (n := 7) (by decide) (by decide) (by decide)) rfl
    refine own_st (S' := T63.setTop (mkF m 39 #[.val (.ref a), .val (.int (1 : Int32)), .val (.int p2), .val (.int v44), .val (.int (4 : Int32))] [(.int t4), (.int (4 : Int32)), (.ref tr)])) (fun t k => X63.iaload hx (j := (4 : Int32)) (v := (.int t4)) (by rw [e63]; exact Ar64.1) (State.isArrayOf_alike hZ.alike Ar64.2.1) Ar64.2.2 (own_in S64 (own_ix (j := (4 : Int32)) (i := 4) (n := 7) (by decide) (by decide) (by decide))) at64 (g := (mkF m 38 #[.val (.ref a), .val (.int (1 : Int32)), .val (.int p2), .val (.int v44), .val (.int (4 : Int32))] [(.int (4 : Int32)), (.ref tr), (.int (4 : Int32)), (.ref tr)])) rfl rfl (hb hby d2_38) _ k) ?_
    refine own_st (S' := T63.setTop (mkF m 40 #[.val (.ref a), .val (.int (1 : Int32)), .val (.int p2), .val (.int v44), .val (.int (4 : Int32))] [(.int v44), (.int t4), (.int (4 : Int32)), (.ref tr)])) (fun t k => XS.iloadN X63.here hx rfl (hb hby d2_39) rfl k) ?_
    refine own_st (S' := T63.setTop (mkF m 41 #[.val (.ref a), .val (.int (1 : Int32)), .val (.int p2), .val (.int v44), .val (.int (4 : Int32))] [(.int (t4 + v44)), (.int (4 : Int32)), (.ref tr)])) (fun t k => XS.iadd X63.here hx rfl (hb hby d2_40) rfl k) ?_
    obtain ⟨v65, qv65⟩ : ∃ z : Int32, z = (t4 + v44) := ⟨_, rfl⟩
    show own_Go p.tables e below _ (T63.setTop (mkF m 41 #[.val (.ref a), .val (.int (1 : Int32)), .val (.int p2), .val (.int v44), .val (.int (4 : Int32))] [(.int (t4 + v44)), (.int (4 : Int32)), (.ref tr)]))
    rw [← qv65]
    have O66 := f60
    obtain ⟨c66, Ar66, S66, M66, V66⟩ := O66
    obtain ⟨T66, h66, X66, e66, W66, st66⟩ := stI X63 hx hZ e63 Ar66 (j := (4 : Int32)) (own_in S66 (own_ix (j := (4 : Int32)) (i := 4) (n := 7) (by decide) (by decide) (by decide))) (g := (mkF m 41 #[.val (.ref a), .val (.int (1 : Int32)), .val (.int p2), .val (.int v44), .val (.int (4 : Int32))] [(.int v65), (.int (4 : Int32)), (.ref tr)])) rfl rfl (hb hby d2_41)
    refine own_st st66 ?_
    have f67 : Fld Z h66 a "kithrank/Weights" "weight" "[I" (.ref wt) := f57.other W66 (Or.inl ne_a_tr)
    have f68 : Fld Z h66 a "kithrank/Weights" "tree" "[I" (.ref tr) := f58.other W66 (Or.inl ne_a_tr)
    have f69 : own_A Z h66 wt .int 6 (own_V [(.int w0), (.int p2), (.int w2), (.int w3), (.int w4), (.int w5)]) := f59.other W66 ne_wt_tr
    have Z66 : n0 ≤ h66.size := Nat.le_trans Z56 (Keep.of_wr W66).1
    have N66 := Fr.snoc X66 N56 G_tr
    have K66 : Keep h0 h66 [wt, tr] := K56.wr W66 (Or.inl (List.mem_of_getElem? (i := 1) rfl))
    have f70 : own_A Z h66 tr .int 7 (own_V [(.int t0), (.int t1), (.int v55), (.int t3), (.int v65), (.int t5), (.int t6)]) := (own_A.set ⟨c66, Ar66, S66, M66, V66⟩ (own_ix (j := (4 : Int32)) (i := 4) (n := 7) (by decide) (by decide) (by decide)) W66).cong (fun j hj => by match j, hj with | 0, _ => rfl | 1, _ => rfl | 2, _ => rfl | 3, _ => rfl | 4, _ => rfl | 5, _ => rfl | 6, _ => rfl | j + 7, h => exact absurd h (by omega))
    show own_Go p.tables e below _ (T66.setTop (mkF m 42 #[.val (.ref a), .val (.int (1 : Int32)), .val (.int p2), .val (.int v44), .val (.int (4 : Int32))] []))
    refine own_st (S' := T66.setTop (mkF m 44 #[.val (.ref a), .val (.int (1 : Int32)), .val (.int p2), .val (.int v44), .val (.int (4 : Int32))] [(.int (4 : Int32))])) (fun t k => XS.iload X66.here hx rfl (hb hby d2_42) rfl k) ?_
    refine own_st (S' := T66.setTop (mkF m 46 #[.val (.ref a), .val (.int (1 : Int32)), .val (.int p2), .val (.int v44), .val (.int (4 : Int32))] [(.int (4 : Int32)), (.int (4 : Int32))])) (fun t k => XS.iload X66.here hx rfl (hb hby d2_44) rfl k) ?_
    refine own_st (S' := T66.setTop (mkF m 48 #[.val (.ref a), .val (.int (1 : Int32)), .val (.int p2), .val (.int v44), .val (.int (4 : Int32))] [(.int (4 : Int32)), (.int (4 : Int32)), (.int (4 : Int32))])) (fun t k => XS.iload X66.here hx rfl (hb hby d2_46) rfl k) ?_
    refine own_st (S' := T66.setTop (mkF m 49 #[.val (.ref a), .val (.int (1 : Int32)), .val (.int p2), .val (.int v44), .val (.int (4 : Int32))] [(.int (-4 : Int32)), (.int (4 : Int32)), (.int (4 : Int32))])) (fun t k => XS.ineg X66.here hx rfl (hb hby d2_48) rfl k) ?_
    refine own_st (S' := T66.setTop (mkF m 50 #[.val (.ref a), .val (.int (1 : Int32)), .val (.int p2), .val (.int v44), .val (.int (4 : Int32))] [(.int (4 : Int32)), (.int (4 : Int32))])) (fun t k => XS.iand X66.here hx rfl (hb hby d2_49) rfl k) ?_
    refine own_st (S' := T66.setTop (mkF m 51 #[.val (.ref a), .val (.int (1 : Int32)), .val (.int p2), .val (.int v44), .val (.int (4 : Int32))] [(.int (8 : Int32))])) (fun t k => XS.iadd X66.here hx rfl (hb hby d2_50) rfl k) ?_
    refine own_st (S' := T66.setTop (mkF m 53 #[.val (.ref a), .val (.int (1 : Int32)), .val (.int p2), .val (.int v44), .val (.int (8 : Int32))] [])) (fun t k => XS.istore X66.here hx rfl (hb hby d2_51) rfl (l' := #[.val (.ref a), .val (.int (1 : Int32)), .val (.int p2), .val (.int v44), .val (.int (8 : Int32))]) rfl k) ?_
    refine own_st (S' := T66.setTop (mkF m 21 #[.val (.ref a), .val (.int (1 : Int32)), .val (.int p2), .val (.int v44), .val (.int (8 : Int32))] [])) (fun t k => XS.goto X66.here hx rfl (pc0 := 53) (pc' := 21) rfl (hb hby d2_53) (by decide) (by decide) k) ?_
    refine own_st (S' := T66.setTop (mkF m 23 #[.val (.ref a), .val (.int (1 : Int32)), .val (.int p2), .val (.int v44), .val (.int (8 : Int32))] [(.int (8 : Int32))])) (fun t k => XS.iload X66.here hx rfl (hb hby d2_21) rfl k) ?_
    refine own_st (S' := T66.setTop (mkF m 24 #[.val (.ref a), .val (.int (1 : Int32)), .val (.int p2), .val (.int v44), .val (.int (8 : Int32))] [(.ref a), (.int (8 : Int32))])) (fun t k => XS.aloadN X66.here hx rfl (hb hby d2_23) rfl rfl k) ?_
    obtain ⟨T71, X71, e71, st71⟩ := getF X66 hx hZ hown (host := "") (Or.inl (hw _ (List.mem_of_getElem? (i := 22) rfl))) Via.refl e66 f68 (g := (mkF m 24 #[.val (.ref a), .val (.int (1 : Int32)), .val (.int p2), .val (.int v44), .val (.int (8 : Int32))] [(.ref a), (.int (8 : Int32))])) rfl rfl (hb hby d2_24)
    refine own_st st71 ?_
    show own_Go p.tables e below _ (T71.setTop (mkF m 27 #[.val (.ref a), .val (.int (1 : Int32)), .val (.int p2), .val (.int v44), .val (.int (8 : Int32))] [(.ref tr), (.int (8 : Int32))]))
    have O72 := f70
    obtain ⟨c72, Ar72, S72, M72, V72⟩ := O72
    have ln72 : c72.slots.size.toInt32 = (7 : Int32) := by rw [S72]; first | rfl | decide | exact rfl
    refine own_st (S' := T71.setTop (mkF m 28 #[.val (.ref a), .val (.int (1 : Int32)), .val (.int p2), .val (.int v44), .val (.int (8 : Int32))] [(.int (7 : Int32)), (.int (8 : Int32))])) (fun t k => X71.arraylength hx (by rw [e71]; exact Ar72.1) (State.isArrayOf_alike hZ.alike Ar72.2.1) (g := (mkF m 27 #[.val (.ref a), .val (.int (1 : Int32)), .val (.int p2), .val (.int v44), .val (.int (8 : Int32))] [(.ref tr), (.int (8 : Int32))])) rfl rfl (hb hby d2_27) _ (by rw [ln72]; exact k)) ?_
    refine own_st (S' := T71.setTop (mkF m 56 #[.val (.ref a), .val (.int (1 : Int32)), .val (.int p2), .val (.int v44), .val (.int (8 : Int32))] [])) (fun t k => XS.icmpYes X71.here hx rfl (pc0 := 28) (pc' := 56) rfl (hb hby d2_28) rfl (flt (by decide)).2.1 (by decide) (by decide) k) ?_
    show own_Go p.tables e below _ (T71.setTop (mkF m 56 #[.val (.ref a), .val (.int (1 : Int32)), .val (.int p2), .val (.int v44), .val (.int (8 : Int32))] []))
    refine own_retV X71 hx hret hlk (hb hby d2_56) ?_ (by decide) (by decide)
    rw [e71]
    subst qv44
    subst qv55
    subst qv65
    exact ⟨rfl, N66, K66, (f69.cong (fun j hj => by match j, hj with | 0, _ => rfl | 1, _ => rfl | 2, _ => rfl | 3, _ => rfl | 4, _ => rfl | 5, _ => rfl | j + 6, h => exact absurd h (by omega))), (f70.cong (fun j hj => by match j, hj with | 0, _ => rfl | 1, _ => rfl | 2, _ => rfl | 3, _ => rfl | 4, _ => rfl | 5, _ => rfl | 6, _ => rfl | j + 7, h => exact absurd h (by omega)))⟩
  · show own_Go p.tables e below _ (s₁.setTop (mkF m 0 #[.val (.ref a), .val (.int (2 : Int32)), .val (.int p2), .unset, .unset] []))
    refine own_st (S' := s₁.setTop (mkF m 1 #[.val (.ref a), .val (.int (2 : Int32)), .val (.int p2), .unset, .unset] [(.int p2)])) (fun t k => XS.iloadN X0.here hx rfl (hb hby d2_0) rfl k) ?_
    refine own_st (S' := s₁.setTop (mkF m 2 #[.val (.ref a), .val (.int (2 : Int32)), .val (.int p2), .unset, .unset] [(.ref a), (.int p2)])) (fun t k => XS.aloadN X0.here hx rfl (hb hby d2_1) rfl rfl k) ?_
    obtain ⟨T73, X73, e73, st73⟩ := getF X0 hx hZ hown (host := "") (Or.inl (hw _ (List.mem_of_getElem? (i := 20) rfl))) Via.refl e0 F_a_weight (g := (mkF m 2 #[.val (.ref a), .val (.int (2 : Int32)), .val (.int p2), .unset, .unset] [(.ref a), (.int p2)])) rfl rfl (hb hby d2_2)
    refine own_st st73 ?_
    show own_Go p.tables e below _ (T73.setTop (mkF m 5 #[.val (.ref a), .val (.int (2 : Int32)), .val (.int p2), .unset, .unset] [(.ref wt), (.int p2)]))
    refine own_st (S' := T73.setTop (mkF m 6 #[.val (.ref a), .val (.int (2 : Int32)), .val (.int p2), .unset, .unset] [(.int (2 : Int32)), (.ref wt), (.int p2)])) (fun t k => XS.iloadN X73.here hx rfl (hb hby d2_5) rfl k) ?_
    have O74 := A_wt
    obtain ⟨c74, Ar74, S74, M74, V74⟩ := O74
    have at74 : c74.slots[((2 : Int32)).toNatClampNeg]? = some (.int w2) := own_at S74 V74 (own_ix (j := (2 : Int32)) (i := 2) (n := 6) (by decide) (by decide) (by decide)) rfl
    refine own_st (S' := T73.setTop (mkF m 7 #[.val (.ref a), .val (.int (2 : Int32)), .val (.int p2), .unset, .unset] [(.int w2), (.int p2)])) (fun t k => X73.iaload hx (j := (2 : Int32)) (v := (.int w2)) (by rw [e73]; exact Ar74.1) (State.isArrayOf_alike hZ.alike Ar74.2.1) Ar74.2.2 (own_in S74 (own_ix (j := (2 : Int32)) (i := 2) (n := 6) (by decide) (by decide) (by decide))) at74 (g := (mkF m 6 #[.val (.ref a), .val (.int (2 : Int32)), .val (.int p2), .unset, .unset] [(.int (2 : Int32)), (.ref wt), (.int p2)])) rfl rfl (hb hby d2_6) _ k) ?_
    refine own_st (S' := T73.setTop (mkF m 8 #[.val (.ref a), .val (.int (2 : Int32)), .val (.int p2), .unset, .unset] [(.int (p2 - w2))])) (fun t k => XS.isub X73.here hx rfl (hb hby d2_7) rfl k) ?_
    obtain ⟨v75, qv75⟩ : ∃ z : Int32, z = (p2 - w2) := ⟨_, rfl⟩
    show own_Go p.tables e below _ (T73.setTop (mkF m 8 #[.val (.ref a), .val (.int (2 : Int32)), .val (.int p2), .unset, .unset] [(.int (p2 - w2))]))
    rw [← qv75]
    refine own_st (S' := T73.setTop (mkF m 9 #[.val (.ref a), .val (.int (2 : Int32)), .val (.int p2), .val (.int v75), .unset] [])) (fun t k => XS.istoreN X73.here hx rfl (hb hby d2_8) rfl (l' := #[.val (.ref a), .val (.int (2 : Int32)), .val (.int p2), .val (.int v75), .unset]) rfl k) ?_
    refine own_st (S' := T73.setTop (mkF m 10 #[.val (.ref a), .val (.int (2 : Int32)), .val (.int p2), .val (.int v75), .unset] [(.ref a)])) (fun t k => XS.aloadN X73.here hx rfl (hb hby d2_9) rfl rfl k) ?_
    obtain ⟨T76, X76, e76, st76⟩ := getF X73 hx hZ hown (host := "") (Or.inl (hw _ (List.mem_of_getElem? (i := 20) rfl))) Via.refl e73 F_a_weight (g := (mkF m 10 #[.val (.ref a), .val (.int (2 : Int32)), .val (.int p2), .val (.int v75), .unset] [(.ref a)])) rfl rfl (hb hby d2_10)
    refine own_st st76 ?_
    show own_Go p.tables e below _ (T76.setTop (mkF m 13 #[.val (.ref a), .val (.int (2 : Int32)), .val (.int p2), .val (.int v75), .unset] [(.ref wt)]))
    refine own_st (S' := T76.setTop (mkF m 14 #[.val (.ref a), .val (.int (2 : Int32)), .val (.int p2), .val (.int v75), .unset] [(.int (2 : Int32)), (.ref wt)])) (fun t k => XS.iloadN X76.here hx rfl (hb hby d2_13) rfl k) ?_
    refine own_st (S' := T76.setTop (mkF m 15 #[.val (.ref a), .val (.int (2 : Int32)), .val (.int p2), .val (.int v75), .unset] [(.int p2), (.int (2 : Int32)), (.ref wt)])) (fun t k => XS.iloadN X76.here hx rfl (hb hby d2_14) rfl k) ?_
    have O77 := A_wt
    obtain ⟨c77, Ar77, S77, M77, V77⟩ := O77
    obtain ⟨T77, h77, X77, e77, W77, st77⟩ := stI X76 hx hZ e76 Ar77 (j := (2 : Int32)) (own_in S77 (own_ix (j := (2 : Int32)) (i := 2) (n := 6) (by decide) (by decide) (by decide))) (g := (mkF m 15 #[.val (.ref a), .val (.int (2 : Int32)), .val (.int p2), .val (.int v75), .unset] [(.int p2), (.int (2 : Int32)), (.ref wt)])) rfl rfl (hb hby d2_15)
    refine own_st st77 ?_
    have f78 : Fld Z h77 a "kithrank/Weights" "weight" "[I" (.ref wt) := F_a_weight.other W77 (Or.inl ne_a_wt)
    have f79 : Fld Z h77 a "kithrank/Weights" "tree" "[I" (.ref tr) := F_a_tree.other W77 (Or.inl ne_a_wt)
    have f80 : own_A Z h77 tr .int 7 (own_V [(.int t0), (.int t1), (.int t2), (.int t3), (.int t4), (.int t5), (.int t6)]) := A_tr.other W77 (Ne.symm ne_wt_tr)
    have Z77 : n0 ≤ h77.size := Nat.le_trans Z0 (Keep.of_wr W77).1
    have N77 := Fr.snoc X77 N0 G_wt
    have K77 : Keep h0 h77 [wt, tr] := K0.wr W77 (Or.inl (List.mem_of_getElem? (i := 0) rfl))
    have f81 : own_A Z h77 wt .int 6 (own_V [(.int w0), (.int w1), (.int p2), (.int w3), (.int w4), (.int w5)]) := (own_A.set ⟨c77, Ar77, S77, M77, V77⟩ (own_ix (j := (2 : Int32)) (i := 2) (n := 6) (by decide) (by decide) (by decide)) W77).cong (fun j hj => by match j, hj with | 0, _ => rfl | 1, _ => rfl | 2, _ => rfl | 3, _ => rfl | 4, _ => rfl | 5, _ => rfl | j + 6, h => exact absurd h (by omega))
    show own_Go p.tables e below _ (T77.setTop (mkF m 16 #[.val (.ref a), .val (.int (2 : Int32)), .val (.int p2), .val (.int v75), .unset] []))
    refine own_st (S' := T77.setTop (mkF m 17 #[.val (.ref a), .val (.int (2 : Int32)), .val (.int p2), .val (.int v75), .unset] [(.int (2 : Int32))])) (fun t k => XS.iloadN X77.here hx rfl (hb hby d2_16) rfl k) ?_
    refine own_st (S' := T77.setTop (mkF m 18 #[.val (.ref a), .val (.int (2 : Int32)), .val (.int p2), .val (.int v75), .unset] [(.int (1 : Int32)), (.int (2 : Int32))])) (fun t k => XS.iconst X77.here hx rfl (hb hby d2_17) k) ?_
    refine own_st (S' := T77.setTop (mkF m 19 #[.val (.ref a), .val (.int (2 : Int32)), .val (.int p2), .val (.int v75), .unset] [(.int (3 : Int32))])) (fun t k => XS.iadd X77.here hx rfl (hb hby d2_18) rfl k) ?_
    refine own_st (S' := T77.setTop (mkF m 21 #[.val (.ref a), .val (.int (2 : Int32)), .val (.int p2), .val (.int v75), .val (.int (3 : Int32))] [])) (fun t k => XS.istore X77.here hx rfl (hb hby d2_19) rfl (l' := #[.val (.ref a), .val (.int (2 : Int32)), .val (.int p2), .val (.int v75), .val (.int (3 : Int32))]) rfl k) ?_
    refine own_st (S' := T77.setTop (mkF m 23 #[.val (.ref a), .val (.int (2 : Int32)), .val (.int p2), .val (.int v75), .val (.int (3 : Int32))] [(.int (3 : Int32))])) (fun t k => XS.iload X77.here hx rfl (hb hby d2_21) rfl k) ?_
    refine own_st (S' := T77.setTop (mkF m 24 #[.val (.ref a), .val (.int (2 : Int32)), .val (.int p2), .val (.int v75), .val (.int (3 : Int32))] [(.ref a), (.int (3 : Int32))])) (fun t k => XS.aloadN X77.here hx rfl (hb hby d2_23) rfl rfl k) ?_
    obtain ⟨T82, X82, e82, st82⟩ := getF X77 hx hZ hown (host := "") (Or.inl (hw _ (List.mem_of_getElem? (i := 22) rfl))) Via.refl e77 f79 (g := (mkF m 24 #[.val (.ref a), .val (.int (2 : Int32)), .val (.int p2), .val (.int v75), .val (.int (3 : Int32))] [(.ref a), (.int (3 : Int32))])) rfl rfl (hb hby d2_24)
    refine own_st st82 ?_
    show own_Go p.tables e below _ (T82.setTop (mkF m 27 #[.val (.ref a), .val (.int (2 : Int32)), .val (.int p2), .val (.int v75), .val (.int (3 : Int32))] [(.ref tr), (.int (3 : Int32))]))
    have O83 := f80
    obtain ⟨c83, Ar83, S83, M83, V83⟩ := O83
    have ln83 : c83.slots.size.toInt32 = (7 : Int32) := by rw [S83]; first | rfl | decide | exact rfl
    refine own_st (S' := T82.setTop (mkF m 28 #[.val (.ref a), .val (.int (2 : Int32)), .val (.int p2), .val (.int v75), .val (.int (3 : Int32))] [(.int (7 : Int32)), (.int (3 : Int32))])) (fun t k => X82.arraylength hx (by rw [e82]; exact Ar83.1) (State.isArrayOf_alike hZ.alike Ar83.2.1) (g := (mkF m 27 #[.val (.ref a), .val (.int (2 : Int32)), .val (.int p2), .val (.int v75), .val (.int (3 : Int32))] [(.ref tr), (.int (3 : Int32))])) rfl rfl (hb hby d2_27) _ (by rw [ln83]; exact k)) ?_
    refine own_st (S' := T82.setTop (mkF m 31 #[.val (.ref a), .val (.int (2 : Int32)), .val (.int p2), .val (.int v75), .val (.int (3 : Int32))] [])) (fun t k => XS.icmpNo X82.here hx rfl (hb hby d2_28) rfl (tlt (by decide)).2.1 k) ?_
    show own_Go p.tables e below _ (T82.setTop (mkF m 31 #[.val (.ref a), .val (.int (2 : Int32)), .val (.int p2), .val (.int v75), .val (.int (3 : Int32))] []))
    refine own_st (S' := T82.setTop (mkF m 32 #[.val (.ref a), .val (.int (2 : Int32)), .val (.int p2), .val (.int v75), .val (.int (3 : Int32))] [(.ref a)])) (fun t k => XS.aloadN X82.here hx rfl (hb hby d2_31) rfl rfl k) ?_
    obtain ⟨T84, X84, e84, st84⟩ := getF X82 hx hZ hown (host := "") (Or.inl (hw _ (List.mem_of_getElem? (i := 22) rfl))) Via.refl e82 f79 (g := (mkF m 32 #[.val (.ref a), .val (.int (2 : Int32)), .val (.int p2), .val (.int v75), .val (.int (3 : Int32))] [(.ref a)])) rfl rfl (hb hby d2_32)
    refine own_st st84 ?_
    show own_Go p.tables e below _ (T84.setTop (mkF m 35 #[.val (.ref a), .val (.int (2 : Int32)), .val (.int p2), .val (.int v75), .val (.int (3 : Int32))] [(.ref tr)]))
    refine own_st (S' := T84.setTop (mkF m 37 #[.val (.ref a), .val (.int (2 : Int32)), .val (.int p2), .val (.int v75), .val (.int (3 : Int32))] [(.int (3 : Int32)), (.ref tr)])) (fun t k => XS.iload X84.here hx rfl (hb hby d2_35) rfl k) ?_
    refine own_st (S' := T84.setTop (mkF m 38 #[.val (.ref a), .val (.int (2 : Int32)), .val (.int p2), .val (.int v75), .val (.int (3 : Int32))] [(.int (3 : Int32)), (.ref tr), (.int (3 : Int32)), (.ref tr)])) (fun t k => Jvm.Free.XT.dup2 X84.here hx rfl (hb hby d2_37) rfl rfl rfl k) ?_
    have O85 := f80
    obtain ⟨c85, Ar85, S85, M85, V85⟩ := O85
    have at85 : c85.slots[((3 : Int32)).toNatClampNeg]? = some (.int t3) := own_at S85 V85 (own_ix (j := (3 : Int32)) (i := 3) (n := 7) (by decide) (by decide) (by decide)) rfl
    refine own_st (S' := T84.setTop (mkF m 39 #[.val (.ref a), .val (.int (2 : Int32)), .val (.int p2), .val (.int v75), .val (.int (3 : Int32))] [(.int t3), (.int (3 : Int32)), (.ref tr)])) (fun t k => X84.iaload hx (j := (3 : Int32)) (v := (.int t3)) (by rw [e84]; exact Ar85.1) (State.isArrayOf_alike hZ.alike Ar85.2.1) Ar85.2.2 (own_in S85 (own_ix (j := (3 : Int32)) (i := 3) (n := 7) (by decide) (by decide) (by decide))) at85 (g := (mkF m 38 #[.val (.ref a), .val (.int (2 : Int32)), .val (.int p2), .val (.int v75), .val (.int (3 : Int32))] [(.int (3 : Int32)), (.ref tr), (.int (3 : Int32)), (.ref tr)])) rfl rfl (hb hby d2_38) _ k) ?_
    refine own_st (S' := T84.setTop (mkF m 40 #[.val (.ref a), .val (.int (2 : Int32)), .val (.int p2), .val (.int v75), .val (.int (3 : Int32))] [(.int v75), (.int t3), (.int (3 : Int32)), (.ref tr)])) (fun t k => XS.iloadN X84.here hx rfl (hb hby d2_39) rfl k) ?_
    refine own_st (S' := T84.setTop (mkF m 41 #[.val (.ref a), .val (.int (2 : Int32)), .val (.int p2), .val (.int v75), .val (.int (3 : Int32))] [(.int (t3 + v75)), (.int (3 : Int32)), (.ref tr)])) (fun t k => XS.iadd X84.here hx rfl (hb hby d2_40) rfl k) ?_
    obtain ⟨v86, qv86⟩ : ∃ z : Int32, z = (t3 + v75) := ⟨_, rfl⟩
    show own_Go p.tables e below _ (T84.setTop (mkF m 41 #[.val (.ref a), .val (.int (2 : Int32)), .val (.int p2), .val (.int v75), .val (.int (3 : Int32))] [(.int (t3 + v75)), (.int (3 : Int32)), (.ref tr)]))
    rw [← qv86]
    have O87 := f80
    obtain ⟨c87, Ar87, S87, M87, V87⟩ := O87
    obtain ⟨T87, h87, X87, e87, W87, st87⟩ := stI X84 hx hZ e84 Ar87 (j := (3 : Int32)) (own_in S87 (own_ix (j := (3 : Int32)) (i := 3) (n := 7) (by decide) (by decide) (by decide))) (g := (mkF m 41 #[.val (.ref a), .val (.int (2 : Int32)), .val (.int p2), .val (.int v75), .val (.int (3 : Int32))] [(.int v86), (.int (3 : Int32)), (.ref tr)])) rfl rfl (hb hby d2_41)
    refine own_st st87 ?_
    have f88 : Fld Z h87 a "kithrank/Weights" "weight" "[I" (.ref wt) := f78.other W87 (Or.inl ne_a_tr)
    have f89 : Fld Z h87 a "kithrank/Weights" "tree" "[I" (.ref tr) := f79.other W87 (Or.inl ne_a_tr)
    have f90 : own_A Z h87 wt .int 6 (own_V [(.int w0), (.int w1), (.int p2), (.int w3), (.int w4), (.int w5)]) := f81.other W87 ne_wt_tr
    have Z87 : n0 ≤ h87.size := Nat.le_trans Z77 (Keep.of_wr W87).1
    have N87 := Fr.snoc X87 N77 G_tr
    have K87 : Keep h0 h87 [wt, tr] := K77.wr W87 (Or.inl (List.mem_of_getElem? (i := 1) rfl))
    have f91 : own_A Z h87 tr .int 7 (own_V [(.int t0), (.int t1), (.int t2), (.int v86), (.int t4), (.int t5), (.int t6)]) := (own_A.set ⟨c87, Ar87, S87, M87, V87⟩ (own_ix (j := (3 : Int32)) (i := 3) (n := 7) (by decide) (by decide) (by decide)) W87).cong (fun j hj => by match j, hj with | 0, _ => rfl | 1, _ => rfl | 2, _ => rfl | 3, _ => rfl | 4, _ => rfl | 5, _ => rfl | 6, _ => rfl | j + 7, h => exact absurd h (by omega))
    show own_Go p.tables e below _ (T87.setTop (mkF m 42 #[.val (.ref a), .val (.int (2 : Int32)), .val (.int p2), .val (.int v75), .val (.int (3 : Int32))] []))
    refine own_st (S' := T87.setTop (mkF m 44 #[.val (.ref a), .val (.int (2 : Int32)), .val (.int p2), .val (.int v75), .val (.int (3 : Int32))] [(.int (3 : Int32))])) (fun t k => XS.iload X87.here hx rfl (hb hby d2_42) rfl k) ?_
    refine own_st (S' := T87.setTop (mkF m 46 #[.val (.ref a), .val (.int (2 : Int32)), .val (.int p2), .val (.int v75), .val (.int (3 : Int32))] [(.int (3 : Int32)), (.int (3 : Int32))])) (fun t k => XS.iload X87.here hx rfl (hb hby d2_44) rfl k) ?_
    refine own_st (S' := T87.setTop (mkF m 48 #[.val (.ref a), .val (.int (2 : Int32)), .val (.int p2), .val (.int v75), .val (.int (3 : Int32))] [(.int (3 : Int32)), (.int (3 : Int32)), (.int (3 : Int32))])) (fun t k => XS.iload X87.here hx rfl (hb hby d2_46) rfl k) ?_
    refine own_st (S' := T87.setTop (mkF m 49 #[.val (.ref a), .val (.int (2 : Int32)), .val (.int p2), .val (.int v75), .val (.int (3 : Int32))] [(.int (-3 : Int32)), (.int (3 : Int32)), (.int (3 : Int32))])) (fun t k => XS.ineg X87.here hx rfl (hb hby d2_48) rfl k) ?_
    refine own_st (S' := T87.setTop (mkF m 50 #[.val (.ref a), .val (.int (2 : Int32)), .val (.int p2), .val (.int v75), .val (.int (3 : Int32))] [(.int (1 : Int32)), (.int (3 : Int32))])) (fun t k => XS.iand X87.here hx rfl (hb hby d2_49) rfl k) ?_
    refine own_st (S' := T87.setTop (mkF m 51 #[.val (.ref a), .val (.int (2 : Int32)), .val (.int p2), .val (.int v75), .val (.int (3 : Int32))] [(.int (4 : Int32))])) (fun t k => XS.iadd X87.here hx rfl (hb hby d2_50) rfl k) ?_
    refine own_st (S' := T87.setTop (mkF m 53 #[.val (.ref a), .val (.int (2 : Int32)), .val (.int p2), .val (.int v75), .val (.int (4 : Int32))] [])) (fun t k => XS.istore X87.here hx rfl (hb hby d2_51) rfl (l' := #[.val (.ref a), .val (.int (2 : Int32)), .val (.int p2), .val (.int v75), .val (.int (4 : Int32))]) rfl k) ?_
    refine own_st (S' := T87.setTop (mkF m 21 #[.val (.ref a), .val (.int (2 : Int32)), .val (.int p2), .val (.int v75), .val (.int (4 : Int32))] [])) (fun t k => XS.goto X87.here hx rfl (pc0 := 53) (pc' := 21) rfl (hb hby d2_53) (by decide) (by decide) k) ?_
    refine own_st (S' := T87.setTop (mkF m 23 #[.val (.ref a), .val (.int (2 : Int32)), .val (.int p2), .val (.int v75), .val (.int (4 : Int32))] [(.int (4 : Int32))])) (fun t k => XS.iload X87.here hx rfl (hb hby d2_21) rfl k) ?_
    refine own_st (S' := T87.setTop (mkF m 24 #[.val (.ref a), .val (.int (2 : Int32)), .val (.int p2), .val (.int v75), .val (.int (4 : Int32))] [(.ref a), (.int (4 : Int32))])) (fun t k => XS.aloadN X87.here hx rfl (hb hby d2_23) rfl rfl k) ?_
    obtain ⟨T92, X92, e92, st92⟩ := getF X87 hx hZ hown (host := "") (Or.inl (hw _ (List.mem_of_getElem? (i := 22) rfl))) Via.refl e87 f89 (g := (mkF m 24 #[.val (.ref a), .val (.int (2 : Int32)), .val (.int p2), .val (.int v75), .val (.int (4 : Int32))] [(.ref a), (.int (4 : Int32))])) rfl rfl (hb hby d2_24)
    refine own_st st92 ?_
    show own_Go p.tables e below _ (T92.setTop (mkF m 27 #[.val (.ref a), .val (.int (2 : Int32)), .val (.int p2), .val (.int v75), .val (.int (4 : Int32))] [(.ref tr), (.int (4 : Int32))]))
    have O93 := f91
    obtain ⟨c93, Ar93, S93, M93, V93⟩ := O93
    have ln93 : c93.slots.size.toInt32 = (7 : Int32) := by rw [S93]; first | rfl | decide | exact rfl
    refine own_st (S' := T92.setTop (mkF m 28 #[.val (.ref a), .val (.int (2 : Int32)), .val (.int p2), .val (.int v75), .val (.int (4 : Int32))] [(.int (7 : Int32)), (.int (4 : Int32))])) (fun t k => X92.arraylength hx (by rw [e92]; exact Ar93.1) (State.isArrayOf_alike hZ.alike Ar93.2.1) (g := (mkF m 27 #[.val (.ref a), .val (.int (2 : Int32)), .val (.int p2), .val (.int v75), .val (.int (4 : Int32))] [(.ref tr), (.int (4 : Int32))])) rfl rfl (hb hby d2_27) _ (by rw [ln93]; exact k)) ?_
    refine own_st (S' := T92.setTop (mkF m 31 #[.val (.ref a), .val (.int (2 : Int32)), .val (.int p2), .val (.int v75), .val (.int (4 : Int32))] [])) (fun t k => XS.icmpNo X92.here hx rfl (hb hby d2_28) rfl (tlt (by decide)).2.1 k) ?_
    show own_Go p.tables e below _ (T92.setTop (mkF m 31 #[.val (.ref a), .val (.int (2 : Int32)), .val (.int p2), .val (.int v75), .val (.int (4 : Int32))] []))
    refine own_st (S' := T92.setTop (mkF m 32 #[.val (.ref a), .val (.int (2 : Int32)), .val (.int p2), .val (.int v75), .val (.int (4 : Int32))] [(.ref a)])) (fun t k => XS.aloadN X92.here hx rfl (hb hby d2_31) rfl rfl k) ?_
    obtain ⟨T94, X94, e94, st94⟩ := getF X92 hx hZ hown (host := "") (Or.inl (hw _ (List.mem_of_getElem? (i := 22) rfl))) Via.refl e92 f89 (g := (mkF m 32 #[.val (.ref a), .val (.int (2 : Int32)), .val (.int p2), .val (.int v75), .val (.int (4 : Int32))] [(.ref a)])) rfl rfl (hb hby d2_32)
    refine own_st st94 ?_
    show own_Go p.tables e below _ (T94.setTop (mkF m 35 #[.val (.ref a), .val (.int (2 : Int32)), .val (.int p2), .val (.int v75), .val (.int (4 : Int32))] [(.ref tr)]))
    refine own_st (S' := T94.setTop (mkF m 37 #[.val (.ref a), .val (.int (2 : Int32)), .val (.int p2), .val (.int v75), .val (.int (4 : Int32))] [(.int (4 : Int32)), (.ref tr)])) (fun t k => XS.iload X94.here hx rfl (hb hby d2_35) rfl k) ?_
    refine own_st (S' := T94.setTop (mkF m 38 #[.val (.ref a), .val (.int (2 : Int32)), .val (.int p2), .val (.int v75), .val (.int (4 : Int32))] [(.int (4 : Int32)), (.ref tr), (.int (4 : Int32)), (.ref tr)])) (fun t k => Jvm.Free.XT.dup2 X94.here hx rfl (hb hby d2_37) rfl rfl rfl k) ?_
    have O95 := f91
    obtain ⟨c95, Ar95, S95, M95, V95⟩ := O95
    have at95 : c95.slots[((4 : Int32)).toNatClampNeg]? = some (.int t4) := own_at S95 V95 (own_ix (j := (4 : Int32)) (i := 4) (n := 7) (by decide) (by decide) (by decide)) rfl
    refine own_st (S' := T94.setTop (mkF m 39 #[.val (.ref a), .val (.int (2 : Int32)), .val (.int p2), .val (.int v75), .val (.int (4 : Int32))] [(.int t4), (.int (4 : Int32)), (.ref tr)])) (fun t k => X94.iaload hx (j := (4 : Int32)) (v := (.int t4)) (by rw [e94]; exact Ar95.1) (State.isArrayOf_alike hZ.alike Ar95.2.1) Ar95.2.2 (own_in S95 (own_ix (j := (4 : Int32)) (i := 4) (n := 7) (by decide) (by decide) (by decide))) at95 (g := (mkF m 38 #[.val (.ref a), .val (.int (2 : Int32)), .val (.int p2), .val (.int v75), .val (.int (4 : Int32))] [(.int (4 : Int32)), (.ref tr), (.int (4 : Int32)), (.ref tr)])) rfl rfl (hb hby d2_38) _ k) ?_
    refine own_st (S' := T94.setTop (mkF m 40 #[.val (.ref a), .val (.int (2 : Int32)), .val (.int p2), .val (.int v75), .val (.int (4 : Int32))] [(.int v75), (.int t4), (.int (4 : Int32)), (.ref tr)])) (fun t k => XS.iloadN X94.here hx rfl (hb hby d2_39) rfl k) ?_
    refine own_st (S' := T94.setTop (mkF m 41 #[.val (.ref a), .val (.int (2 : Int32)), .val (.int p2), .val (.int v75), .val (.int (4 : Int32))] [(.int (t4 + v75)), (.int (4 : Int32)), (.ref tr)])) (fun t k => XS.iadd X94.here hx rfl (hb hby d2_40) rfl k) ?_
    obtain ⟨v96, qv96⟩ : ∃ z : Int32, z = (t4 + v75) := ⟨_, rfl⟩
    show own_Go p.tables e below _ (T94.setTop (mkF m 41 #[.val (.ref a), .val (.int (2 : Int32)), .val (.int p2), .val (.int v75), .val (.int (4 : Int32))] [(.int (t4 + v75)), (.int (4 : Int32)), (.ref tr)]))
    rw [← qv96]
    have O97 := f91
    obtain ⟨c97, Ar97, S97, M97, V97⟩ := O97
    obtain ⟨T97, h97, X97, e97, W97, st97⟩ := stI X94 hx hZ e94 Ar97 (j := (4 : Int32)) (own_in S97 (own_ix (j := (4 : Int32)) (i := 4) (n := 7) (by decide) (by decide) (by decide))) (g := (mkF m 41 #[.val (.ref a), .val (.int (2 : Int32)), .val (.int p2), .val (.int v75), .val (.int (4 : Int32))] [(.int v96), (.int (4 : Int32)), (.ref tr)])) rfl rfl (hb hby d2_41)
    refine own_st st97 ?_
    have f98 : Fld Z h97 a "kithrank/Weights" "weight" "[I" (.ref wt) := f88.other W97 (Or.inl ne_a_tr)
    have f99 : Fld Z h97 a "kithrank/Weights" "tree" "[I" (.ref tr) := f89.other W97 (Or.inl ne_a_tr)
    have f100 : own_A Z h97 wt .int 6 (own_V [(.int w0), (.int w1), (.int p2), (.int w3), (.int w4), (.int w5)]) := f90.other W97 ne_wt_tr
    have Z97 : n0 ≤ h97.size := Nat.le_trans Z87 (Keep.of_wr W97).1
    have N97 := Fr.snoc X97 N87 G_tr
    have K97 : Keep h0 h97 [wt, tr] := K87.wr W97 (Or.inl (List.mem_of_getElem? (i := 1) rfl))
    have f101 : own_A Z h97 tr .int 7 (own_V [(.int t0), (.int t1), (.int t2), (.int v86), (.int v96), (.int t5), (.int t6)]) := (own_A.set ⟨c97, Ar97, S97, M97, V97⟩ (own_ix (j := (4 : Int32)) (i := 4) (n := 7) (by decide) (by decide) (by decide)) W97).cong (fun j hj => by match j, hj with | 0, _ => rfl | 1, _ => rfl | 2, _ => rfl | 3, _ => rfl | 4, _ => rfl | 5, _ => rfl | 6, _ => rfl | j + 7, h => exact absurd h (by omega))
    show own_Go p.tables e below _ (T97.setTop (mkF m 42 #[.val (.ref a), .val (.int (2 : Int32)), .val (.int p2), .val (.int v75), .val (.int (4 : Int32))] []))
    refine own_st (S' := T97.setTop (mkF m 44 #[.val (.ref a), .val (.int (2 : Int32)), .val (.int p2), .val (.int v75), .val (.int (4 : Int32))] [(.int (4 : Int32))])) (fun t k => XS.iload X97.here hx rfl (hb hby d2_42) rfl k) ?_
    refine own_st (S' := T97.setTop (mkF m 46 #[.val (.ref a), .val (.int (2 : Int32)), .val (.int p2), .val (.int v75), .val (.int (4 : Int32))] [(.int (4 : Int32)), (.int (4 : Int32))])) (fun t k => XS.iload X97.here hx rfl (hb hby d2_44) rfl k) ?_
    refine own_st (S' := T97.setTop (mkF m 48 #[.val (.ref a), .val (.int (2 : Int32)), .val (.int p2), .val (.int v75), .val (.int (4 : Int32))] [(.int (4 : Int32)), (.int (4 : Int32)), (.int (4 : Int32))])) (fun t k => XS.iload X97.here hx rfl (hb hby d2_46) rfl k) ?_
    refine own_st (S' := T97.setTop (mkF m 49 #[.val (.ref a), .val (.int (2 : Int32)), .val (.int p2), .val (.int v75), .val (.int (4 : Int32))] [(.int (-4 : Int32)), (.int (4 : Int32)), (.int (4 : Int32))])) (fun t k => XS.ineg X97.here hx rfl (hb hby d2_48) rfl k) ?_
    refine own_st (S' := T97.setTop (mkF m 50 #[.val (.ref a), .val (.int (2 : Int32)), .val (.int p2), .val (.int v75), .val (.int (4 : Int32))] [(.int (4 : Int32)), (.int (4 : Int32))])) (fun t k => XS.iand X97.here hx rfl (hb hby d2_49) rfl k) ?_
    refine own_st (S' := T97.setTop (mkF m 51 #[.val (.ref a), .val (.int (2 : Int32)), .val (.int p2), .val (.int v75), .val (.int (4 : Int32))] [(.int (8 : Int32))])) (fun t k => XS.iadd X97.here hx rfl (hb hby d2_50) rfl k) ?_
    refine own_st (S' := T97.setTop (mkF m 53 #[.val (.ref a), .val (.int (2 : Int32)), .val (.int p2), .val (.int v75), .val (.int (8 : Int32))] [])) (fun t k => XS.istore X97.here hx rfl (hb hby d2_51) rfl (l' := #[.val (.ref a), .val (.int (2 : Int32)), .val (.int p2), .val (.int v75), .val (.int (8 : Int32))]) rfl k) ?_
    refine own_st (S' := T97.setTop (mkF m 21 #[.val (.ref a), .val (.int (2 : Int32)), .val (.int p2), .val (.int v75), .val (.int (8 : Int32))] [])) (fun t k => XS.goto X97.here hx rfl (pc0 := 53) (pc' := 21) rfl (hb hby d2_53) (by decide) (by decide) k) ?_
    refine own_st (S' := T97.setTop (mkF m 23 #[.val (.ref a), .val (.int (2 : Int32)), .val (.int p2), .val (.int v75), .val (.int (8 : Int32))] [(.int (8 : Int32))])) (fun t k => XS.iload X97.here hx rfl (hb hby d2_21) rfl k) ?_
    refine own_st (S' := T97.setTop (mkF m 24 #[.val (.ref a), .val (.int (2 : Int32)), .val (.int p2), .val (.int v75), .val (.int (8 : Int32))] [(.ref a), (.int (8 : Int32))])) (fun t k => XS.aloadN X97.here hx rfl (hb hby d2_23) rfl rfl k) ?_
    obtain ⟨T102, X102, e102, st102⟩ := getF X97 hx hZ hown (host := "") (Or.inl (hw _ (List.mem_of_getElem? (i := 22) rfl))) Via.refl e97 f99 (g := (mkF m 24 #[.val (.ref a), .val (.int (2 : Int32)), .val (.int p2), .val (.int v75), .val (.int (8 : Int32))] [(.ref a), (.int (8 : Int32))])) rfl rfl (hb hby d2_24)
    refine own_st st102 ?_
    show own_Go p.tables e below _ (T102.setTop (mkF m 27 #[.val (.ref a), .val (.int (2 : Int32)), .val (.int p2), .val (.int v75), .val (.int (8 : Int32))] [(.ref tr), (.int (8 : Int32))]))
    have O103 := f101
    obtain ⟨c103, Ar103, S103, M103, V103⟩ := O103
    have ln103 : c103.slots.size.toInt32 = (7 : Int32) := by rw [S103]; first | rfl | decide | exact rfl
    refine own_st (S' := T102.setTop (mkF m 28 #[.val (.ref a), .val (.int (2 : Int32)), .val (.int p2), .val (.int v75), .val (.int (8 : Int32))] [(.int (7 : Int32)), (.int (8 : Int32))])) (fun t k => X102.arraylength hx (by rw [e102]; exact Ar103.1) (State.isArrayOf_alike hZ.alike Ar103.2.1) (g := (mkF m 27 #[.val (.ref a), .val (.int (2 : Int32)), .val (.int p2), .val (.int v75), .val (.int (8 : Int32))] [(.ref tr), (.int (8 : Int32))])) rfl rfl (hb hby d2_27) _ (by rw [ln103]; exact k)) ?_
    refine own_st (S' := T102.setTop (mkF m 56 #[.val (.ref a), .val (.int (2 : Int32)), .val (.int p2), .val (.int v75), .val (.int (8 : Int32))] [])) (fun t k => XS.icmpYes X102.here hx rfl (pc0 := 28) (pc' := 56) rfl (hb hby d2_28) rfl (flt (by decide)).2.1 (by decide) (by decide) k) ?_
    show own_Go p.tables e below _ (T102.setTop (mkF m 56 #[.val (.ref a), .val (.int (2 : Int32)), .val (.int p2), .val (.int v75), .val (.int (8 : Int32))] []))
    refine own_retV X102 hx hret hlk (hb hby d2_56) ?_ (by decide) (by decide)
    rw [e102]
    subst qv75
    subst qv86
    subst qv96
    exact ⟨rfl, N97, K97, (f100.cong (fun j hj => by match j, hj with | 0, _ => rfl | 1, _ => rfl | 2, _ => rfl | 3, _ => rfl | 4, _ => rfl | 5, _ => rfl | j + 6, h => exact absurd h (by omega))), (f101.cong (fun j hj => by match j, hj with | 0, _ => rfl | 1, _ => rfl | 2, _ => rfl | 3, _ => rfl | 4, _ => rfl | 5, _ => rfl | 6, _ => rfl | j + 7, h => exact absurd h (by omega)))⟩
  · show own_Go p.tables e below _ (s₁.setTop (mkF m 0 #[.val (.ref a), .val (.int (3 : Int32)), .val (.int p2), .unset, .unset] []))
    refine own_st (S' := s₁.setTop (mkF m 1 #[.val (.ref a), .val (.int (3 : Int32)), .val (.int p2), .unset, .unset] [(.int p2)])) (fun t k => XS.iloadN X0.here hx rfl (hb hby d2_0) rfl k) ?_
    refine own_st (S' := s₁.setTop (mkF m 2 #[.val (.ref a), .val (.int (3 : Int32)), .val (.int p2), .unset, .unset] [(.ref a), (.int p2)])) (fun t k => XS.aloadN X0.here hx rfl (hb hby d2_1) rfl rfl k) ?_
    obtain ⟨T104, X104, e104, st104⟩ := getF X0 hx hZ hown (host := "") (Or.inl (hw _ (List.mem_of_getElem? (i := 20) rfl))) Via.refl e0 F_a_weight (g := (mkF m 2 #[.val (.ref a), .val (.int (3 : Int32)), .val (.int p2), .unset, .unset] [(.ref a), (.int p2)])) rfl rfl (hb hby d2_2)
    refine own_st st104 ?_
    show own_Go p.tables e below _ (T104.setTop (mkF m 5 #[.val (.ref a), .val (.int (3 : Int32)), .val (.int p2), .unset, .unset] [(.ref wt), (.int p2)]))
    refine own_st (S' := T104.setTop (mkF m 6 #[.val (.ref a), .val (.int (3 : Int32)), .val (.int p2), .unset, .unset] [(.int (3 : Int32)), (.ref wt), (.int p2)])) (fun t k => XS.iloadN X104.here hx rfl (hb hby d2_5) rfl k) ?_
    have O105 := A_wt
    obtain ⟨c105, Ar105, S105, M105, V105⟩ := O105
    have at105 : c105.slots[((3 : Int32)).toNatClampNeg]? = some (.int w3) := own_at S105 V105 (own_ix (j := (3 : Int32)) (i := 3) (n := 6) (by decide) (by decide) (by decide)) rfl
    refine own_st (S' := T104.setTop (mkF m 7 #[.val (.ref a), .val (.int (3 : Int32)), .val (.int p2), .unset, .unset] [(.int w3), (.int p2)])) (fun t k => X104.iaload hx (j := (3 : Int32)) (v := (.int w3)) (by rw [e104]; exact Ar105.1) (State.isArrayOf_alike hZ.alike Ar105.2.1) Ar105.2.2 (own_in S105 (own_ix (j := (3 : Int32)) (i := 3) (n := 6) (by decide) (by decide) (by decide))) at105 (g := (mkF m 6 #[.val (.ref a), .val (.int (3 : Int32)), .val (.int p2), .unset, .unset] [(.int (3 : Int32)), (.ref wt), (.int p2)])) rfl rfl (hb hby d2_6) _ k) ?_
    refine own_st (S' := T104.setTop (mkF m 8 #[.val (.ref a), .val (.int (3 : Int32)), .val (.int p2), .unset, .unset] [(.int (p2 - w3))])) (fun t k => XS.isub X104.here hx rfl (hb hby d2_7) rfl k) ?_
    obtain ⟨v106, qv106⟩ : ∃ z : Int32, z = (p2 - w3) := ⟨_, rfl⟩
    show own_Go p.tables e below _ (T104.setTop (mkF m 8 #[.val (.ref a), .val (.int (3 : Int32)), .val (.int p2), .unset, .unset] [(.int (p2 - w3))]))
    rw [← qv106]
    refine own_st (S' := T104.setTop (mkF m 9 #[.val (.ref a), .val (.int (3 : Int32)), .val (.int p2), .val (.int v106), .unset] [])) (fun t k => XS.istoreN X104.here hx rfl (hb hby d2_8) rfl (l' := #[.val (.ref a), .val (.int (3 : Int32)), .val (.int p2), .val (.int v106), .unset]) rfl k) ?_
    refine own_st (S' := T104.setTop (mkF m 10 #[.val (.ref a), .val (.int (3 : Int32)), .val (.int p2), .val (.int v106), .unset] [(.ref a)])) (fun t k => XS.aloadN X104.here hx rfl (hb hby d2_9) rfl rfl k) ?_
    obtain ⟨T107, X107, e107, st107⟩ := getF X104 hx hZ hown (host := "") (Or.inl (hw _ (List.mem_of_getElem? (i := 20) rfl))) Via.refl e104 F_a_weight (g := (mkF m 10 #[.val (.ref a), .val (.int (3 : Int32)), .val (.int p2), .val (.int v106), .unset] [(.ref a)])) rfl rfl (hb hby d2_10)
    refine own_st st107 ?_
    show own_Go p.tables e below _ (T107.setTop (mkF m 13 #[.val (.ref a), .val (.int (3 : Int32)), .val (.int p2), .val (.int v106), .unset] [(.ref wt)]))
    refine own_st (S' := T107.setTop (mkF m 14 #[.val (.ref a), .val (.int (3 : Int32)), .val (.int p2), .val (.int v106), .unset] [(.int (3 : Int32)), (.ref wt)])) (fun t k => XS.iloadN X107.here hx rfl (hb hby d2_13) rfl k) ?_
    refine own_st (S' := T107.setTop (mkF m 15 #[.val (.ref a), .val (.int (3 : Int32)), .val (.int p2), .val (.int v106), .unset] [(.int p2), (.int (3 : Int32)), (.ref wt)])) (fun t k => XS.iloadN X107.here hx rfl (hb hby d2_14) rfl k) ?_
    have O108 := A_wt
    obtain ⟨c108, Ar108, S108, M108, V108⟩ := O108
    obtain ⟨T108, h108, X108, e108, W108, st108⟩ := stI X107 hx hZ e107 Ar108 (j := (3 : Int32)) (own_in S108 (own_ix (j := (3 : Int32)) (i := 3) (n := 6) (by decide) (by decide) (by decide))) (g := (mkF m 15 #[.val (.ref a), .val (.int (3 : Int32)), .val (.int p2), .val (.int v106), .unset] [(.int p2), (.int (3 : Int32)), (.ref wt)])) rfl rfl (hb hby d2_15)
    refine own_st st108 ?_
    have f109 : Fld Z h108 a "kithrank/Weights" "weight" "[I" (.ref wt) := F_a_weight.other W108 (Or.inl ne_a_wt)
    have f110 : Fld Z h108 a "kithrank/Weights" "tree" "[I" (.ref tr) := F_a_tree.other W108 (Or.inl ne_a_wt)
    have f111 : own_A Z h108 tr .int 7 (own_V [(.int t0), (.int t1), (.int t2), (.int t3), (.int t4), (.int t5), (.int t6)]) := A_tr.other W108 (Ne.symm ne_wt_tr)
    have Z108 : n0 ≤ h108.size := Nat.le_trans Z0 (Keep.of_wr W108).1
    have N108 := Fr.snoc X108 N0 G_wt
    have K108 : Keep h0 h108 [wt, tr] := K0.wr W108 (Or.inl (List.mem_of_getElem? (i := 0) rfl))
    have f112 : own_A Z h108 wt .int 6 (own_V [(.int w0), (.int w1), (.int w2), (.int p2), (.int w4), (.int w5)]) := (own_A.set ⟨c108, Ar108, S108, M108, V108⟩ (own_ix (j := (3 : Int32)) (i := 3) (n := 6) (by decide) (by decide) (by decide)) W108).cong (fun j hj => by match j, hj with | 0, _ => rfl | 1, _ => rfl | 2, _ => rfl | 3, _ => rfl | 4, _ => rfl | 5, _ => rfl | j + 6, h => exact absurd h (by omega))
    show own_Go p.tables e below _ (T108.setTop (mkF m 16 #[.val (.ref a), .val (.int (3 : Int32)), .val (.int p2), .val (.int v106), .unset] []))
    refine own_st (S' := T108.setTop (mkF m 17 #[.val (.ref a), .val (.int (3 : Int32)), .val (.int p2), .val (.int v106), .unset] [(.int (3 : Int32))])) (fun t k => XS.iloadN X108.here hx rfl (hb hby d2_16) rfl k) ?_
    refine own_st (S' := T108.setTop (mkF m 18 #[.val (.ref a), .val (.int (3 : Int32)), .val (.int p2), .val (.int v106), .unset] [(.int (1 : Int32)), (.int (3 : Int32))])) (fun t k => XS.iconst X108.here hx rfl (hb hby d2_17) k) ?_
    refine own_st (S' := T108.setTop (mkF m 19 #[.val (.ref a), .val (.int (3 : Int32)), .val (.int p2), .val (.int v106), .unset] [(.int (4 : Int32))])) (fun t k => XS.iadd X108.here hx rfl (hb hby d2_18) rfl k) ?_
    refine own_st (S' := T108.setTop (mkF m 21 #[.val (.ref a), .val (.int (3 : Int32)), .val (.int p2), .val (.int v106), .val (.int (4 : Int32))] [])) (fun t k => XS.istore X108.here hx rfl (hb hby d2_19) rfl (l' := #[.val (.ref a), .val (.int (3 : Int32)), .val (.int p2), .val (.int v106), .val (.int (4 : Int32))]) rfl k) ?_
    refine own_st (S' := T108.setTop (mkF m 23 #[.val (.ref a), .val (.int (3 : Int32)), .val (.int p2), .val (.int v106), .val (.int (4 : Int32))] [(.int (4 : Int32))])) (fun t k => XS.iload X108.here hx rfl (hb hby d2_21) rfl k) ?_
    refine own_st (S' := T108.setTop (mkF m 24 #[.val (.ref a), .val (.int (3 : Int32)), .val (.int p2), .val (.int v106), .val (.int (4 : Int32))] [(.ref a), (.int (4 : Int32))])) (fun t k => XS.aloadN X108.here hx rfl (hb hby d2_23) rfl rfl k) ?_
    obtain ⟨T113, X113, e113, st113⟩ := getF X108 hx hZ hown (host := "") (Or.inl (hw _ (List.mem_of_getElem? (i := 22) rfl))) Via.refl e108 f110 (g := (mkF m 24 #[.val (.ref a), .val (.int (3 : Int32)), .val (.int p2), .val (.int v106), .val (.int (4 : Int32))] [(.ref a), (.int (4 : Int32))])) rfl rfl (hb hby d2_24)
    refine own_st st113 ?_
    show own_Go p.tables e below _ (T113.setTop (mkF m 27 #[.val (.ref a), .val (.int (3 : Int32)), .val (.int p2), .val (.int v106), .val (.int (4 : Int32))] [(.ref tr), (.int (4 : Int32))]))
    have O114 := f111
    obtain ⟨c114, Ar114, S114, M114, V114⟩ := O114
    have ln114 : c114.slots.size.toInt32 = (7 : Int32) := by rw [S114]; first | rfl | decide | exact rfl
    refine own_st (S' := T113.setTop (mkF m 28 #[.val (.ref a), .val (.int (3 : Int32)), .val (.int p2), .val (.int v106), .val (.int (4 : Int32))] [(.int (7 : Int32)), (.int (4 : Int32))])) (fun t k => X113.arraylength hx (by rw [e113]; exact Ar114.1) (State.isArrayOf_alike hZ.alike Ar114.2.1) (g := (mkF m 27 #[.val (.ref a), .val (.int (3 : Int32)), .val (.int p2), .val (.int v106), .val (.int (4 : Int32))] [(.ref tr), (.int (4 : Int32))])) rfl rfl (hb hby d2_27) _ (by rw [ln114]; exact k)) ?_
    refine own_st (S' := T113.setTop (mkF m 31 #[.val (.ref a), .val (.int (3 : Int32)), .val (.int p2), .val (.int v106), .val (.int (4 : Int32))] [])) (fun t k => XS.icmpNo X113.here hx rfl (hb hby d2_28) rfl (tlt (by decide)).2.1 k) ?_
    show own_Go p.tables e below _ (T113.setTop (mkF m 31 #[.val (.ref a), .val (.int (3 : Int32)), .val (.int p2), .val (.int v106), .val (.int (4 : Int32))] []))
    refine own_st (S' := T113.setTop (mkF m 32 #[.val (.ref a), .val (.int (3 : Int32)), .val (.int p2), .val (.int v106), .val (.int (4 : Int32))] [(.ref a)])) (fun t k => XS.aloadN X113.here hx rfl (hb hby d2_31) rfl rfl k) ?_
    obtain ⟨T115, X115, e115, st115⟩ := getF X113 hx hZ hown (host := "") (Or.inl (hw _ (List.mem_of_getElem? (i := 22) rfl))) Via.refl e113 f110 (g := (mkF m 32 #[.val (.ref a), .val (.int (3 : Int32)), .val (.int p2), .val (.int v106), .val (.int (4 : Int32))] [(.ref a)])) rfl rfl (hb hby d2_32)
    refine own_st st115 ?_
    show own_Go p.tables e below _ (T115.setTop (mkF m 35 #[.val (.ref a), .val (.int (3 : Int32)), .val (.int p2), .val (.int v106), .val (.int (4 : Int32))] [(.ref tr)]))
    refine own_st (S' := T115.setTop (mkF m 37 #[.val (.ref a), .val (.int (3 : Int32)), .val (.int p2), .val (.int v106), .val (.int (4 : Int32))] [(.int (4 : Int32)), (.ref tr)])) (fun t k => XS.iload X115.here hx rfl (hb hby d2_35) rfl k) ?_
    refine own_st (S' := T115.setTop (mkF m 38 #[.val (.ref a), .val (.int (3 : Int32)), .val (.int p2), .val (.int v106), .val (.int (4 : Int32))] [(.int (4 : Int32)), (.ref tr), (.int (4 : Int32)), (.ref tr)])) (fun t k => Jvm.Free.XT.dup2 X115.here hx rfl (hb hby d2_37) rfl rfl rfl k) ?_
    have O116 := f111
    obtain ⟨c116, Ar116, S116, M116, V116⟩ := O116
    have at116 : c116.slots[((4 : Int32)).toNatClampNeg]? = some (.int t4) := own_at S116 V116 (own_ix (j := (4 : Int32)) (i := 4) (n := 7) (by decide) (by decide) (by decide)) rfl
    refine own_st (S' := T115.setTop (mkF m 39 #[.val (.ref a), .val (.int (3 : Int32)), .val (.int p2), .val (.int v106), .val (.int (4 : Int32))] [(.int t4), (.int (4 : Int32)), (.ref tr)])) (fun t k => X115.iaload hx (j := (4 : Int32)) (v := (.int t4)) (by rw [e115]; exact Ar116.1) (State.isArrayOf_alike hZ.alike Ar116.2.1) Ar116.2.2 (own_in S116 (own_ix (j := (4 : Int32)) (i := 4) (n := 7) (by decide) (by decide) (by decide))) at116 (g := (mkF m 38 #[.val (.ref a), .val (.int (3 : Int32)), .val (.int p2), .val (.int v106), .val (.int (4 : Int32))] [(.int (4 : Int32)), (.ref tr), (.int (4 : Int32)), (.ref tr)])) rfl rfl (hb hby d2_38) _ k) ?_
    refine own_st (S' := T115.setTop (mkF m 40 #[.val (.ref a), .val (.int (3 : Int32)), .val (.int p2), .val (.int v106), .val (.int (4 : Int32))] [(.int v106), (.int t4), (.int (4 : Int32)), (.ref tr)])) (fun t k => XS.iloadN X115.here hx rfl (hb hby d2_39) rfl k) ?_
    refine own_st (S' := T115.setTop (mkF m 41 #[.val (.ref a), .val (.int (3 : Int32)), .val (.int p2), .val (.int v106), .val (.int (4 : Int32))] [(.int (t4 + v106)), (.int (4 : Int32)), (.ref tr)])) (fun t k => XS.iadd X115.here hx rfl (hb hby d2_40) rfl k) ?_
    obtain ⟨v117, qv117⟩ : ∃ z : Int32, z = (t4 + v106) := ⟨_, rfl⟩
    show own_Go p.tables e below _ (T115.setTop (mkF m 41 #[.val (.ref a), .val (.int (3 : Int32)), .val (.int p2), .val (.int v106), .val (.int (4 : Int32))] [(.int (t4 + v106)), (.int (4 : Int32)), (.ref tr)]))
    rw [← qv117]
    have O118 := f111
    obtain ⟨c118, Ar118, S118, M118, V118⟩ := O118
    obtain ⟨T118, h118, X118, e118, W118, st118⟩ := stI X115 hx hZ e115 Ar118 (j := (4 : Int32)) (own_in S118 (own_ix (j := (4 : Int32)) (i := 4) (n := 7) (by decide) (by decide) (by decide))) (g := (mkF m 41 #[.val (.ref a), .val (.int (3 : Int32)), .val (.int p2), .val (.int v106), .val (.int (4 : Int32))] [(.int v117), (.int (4 : Int32)), (.ref tr)])) rfl rfl (hb hby d2_41)
    refine own_st st118 ?_
    have f119 : Fld Z h118 a "kithrank/Weights" "weight" "[I" (.ref wt) := f109.other W118 (Or.inl ne_a_tr)
    have f120 : Fld Z h118 a "kithrank/Weights" "tree" "[I" (.ref tr) := f110.other W118 (Or.inl ne_a_tr)
    have f121 : own_A Z h118 wt .int 6 (own_V [(.int w0), (.int w1), (.int w2), (.int p2), (.int w4), (.int w5)]) := f112.other W118 ne_wt_tr
    have Z118 : n0 ≤ h118.size := Nat.le_trans Z108 (Keep.of_wr W118).1
    have N118 := Fr.snoc X118 N108 G_tr
    have K118 : Keep h0 h118 [wt, tr] := K108.wr W118 (Or.inl (List.mem_of_getElem? (i := 1) rfl))
    have f122 : own_A Z h118 tr .int 7 (own_V [(.int t0), (.int t1), (.int t2), (.int t3), (.int v117), (.int t5), (.int t6)]) := (own_A.set ⟨c118, Ar118, S118, M118, V118⟩ (own_ix (j := (4 : Int32)) (i := 4) (n := 7) (by decide) (by decide) (by decide)) W118).cong (fun j hj => by match j, hj with | 0, _ => rfl | 1, _ => rfl | 2, _ => rfl | 3, _ => rfl | 4, _ => rfl | 5, _ => rfl | 6, _ => rfl | j + 7, h => exact absurd h (by omega))
    show own_Go p.tables e below _ (T118.setTop (mkF m 42 #[.val (.ref a), .val (.int (3 : Int32)), .val (.int p2), .val (.int v106), .val (.int (4 : Int32))] []))
    refine own_st (S' := T118.setTop (mkF m 44 #[.val (.ref a), .val (.int (3 : Int32)), .val (.int p2), .val (.int v106), .val (.int (4 : Int32))] [(.int (4 : Int32))])) (fun t k => XS.iload X118.here hx rfl (hb hby d2_42) rfl k) ?_
    refine own_st (S' := T118.setTop (mkF m 46 #[.val (.ref a), .val (.int (3 : Int32)), .val (.int p2), .val (.int v106), .val (.int (4 : Int32))] [(.int (4 : Int32)), (.int (4 : Int32))])) (fun t k => XS.iload X118.here hx rfl (hb hby d2_44) rfl k) ?_
    refine own_st (S' := T118.setTop (mkF m 48 #[.val (.ref a), .val (.int (3 : Int32)), .val (.int p2), .val (.int v106), .val (.int (4 : Int32))] [(.int (4 : Int32)), (.int (4 : Int32)), (.int (4 : Int32))])) (fun t k => XS.iload X118.here hx rfl (hb hby d2_46) rfl k) ?_
    refine own_st (S' := T118.setTop (mkF m 49 #[.val (.ref a), .val (.int (3 : Int32)), .val (.int p2), .val (.int v106), .val (.int (4 : Int32))] [(.int (-4 : Int32)), (.int (4 : Int32)), (.int (4 : Int32))])) (fun t k => XS.ineg X118.here hx rfl (hb hby d2_48) rfl k) ?_
    refine own_st (S' := T118.setTop (mkF m 50 #[.val (.ref a), .val (.int (3 : Int32)), .val (.int p2), .val (.int v106), .val (.int (4 : Int32))] [(.int (4 : Int32)), (.int (4 : Int32))])) (fun t k => XS.iand X118.here hx rfl (hb hby d2_49) rfl k) ?_
    refine own_st (S' := T118.setTop (mkF m 51 #[.val (.ref a), .val (.int (3 : Int32)), .val (.int p2), .val (.int v106), .val (.int (4 : Int32))] [(.int (8 : Int32))])) (fun t k => XS.iadd X118.here hx rfl (hb hby d2_50) rfl k) ?_
    refine own_st (S' := T118.setTop (mkF m 53 #[.val (.ref a), .val (.int (3 : Int32)), .val (.int p2), .val (.int v106), .val (.int (8 : Int32))] [])) (fun t k => XS.istore X118.here hx rfl (hb hby d2_51) rfl (l' := #[.val (.ref a), .val (.int (3 : Int32)), .val (.int p2), .val (.int v106), .val (.int (8 : Int32))]) rfl k) ?_
    refine own_st (S' := T118.setTop (mkF m 21 #[.val (.ref a), .val (.int (3 : Int32)), .val (.int p2), .val (.int v106), .val (.int (8 : Int32))] [])) (fun t k => XS.goto X118.here hx rfl (pc0 := 53) (pc' := 21) rfl (hb hby d2_53) (by decide) (by decide) k) ?_
    refine own_st (S' := T118.setTop (mkF m 23 #[.val (.ref a), .val (.int (3 : Int32)), .val (.int p2), .val (.int v106), .val (.int (8 : Int32))] [(.int (8 : Int32))])) (fun t k => XS.iload X118.here hx rfl (hb hby d2_21) rfl k) ?_
    refine own_st (S' := T118.setTop (mkF m 24 #[.val (.ref a), .val (.int (3 : Int32)), .val (.int p2), .val (.int v106), .val (.int (8 : Int32))] [(.ref a), (.int (8 : Int32))])) (fun t k => XS.aloadN X118.here hx rfl (hb hby d2_23) rfl rfl k) ?_
    obtain ⟨T123, X123, e123, st123⟩ := getF X118 hx hZ hown (host := "") (Or.inl (hw _ (List.mem_of_getElem? (i := 22) rfl))) Via.refl e118 f120 (g := (mkF m 24 #[.val (.ref a), .val (.int (3 : Int32)), .val (.int p2), .val (.int v106), .val (.int (8 : Int32))] [(.ref a), (.int (8 : Int32))])) rfl rfl (hb hby d2_24)
    refine own_st st123 ?_
    show own_Go p.tables e below _ (T123.setTop (mkF m 27 #[.val (.ref a), .val (.int (3 : Int32)), .val (.int p2), .val (.int v106), .val (.int (8 : Int32))] [(.ref tr), (.int (8 : Int32))]))
    have O124 := f122
    obtain ⟨c124, Ar124, S124, M124, V124⟩ := O124
    have ln124 : c124.slots.size.toInt32 = (7 : Int32) := by rw [S124]; first | rfl | decide | exact rfl
    refine own_st (S' := T123.setTop (mkF m 28 #[.val (.ref a), .val (.int (3 : Int32)), .val (.int p2), .val (.int v106), .val (.int (8 : Int32))] [(.int (7 : Int32)), (.int (8 : Int32))])) (fun t k => X123.arraylength hx (by rw [e123]; exact Ar124.1) (State.isArrayOf_alike hZ.alike Ar124.2.1) (g := (mkF m 27 #[.val (.ref a), .val (.int (3 : Int32)), .val (.int p2), .val (.int v106), .val (.int (8 : Int32))] [(.ref tr), (.int (8 : Int32))])) rfl rfl (hb hby d2_27) _ (by rw [ln124]; exact k)) ?_
    refine own_st (S' := T123.setTop (mkF m 56 #[.val (.ref a), .val (.int (3 : Int32)), .val (.int p2), .val (.int v106), .val (.int (8 : Int32))] [])) (fun t k => XS.icmpYes X123.here hx rfl (pc0 := 28) (pc' := 56) rfl (hb hby d2_28) rfl (flt (by decide)).2.1 (by decide) (by decide) k) ?_
    show own_Go p.tables e below _ (T123.setTop (mkF m 56 #[.val (.ref a), .val (.int (3 : Int32)), .val (.int p2), .val (.int v106), .val (.int (8 : Int32))] []))
    refine own_retV X123 hx hret hlk (hb hby d2_56) ?_ (by decide) (by decide)
    rw [e123]
    subst qv106
    subst qv117
    exact ⟨rfl, N118, K118, (f121.cong (fun j hj => by match j, hj with | 0, _ => rfl | 1, _ => rfl | 2, _ => rfl | 3, _ => rfl | 4, _ => rfl | 5, _ => rfl | j + 6, h => exact absurd h (by omega))), (f122.cong (fun j hj => by match j, hj with | 0, _ => rfl | 1, _ => rfl | 2, _ => rfl | 3, _ => rfl | 4, _ => rfl | 5, _ => rfl | 6, _ => rfl | j + 7, h => exact absurd h (by omega)))⟩
  · show own_Go p.tables e below _ (s₁.setTop (mkF m 0 #[.val (.ref a), .val (.int (4 : Int32)), .val (.int p2), .unset, .unset] []))
    refine own_st (S' := s₁.setTop (mkF m 1 #[.val (.ref a), .val (.int (4 : Int32)), .val (.int p2), .unset, .unset] [(.int p2)])) (fun t k => XS.iloadN X0.here hx rfl (hb hby d2_0) rfl k) ?_
    refine own_st (S' := s₁.setTop (mkF m 2 #[.val (.ref a), .val (.int (4 : Int32)), .val (.int p2), .unset, .unset] [(.ref a), (.int p2)])) (fun t k => XS.aloadN X0.here hx rfl (hb hby d2_1) rfl rfl k) ?_
    obtain ⟨T125, X125, e125, st125⟩ := getF X0 hx hZ hown (host := "") (Or.inl (hw _ (List.mem_of_getElem? (i := 20) rfl))) Via.refl e0 F_a_weight (g := (mkF m 2 #[.val (.ref a), .val (.int (4 : Int32)), .val (.int p2), .unset, .unset] [(.ref a), (.int p2)])) rfl rfl (hb hby d2_2)
    refine own_st st125 ?_
    show own_Go p.tables e below _ (T125.setTop (mkF m 5 #[.val (.ref a), .val (.int (4 : Int32)), .val (.int p2), .unset, .unset] [(.ref wt), (.int p2)]))
    refine own_st (S' := T125.setTop (mkF m 6 #[.val (.ref a), .val (.int (4 : Int32)), .val (.int p2), .unset, .unset] [(.int (4 : Int32)), (.ref wt), (.int p2)])) (fun t k => XS.iloadN X125.here hx rfl (hb hby d2_5) rfl k) ?_
    have O126 := A_wt
    obtain ⟨c126, Ar126, S126, M126, V126⟩ := O126
    have at126 : c126.slots[((4 : Int32)).toNatClampNeg]? = some (.int w4) := own_at S126 V126 (own_ix (j := (4 : Int32)) (i := 4) (n := 6) (by decide) (by decide) (by decide)) rfl
    refine own_st (S' := T125.setTop (mkF m 7 #[.val (.ref a), .val (.int (4 : Int32)), .val (.int p2), .unset, .unset] [(.int w4), (.int p2)])) (fun t k => X125.iaload hx (j := (4 : Int32)) (v := (.int w4)) (by rw [e125]; exact Ar126.1) (State.isArrayOf_alike hZ.alike Ar126.2.1) Ar126.2.2 (own_in S126 (own_ix (j := (4 : Int32)) (i := 4) (n := 6) (by decide) (by decide) (by decide))) at126 (g := (mkF m 6 #[.val (.ref a), .val (.int (4 : Int32)), .val (.int p2), .unset, .unset] [(.int (4 : Int32)), (.ref wt), (.int p2)])) rfl rfl (hb hby d2_6) _ k) ?_
    refine own_st (S' := T125.setTop (mkF m 8 #[.val (.ref a), .val (.int (4 : Int32)), .val (.int p2), .unset, .unset] [(.int (p2 - w4))])) (fun t k => XS.isub X125.here hx rfl (hb hby d2_7) rfl k) ?_
    obtain ⟨v127, qv127⟩ : ∃ z : Int32, z = (p2 - w4) := ⟨_, rfl⟩
    show own_Go p.tables e below _ (T125.setTop (mkF m 8 #[.val (.ref a), .val (.int (4 : Int32)), .val (.int p2), .unset, .unset] [(.int (p2 - w4))]))
    rw [← qv127]
    refine own_st (S' := T125.setTop (mkF m 9 #[.val (.ref a), .val (.int (4 : Int32)), .val (.int p2), .val (.int v127), .unset] [])) (fun t k => XS.istoreN X125.here hx rfl (hb hby d2_8) rfl (l' := #[.val (.ref a), .val (.int (4 : Int32)), .val (.int p2), .val (.int v127), .unset]) rfl k) ?_
    refine own_st (S' := T125.setTop (mkF m 10 #[.val (.ref a), .val (.int (4 : Int32)), .val (.int p2), .val (.int v127), .unset] [(.ref a)])) (fun t k => XS.aloadN X125.here hx rfl (hb hby d2_9) rfl rfl k) ?_
    obtain ⟨T128, X128, e128, st128⟩ := getF X125 hx hZ hown (host := "") (Or.inl (hw _ (List.mem_of_getElem? (i := 20) rfl))) Via.refl e125 F_a_weight (g := (mkF m 10 #[.val (.ref a), .val (.int (4 : Int32)), .val (.int p2), .val (.int v127), .unset] [(.ref a)])) rfl rfl (hb hby d2_10)
    refine own_st st128 ?_
    show own_Go p.tables e below _ (T128.setTop (mkF m 13 #[.val (.ref a), .val (.int (4 : Int32)), .val (.int p2), .val (.int v127), .unset] [(.ref wt)]))
    refine own_st (S' := T128.setTop (mkF m 14 #[.val (.ref a), .val (.int (4 : Int32)), .val (.int p2), .val (.int v127), .unset] [(.int (4 : Int32)), (.ref wt)])) (fun t k => XS.iloadN X128.here hx rfl (hb hby d2_13) rfl k) ?_
    refine own_st (S' := T128.setTop (mkF m 15 #[.val (.ref a), .val (.int (4 : Int32)), .val (.int p2), .val (.int v127), .unset] [(.int p2), (.int (4 : Int32)), (.ref wt)])) (fun t k => XS.iloadN X128.here hx rfl (hb hby d2_14) rfl k) ?_
    have O129 := A_wt
    obtain ⟨c129, Ar129, S129, M129, V129⟩ := O129
    obtain ⟨T129, h129, X129, e129, W129, st129⟩ := stI X128 hx hZ e128 Ar129 (j := (4 : Int32)) (own_in S129 (own_ix (j := (4 : Int32)) (i := 4) (n := 6) (by decide) (by decide) (by decide))) (g := (mkF m 15 #[.val (.ref a), .val (.int (4 : Int32)), .val (.int p2), .val (.int v127), .unset] [(.int p2), (.int (4 : Int32)), (.ref wt)])) rfl rfl (hb hby d2_15)
    refine own_st st129 ?_
    have f130 : Fld Z h129 a "kithrank/Weights" "weight" "[I" (.ref wt) := F_a_weight.other W129 (Or.inl ne_a_wt)
    have f131 : Fld Z h129 a "kithrank/Weights" "tree" "[I" (.ref tr) := F_a_tree.other W129 (Or.inl ne_a_wt)
    have f132 : own_A Z h129 tr .int 7 (own_V [(.int t0), (.int t1), (.int t2), (.int t3), (.int t4), (.int t5), (.int t6)]) := A_tr.other W129 (Ne.symm ne_wt_tr)
    have Z129 : n0 ≤ h129.size := Nat.le_trans Z0 (Keep.of_wr W129).1
    have N129 := Fr.snoc X129 N0 G_wt
    have K129 : Keep h0 h129 [wt, tr] := K0.wr W129 (Or.inl (List.mem_of_getElem? (i := 0) rfl))
    have f133 : own_A Z h129 wt .int 6 (own_V [(.int w0), (.int w1), (.int w2), (.int w3), (.int p2), (.int w5)]) := (own_A.set ⟨c129, Ar129, S129, M129, V129⟩ (own_ix (j := (4 : Int32)) (i := 4) (n := 6) (by decide) (by decide) (by decide)) W129).cong (fun j hj => by match j, hj with | 0, _ => rfl | 1, _ => rfl | 2, _ => rfl | 3, _ => rfl | 4, _ => rfl | 5, _ => rfl | j + 6, h => exact absurd h (by omega))
    show own_Go p.tables e below _ (T129.setTop (mkF m 16 #[.val (.ref a), .val (.int (4 : Int32)), .val (.int p2), .val (.int v127), .unset] []))
    refine own_st (S' := T129.setTop (mkF m 17 #[.val (.ref a), .val (.int (4 : Int32)), .val (.int p2), .val (.int v127), .unset] [(.int (4 : Int32))])) (fun t k => XS.iloadN X129.here hx rfl (hb hby d2_16) rfl k) ?_
    refine own_st (S' := T129.setTop (mkF m 18 #[.val (.ref a), .val (.int (4 : Int32)), .val (.int p2), .val (.int v127), .unset] [(.int (1 : Int32)), (.int (4 : Int32))])) (fun t k => XS.iconst X129.here hx rfl (hb hby d2_17) k) ?_
    refine own_st (S' := T129.setTop (mkF m 19 #[.val (.ref a), .val (.int (4 : Int32)), .val (.int p2), .val (.int v127), .unset] [(.int (5 : Int32))])) (fun t k => XS.iadd X129.here hx rfl (hb hby d2_18) rfl k) ?_
    refine own_st (S' := T129.setTop (mkF m 21 #[.val (.ref a), .val (.int (4 : Int32)), .val (.int p2), .val (.int v127), .val (.int (5 : Int32))] [])) (fun t k => XS.istore X129.here hx rfl (hb hby d2_19) rfl (l' := #[.val (.ref a), .val (.int (4 : Int32)), .val (.int p2), .val (.int v127), .val (.int (5 : Int32))]) rfl k) ?_
    refine own_st (S' := T129.setTop (mkF m 23 #[.val (.ref a), .val (.int (4 : Int32)), .val (.int p2), .val (.int v127), .val (.int (5 : Int32))] [(.int (5 : Int32))])) (fun t k => XS.iload X129.here hx rfl (hb hby d2_21) rfl k) ?_
    refine own_st (S' := T129.setTop (mkF m 24 #[.val (.ref a), .val (.int (4 : Int32)), .val (.int p2), .val (.int v127), .val (.int (5 : Int32))] [(.ref a), (.int (5 : Int32))])) (fun t k => XS.aloadN X129.here hx rfl (hb hby d2_23) rfl rfl k) ?_
    obtain ⟨T134, X134, e134, st134⟩ := getF X129 hx hZ hown (host := "") (Or.inl (hw _ (List.mem_of_getElem? (i := 22) rfl))) Via.refl e129 f131 (g := (mkF m 24 #[.val (.ref a), .val (.int (4 : Int32)), .val (.int p2), .val (.int v127), .val (.int (5 : Int32))] [(.ref a), (.int (5 : Int32))])) rfl rfl (hb hby d2_24)
    refine own_st st134 ?_
    show own_Go p.tables e below _ (T134.setTop (mkF m 27 #[.val (.ref a), .val (.int (4 : Int32)), .val (.int p2), .val (.int v127), .val (.int (5 : Int32))] [(.ref tr), (.int (5 : Int32))]))
    have O135 := f132
    obtain ⟨c135, Ar135, S135, M135, V135⟩ := O135
    have ln135 : c135.slots.size.toInt32 = (7 : Int32) := by rw [S135]; first | rfl | decide | exact rfl
    refine own_st (S' := T134.setTop (mkF m 28 #[.val (.ref a), .val (.int (4 : Int32)), .val (.int p2), .val (.int v127), .val (.int (5 : Int32))] [(.int (7 : Int32)), (.int (5 : Int32))])) (fun t k => X134.arraylength hx (by rw [e134]; exact Ar135.1) (State.isArrayOf_alike hZ.alike Ar135.2.1) (g := (mkF m 27 #[.val (.ref a), .val (.int (4 : Int32)), .val (.int p2), .val (.int v127), .val (.int (5 : Int32))] [(.ref tr), (.int (5 : Int32))])) rfl rfl (hb hby d2_27) _ (by rw [ln135]; exact k)) ?_
    refine own_st (S' := T134.setTop (mkF m 31 #[.val (.ref a), .val (.int (4 : Int32)), .val (.int p2), .val (.int v127), .val (.int (5 : Int32))] [])) (fun t k => XS.icmpNo X134.here hx rfl (hb hby d2_28) rfl (tlt (by decide)).2.1 k) ?_
    show own_Go p.tables e below _ (T134.setTop (mkF m 31 #[.val (.ref a), .val (.int (4 : Int32)), .val (.int p2), .val (.int v127), .val (.int (5 : Int32))] []))
    refine own_st (S' := T134.setTop (mkF m 32 #[.val (.ref a), .val (.int (4 : Int32)), .val (.int p2), .val (.int v127), .val (.int (5 : Int32))] [(.ref a)])) (fun t k => XS.aloadN X134.here hx rfl (hb hby d2_31) rfl rfl k) ?_
    obtain ⟨T136, X136, e136, st136⟩ := getF X134 hx hZ hown (host := "") (Or.inl (hw _ (List.mem_of_getElem? (i := 22) rfl))) Via.refl e134 f131 (g := (mkF m 32 #[.val (.ref a), .val (.int (4 : Int32)), .val (.int p2), .val (.int v127), .val (.int (5 : Int32))] [(.ref a)])) rfl rfl (hb hby d2_32)
    refine own_st st136 ?_
    show own_Go p.tables e below _ (T136.setTop (mkF m 35 #[.val (.ref a), .val (.int (4 : Int32)), .val (.int p2), .val (.int v127), .val (.int (5 : Int32))] [(.ref tr)]))
    refine own_st (S' := T136.setTop (mkF m 37 #[.val (.ref a), .val (.int (4 : Int32)), .val (.int p2), .val (.int v127), .val (.int (5 : Int32))] [(.int (5 : Int32)), (.ref tr)])) (fun t k => XS.iload X136.here hx rfl (hb hby d2_35) rfl k) ?_
    refine own_st (S' := T136.setTop (mkF m 38 #[.val (.ref a), .val (.int (4 : Int32)), .val (.int p2), .val (.int v127), .val (.int (5 : Int32))] [(.int (5 : Int32)), (.ref tr), (.int (5 : Int32)), (.ref tr)])) (fun t k => Jvm.Free.XT.dup2 X136.here hx rfl (hb hby d2_37) rfl rfl rfl k) ?_
    have O137 := f132
    obtain ⟨c137, Ar137, S137, M137, V137⟩ := O137
    have at137 : c137.slots[((5 : Int32)).toNatClampNeg]? = some (.int t5) := own_at S137 V137 (own_ix (j := (5 : Int32)) (i := 5) (n := 7) (by decide) (by decide) (by decide)) rfl
    refine own_st (S' := T136.setTop (mkF m 39 #[.val (.ref a), .val (.int (4 : Int32)), .val (.int p2), .val (.int v127), .val (.int (5 : Int32))] [(.int t5), (.int (5 : Int32)), (.ref tr)])) (fun t k => X136.iaload hx (j := (5 : Int32)) (v := (.int t5)) (by rw [e136]; exact Ar137.1) (State.isArrayOf_alike hZ.alike Ar137.2.1) Ar137.2.2 (own_in S137 (own_ix (j := (5 : Int32)) (i := 5) (n := 7) (by decide) (by decide) (by decide))) at137 (g := (mkF m 38 #[.val (.ref a), .val (.int (4 : Int32)), .val (.int p2), .val (.int v127), .val (.int (5 : Int32))] [(.int (5 : Int32)), (.ref tr), (.int (5 : Int32)), (.ref tr)])) rfl rfl (hb hby d2_38) _ k) ?_
    refine own_st (S' := T136.setTop (mkF m 40 #[.val (.ref a), .val (.int (4 : Int32)), .val (.int p2), .val (.int v127), .val (.int (5 : Int32))] [(.int v127), (.int t5), (.int (5 : Int32)), (.ref tr)])) (fun t k => XS.iloadN X136.here hx rfl (hb hby d2_39) rfl k) ?_
    refine own_st (S' := T136.setTop (mkF m 41 #[.val (.ref a), .val (.int (4 : Int32)), .val (.int p2), .val (.int v127), .val (.int (5 : Int32))] [(.int (t5 + v127)), (.int (5 : Int32)), (.ref tr)])) (fun t k => XS.iadd X136.here hx rfl (hb hby d2_40) rfl k) ?_
    obtain ⟨v138, qv138⟩ : ∃ z : Int32, z = (t5 + v127) := ⟨_, rfl⟩
    show own_Go p.tables e below _ (T136.setTop (mkF m 41 #[.val (.ref a), .val (.int (4 : Int32)), .val (.int p2), .val (.int v127), .val (.int (5 : Int32))] [(.int (t5 + v127)), (.int (5 : Int32)), (.ref tr)]))
    rw [← qv138]
    have O139 := f132
    obtain ⟨c139, Ar139, S139, M139, V139⟩ := O139
    obtain ⟨T139, h139, X139, e139, W139, st139⟩ := stI X136 hx hZ e136 Ar139 (j := (5 : Int32)) (own_in S139 (own_ix (j := (5 : Int32)) (i := 5) (n := 7) (by decide) (by decide) (by decide))) (g := (mkF m 41 #[.val (.ref a), .val (.int (4 : Int32)), .val (.int p2), .val (.int v127), .val (.int (5 : Int32))] [(.int v138), (.int (5 : Int32)), (.ref tr)])) rfl rfl (hb hby d2_41)
    refine own_st st139 ?_
    have f140 : Fld Z h139 a "kithrank/Weights" "weight" "[I" (.ref wt) := f130.other W139 (Or.inl ne_a_tr)
    have f141 : Fld Z h139 a "kithrank/Weights" "tree" "[I" (.ref tr) := f131.other W139 (Or.inl ne_a_tr)
    have f142 : own_A Z h139 wt .int 6 (own_V [(.int w0), (.int w1), (.int w2), (.int w3), (.int p2), (.int w5)]) := f133.other W139 ne_wt_tr
    have Z139 : n0 ≤ h139.size := Nat.le_trans Z129 (Keep.of_wr W139).1
    have N139 := Fr.snoc X139 N129 G_tr
    have K139 : Keep h0 h139 [wt, tr] := K129.wr W139 (Or.inl (List.mem_of_getElem? (i := 1) rfl))
    have f143 : own_A Z h139 tr .int 7 (own_V [(.int t0), (.int t1), (.int t2), (.int t3), (.int t4), (.int v138), (.int t6)]) := (own_A.set ⟨c139, Ar139, S139, M139, V139⟩ (own_ix (j := (5 : Int32)) (i := 5) (n := 7) (by decide) (by decide) (by decide)) W139).cong (fun j hj => by match j, hj with | 0, _ => rfl | 1, _ => rfl | 2, _ => rfl | 3, _ => rfl | 4, _ => rfl | 5, _ => rfl | 6, _ => rfl | j + 7, h => exact absurd h (by omega))
    show own_Go p.tables e below _ (T139.setTop (mkF m 42 #[.val (.ref a), .val (.int (4 : Int32)), .val (.int p2), .val (.int v127), .val (.int (5 : Int32))] []))
    refine own_st (S' := T139.setTop (mkF m 44 #[.val (.ref a), .val (.int (4 : Int32)), .val (.int p2), .val (.int v127), .val (.int (5 : Int32))] [(.int (5 : Int32))])) (fun t k => XS.iload X139.here hx rfl (hb hby d2_42) rfl k) ?_
    refine own_st (S' := T139.setTop (mkF m 46 #[.val (.ref a), .val (.int (4 : Int32)), .val (.int p2), .val (.int v127), .val (.int (5 : Int32))] [(.int (5 : Int32)), (.int (5 : Int32))])) (fun t k => XS.iload X139.here hx rfl (hb hby d2_44) rfl k) ?_
    refine own_st (S' := T139.setTop (mkF m 48 #[.val (.ref a), .val (.int (4 : Int32)), .val (.int p2), .val (.int v127), .val (.int (5 : Int32))] [(.int (5 : Int32)), (.int (5 : Int32)), (.int (5 : Int32))])) (fun t k => XS.iload X139.here hx rfl (hb hby d2_46) rfl k) ?_
    refine own_st (S' := T139.setTop (mkF m 49 #[.val (.ref a), .val (.int (4 : Int32)), .val (.int p2), .val (.int v127), .val (.int (5 : Int32))] [(.int (-5 : Int32)), (.int (5 : Int32)), (.int (5 : Int32))])) (fun t k => XS.ineg X139.here hx rfl (hb hby d2_48) rfl k) ?_
    refine own_st (S' := T139.setTop (mkF m 50 #[.val (.ref a), .val (.int (4 : Int32)), .val (.int p2), .val (.int v127), .val (.int (5 : Int32))] [(.int (1 : Int32)), (.int (5 : Int32))])) (fun t k => XS.iand X139.here hx rfl (hb hby d2_49) rfl k) ?_
    refine own_st (S' := T139.setTop (mkF m 51 #[.val (.ref a), .val (.int (4 : Int32)), .val (.int p2), .val (.int v127), .val (.int (5 : Int32))] [(.int (6 : Int32))])) (fun t k => XS.iadd X139.here hx rfl (hb hby d2_50) rfl k) ?_
    refine own_st (S' := T139.setTop (mkF m 53 #[.val (.ref a), .val (.int (4 : Int32)), .val (.int p2), .val (.int v127), .val (.int (6 : Int32))] [])) (fun t k => XS.istore X139.here hx rfl (hb hby d2_51) rfl (l' := #[.val (.ref a), .val (.int (4 : Int32)), .val (.int p2), .val (.int v127), .val (.int (6 : Int32))]) rfl k) ?_
    refine own_st (S' := T139.setTop (mkF m 21 #[.val (.ref a), .val (.int (4 : Int32)), .val (.int p2), .val (.int v127), .val (.int (6 : Int32))] [])) (fun t k => XS.goto X139.here hx rfl (pc0 := 53) (pc' := 21) rfl (hb hby d2_53) (by decide) (by decide) k) ?_
    refine own_st (S' := T139.setTop (mkF m 23 #[.val (.ref a), .val (.int (4 : Int32)), .val (.int p2), .val (.int v127), .val (.int (6 : Int32))] [(.int (6 : Int32))])) (fun t k => XS.iload X139.here hx rfl (hb hby d2_21) rfl k) ?_
    refine own_st (S' := T139.setTop (mkF m 24 #[.val (.ref a), .val (.int (4 : Int32)), .val (.int p2), .val (.int v127), .val (.int (6 : Int32))] [(.ref a), (.int (6 : Int32))])) (fun t k => XS.aloadN X139.here hx rfl (hb hby d2_23) rfl rfl k) ?_
    obtain ⟨T144, X144, e144, st144⟩ := getF X139 hx hZ hown (host := "") (Or.inl (hw _ (List.mem_of_getElem? (i := 22) rfl))) Via.refl e139 f141 (g := (mkF m 24 #[.val (.ref a), .val (.int (4 : Int32)), .val (.int p2), .val (.int v127), .val (.int (6 : Int32))] [(.ref a), (.int (6 : Int32))])) rfl rfl (hb hby d2_24)
    refine own_st st144 ?_
    show own_Go p.tables e below _ (T144.setTop (mkF m 27 #[.val (.ref a), .val (.int (4 : Int32)), .val (.int p2), .val (.int v127), .val (.int (6 : Int32))] [(.ref tr), (.int (6 : Int32))]))
    have O145 := f143
    obtain ⟨c145, Ar145, S145, M145, V145⟩ := O145
    have ln145 : c145.slots.size.toInt32 = (7 : Int32) := by rw [S145]; first | rfl | decide | exact rfl
    refine own_st (S' := T144.setTop (mkF m 28 #[.val (.ref a), .val (.int (4 : Int32)), .val (.int p2), .val (.int v127), .val (.int (6 : Int32))] [(.int (7 : Int32)), (.int (6 : Int32))])) (fun t k => X144.arraylength hx (by rw [e144]; exact Ar145.1) (State.isArrayOf_alike hZ.alike Ar145.2.1) (g := (mkF m 27 #[.val (.ref a), .val (.int (4 : Int32)), .val (.int p2), .val (.int v127), .val (.int (6 : Int32))] [(.ref tr), (.int (6 : Int32))])) rfl rfl (hb hby d2_27) _ (by rw [ln145]; exact k)) ?_
    refine own_st (S' := T144.setTop (mkF m 31 #[.val (.ref a), .val (.int (4 : Int32)), .val (.int p2), .val (.int v127), .val (.int (6 : Int32))] [])) (fun t k => XS.icmpNo X144.here hx rfl (hb hby d2_28) rfl (tlt (by decide)).2.1 k) ?_
    show own_Go p.tables e below _ (T144.setTop (mkF m 31 #[.val (.ref a), .val (.int (4 : Int32)), .val (.int p2), .val (.int v127), .val (.int (6 : Int32))] []))
    refine own_st (S' := T144.setTop (mkF m 32 #[.val (.ref a), .val (.int (4 : Int32)), .val (.int p2), .val (.int v127), .val (.int (6 : Int32))] [(.ref a)])) (fun t k => XS.aloadN X144.here hx rfl (hb hby d2_31) rfl rfl k) ?_
    obtain ⟨T146, X146, e146, st146⟩ := getF X144 hx hZ hown (host := "") (Or.inl (hw _ (List.mem_of_getElem? (i := 22) rfl))) Via.refl e144 f141 (g := (mkF m 32 #[.val (.ref a), .val (.int (4 : Int32)), .val (.int p2), .val (.int v127), .val (.int (6 : Int32))] [(.ref a)])) rfl rfl (hb hby d2_32)
    refine own_st st146 ?_
    show own_Go p.tables e below _ (T146.setTop (mkF m 35 #[.val (.ref a), .val (.int (4 : Int32)), .val (.int p2), .val (.int v127), .val (.int (6 : Int32))] [(.ref tr)]))
    refine own_st (S' := T146.setTop (mkF m 37 #[.val (.ref a), .val (.int (4 : Int32)), .val (.int p2), .val (.int v127), .val (.int (6 : Int32))] [(.int (6 : Int32)), (.ref tr)])) (fun t k => XS.iload X146.here hx rfl (hb hby d2_35) rfl k) ?_
    refine own_st (S' := T146.setTop (mkF m 38 #[.val (.ref a), .val (.int (4 : Int32)), .val (.int p2), .val (.int v127), .val (.int (6 : Int32))] [(.int (6 : Int32)), (.ref tr), (.int (6 : Int32)), (.ref tr)])) (fun t k => Jvm.Free.XT.dup2 X146.here hx rfl (hb hby d2_37) rfl rfl rfl k) ?_
    have O147 := f143
    obtain ⟨c147, Ar147, S147, M147, V147⟩ := O147
    have at147 : c147.slots[((6 : Int32)).toNatClampNeg]? = some (.int t6) := own_at S147 V147 (own_ix (j := (6 : Int32)) (i := 6) (n := 7) (by decide) (by decide) (by decide)) rfl
    refine own_st (S' := T146.setTop (mkF m 39 #[.val (.ref a), .val (.int (4 : Int32)), .val (.int p2), .val (.int v127), .val (.int (6 : Int32))] [(.int t6), (.int (6 : Int32)), (.ref tr)])) (fun t k => X146.iaload hx (j := (6 : Int32)) (v := (.int t6)) (by rw [e146]; exact Ar147.1) (State.isArrayOf_alike hZ.alike Ar147.2.1) Ar147.2.2 (own_in S147 (own_ix (j := (6 : Int32)) (i := 6) (n := 7) (by decide) (by decide) (by decide))) at147 (g := (mkF m 38 #[.val (.ref a), .val (.int (4 : Int32)), .val (.int p2), .val (.int v127), .val (.int (6 : Int32))] [(.int (6 : Int32)), (.ref tr), (.int (6 : Int32)), (.ref tr)])) rfl rfl (hb hby d2_38) _ k) ?_
    refine own_st (S' := T146.setTop (mkF m 40 #[.val (.ref a), .val (.int (4 : Int32)), .val (.int p2), .val (.int v127), .val (.int (6 : Int32))] [(.int v127), (.int t6), (.int (6 : Int32)), (.ref tr)])) (fun t k => XS.iloadN X146.here hx rfl (hb hby d2_39) rfl k) ?_
    refine own_st (S' := T146.setTop (mkF m 41 #[.val (.ref a), .val (.int (4 : Int32)), .val (.int p2), .val (.int v127), .val (.int (6 : Int32))] [(.int (t6 + v127)), (.int (6 : Int32)), (.ref tr)])) (fun t k => XS.iadd X146.here hx rfl (hb hby d2_40) rfl k) ?_
    obtain ⟨v148, qv148⟩ : ∃ z : Int32, z = (t6 + v127) := ⟨_, rfl⟩
    show own_Go p.tables e below _ (T146.setTop (mkF m 41 #[.val (.ref a), .val (.int (4 : Int32)), .val (.int p2), .val (.int v127), .val (.int (6 : Int32))] [(.int (t6 + v127)), (.int (6 : Int32)), (.ref tr)]))
    rw [← qv148]
    have O149 := f143
    obtain ⟨c149, Ar149, S149, M149, V149⟩ := O149
    obtain ⟨T149, h149, X149, e149, W149, st149⟩ := stI X146 hx hZ e146 Ar149 (j := (6 : Int32)) (own_in S149 (own_ix (j := (6 : Int32)) (i := 6) (n := 7) (by decide) (by decide) (by decide))) (g := (mkF m 41 #[.val (.ref a), .val (.int (4 : Int32)), .val (.int p2), .val (.int v127), .val (.int (6 : Int32))] [(.int v148), (.int (6 : Int32)), (.ref tr)])) rfl rfl (hb hby d2_41)
    refine own_st st149 ?_
    have f150 : Fld Z h149 a "kithrank/Weights" "weight" "[I" (.ref wt) := f140.other W149 (Or.inl ne_a_tr)
    have f151 : Fld Z h149 a "kithrank/Weights" "tree" "[I" (.ref tr) := f141.other W149 (Or.inl ne_a_tr)
    have f152 : own_A Z h149 wt .int 6 (own_V [(.int w0), (.int w1), (.int w2), (.int w3), (.int p2), (.int w5)]) := f142.other W149 ne_wt_tr
    have Z149 : n0 ≤ h149.size := Nat.le_trans Z139 (Keep.of_wr W149).1
    have N149 := Fr.snoc X149 N139 G_tr
    have K149 : Keep h0 h149 [wt, tr] := K139.wr W149 (Or.inl (List.mem_of_getElem? (i := 1) rfl))
    have f153 : own_A Z h149 tr .int 7 (own_V [(.int t0), (.int t1), (.int t2), (.int t3), (.int t4), (.int v138), (.int v148)]) := (own_A.set ⟨c149, Ar149, S149, M149, V149⟩ (own_ix (j := (6 : Int32)) (i := 6) (n := 7) (by decide) (by decide) (by decide)) W149).cong (fun j hj => by match j, hj with | 0, _ => rfl | 1, _ => rfl | 2, _ => rfl | 3, _ => rfl | 4, _ => rfl | 5, _ => rfl | 6, _ => rfl | j + 7, h => exact absurd h (by omega))
    show own_Go p.tables e below _ (T149.setTop (mkF m 42 #[.val (.ref a), .val (.int (4 : Int32)), .val (.int p2), .val (.int v127), .val (.int (6 : Int32))] []))
    refine own_st (S' := T149.setTop (mkF m 44 #[.val (.ref a), .val (.int (4 : Int32)), .val (.int p2), .val (.int v127), .val (.int (6 : Int32))] [(.int (6 : Int32))])) (fun t k => XS.iload X149.here hx rfl (hb hby d2_42) rfl k) ?_
    refine own_st (S' := T149.setTop (mkF m 46 #[.val (.ref a), .val (.int (4 : Int32)), .val (.int p2), .val (.int v127), .val (.int (6 : Int32))] [(.int (6 : Int32)), (.int (6 : Int32))])) (fun t k => XS.iload X149.here hx rfl (hb hby d2_44) rfl k) ?_
    refine own_st (S' := T149.setTop (mkF m 48 #[.val (.ref a), .val (.int (4 : Int32)), .val (.int p2), .val (.int v127), .val (.int (6 : Int32))] [(.int (6 : Int32)), (.int (6 : Int32)), (.int (6 : Int32))])) (fun t k => XS.iload X149.here hx rfl (hb hby d2_46) rfl k) ?_
    refine own_st (S' := T149.setTop (mkF m 49 #[.val (.ref a), .val (.int (4 : Int32)), .val (.int p2), .val (.int v127), .val (.int (6 : Int32))] [(.int (-6 : Int32)), (.int (6 : Int32)), (.int (6 : Int32))])) (fun t k => XS.ineg X149.here hx rfl (hb hby d2_48) rfl k) ?_
    refine own_st (S' := T149.setTop (mkF m 50 #[.val (.ref a), .val (.int (4 : Int32)), .val (.int p2), .val (.int v127), .val (.int (6 : Int32))] [(.int (2 : Int32)), (.int (6 : Int32))])) (fun t k => XS.iand X149.here hx rfl (hb hby d2_49) rfl k) ?_
    refine own_st (S' := T149.setTop (mkF m 51 #[.val (.ref a), .val (.int (4 : Int32)), .val (.int p2), .val (.int v127), .val (.int (6 : Int32))] [(.int (8 : Int32))])) (fun t k => XS.iadd X149.here hx rfl (hb hby d2_50) rfl k) ?_
    refine own_st (S' := T149.setTop (mkF m 53 #[.val (.ref a), .val (.int (4 : Int32)), .val (.int p2), .val (.int v127), .val (.int (8 : Int32))] [])) (fun t k => XS.istore X149.here hx rfl (hb hby d2_51) rfl (l' := #[.val (.ref a), .val (.int (4 : Int32)), .val (.int p2), .val (.int v127), .val (.int (8 : Int32))]) rfl k) ?_
    refine own_st (S' := T149.setTop (mkF m 21 #[.val (.ref a), .val (.int (4 : Int32)), .val (.int p2), .val (.int v127), .val (.int (8 : Int32))] [])) (fun t k => XS.goto X149.here hx rfl (pc0 := 53) (pc' := 21) rfl (hb hby d2_53) (by decide) (by decide) k) ?_
    refine own_st (S' := T149.setTop (mkF m 23 #[.val (.ref a), .val (.int (4 : Int32)), .val (.int p2), .val (.int v127), .val (.int (8 : Int32))] [(.int (8 : Int32))])) (fun t k => XS.iload X149.here hx rfl (hb hby d2_21) rfl k) ?_
    refine own_st (S' := T149.setTop (mkF m 24 #[.val (.ref a), .val (.int (4 : Int32)), .val (.int p2), .val (.int v127), .val (.int (8 : Int32))] [(.ref a), (.int (8 : Int32))])) (fun t k => XS.aloadN X149.here hx rfl (hb hby d2_23) rfl rfl k) ?_
    obtain ⟨T154, X154, e154, st154⟩ := getF X149 hx hZ hown (host := "") (Or.inl (hw _ (List.mem_of_getElem? (i := 22) rfl))) Via.refl e149 f151 (g := (mkF m 24 #[.val (.ref a), .val (.int (4 : Int32)), .val (.int p2), .val (.int v127), .val (.int (8 : Int32))] [(.ref a), (.int (8 : Int32))])) rfl rfl (hb hby d2_24)
    refine own_st st154 ?_
    show own_Go p.tables e below _ (T154.setTop (mkF m 27 #[.val (.ref a), .val (.int (4 : Int32)), .val (.int p2), .val (.int v127), .val (.int (8 : Int32))] [(.ref tr), (.int (8 : Int32))]))
    have O155 := f153
    obtain ⟨c155, Ar155, S155, M155, V155⟩ := O155
    have ln155 : c155.slots.size.toInt32 = (7 : Int32) := by rw [S155]; first | rfl | decide | exact rfl
    refine own_st (S' := T154.setTop (mkF m 28 #[.val (.ref a), .val (.int (4 : Int32)), .val (.int p2), .val (.int v127), .val (.int (8 : Int32))] [(.int (7 : Int32)), (.int (8 : Int32))])) (fun t k => X154.arraylength hx (by rw [e154]; exact Ar155.1) (State.isArrayOf_alike hZ.alike Ar155.2.1) (g := (mkF m 27 #[.val (.ref a), .val (.int (4 : Int32)), .val (.int p2), .val (.int v127), .val (.int (8 : Int32))] [(.ref tr), (.int (8 : Int32))])) rfl rfl (hb hby d2_27) _ (by rw [ln155]; exact k)) ?_
    refine own_st (S' := T154.setTop (mkF m 56 #[.val (.ref a), .val (.int (4 : Int32)), .val (.int p2), .val (.int v127), .val (.int (8 : Int32))] [])) (fun t k => XS.icmpYes X154.here hx rfl (pc0 := 28) (pc' := 56) rfl (hb hby d2_28) rfl (flt (by decide)).2.1 (by decide) (by decide) k) ?_
    show own_Go p.tables e below _ (T154.setTop (mkF m 56 #[.val (.ref a), .val (.int (4 : Int32)), .val (.int p2), .val (.int v127), .val (.int (8 : Int32))] []))
    refine own_retV X154 hx hret hlk (hb hby d2_56) ?_ (by decide) (by decide)
    rw [e154]
    subst qv127
    subst qv138
    subst qv148
    exact ⟨rfl, N149, K149, (f152.cong (fun j hj => by match j, hj with | 0, _ => rfl | 1, _ => rfl | 2, _ => rfl | 3, _ => rfl | 4, _ => rfl | 5, _ => rfl | j + 6, h => exact absurd h (by omega))), (f153.cong (fun j hj => by match j, hj with | 0, _ => rfl | 1, _ => rfl | 2, _ => rfl | 3, _ => rfl | 4, _ => rfl | 5, _ => rfl | 6, _ => rfl | j + 7, h => exact absurd h (by omega)))⟩
  · show own_Go p.tables e below _ (s₁.setTop (mkF m 0 #[.val (.ref a), .val (.int (5 : Int32)), .val (.int p2), .unset, .unset] []))
    refine own_st (S' := s₁.setTop (mkF m 1 #[.val (.ref a), .val (.int (5 : Int32)), .val (.int p2), .unset, .unset] [(.int p2)])) (fun t k => XS.iloadN X0.here hx rfl (hb hby d2_0) rfl k) ?_
    refine own_st (S' := s₁.setTop (mkF m 2 #[.val (.ref a), .val (.int (5 : Int32)), .val (.int p2), .unset, .unset] [(.ref a), (.int p2)])) (fun t k => XS.aloadN X0.here hx rfl (hb hby d2_1) rfl rfl k) ?_
    obtain ⟨T156, X156, e156, st156⟩ := getF X0 hx hZ hown (host := "") (Or.inl (hw _ (List.mem_of_getElem? (i := 20) rfl))) Via.refl e0 F_a_weight (g := (mkF m 2 #[.val (.ref a), .val (.int (5 : Int32)), .val (.int p2), .unset, .unset] [(.ref a), (.int p2)])) rfl rfl (hb hby d2_2)
    refine own_st st156 ?_
    show own_Go p.tables e below _ (T156.setTop (mkF m 5 #[.val (.ref a), .val (.int (5 : Int32)), .val (.int p2), .unset, .unset] [(.ref wt), (.int p2)]))
    refine own_st (S' := T156.setTop (mkF m 6 #[.val (.ref a), .val (.int (5 : Int32)), .val (.int p2), .unset, .unset] [(.int (5 : Int32)), (.ref wt), (.int p2)])) (fun t k => XS.iloadN X156.here hx rfl (hb hby d2_5) rfl k) ?_
    have O157 := A_wt
    obtain ⟨c157, Ar157, S157, M157, V157⟩ := O157
    have at157 : c157.slots[((5 : Int32)).toNatClampNeg]? = some (.int w5) := own_at S157 V157 (own_ix (j := (5 : Int32)) (i := 5) (n := 6) (by decide) (by decide) (by decide)) rfl
    refine own_st (S' := T156.setTop (mkF m 7 #[.val (.ref a), .val (.int (5 : Int32)), .val (.int p2), .unset, .unset] [(.int w5), (.int p2)])) (fun t k => X156.iaload hx (j := (5 : Int32)) (v := (.int w5)) (by rw [e156]; exact Ar157.1) (State.isArrayOf_alike hZ.alike Ar157.2.1) Ar157.2.2 (own_in S157 (own_ix (j := (5 : Int32)) (i := 5) (n := 6) (by decide) (by decide) (by decide))) at157 (g := (mkF m 6 #[.val (.ref a), .val (.int (5 : Int32)), .val (.int p2), .unset, .unset] [(.int (5 : Int32)), (.ref wt), (.int p2)])) rfl rfl (hb hby d2_6) _ k) ?_
    refine own_st (S' := T156.setTop (mkF m 8 #[.val (.ref a), .val (.int (5 : Int32)), .val (.int p2), .unset, .unset] [(.int (p2 - w5))])) (fun t k => XS.isub X156.here hx rfl (hb hby d2_7) rfl k) ?_
    obtain ⟨v158, qv158⟩ : ∃ z : Int32, z = (p2 - w5) := ⟨_, rfl⟩
    show own_Go p.tables e below _ (T156.setTop (mkF m 8 #[.val (.ref a), .val (.int (5 : Int32)), .val (.int p2), .unset, .unset] [(.int (p2 - w5))]))
    rw [← qv158]
    refine own_st (S' := T156.setTop (mkF m 9 #[.val (.ref a), .val (.int (5 : Int32)), .val (.int p2), .val (.int v158), .unset] [])) (fun t k => XS.istoreN X156.here hx rfl (hb hby d2_8) rfl (l' := #[.val (.ref a), .val (.int (5 : Int32)), .val (.int p2), .val (.int v158), .unset]) rfl k) ?_
    refine own_st (S' := T156.setTop (mkF m 10 #[.val (.ref a), .val (.int (5 : Int32)), .val (.int p2), .val (.int v158), .unset] [(.ref a)])) (fun t k => XS.aloadN X156.here hx rfl (hb hby d2_9) rfl rfl k) ?_
    obtain ⟨T159, X159, e159, st159⟩ := getF X156 hx hZ hown (host := "") (Or.inl (hw _ (List.mem_of_getElem? (i := 20) rfl))) Via.refl e156 F_a_weight (g := (mkF m 10 #[.val (.ref a), .val (.int (5 : Int32)), .val (.int p2), .val (.int v158), .unset] [(.ref a)])) rfl rfl (hb hby d2_10)
    refine own_st st159 ?_
    show own_Go p.tables e below _ (T159.setTop (mkF m 13 #[.val (.ref a), .val (.int (5 : Int32)), .val (.int p2), .val (.int v158), .unset] [(.ref wt)]))
    refine own_st (S' := T159.setTop (mkF m 14 #[.val (.ref a), .val (.int (5 : Int32)), .val (.int p2), .val (.int v158), .unset] [(.int (5 : Int32)), (.ref wt)])) (fun t k => XS.iloadN X159.here hx rfl (hb hby d2_13) rfl k) ?_
    refine own_st (S' := T159.setTop (mkF m 15 #[.val (.ref a), .val (.int (5 : Int32)), .val (.int p2), .val (.int v158), .unset] [(.int p2), (.int (5 : Int32)), (.ref wt)])) (fun t k => XS.iloadN X159.here hx rfl (hb hby d2_14) rfl k) ?_
    have O160 := A_wt
    obtain ⟨c160, Ar160, S160, M160, V160⟩ := O160
    obtain ⟨T160, h160, X160, e160, W160, st160⟩ := stI X159 hx hZ e159 Ar160 (j := (5 : Int32)) (own_in S160 (own_ix (j := (5 : Int32)) (i := 5) (n := 6) (by decide) (by decide) (by decide))) (g := (mkF m 15 #[.val (.ref a), .val (.int (5 : Int32)), .val (.int p2), .val (.int v158), .unset] [(.int p2), (.int (5 : Int32)), (.ref wt)])) rfl rfl (hb hby d2_15)
    refine own_st st160 ?_
    have f161 : Fld Z h160 a "kithrank/Weights" "weight" "[I" (.ref wt) := F_a_weight.other W160 (Or.inl ne_a_wt)
    have f162 : Fld Z h160 a "kithrank/Weights" "tree" "[I" (.ref tr) := F_a_tree.other W160 (Or.inl ne_a_wt)
    have f163 : own_A Z h160 tr .int 7 (own_V [(.int t0), (.int t1), (.int t2), (.int t3), (.int t4), (.int t5), (.int t6)]) := A_tr.other W160 (Ne.symm ne_wt_tr)
    have Z160 : n0 ≤ h160.size := Nat.le_trans Z0 (Keep.of_wr W160).1
    have N160 := Fr.snoc X160 N0 G_wt
    have K160 : Keep h0 h160 [wt, tr] := K0.wr W160 (Or.inl (List.mem_of_getElem? (i := 0) rfl))
    have f164 : own_A Z h160 wt .int 6 (own_V [(.int w0), (.int w1), (.int w2), (.int w3), (.int w4), (.int p2)]) := (own_A.set ⟨c160, Ar160, S160, M160, V160⟩ (own_ix (j := (5 : Int32)) (i := 5) (n := 6) (by decide) (by decide) (by decide)) W160).cong (fun j hj => by match j, hj with | 0, _ => rfl | 1, _ => rfl | 2, _ => rfl | 3, _ => rfl | 4, _ => rfl | 5, _ => rfl | j + 6, h => exact absurd h (by omega))
    show own_Go p.tables e below _ (T160.setTop (mkF m 16 #[.val (.ref a), .val (.int (5 : Int32)), .val (.int p2), .val (.int v158), .unset] []))
    refine own_st (S' := T160.setTop (mkF m 17 #[.val (.ref a), .val (.int (5 : Int32)), .val (.int p2), .val (.int v158), .unset] [(.int (5 : Int32))])) (fun t k => XS.iloadN X160.here hx rfl (hb hby d2_16) rfl k) ?_
    refine own_st (S' := T160.setTop (mkF m 18 #[.val (.ref a), .val (.int (5 : Int32)), .val (.int p2), .val (.int v158), .unset] [(.int (1 : Int32)), (.int (5 : Int32))])) (fun t k => XS.iconst X160.here hx rfl (hb hby d2_17) k) ?_
    refine own_st (S' := T160.setTop (mkF m 19 #[.val (.ref a), .val (.int (5 : Int32)), .val (.int p2), .val (.int v158), .unset] [(.int (6 : Int32))])) (fun t k => XS.iadd X160.here hx rfl (hb hby d2_18) rfl k) ?_
    refine own_st (S' := T160.setTop (mkF m 21 #[.val (.ref a), .val (.int (5 : Int32)), .val (.int p2), .val (.int v158), .val (.int (6 : Int32))] [])) (fun t k => XS.istore X160.here hx rfl (hb hby d2_19) rfl (l' := #[.val (.ref a), .val (.int (5 : Int32)), .val (.int p2), .val (.int v158), .val (.int (6 : Int32))]) rfl k) ?_
    refine own_st (S' := T160.setTop (mkF m 23 #[.val (.ref a), .val (.int (5 : Int32)), .val (.int p2), .val (.int v158), .val (.int (6 : Int32))] [(.int (6 : Int32))])) (fun t k => XS.iload X160.here hx rfl (hb hby d2_21) rfl k) ?_
    refine own_st (S' := T160.setTop (mkF m 24 #[.val (.ref a), .val (.int (5 : Int32)), .val (.int p2), .val (.int v158), .val (.int (6 : Int32))] [(.ref a), (.int (6 : Int32))])) (fun t k => XS.aloadN X160.here hx rfl (hb hby d2_23) rfl rfl k) ?_
    obtain ⟨T165, X165, e165, st165⟩ := getF X160 hx hZ hown (host := "") (Or.inl (hw _ (List.mem_of_getElem? (i := 22) rfl))) Via.refl e160 f162 (g := (mkF m 24 #[.val (.ref a), .val (.int (5 : Int32)), .val (.int p2), .val (.int v158), .val (.int (6 : Int32))] [(.ref a), (.int (6 : Int32))])) rfl rfl (hb hby d2_24)
    refine own_st st165 ?_
    show own_Go p.tables e below _ (T165.setTop (mkF m 27 #[.val (.ref a), .val (.int (5 : Int32)), .val (.int p2), .val (.int v158), .val (.int (6 : Int32))] [(.ref tr), (.int (6 : Int32))]))
    have O166 := f163
    obtain ⟨c166, Ar166, S166, M166, V166⟩ := O166
    have ln166 : c166.slots.size.toInt32 = (7 : Int32) := by rw [S166]; first | rfl | decide | exact rfl
    refine own_st (S' := T165.setTop (mkF m 28 #[.val (.ref a), .val (.int (5 : Int32)), .val (.int p2), .val (.int v158), .val (.int (6 : Int32))] [(.int (7 : Int32)), (.int (6 : Int32))])) (fun t k => X165.arraylength hx (by rw [e165]; exact Ar166.1) (State.isArrayOf_alike hZ.alike Ar166.2.1) (g := (mkF m 27 #[.val (.ref a), .val (.int (5 : Int32)), .val (.int p2), .val (.int v158), .val (.int (6 : Int32))] [(.ref tr), (.int (6 : Int32))])) rfl rfl (hb hby d2_27) _ (by rw [ln166]; exact k)) ?_
    refine own_st (S' := T165.setTop (mkF m 31 #[.val (.ref a), .val (.int (5 : Int32)), .val (.int p2), .val (.int v158), .val (.int (6 : Int32))] [])) (fun t k => XS.icmpNo X165.here hx rfl (hb hby d2_28) rfl (tlt (by decide)).2.1 k) ?_
    show own_Go p.tables e below _ (T165.setTop (mkF m 31 #[.val (.ref a), .val (.int (5 : Int32)), .val (.int p2), .val (.int v158), .val (.int (6 : Int32))] []))
    refine own_st (S' := T165.setTop (mkF m 32 #[.val (.ref a), .val (.int (5 : Int32)), .val (.int p2), .val (.int v158), .val (.int (6 : Int32))] [(.ref a)])) (fun t k => XS.aloadN X165.here hx rfl (hb hby d2_31) rfl rfl k) ?_
    obtain ⟨T167, X167, e167, st167⟩ := getF X165 hx hZ hown (host := "") (Or.inl (hw _ (List.mem_of_getElem? (i := 22) rfl))) Via.refl e165 f162 (g := (mkF m 32 #[.val (.ref a), .val (.int (5 : Int32)), .val (.int p2), .val (.int v158), .val (.int (6 : Int32))] [(.ref a)])) rfl rfl (hb hby d2_32)
    refine own_st st167 ?_
    show own_Go p.tables e below _ (T167.setTop (mkF m 35 #[.val (.ref a), .val (.int (5 : Int32)), .val (.int p2), .val (.int v158), .val (.int (6 : Int32))] [(.ref tr)]))
    refine own_st (S' := T167.setTop (mkF m 37 #[.val (.ref a), .val (.int (5 : Int32)), .val (.int p2), .val (.int v158), .val (.int (6 : Int32))] [(.int (6 : Int32)), (.ref tr)])) (fun t k => XS.iload X167.here hx rfl (hb hby d2_35) rfl k) ?_
    refine own_st (S' := T167.setTop (mkF m 38 #[.val (.ref a), .val (.int (5 : Int32)), .val (.int p2), .val (.int v158), .val (.int (6 : Int32))] [(.int (6 : Int32)), (.ref tr), (.int (6 : Int32)), (.ref tr)])) (fun t k => Jvm.Free.XT.dup2 X167.here hx rfl (hb hby d2_37) rfl rfl rfl k) ?_
    have O168 := f163
    obtain ⟨c168, Ar168, S168, M168, V168⟩ := O168
    have at168 : c168.slots[((6 : Int32)).toNatClampNeg]? = some (.int t6) := own_at S168 V168 (own_ix (j := (6 : Int32)) (i := 6) (n := 7) (by decide) (by decide) (by decide)) rfl
    refine own_st (S' := T167.setTop (mkF m 39 #[.val (.ref a), .val (.int (5 : Int32)), .val (.int p2), .val (.int v158), .val (.int (6 : Int32))] [(.int t6), (.int (6 : Int32)), (.ref tr)])) (fun t k => X167.iaload hx (j := (6 : Int32)) (v := (.int t6)) (by rw [e167]; exact Ar168.1) (State.isArrayOf_alike hZ.alike Ar168.2.1) Ar168.2.2 (own_in S168 (own_ix (j := (6 : Int32)) (i := 6) (n := 7) (by decide) (by decide) (by decide))) at168 (g := (mkF m 38 #[.val (.ref a), .val (.int (5 : Int32)), .val (.int p2), .val (.int v158), .val (.int (6 : Int32))] [(.int (6 : Int32)), (.ref tr), (.int (6 : Int32)), (.ref tr)])) rfl rfl (hb hby d2_38) _ k) ?_
    refine own_st (S' := T167.setTop (mkF m 40 #[.val (.ref a), .val (.int (5 : Int32)), .val (.int p2), .val (.int v158), .val (.int (6 : Int32))] [(.int v158), (.int t6), (.int (6 : Int32)), (.ref tr)])) (fun t k => XS.iloadN X167.here hx rfl (hb hby d2_39) rfl k) ?_
    refine own_st (S' := T167.setTop (mkF m 41 #[.val (.ref a), .val (.int (5 : Int32)), .val (.int p2), .val (.int v158), .val (.int (6 : Int32))] [(.int (t6 + v158)), (.int (6 : Int32)), (.ref tr)])) (fun t k => XS.iadd X167.here hx rfl (hb hby d2_40) rfl k) ?_
    obtain ⟨v169, qv169⟩ : ∃ z : Int32, z = (t6 + v158) := ⟨_, rfl⟩
    show own_Go p.tables e below _ (T167.setTop (mkF m 41 #[.val (.ref a), .val (.int (5 : Int32)), .val (.int p2), .val (.int v158), .val (.int (6 : Int32))] [(.int (t6 + v158)), (.int (6 : Int32)), (.ref tr)]))
    rw [← qv169]
    have O170 := f163
    obtain ⟨c170, Ar170, S170, M170, V170⟩ := O170
    obtain ⟨T170, h170, X170, e170, W170, st170⟩ := stI X167 hx hZ e167 Ar170 (j := (6 : Int32)) (own_in S170 (own_ix (j := (6 : Int32)) (i := 6) (n := 7) (by decide) (by decide) (by decide))) (g := (mkF m 41 #[.val (.ref a), .val (.int (5 : Int32)), .val (.int p2), .val (.int v158), .val (.int (6 : Int32))] [(.int v169), (.int (6 : Int32)), (.ref tr)])) rfl rfl (hb hby d2_41)
    refine own_st st170 ?_
    have f171 : Fld Z h170 a "kithrank/Weights" "weight" "[I" (.ref wt) := f161.other W170 (Or.inl ne_a_tr)
    have f172 : Fld Z h170 a "kithrank/Weights" "tree" "[I" (.ref tr) := f162.other W170 (Or.inl ne_a_tr)
    have f173 : own_A Z h170 wt .int 6 (own_V [(.int w0), (.int w1), (.int w2), (.int w3), (.int w4), (.int p2)]) := f164.other W170 ne_wt_tr
    have Z170 : n0 ≤ h170.size := Nat.le_trans Z160 (Keep.of_wr W170).1
    have N170 := Fr.snoc X170 N160 G_tr
    have K170 : Keep h0 h170 [wt, tr] := K160.wr W170 (Or.inl (List.mem_of_getElem? (i := 1) rfl))
    have f174 : own_A Z h170 tr .int 7 (own_V [(.int t0), (.int t1), (.int t2), (.int t3), (.int t4), (.int t5), (.int v169)]) := (own_A.set ⟨c170, Ar170, S170, M170, V170⟩ (own_ix (j := (6 : Int32)) (i := 6) (n := 7) (by decide) (by decide) (by decide)) W170).cong (fun j hj => by match j, hj with | 0, _ => rfl | 1, _ => rfl | 2, _ => rfl | 3, _ => rfl | 4, _ => rfl | 5, _ => rfl | 6, _ => rfl | j + 7, h => exact absurd h (by omega))
    show own_Go p.tables e below _ (T170.setTop (mkF m 42 #[.val (.ref a), .val (.int (5 : Int32)), .val (.int p2), .val (.int v158), .val (.int (6 : Int32))] []))
    refine own_st (S' := T170.setTop (mkF m 44 #[.val (.ref a), .val (.int (5 : Int32)), .val (.int p2), .val (.int v158), .val (.int (6 : Int32))] [(.int (6 : Int32))])) (fun t k => XS.iload X170.here hx rfl (hb hby d2_42) rfl k) ?_
    refine own_st (S' := T170.setTop (mkF m 46 #[.val (.ref a), .val (.int (5 : Int32)), .val (.int p2), .val (.int v158), .val (.int (6 : Int32))] [(.int (6 : Int32)), (.int (6 : Int32))])) (fun t k => XS.iload X170.here hx rfl (hb hby d2_44) rfl k) ?_
    refine own_st (S' := T170.setTop (mkF m 48 #[.val (.ref a), .val (.int (5 : Int32)), .val (.int p2), .val (.int v158), .val (.int (6 : Int32))] [(.int (6 : Int32)), (.int (6 : Int32)), (.int (6 : Int32))])) (fun t k => XS.iload X170.here hx rfl (hb hby d2_46) rfl k) ?_
    refine own_st (S' := T170.setTop (mkF m 49 #[.val (.ref a), .val (.int (5 : Int32)), .val (.int p2), .val (.int v158), .val (.int (6 : Int32))] [(.int (-6 : Int32)), (.int (6 : Int32)), (.int (6 : Int32))])) (fun t k => XS.ineg X170.here hx rfl (hb hby d2_48) rfl k) ?_
    refine own_st (S' := T170.setTop (mkF m 50 #[.val (.ref a), .val (.int (5 : Int32)), .val (.int p2), .val (.int v158), .val (.int (6 : Int32))] [(.int (2 : Int32)), (.int (6 : Int32))])) (fun t k => XS.iand X170.here hx rfl (hb hby d2_49) rfl k) ?_
    refine own_st (S' := T170.setTop (mkF m 51 #[.val (.ref a), .val (.int (5 : Int32)), .val (.int p2), .val (.int v158), .val (.int (6 : Int32))] [(.int (8 : Int32))])) (fun t k => XS.iadd X170.here hx rfl (hb hby d2_50) rfl k) ?_
    refine own_st (S' := T170.setTop (mkF m 53 #[.val (.ref a), .val (.int (5 : Int32)), .val (.int p2), .val (.int v158), .val (.int (8 : Int32))] [])) (fun t k => XS.istore X170.here hx rfl (hb hby d2_51) rfl (l' := #[.val (.ref a), .val (.int (5 : Int32)), .val (.int p2), .val (.int v158), .val (.int (8 : Int32))]) rfl k) ?_
    refine own_st (S' := T170.setTop (mkF m 21 #[.val (.ref a), .val (.int (5 : Int32)), .val (.int p2), .val (.int v158), .val (.int (8 : Int32))] [])) (fun t k => XS.goto X170.here hx rfl (pc0 := 53) (pc' := 21) rfl (hb hby d2_53) (by decide) (by decide) k) ?_
    refine own_st (S' := T170.setTop (mkF m 23 #[.val (.ref a), .val (.int (5 : Int32)), .val (.int p2), .val (.int v158), .val (.int (8 : Int32))] [(.int (8 : Int32))])) (fun t k => XS.iload X170.here hx rfl (hb hby d2_21) rfl k) ?_
    refine own_st (S' := T170.setTop (mkF m 24 #[.val (.ref a), .val (.int (5 : Int32)), .val (.int p2), .val (.int v158), .val (.int (8 : Int32))] [(.ref a), (.int (8 : Int32))])) (fun t k => XS.aloadN X170.here hx rfl (hb hby d2_23) rfl rfl k) ?_
    obtain ⟨T175, X175, e175, st175⟩ := getF X170 hx hZ hown (host := "") (Or.inl (hw _ (List.mem_of_getElem? (i := 22) rfl))) Via.refl e170 f172 (g := (mkF m 24 #[.val (.ref a), .val (.int (5 : Int32)), .val (.int p2), .val (.int v158), .val (.int (8 : Int32))] [(.ref a), (.int (8 : Int32))])) rfl rfl (hb hby d2_24)
    refine own_st st175 ?_
    show own_Go p.tables e below _ (T175.setTop (mkF m 27 #[.val (.ref a), .val (.int (5 : Int32)), .val (.int p2), .val (.int v158), .val (.int (8 : Int32))] [(.ref tr), (.int (8 : Int32))]))
    have O176 := f174
    obtain ⟨c176, Ar176, S176, M176, V176⟩ := O176
    have ln176 : c176.slots.size.toInt32 = (7 : Int32) := by rw [S176]; first | rfl | decide | exact rfl
    refine own_st (S' := T175.setTop (mkF m 28 #[.val (.ref a), .val (.int (5 : Int32)), .val (.int p2), .val (.int v158), .val (.int (8 : Int32))] [(.int (7 : Int32)), (.int (8 : Int32))])) (fun t k => X175.arraylength hx (by rw [e175]; exact Ar176.1) (State.isArrayOf_alike hZ.alike Ar176.2.1) (g := (mkF m 27 #[.val (.ref a), .val (.int (5 : Int32)), .val (.int p2), .val (.int v158), .val (.int (8 : Int32))] [(.ref tr), (.int (8 : Int32))])) rfl rfl (hb hby d2_27) _ (by rw [ln176]; exact k)) ?_
    refine own_st (S' := T175.setTop (mkF m 56 #[.val (.ref a), .val (.int (5 : Int32)), .val (.int p2), .val (.int v158), .val (.int (8 : Int32))] [])) (fun t k => XS.icmpYes X175.here hx rfl (pc0 := 28) (pc' := 56) rfl (hb hby d2_28) rfl (flt (by decide)).2.1 (by decide) (by decide) k) ?_
    show own_Go p.tables e below _ (T175.setTop (mkF m 56 #[.val (.ref a), .val (.int (5 : Int32)), .val (.int p2), .val (.int v158), .val (.int (8 : Int32))] []))
    refine own_retV X175 hx hret hlk (hb hby d2_56) ?_ (by decide) (by decide)
    rw [e175]
    subst qv158
    subst qv169
    exact ⟨rfl, N170, K170, (f173.cong (fun j hj => by match j, hj with | 0, _ => rfl | 1, _ => rfl | 2, _ => rfl | 3, _ => rfl | 4, _ => rfl | 5, _ => rfl | j + 6, h => exact absurd h (by omega))), (f174.cong (fun j hj => by match j, hj with | 0, _ => rfl | 1, _ => rfl | 2, _ => rfl | 3, _ => rfl | 4, _ => rfl | 5, _ => rfl | 6, _ => rfl | j + 7, h => exact absurd h (by omega)))⟩
theorem d3_0 : decode prog_135_method_2_code 0 = .ok (.aload_n 0, 1) := by decide +kernel
theorem d3_1 : decode prog_135_method_2_code 1 = .ok (.getfield 13, 3) := by decide +kernel
theorem d3_4 : decode prog_135_method_2_code 4 = .ok (.iload_n 1, 1) := by decide +kernel
theorem d3_5 : decode prog_135_method_2_code 5 = .ok (.iaload, 1) := by decide +kernel
theorem d3_6 : decode prog_135_method_2_code 6 = .ok (.ireturn, 1) := by decide +kernel
theorem pn3 : plainName "kithrank/Weights" = true := by first | (simp [plainName, overriddenIn]; done) | decide +kernel
theorem ef3 (m : MethodId) (a : Addr) (p1 : Int32) : entryFrame m #[(.ref a), (.int p1)] 2 = mkF m 0 #[.val (.ref a), .val (.int p1)] [] := by first | (simp [entryFrame, mkF, argsToLocals, Value.category]; done) | rfl
def Q3 (Z : State) (a : Addr) (p1 : Int32) (wt : Addr) (w0 : Int32) (w1 : Int32) (w2 : Int32) (w3 : Int32) (w4 : Int32) (w5 : Int32) (h0 : Heap) (n0 : Nat) (v : Option Value) (h : Heap) (L : List Loc) : Prop := v = some (.int (own_s6 p1 w0 w1 w2 w3 w4 w5)) ∧ Fr n0 L ∧ h = h0
set_option maxRecDepth 65536 in
set_option maxHeartbeats 40000000 in
theorem rm3 (l : Launch) (Z : State) (a0 : Array Value) (hw : ∀ d ∈ tables_1, d.before a0 Z = true) (ws : List Jvm.Cond) (a : Addr) (p1 : Int32) (wt : Addr) (w0 : Int32) (w1 : Int32) (w2 : Int32) (w3 : Int32) (w4 : Int32) (w5 : Int32) (h0 : Heap) (n0 : Nat) (Z0 : n0 ≤ h0.size) (F_a_weight : Fld Z h0 a "kithrank/Weights" "weight" "[I" (.ref wt)) (A_wt : own_A Z h0 wt .int 6 (own_V [(.int w0), (.int w1), (.int w2), (.int w3), (.int w4), (.int w5)])) (hi : 0 ≤ p1.toInt ∧ p1.toInt < 6) :
    MetFree l (⟨"kithrank/Weights", "weight", "(I)I"⟩ : MethodName) (head1 (Jvm.Cond.code (⟨"kithrank/Weights", "weight", "(I)I"⟩ : MethodName) prog_135_method_2_code 2 (some .int) :: ws) ({ frames := 0, cells := 0, slots := 0, locals := 0 } : Room)) (fun as' U => as' = #[(.ref a), (.int p1)] ∧ Z.Warmed39 U.vm ∧ U.heap = h0) (fun _ _ _ _ _ => True) (fun _ U o U' => ∃ v L, o = .returned v ∧ Q3 Z a p1 wt w0 w1 w2 w3 w4 w5 h0 n0 v U'.heap L ∧ FrameEnd U o U' L ({ frames := 0, cells := 0, slots := 0, locals := 0 } : Room).cells ({ frames := 0, cells := 0, slots := 0, locals := 0 } : Room).slots) := by
  refine own_body (plainFor_of_name pn3) ?_
  intro p e s m below meth c s₁ hx hby hml hown0 hnm hret hlk hZ X0 e0
  have hown : s.vm.findClass "kithrank/Weights" = some m.cls := hown0
  have N0 := Fr.nil n0
  rw [ef3]
  show own_Go p.tables e below _ (s₁.setTop (mkF m 0 #[.val (.ref a), .val (.int p1)] []))
  refine own_st (S' := s₁.setTop (mkF m 1 #[.val (.ref a), .val (.int p1)] [(.ref a)])) (fun t k => XS.aloadN X0.here hx rfl (hb hby d3_0) rfl rfl k) ?_
  obtain ⟨T1, X1, e1, st1⟩ := getF X0 hx hZ hown (host := "") (Or.inl (hw _ (List.mem_of_getElem? (i := 20) rfl))) Via.refl e0 F_a_weight (g := (mkF m 1 #[.val (.ref a), .val (.int p1)] [(.ref a)])) rfl rfl (hb hby d3_1)
  refine own_st st1 ?_
  show own_Go p.tables e below _ (T1.setTop (mkF m 4 #[.val (.ref a), .val (.int p1)] [(.ref wt)]))
  refine own_st (S' := T1.setTop (mkF m 5 #[.val (.ref a), .val (.int p1)] [(.int p1), (.ref wt)])) (fun t k => XS.iloadN X1.here hx rfl (hb hby d3_4) rfl k) ?_
  have O2 := A_wt
  obtain ⟨c2, Ar2, S2, M2, V2⟩ := O2
  have at2 : c2.slots[(p1).toNatClampNeg]? = some (.int (own_s6 p1 w0 w1 w2 w3 w4 w5)) := own_at S2 V2 (own_ix6 hi) (own_at6 hi w0 w1 w2 w3 w4 w5)
  refine own_st (S' := T1.setTop (mkF m 6 #[.val (.ref a), .val (.int p1)] [(.int (own_s6 p1 w0 w1 w2 w3 w4 w5))])) (fun t k => X1.iaload hx (j := p1) (v := (.int (own_s6 p1 w0 w1 w2 w3 w4 w5))) (by rw [e1]; exact Ar2.1) (State.isArrayOf_alike hZ.alike Ar2.2.1) Ar2.2.2 (own_in S2 (own_ix6 hi)) at2 (g := (mkF m 5 #[.val (.ref a), .val (.int p1)] [(.int p1), (.ref wt)])) rfl rfl (hb hby d3_5) _ k) ?_
  refine own_retI X1 hx hret hlk (hb hby d3_6) ?_ (by decide) (by decide)
  rw [e1]
  exact ⟨rfl, N0, rfl⟩
theorem d11_0 : decode prog_135_method_4_code 0 = .ok (.iconst 0, 1) := by decide +kernel
theorem d11_1 : decode prog_135_method_4_code 1 = .ok (.istore_n 2, 1) := by decide +kernel
theorem d11_2 : decode prog_135_method_4_code 2 = .ok (.iload_n 1, 1) := by decide +kernel
theorem d11_3 : decode prog_135_method_4_code 3 = .ok (.istore_n 3, 1) := by decide +kernel
theorem d11_4 : decode prog_135_method_4_code 4 = .ok (.iload_n 3, 1) := by decide +kernel
theorem d11_5 : decode prog_135_method_4_code 5 = .ok (.ifCond .le 22, 3) := by decide +kernel
theorem d11_8 : decode prog_135_method_4_code 8 = .ok (.iload_n 2, 1) := by decide +kernel
theorem d11_9 : decode prog_135_method_4_code 9 = .ok (.aload_n 0, 1) := by decide +kernel
theorem d11_10 : decode prog_135_method_4_code 10 = .ok (.getfield 18, 3) := by decide +kernel
theorem d11_13 : decode prog_135_method_4_code 13 = .ok (.iload_n 3, 1) := by decide +kernel
theorem d11_14 : decode prog_135_method_4_code 14 = .ok (.iaload, 1) := by decide +kernel
theorem d11_15 : decode prog_135_method_4_code 15 = .ok (.iadd, 1) := by decide +kernel
theorem d11_16 : decode prog_135_method_4_code 16 = .ok (.istore_n 2, 1) := by decide +kernel
theorem d11_17 : decode prog_135_method_4_code 17 = .ok (.iload_n 3, 1) := by decide +kernel
theorem d11_18 : decode prog_135_method_4_code 18 = .ok (.iload_n 3, 1) := by decide +kernel
theorem d11_19 : decode prog_135_method_4_code 19 = .ok (.iload_n 3, 1) := by decide +kernel
theorem d11_20 : decode prog_135_method_4_code 20 = .ok (.ineg, 1) := by decide +kernel
theorem d11_21 : decode prog_135_method_4_code 21 = .ok (.iand, 1) := by decide +kernel
theorem d11_22 : decode prog_135_method_4_code 22 = .ok (.isub, 1) := by decide +kernel
theorem d11_23 : decode prog_135_method_4_code 23 = .ok (.istore_n 3, 1) := by decide +kernel
theorem d11_24 : decode prog_135_method_4_code 24 = .ok (.goto (-20), 3) := by decide +kernel
theorem d11_27 : decode prog_135_method_4_code 27 = .ok (.iload_n 2, 1) := by decide +kernel
theorem d11_28 : decode prog_135_method_4_code 28 = .ok (.ireturn, 1) := by decide +kernel
theorem pn11 : plainName "kithrank/Weights" = true := by first | (simp [plainName, overriddenIn]; done) | decide +kernel
theorem ef11 (m : MethodId) (a : Addr) : entryFrame m #[(.ref a), (.int (1 : Int32))] 4 = mkF m 0 #[.val (.ref a), .val (.int (1 : Int32)), .unset, .unset] [] := by first | (simp [entryFrame, mkF, argsToLocals, Value.category]; done) | rfl
def Q11 (Z : State) (a : Addr) (tr : Addr) (t0 : Int32) (t1 : Int32) (t2 : Int32) (t3 : Int32) (t4 : Int32) (t5 : Int32) (t6 : Int32) (h0 : Heap) (n0 : Nat) (v : Option Value) (h : Heap) (L : List Loc) : Prop := v = some (.int ((0 : Int32) + t1)) ∧ Fr n0 L ∧ h = h0
set_option maxRecDepth 65536 in
set_option maxHeartbeats 40000000 in
theorem rm11 (l : Launch) (Z : State) (a0 : Array Value) (hw : ∀ d ∈ tables_1, d.before a0 Z = true) (ws : List Jvm.Cond) (a : Addr) (tr : Addr) (t0 : Int32) (t1 : Int32) (t2 : Int32) (t3 : Int32) (t4 : Int32) (t5 : Int32) (t6 : Int32) (h0 : Heap) (n0 : Nat) (Z0 : n0 ≤ h0.size) (F_a_tree : Fld Z h0 a "kithrank/Weights" "tree" "[I" (.ref tr)) (A_tr : own_A Z h0 tr .int 7 (own_V [(.int t0), (.int t1), (.int t2), (.int t3), (.int t4), (.int t5), (.int t6)])) :
    MetFree l (⟨"kithrank/Weights", "below", "(I)I"⟩ : MethodName) (head1 (Jvm.Cond.code (⟨"kithrank/Weights", "below", "(I)I"⟩ : MethodName) prog_135_method_4_code 4 (some .int) :: ws) ({ frames := 0, cells := 0, slots := 0, locals := 0 } : Room)) (fun as' U => as' = #[(.ref a), (.int (1 : Int32))] ∧ Z.Warmed39 U.vm ∧ U.heap = h0) (fun _ _ _ _ _ => True) (fun _ U o U' => ∃ v L, o = .returned v ∧ Q11 Z a tr t0 t1 t2 t3 t4 t5 t6 h0 n0 v U'.heap L ∧ FrameEnd U o U' L ({ frames := 0, cells := 0, slots := 0, locals := 0 } : Room).cells ({ frames := 0, cells := 0, slots := 0, locals := 0 } : Room).slots) := by
  refine own_body (plainFor_of_name pn11) ?_
  intro p e s m below meth c s₁ hx hby hml hown0 hnm hret hlk hZ X0 e0
  have hown : s.vm.findClass "kithrank/Weights" = some m.cls := hown0
  have N0 := Fr.nil n0
  rw [ef11]
  show own_Go p.tables e below _ (s₁.setTop (mkF m 0 #[.val (.ref a), .val (.int (1 : Int32)), .unset, .unset] []))
  refine own_st (S' := s₁.setTop (mkF m 1 #[.val (.ref a), .val (.int (1 : Int32)), .unset, .unset] [(.int (0 : Int32))])) (fun t k => XS.iconst X0.here hx rfl (hb hby d11_0) k) ?_
  refine own_st (S' := s₁.setTop (mkF m 2 #[.val (.ref a), .val (.int (1 : Int32)), .val (.int (0 : Int32)), .unset] [])) (fun t k => XS.istoreN X0.here hx rfl (hb hby d11_1) rfl (l' := #[.val (.ref a), .val (.int (1 : Int32)), .val (.int (0 : Int32)), .unset]) rfl k) ?_
  refine own_st (S' := s₁.setTop (mkF m 3 #[.val (.ref a), .val (.int (1 : Int32)), .val (.int (0 : Int32)), .unset] [(.int (1 : Int32))])) (fun t k => XS.iloadN X0.here hx rfl (hb hby d11_2) rfl k) ?_
  refine own_st (S' := s₁.setTop (mkF m 4 #[.val (.ref a), .val (.int (1 : Int32)), .val (.int (0 : Int32)), .val (.int (1 : Int32))] [])) (fun t k => XS.istoreN X0.here hx rfl (hb hby d11_3) rfl (l' := #[.val (.ref a), .val (.int (1 : Int32)), .val (.int (0 : Int32)), .val (.int (1 : Int32))]) rfl k) ?_
  refine own_st (S' := s₁.setTop (mkF m 5 #[.val (.ref a), .val (.int (1 : Int32)), .val (.int (0 : Int32)), .val (.int (1 : Int32))] [(.int (1 : Int32))])) (fun t k => XS.iloadN X0.here hx rfl (hb hby d11_4) rfl k) ?_
  refine own_st (S' := s₁.setTop (mkF m 8 #[.val (.ref a), .val (.int (1 : Int32)), .val (.int (0 : Int32)), .val (.int (1 : Int32))] [])) (fun t k => XS.ifNo X0.here hx rfl (hb hby d11_5) rfl ((if0 _ _).trans (tlt (by decide)).2.2.2) k) ?_
  show own_Go p.tables e below _ (s₁.setTop (mkF m 8 #[.val (.ref a), .val (.int (1 : Int32)), .val (.int (0 : Int32)), .val (.int (1 : Int32))] []))
  refine own_st (S' := s₁.setTop (mkF m 9 #[.val (.ref a), .val (.int (1 : Int32)), .val (.int (0 : Int32)), .val (.int (1 : Int32))] [(.int (0 : Int32))])) (fun t k => XS.iloadN X0.here hx rfl (hb hby d11_8) rfl k) ?_
  refine own_st (S' := s₁.setTop (mkF m 10 #[.val (.ref a), .val (.int (1 : Int32)), .val (.int (0 : Int32)), .val (.int (1 : Int32))] [(.ref a), (.int (0 : Int32))])) (fun t k => XS.aloadN X0.here hx rfl (hb hby d11_9) rfl rfl k) ?_
  obtain ⟨T1, X1, e1, st1⟩ := getF X0 hx hZ hown (host := "") (Or.inl (hw _ (List.mem_of_getElem? (i := 22) rfl))) Via.refl e0 F_a_tree (g := (mkF m 10 #[.val (.ref a), .val (.int (1 : Int32)), .val (.int (0 : Int32)), .val (.int (1 : Int32))] [(.ref a), (.int (0 : Int32))])) rfl rfl (hb hby d11_10)
  refine own_st st1 ?_
  show own_Go p.tables e below _ (T1.setTop (mkF m 13 #[.val (.ref a), .val (.int (1 : Int32)), .val (.int (0 : Int32)), .val (.int (1 : Int32))] [(.ref tr), (.int (0 : Int32))]))
  refine own_st (S' := T1.setTop (mkF m 14 #[.val (.ref a), .val (.int (1 : Int32)), .val (.int (0 : Int32)), .val (.int (1 : Int32))] [(.int (1 : Int32)), (.ref tr), (.int (0 : Int32))])) (fun t k => XS.iloadN X1.here hx rfl (hb hby d11_13) rfl k) ?_
  have O2 := A_tr
  obtain ⟨c2, Ar2, S2, M2, V2⟩ := O2
  have at2 : c2.slots[((1 : Int32)).toNatClampNeg]? = some (.int t1) := own_at S2 V2 (own_ix (j := (1 : Int32)) (i := 1) (n := 7) (by decide) (by decide) (by decide)) rfl
  refine own_st (S' := T1.setTop (mkF m 15 #[.val (.ref a), .val (.int (1 : Int32)), .val (.int (0 : Int32)), .val (.int (1 : Int32))] [(.int t1), (.int (0 : Int32))])) (fun t k => X1.iaload hx (j := (1 : Int32)) (v := (.int t1)) (by rw [e1]; exact Ar2.1) (State.isArrayOf_alike hZ.alike Ar2.2.1) Ar2.2.2 (own_in S2 (own_ix (j := (1 : Int32)) (i := 1) (n := 7) (by decide) (by decide) (by decide))) at2 (g := (mkF m 14 #[.val (.ref a), .val (.int (1 : Int32)), .val (.int (0 : Int32)), .val (.int (1 : Int32))] [(.int (1 : Int32)), (.ref tr), (.int (0 : Int32))])) rfl rfl (hb hby d11_14) _ k) ?_
  refine own_st (S' := T1.setTop (mkF m 16 #[.val (.ref a), .val (.int (1 : Int32)), .val (.int (0 : Int32)), .val (.int (1 : Int32))] [(.int ((0 : Int32) + t1))])) (fun t k => XS.iadd X1.here hx rfl (hb hby d11_15) rfl k) ?_
  obtain ⟨v3, qv3⟩ : ∃ z : Int32, z = ((0 : Int32) + t1) := ⟨_, rfl⟩
  show own_Go p.tables e below _ (T1.setTop (mkF m 16 #[.val (.ref a), .val (.int (1 : Int32)), .val (.int (0 : Int32)), .val (.int (1 : Int32))] [(.int ((0 : Int32) + t1))]))
  rw [← qv3]
  refine own_st (S' := T1.setTop (mkF m 17 #[.val (.ref a), .val (.int (1 : Int32)), .val (.int v3), .val (.int (1 : Int32))] [])) (fun t k => XS.istoreN X1.here hx rfl (hb hby d11_16) rfl (l' := #[.val (.ref a), .val (.int (1 : Int32)), .val (.int v3), .val (.int (1 : Int32))]) rfl k) ?_
  refine own_st (S' := T1.setTop (mkF m 18 #[.val (.ref a), .val (.int (1 : Int32)), .val (.int v3), .val (.int (1 : Int32))] [(.int (1 : Int32))])) (fun t k => XS.iloadN X1.here hx rfl (hb hby d11_17) rfl k) ?_
  refine own_st (S' := T1.setTop (mkF m 19 #[.val (.ref a), .val (.int (1 : Int32)), .val (.int v3), .val (.int (1 : Int32))] [(.int (1 : Int32)), (.int (1 : Int32))])) (fun t k => XS.iloadN X1.here hx rfl (hb hby d11_18) rfl k) ?_
  refine own_st (S' := T1.setTop (mkF m 20 #[.val (.ref a), .val (.int (1 : Int32)), .val (.int v3), .val (.int (1 : Int32))] [(.int (1 : Int32)), (.int (1 : Int32)), (.int (1 : Int32))])) (fun t k => XS.iloadN X1.here hx rfl (hb hby d11_19) rfl k) ?_
  refine own_st (S' := T1.setTop (mkF m 21 #[.val (.ref a), .val (.int (1 : Int32)), .val (.int v3), .val (.int (1 : Int32))] [(.int (-1 : Int32)), (.int (1 : Int32)), (.int (1 : Int32))])) (fun t k => XS.ineg X1.here hx rfl (hb hby d11_20) rfl k) ?_
  refine own_st (S' := T1.setTop (mkF m 22 #[.val (.ref a), .val (.int (1 : Int32)), .val (.int v3), .val (.int (1 : Int32))] [(.int (1 : Int32)), (.int (1 : Int32))])) (fun t k => XS.iand X1.here hx rfl (hb hby d11_21) rfl k) ?_
  refine own_st (S' := T1.setTop (mkF m 23 #[.val (.ref a), .val (.int (1 : Int32)), .val (.int v3), .val (.int (1 : Int32))] [(.int (0 : Int32))])) (fun t k => XS.isub X1.here hx rfl (hb hby d11_22) rfl k) ?_
  refine own_st (S' := T1.setTop (mkF m 24 #[.val (.ref a), .val (.int (1 : Int32)), .val (.int v3), .val (.int (0 : Int32))] [])) (fun t k => XS.istoreN X1.here hx rfl (hb hby d11_23) rfl (l' := #[.val (.ref a), .val (.int (1 : Int32)), .val (.int v3), .val (.int (0 : Int32))]) rfl k) ?_
  refine own_st (S' := T1.setTop (mkF m 4 #[.val (.ref a), .val (.int (1 : Int32)), .val (.int v3), .val (.int (0 : Int32))] [])) (fun t k => XS.goto X1.here hx rfl (pc0 := 24) (pc' := 4) rfl (hb hby d11_24) (by decide) (by decide) k) ?_
  refine own_st (S' := T1.setTop (mkF m 5 #[.val (.ref a), .val (.int (1 : Int32)), .val (.int v3), .val (.int (0 : Int32))] [(.int (0 : Int32))])) (fun t k => XS.iloadN X1.here hx rfl (hb hby d11_4) rfl k) ?_
  refine own_st (S' := T1.setTop (mkF m 27 #[.val (.ref a), .val (.int (1 : Int32)), .val (.int v3), .val (.int (0 : Int32))] [])) (fun t k => XS.ifYes X1.here hx rfl (pc0 := 5) (pc' := 27) rfl (hb hby d11_5) rfl ((if0 _ _).trans (flt (by decide)).2.2.2) (by decide) (by decide) k) ?_
  show own_Go p.tables e below _ (T1.setTop (mkF m 27 #[.val (.ref a), .val (.int (1 : Int32)), .val (.int v3), .val (.int (0 : Int32))] []))
  refine own_st (S' := T1.setTop (mkF m 28 #[.val (.ref a), .val (.int (1 : Int32)), .val (.int v3), .val (.int (0 : Int32))] [(.int v3)])) (fun t k => XS.iloadN X1.here hx rfl (hb hby d11_27) rfl k) ?_
  refine own_retI X1 hx hret hlk (hb hby d11_28) ?_ (by decide) (by decide)
  rw [e1]
  subst qv3
  exact ⟨rfl, N0, rfl⟩
theorem d12_0 : decode prog_135_method_4_code 0 = .ok (.iconst 0, 1) := by decide +kernel
theorem d12_1 : decode prog_135_method_4_code 1 = .ok (.istore_n 2, 1) := by decide +kernel
theorem d12_2 : decode prog_135_method_4_code 2 = .ok (.iload_n 1, 1) := by decide +kernel
theorem d12_3 : decode prog_135_method_4_code 3 = .ok (.istore_n 3, 1) := by decide +kernel
theorem d12_4 : decode prog_135_method_4_code 4 = .ok (.iload_n 3, 1) := by decide +kernel
theorem d12_5 : decode prog_135_method_4_code 5 = .ok (.ifCond .le 22, 3) := by decide +kernel
theorem d12_8 : decode prog_135_method_4_code 8 = .ok (.iload_n 2, 1) := by decide +kernel
theorem d12_9 : decode prog_135_method_4_code 9 = .ok (.aload_n 0, 1) := by decide +kernel
theorem d12_10 : decode prog_135_method_4_code 10 = .ok (.getfield 18, 3) := by decide +kernel
theorem d12_13 : decode prog_135_method_4_code 13 = .ok (.iload_n 3, 1) := by decide +kernel
theorem d12_14 : decode prog_135_method_4_code 14 = .ok (.iaload, 1) := by decide +kernel
theorem d12_15 : decode prog_135_method_4_code 15 = .ok (.iadd, 1) := by decide +kernel
theorem d12_16 : decode prog_135_method_4_code 16 = .ok (.istore_n 2, 1) := by decide +kernel
theorem d12_17 : decode prog_135_method_4_code 17 = .ok (.iload_n 3, 1) := by decide +kernel
theorem d12_18 : decode prog_135_method_4_code 18 = .ok (.iload_n 3, 1) := by decide +kernel
theorem d12_19 : decode prog_135_method_4_code 19 = .ok (.iload_n 3, 1) := by decide +kernel
theorem d12_20 : decode prog_135_method_4_code 20 = .ok (.ineg, 1) := by decide +kernel
theorem d12_21 : decode prog_135_method_4_code 21 = .ok (.iand, 1) := by decide +kernel
theorem d12_22 : decode prog_135_method_4_code 22 = .ok (.isub, 1) := by decide +kernel
theorem d12_23 : decode prog_135_method_4_code 23 = .ok (.istore_n 3, 1) := by decide +kernel
theorem d12_24 : decode prog_135_method_4_code 24 = .ok (.goto (-20), 3) := by decide +kernel
theorem d12_27 : decode prog_135_method_4_code 27 = .ok (.iload_n 2, 1) := by decide +kernel
theorem d12_28 : decode prog_135_method_4_code 28 = .ok (.ireturn, 1) := by decide +kernel
theorem pn12 : plainName "kithrank/Weights" = true := by first | (simp [plainName, overriddenIn]; done) | decide +kernel
theorem ef12 (m : MethodId) (a : Addr) : entryFrame m #[(.ref a), (.int (2 : Int32))] 4 = mkF m 0 #[.val (.ref a), .val (.int (2 : Int32)), .unset, .unset] [] := by first | (simp [entryFrame, mkF, argsToLocals, Value.category]; done) | rfl
def Q12 (Z : State) (a : Addr) (tr : Addr) (t0 : Int32) (t1 : Int32) (t2 : Int32) (t3 : Int32) (t4 : Int32) (t5 : Int32) (t6 : Int32) (h0 : Heap) (n0 : Nat) (v : Option Value) (h : Heap) (L : List Loc) : Prop := v = some (.int ((0 : Int32) + t2)) ∧ Fr n0 L ∧ h = h0
set_option maxRecDepth 65536 in
set_option maxHeartbeats 40000000 in
theorem rm12 (l : Launch) (Z : State) (a0 : Array Value) (hw : ∀ d ∈ tables_1, d.before a0 Z = true) (ws : List Jvm.Cond) (a : Addr) (tr : Addr) (t0 : Int32) (t1 : Int32) (t2 : Int32) (t3 : Int32) (t4 : Int32) (t5 : Int32) (t6 : Int32) (h0 : Heap) (n0 : Nat) (Z0 : n0 ≤ h0.size) (F_a_tree : Fld Z h0 a "kithrank/Weights" "tree" "[I" (.ref tr)) (A_tr : own_A Z h0 tr .int 7 (own_V [(.int t0), (.int t1), (.int t2), (.int t3), (.int t4), (.int t5), (.int t6)])) :
    MetFree l (⟨"kithrank/Weights", "below", "(I)I"⟩ : MethodName) (head1 (Jvm.Cond.code (⟨"kithrank/Weights", "below", "(I)I"⟩ : MethodName) prog_135_method_4_code 4 (some .int) :: ws) ({ frames := 0, cells := 0, slots := 0, locals := 0 } : Room)) (fun as' U => as' = #[(.ref a), (.int (2 : Int32))] ∧ Z.Warmed39 U.vm ∧ U.heap = h0) (fun _ _ _ _ _ => True) (fun _ U o U' => ∃ v L, o = .returned v ∧ Q12 Z a tr t0 t1 t2 t3 t4 t5 t6 h0 n0 v U'.heap L ∧ FrameEnd U o U' L ({ frames := 0, cells := 0, slots := 0, locals := 0 } : Room).cells ({ frames := 0, cells := 0, slots := 0, locals := 0 } : Room).slots) := by
  refine own_body (plainFor_of_name pn12) ?_
  intro p e s m below meth c s₁ hx hby hml hown0 hnm hret hlk hZ X0 e0
  have hown : s.vm.findClass "kithrank/Weights" = some m.cls := hown0
  have N0 := Fr.nil n0
  rw [ef12]
  show own_Go p.tables e below _ (s₁.setTop (mkF m 0 #[.val (.ref a), .val (.int (2 : Int32)), .unset, .unset] []))
  refine own_st (S' := s₁.setTop (mkF m 1 #[.val (.ref a), .val (.int (2 : Int32)), .unset, .unset] [(.int (0 : Int32))])) (fun t k => XS.iconst X0.here hx rfl (hb hby d12_0) k) ?_
  refine own_st (S' := s₁.setTop (mkF m 2 #[.val (.ref a), .val (.int (2 : Int32)), .val (.int (0 : Int32)), .unset] [])) (fun t k => XS.istoreN X0.here hx rfl (hb hby d12_1) rfl (l' := #[.val (.ref a), .val (.int (2 : Int32)), .val (.int (0 : Int32)), .unset]) rfl k) ?_
  refine own_st (S' := s₁.setTop (mkF m 3 #[.val (.ref a), .val (.int (2 : Int32)), .val (.int (0 : Int32)), .unset] [(.int (2 : Int32))])) (fun t k => XS.iloadN X0.here hx rfl (hb hby d12_2) rfl k) ?_
  refine own_st (S' := s₁.setTop (mkF m 4 #[.val (.ref a), .val (.int (2 : Int32)), .val (.int (0 : Int32)), .val (.int (2 : Int32))] [])) (fun t k => XS.istoreN X0.here hx rfl (hb hby d12_3) rfl (l' := #[.val (.ref a), .val (.int (2 : Int32)), .val (.int (0 : Int32)), .val (.int (2 : Int32))]) rfl k) ?_
  refine own_st (S' := s₁.setTop (mkF m 5 #[.val (.ref a), .val (.int (2 : Int32)), .val (.int (0 : Int32)), .val (.int (2 : Int32))] [(.int (2 : Int32))])) (fun t k => XS.iloadN X0.here hx rfl (hb hby d12_4) rfl k) ?_
  refine own_st (S' := s₁.setTop (mkF m 8 #[.val (.ref a), .val (.int (2 : Int32)), .val (.int (0 : Int32)), .val (.int (2 : Int32))] [])) (fun t k => XS.ifNo X0.here hx rfl (hb hby d12_5) rfl ((if0 _ _).trans (tlt (by decide)).2.2.2) k) ?_
  show own_Go p.tables e below _ (s₁.setTop (mkF m 8 #[.val (.ref a), .val (.int (2 : Int32)), .val (.int (0 : Int32)), .val (.int (2 : Int32))] []))
  refine own_st (S' := s₁.setTop (mkF m 9 #[.val (.ref a), .val (.int (2 : Int32)), .val (.int (0 : Int32)), .val (.int (2 : Int32))] [(.int (0 : Int32))])) (fun t k => XS.iloadN X0.here hx rfl (hb hby d12_8) rfl k) ?_
  refine own_st (S' := s₁.setTop (mkF m 10 #[.val (.ref a), .val (.int (2 : Int32)), .val (.int (0 : Int32)), .val (.int (2 : Int32))] [(.ref a), (.int (0 : Int32))])) (fun t k => XS.aloadN X0.here hx rfl (hb hby d12_9) rfl rfl k) ?_
  obtain ⟨T1, X1, e1, st1⟩ := getF X0 hx hZ hown (host := "") (Or.inl (hw _ (List.mem_of_getElem? (i := 22) rfl))) Via.refl e0 F_a_tree (g := (mkF m 10 #[.val (.ref a), .val (.int (2 : Int32)), .val (.int (0 : Int32)), .val (.int (2 : Int32))] [(.ref a), (.int (0 : Int32))])) rfl rfl (hb hby d12_10)
  refine own_st st1 ?_
  show own_Go p.tables e below _ (T1.setTop (mkF m 13 #[.val (.ref a), .val (.int (2 : Int32)), .val (.int (0 : Int32)), .val (.int (2 : Int32))] [(.ref tr), (.int (0 : Int32))]))
  refine own_st (S' := T1.setTop (mkF m 14 #[.val (.ref a), .val (.int (2 : Int32)), .val (.int (0 : Int32)), .val (.int (2 : Int32))] [(.int (2 : Int32)), (.ref tr), (.int (0 : Int32))])) (fun t k => XS.iloadN X1.here hx rfl (hb hby d12_13) rfl k) ?_
  have O2 := A_tr
  obtain ⟨c2, Ar2, S2, M2, V2⟩ := O2
  have at2 : c2.slots[((2 : Int32)).toNatClampNeg]? = some (.int t2) := own_at S2 V2 (own_ix (j := (2 : Int32)) (i := 2) (n := 7) (by decide) (by decide) (by decide)) rfl
  refine own_st (S' := T1.setTop (mkF m 15 #[.val (.ref a), .val (.int (2 : Int32)), .val (.int (0 : Int32)), .val (.int (2 : Int32))] [(.int t2), (.int (0 : Int32))])) (fun t k => X1.iaload hx (j := (2 : Int32)) (v := (.int t2)) (by rw [e1]; exact Ar2.1) (State.isArrayOf_alike hZ.alike Ar2.2.1) Ar2.2.2 (own_in S2 (own_ix (j := (2 : Int32)) (i := 2) (n := 7) (by decide) (by decide) (by decide))) at2 (g := (mkF m 14 #[.val (.ref a), .val (.int (2 : Int32)), .val (.int (0 : Int32)), .val (.int (2 : Int32))] [(.int (2 : Int32)), (.ref tr), (.int (0 : Int32))])) rfl rfl (hb hby d12_14) _ k) ?_
  refine own_st (S' := T1.setTop (mkF m 16 #[.val (.ref a), .val (.int (2 : Int32)), .val (.int (0 : Int32)), .val (.int (2 : Int32))] [(.int ((0 : Int32) + t2))])) (fun t k => XS.iadd X1.here hx rfl (hb hby d12_15) rfl k) ?_
  obtain ⟨v3, qv3⟩ : ∃ z : Int32, z = ((0 : Int32) + t2) := ⟨_, rfl⟩
  show own_Go p.tables e below _ (T1.setTop (mkF m 16 #[.val (.ref a), .val (.int (2 : Int32)), .val (.int (0 : Int32)), .val (.int (2 : Int32))] [(.int ((0 : Int32) + t2))]))
  rw [← qv3]
  refine own_st (S' := T1.setTop (mkF m 17 #[.val (.ref a), .val (.int (2 : Int32)), .val (.int v3), .val (.int (2 : Int32))] [])) (fun t k => XS.istoreN X1.here hx rfl (hb hby d12_16) rfl (l' := #[.val (.ref a), .val (.int (2 : Int32)), .val (.int v3), .val (.int (2 : Int32))]) rfl k) ?_
  refine own_st (S' := T1.setTop (mkF m 18 #[.val (.ref a), .val (.int (2 : Int32)), .val (.int v3), .val (.int (2 : Int32))] [(.int (2 : Int32))])) (fun t k => XS.iloadN X1.here hx rfl (hb hby d12_17) rfl k) ?_
  refine own_st (S' := T1.setTop (mkF m 19 #[.val (.ref a), .val (.int (2 : Int32)), .val (.int v3), .val (.int (2 : Int32))] [(.int (2 : Int32)), (.int (2 : Int32))])) (fun t k => XS.iloadN X1.here hx rfl (hb hby d12_18) rfl k) ?_
  refine own_st (S' := T1.setTop (mkF m 20 #[.val (.ref a), .val (.int (2 : Int32)), .val (.int v3), .val (.int (2 : Int32))] [(.int (2 : Int32)), (.int (2 : Int32)), (.int (2 : Int32))])) (fun t k => XS.iloadN X1.here hx rfl (hb hby d12_19) rfl k) ?_
  refine own_st (S' := T1.setTop (mkF m 21 #[.val (.ref a), .val (.int (2 : Int32)), .val (.int v3), .val (.int (2 : Int32))] [(.int (-2 : Int32)), (.int (2 : Int32)), (.int (2 : Int32))])) (fun t k => XS.ineg X1.here hx rfl (hb hby d12_20) rfl k) ?_
  refine own_st (S' := T1.setTop (mkF m 22 #[.val (.ref a), .val (.int (2 : Int32)), .val (.int v3), .val (.int (2 : Int32))] [(.int (2 : Int32)), (.int (2 : Int32))])) (fun t k => XS.iand X1.here hx rfl (hb hby d12_21) rfl k) ?_
  refine own_st (S' := T1.setTop (mkF m 23 #[.val (.ref a), .val (.int (2 : Int32)), .val (.int v3), .val (.int (2 : Int32))] [(.int (0 : Int32))])) (fun t k => XS.isub X1.here hx rfl (hb hby d12_22) rfl k) ?_
  refine own_st (S' := T1.setTop (mkF m 24 #[.val (.ref a), .val (.int (2 : Int32)), .val (.int v3), .val (.int (0 : Int32))] [])) (fun t k => XS.istoreN X1.here hx rfl (hb hby d12_23) rfl (l' := #[.val (.ref a), .val (.int (2 : Int32)), .val (.int v3), .val (.int (0 : Int32))]) rfl k) ?_
  refine own_st (S' := T1.setTop (mkF m 4 #[.val (.ref a), .val (.int (2 : Int32)), .val (.int v3), .val (.int (0 : Int32))] [])) (fun t k => XS.goto X1.here hx rfl (pc0 := 24) (pc' := 4) rfl (hb hby d12_24) (by decide) (by decide) k) ?_
  refine own_st (S' := T1.setTop (mkF m 5 #[.val (.ref a), .val (.int (2 : Int32)), .val (.int v3), .val (.int (0 : Int32))] [(.int (0 : Int32))])) (fun t k => XS.iloadN X1.here hx rfl (hb hby d12_4) rfl k) ?_
  refine own_st (S' := T1.setTop (mkF m 27 #[.val (.ref a), .val (.int (2 : Int32)), .val (.int v3), .val (.int (0 : Int32))] [])) (fun t k => XS.ifYes X1.here hx rfl (pc0 := 5) (pc' := 27) rfl (hb hby d12_5) rfl ((if0 _ _).trans (flt (by decide)).2.2.2) (by decide) (by decide) k) ?_
  show own_Go p.tables e below _ (T1.setTop (mkF m 27 #[.val (.ref a), .val (.int (2 : Int32)), .val (.int v3), .val (.int (0 : Int32))] []))
  refine own_st (S' := T1.setTop (mkF m 28 #[.val (.ref a), .val (.int (2 : Int32)), .val (.int v3), .val (.int (0 : Int32))] [(.int v3)])) (fun t k => XS.iloadN X1.here hx rfl (hb hby d12_27) rfl k) ?_
  refine own_retI X1 hx hret hlk (hb hby d12_28) ?_ (by decide) (by decide)
  rw [e1]
  subst qv3
  exact ⟨rfl, N0, rfl⟩
theorem d13_0 : decode prog_135_method_4_code 0 = .ok (.iconst 0, 1) := by decide +kernel
theorem d13_1 : decode prog_135_method_4_code 1 = .ok (.istore_n 2, 1) := by decide +kernel
theorem d13_2 : decode prog_135_method_4_code 2 = .ok (.iload_n 1, 1) := by decide +kernel
theorem d13_3 : decode prog_135_method_4_code 3 = .ok (.istore_n 3, 1) := by decide +kernel
theorem d13_4 : decode prog_135_method_4_code 4 = .ok (.iload_n 3, 1) := by decide +kernel
theorem d13_5 : decode prog_135_method_4_code 5 = .ok (.ifCond .le 22, 3) := by decide +kernel
theorem d13_8 : decode prog_135_method_4_code 8 = .ok (.iload_n 2, 1) := by decide +kernel
theorem d13_9 : decode prog_135_method_4_code 9 = .ok (.aload_n 0, 1) := by decide +kernel
theorem d13_10 : decode prog_135_method_4_code 10 = .ok (.getfield 18, 3) := by decide +kernel
theorem d13_13 : decode prog_135_method_4_code 13 = .ok (.iload_n 3, 1) := by decide +kernel
theorem d13_14 : decode prog_135_method_4_code 14 = .ok (.iaload, 1) := by decide +kernel
theorem d13_15 : decode prog_135_method_4_code 15 = .ok (.iadd, 1) := by decide +kernel
theorem d13_16 : decode prog_135_method_4_code 16 = .ok (.istore_n 2, 1) := by decide +kernel
theorem d13_17 : decode prog_135_method_4_code 17 = .ok (.iload_n 3, 1) := by decide +kernel
theorem d13_18 : decode prog_135_method_4_code 18 = .ok (.iload_n 3, 1) := by decide +kernel
theorem d13_19 : decode prog_135_method_4_code 19 = .ok (.iload_n 3, 1) := by decide +kernel
theorem d13_20 : decode prog_135_method_4_code 20 = .ok (.ineg, 1) := by decide +kernel
theorem d13_21 : decode prog_135_method_4_code 21 = .ok (.iand, 1) := by decide +kernel
theorem d13_22 : decode prog_135_method_4_code 22 = .ok (.isub, 1) := by decide +kernel
theorem d13_23 : decode prog_135_method_4_code 23 = .ok (.istore_n 3, 1) := by decide +kernel
theorem d13_24 : decode prog_135_method_4_code 24 = .ok (.goto (-20), 3) := by decide +kernel
theorem d13_27 : decode prog_135_method_4_code 27 = .ok (.iload_n 2, 1) := by decide +kernel
theorem d13_28 : decode prog_135_method_4_code 28 = .ok (.ireturn, 1) := by decide +kernel
theorem pn13 : plainName "kithrank/Weights" = true := by first | (simp [plainName, overriddenIn]; done) | decide +kernel
theorem ef13 (m : MethodId) (a : Addr) : entryFrame m #[(.ref a), (.int (3 : Int32))] 4 = mkF m 0 #[.val (.ref a), .val (.int (3 : Int32)), .unset, .unset] [] := by first | (simp [entryFrame, mkF, argsToLocals, Value.category]; done) | rfl
def Q13 (Z : State) (a : Addr) (tr : Addr) (t0 : Int32) (t1 : Int32) (t2 : Int32) (t3 : Int32) (t4 : Int32) (t5 : Int32) (t6 : Int32) (h0 : Heap) (n0 : Nat) (v : Option Value) (h : Heap) (L : List Loc) : Prop := v = some (.int (((0 : Int32) + t3) + t2)) ∧ Fr n0 L ∧ h = h0
set_option maxRecDepth 65536 in
set_option maxHeartbeats 40000000 in
theorem rm13 (l : Launch) (Z : State) (a0 : Array Value) (hw : ∀ d ∈ tables_1, d.before a0 Z = true) (ws : List Jvm.Cond) (a : Addr) (tr : Addr) (t0 : Int32) (t1 : Int32) (t2 : Int32) (t3 : Int32) (t4 : Int32) (t5 : Int32) (t6 : Int32) (h0 : Heap) (n0 : Nat) (Z0 : n0 ≤ h0.size) (F_a_tree : Fld Z h0 a "kithrank/Weights" "tree" "[I" (.ref tr)) (A_tr : own_A Z h0 tr .int 7 (own_V [(.int t0), (.int t1), (.int t2), (.int t3), (.int t4), (.int t5), (.int t6)])) :
    MetFree l (⟨"kithrank/Weights", "below", "(I)I"⟩ : MethodName) (head1 (Jvm.Cond.code (⟨"kithrank/Weights", "below", "(I)I"⟩ : MethodName) prog_135_method_4_code 4 (some .int) :: ws) ({ frames := 0, cells := 0, slots := 0, locals := 0 } : Room)) (fun as' U => as' = #[(.ref a), (.int (3 : Int32))] ∧ Z.Warmed39 U.vm ∧ U.heap = h0) (fun _ _ _ _ _ => True) (fun _ U o U' => ∃ v L, o = .returned v ∧ Q13 Z a tr t0 t1 t2 t3 t4 t5 t6 h0 n0 v U'.heap L ∧ FrameEnd U o U' L ({ frames := 0, cells := 0, slots := 0, locals := 0 } : Room).cells ({ frames := 0, cells := 0, slots := 0, locals := 0 } : Room).slots) := by
  refine own_body (plainFor_of_name pn13) ?_
  intro p e s m below meth c s₁ hx hby hml hown0 hnm hret hlk hZ X0 e0
  have hown : s.vm.findClass "kithrank/Weights" = some m.cls := hown0
  have N0 := Fr.nil n0
  rw [ef13]
  show own_Go p.tables e below _ (s₁.setTop (mkF m 0 #[.val (.ref a), .val (.int (3 : Int32)), .unset, .unset] []))
  refine own_st (S' := s₁.setTop (mkF m 1 #[.val (.ref a), .val (.int (3 : Int32)), .unset, .unset] [(.int (0 : Int32))])) (fun t k => XS.iconst X0.here hx rfl (hb hby d13_0) k) ?_
  refine own_st (S' := s₁.setTop (mkF m 2 #[.val (.ref a), .val (.int (3 : Int32)), .val (.int (0 : Int32)), .unset] [])) (fun t k => XS.istoreN X0.here hx rfl (hb hby d13_1) rfl (l' := #[.val (.ref a), .val (.int (3 : Int32)), .val (.int (0 : Int32)), .unset]) rfl k) ?_
  refine own_st (S' := s₁.setTop (mkF m 3 #[.val (.ref a), .val (.int (3 : Int32)), .val (.int (0 : Int32)), .unset] [(.int (3 : Int32))])) (fun t k => XS.iloadN X0.here hx rfl (hb hby d13_2) rfl k) ?_
  refine own_st (S' := s₁.setTop (mkF m 4 #[.val (.ref a), .val (.int (3 : Int32)), .val (.int (0 : Int32)), .val (.int (3 : Int32))] [])) (fun t k => XS.istoreN X0.here hx rfl (hb hby d13_3) rfl (l' := #[.val (.ref a), .val (.int (3 : Int32)), .val (.int (0 : Int32)), .val (.int (3 : Int32))]) rfl k) ?_
  refine own_st (S' := s₁.setTop (mkF m 5 #[.val (.ref a), .val (.int (3 : Int32)), .val (.int (0 : Int32)), .val (.int (3 : Int32))] [(.int (3 : Int32))])) (fun t k => XS.iloadN X0.here hx rfl (hb hby d13_4) rfl k) ?_
  refine own_st (S' := s₁.setTop (mkF m 8 #[.val (.ref a), .val (.int (3 : Int32)), .val (.int (0 : Int32)), .val (.int (3 : Int32))] [])) (fun t k => XS.ifNo X0.here hx rfl (hb hby d13_5) rfl ((if0 _ _).trans (tlt (by decide)).2.2.2) k) ?_
  show own_Go p.tables e below _ (s₁.setTop (mkF m 8 #[.val (.ref a), .val (.int (3 : Int32)), .val (.int (0 : Int32)), .val (.int (3 : Int32))] []))
  refine own_st (S' := s₁.setTop (mkF m 9 #[.val (.ref a), .val (.int (3 : Int32)), .val (.int (0 : Int32)), .val (.int (3 : Int32))] [(.int (0 : Int32))])) (fun t k => XS.iloadN X0.here hx rfl (hb hby d13_8) rfl k) ?_
  refine own_st (S' := s₁.setTop (mkF m 10 #[.val (.ref a), .val (.int (3 : Int32)), .val (.int (0 : Int32)), .val (.int (3 : Int32))] [(.ref a), (.int (0 : Int32))])) (fun t k => XS.aloadN X0.here hx rfl (hb hby d13_9) rfl rfl k) ?_
  obtain ⟨T1, X1, e1, st1⟩ := getF X0 hx hZ hown (host := "") (Or.inl (hw _ (List.mem_of_getElem? (i := 22) rfl))) Via.refl e0 F_a_tree (g := (mkF m 10 #[.val (.ref a), .val (.int (3 : Int32)), .val (.int (0 : Int32)), .val (.int (3 : Int32))] [(.ref a), (.int (0 : Int32))])) rfl rfl (hb hby d13_10)
  refine own_st st1 ?_
  show own_Go p.tables e below _ (T1.setTop (mkF m 13 #[.val (.ref a), .val (.int (3 : Int32)), .val (.int (0 : Int32)), .val (.int (3 : Int32))] [(.ref tr), (.int (0 : Int32))]))
  refine own_st (S' := T1.setTop (mkF m 14 #[.val (.ref a), .val (.int (3 : Int32)), .val (.int (0 : Int32)), .val (.int (3 : Int32))] [(.int (3 : Int32)), (.ref tr), (.int (0 : Int32))])) (fun t k => XS.iloadN X1.here hx rfl (hb hby d13_13) rfl k) ?_
  have O2 := A_tr
  obtain ⟨c2, Ar2, S2, M2, V2⟩ := O2
  have at2 : c2.slots[((3 : Int32)).toNatClampNeg]? = some (.int t3) := own_at S2 V2 (own_ix (j := (3 : Int32)) (i := 3) (n := 7) (by decide) (by decide) (by decide)) rfl
  refine own_st (S' := T1.setTop (mkF m 15 #[.val (.ref a), .val (.int (3 : Int32)), .val (.int (0 : Int32)), .val (.int (3 : Int32))] [(.int t3), (.int (0 : Int32))])) (fun t k => X1.iaload hx (j := (3 : Int32)) (v := (.int t3)) (by rw [e1]; exact Ar2.1) (State.isArrayOf_alike hZ.alike Ar2.2.1) Ar2.2.2 (own_in S2 (own_ix (j := (3 : Int32)) (i := 3) (n := 7) (by decide) (by decide) (by decide))) at2 (g := (mkF m 14 #[.val (.ref a), .val (.int (3 : Int32)), .val (.int (0 : Int32)), .val (.int (3 : Int32))] [(.int (3 : Int32)), (.ref tr), (.int (0 : Int32))])) rfl rfl (hb hby d13_14) _ k) ?_
  refine own_st (S' := T1.setTop (mkF m 16 #[.val (.ref a), .val (.int (3 : Int32)), .val (.int (0 : Int32)), .val (.int (3 : Int32))] [(.int ((0 : Int32) + t3))])) (fun t k => XS.iadd X1.here hx rfl (hb hby d13_15) rfl k) ?_
  obtain ⟨v3, qv3⟩ : ∃ z : Int32, z = ((0 : Int32) + t3) := ⟨_, rfl⟩
  show own_Go p.tables e below _ (T1.setTop (mkF m 16 #[.val (.ref a), .val (.int (3 : Int32)), .val (.int (0 : Int32)), .val (.int (3 : Int32))] [(.int ((0 : Int32) + t3))]))
  rw [← qv3]
  refine own_st (S' := T1.setTop (mkF m 17 #[.val (.ref a), .val (.int (3 : Int32)), .val (.int v3), .val (.int (3 : Int32))] [])) (fun t k => XS.istoreN X1.here hx rfl (hb hby d13_16) rfl (l' := #[.val (.ref a), .val (.int (3 : Int32)), .val (.int v3), .val (.int (3 : Int32))]) rfl k) ?_
  refine own_st (S' := T1.setTop (mkF m 18 #[.val (.ref a), .val (.int (3 : Int32)), .val (.int v3), .val (.int (3 : Int32))] [(.int (3 : Int32))])) (fun t k => XS.iloadN X1.here hx rfl (hb hby d13_17) rfl k) ?_
  refine own_st (S' := T1.setTop (mkF m 19 #[.val (.ref a), .val (.int (3 : Int32)), .val (.int v3), .val (.int (3 : Int32))] [(.int (3 : Int32)), (.int (3 : Int32))])) (fun t k => XS.iloadN X1.here hx rfl (hb hby d13_18) rfl k) ?_
  refine own_st (S' := T1.setTop (mkF m 20 #[.val (.ref a), .val (.int (3 : Int32)), .val (.int v3), .val (.int (3 : Int32))] [(.int (3 : Int32)), (.int (3 : Int32)), (.int (3 : Int32))])) (fun t k => XS.iloadN X1.here hx rfl (hb hby d13_19) rfl k) ?_
  refine own_st (S' := T1.setTop (mkF m 21 #[.val (.ref a), .val (.int (3 : Int32)), .val (.int v3), .val (.int (3 : Int32))] [(.int (-3 : Int32)), (.int (3 : Int32)), (.int (3 : Int32))])) (fun t k => XS.ineg X1.here hx rfl (hb hby d13_20) rfl k) ?_
  refine own_st (S' := T1.setTop (mkF m 22 #[.val (.ref a), .val (.int (3 : Int32)), .val (.int v3), .val (.int (3 : Int32))] [(.int (1 : Int32)), (.int (3 : Int32))])) (fun t k => XS.iand X1.here hx rfl (hb hby d13_21) rfl k) ?_
  refine own_st (S' := T1.setTop (mkF m 23 #[.val (.ref a), .val (.int (3 : Int32)), .val (.int v3), .val (.int (3 : Int32))] [(.int (2 : Int32))])) (fun t k => XS.isub X1.here hx rfl (hb hby d13_22) rfl k) ?_
  refine own_st (S' := T1.setTop (mkF m 24 #[.val (.ref a), .val (.int (3 : Int32)), .val (.int v3), .val (.int (2 : Int32))] [])) (fun t k => XS.istoreN X1.here hx rfl (hb hby d13_23) rfl (l' := #[.val (.ref a), .val (.int (3 : Int32)), .val (.int v3), .val (.int (2 : Int32))]) rfl k) ?_
  refine own_st (S' := T1.setTop (mkF m 4 #[.val (.ref a), .val (.int (3 : Int32)), .val (.int v3), .val (.int (2 : Int32))] [])) (fun t k => XS.goto X1.here hx rfl (pc0 := 24) (pc' := 4) rfl (hb hby d13_24) (by decide) (by decide) k) ?_
  refine own_st (S' := T1.setTop (mkF m 5 #[.val (.ref a), .val (.int (3 : Int32)), .val (.int v3), .val (.int (2 : Int32))] [(.int (2 : Int32))])) (fun t k => XS.iloadN X1.here hx rfl (hb hby d13_4) rfl k) ?_
  refine own_st (S' := T1.setTop (mkF m 8 #[.val (.ref a), .val (.int (3 : Int32)), .val (.int v3), .val (.int (2 : Int32))] [])) (fun t k => XS.ifNo X1.here hx rfl (hb hby d13_5) rfl ((if0 _ _).trans (tlt (by decide)).2.2.2) k) ?_
  show own_Go p.tables e below _ (T1.setTop (mkF m 8 #[.val (.ref a), .val (.int (3 : Int32)), .val (.int v3), .val (.int (2 : Int32))] []))
  refine own_st (S' := T1.setTop (mkF m 9 #[.val (.ref a), .val (.int (3 : Int32)), .val (.int v3), .val (.int (2 : Int32))] [(.int v3)])) (fun t k => XS.iloadN X1.here hx rfl (hb hby d13_8) rfl k) ?_
  refine own_st (S' := T1.setTop (mkF m 10 #[.val (.ref a), .val (.int (3 : Int32)), .val (.int v3), .val (.int (2 : Int32))] [(.ref a), (.int v3)])) (fun t k => XS.aloadN X1.here hx rfl (hb hby d13_9) rfl rfl k) ?_
  obtain ⟨T4, X4, e4, st4⟩ := getF X1 hx hZ hown (host := "") (Or.inl (hw _ (List.mem_of_getElem? (i := 22) rfl))) Via.refl e1 F_a_tree (g := (mkF m 10 #[.val (.ref a), .val (.int (3 : Int32)), .val (.int v3), .val (.int (2 : Int32))] [(.ref a), (.int v3)])) rfl rfl (hb hby d13_10)
  refine own_st st4 ?_
  show own_Go p.tables e below _ (T4.setTop (mkF m 13 #[.val (.ref a), .val (.int (3 : Int32)), .val (.int v3), .val (.int (2 : Int32))] [(.ref tr), (.int v3)]))
  refine own_st (S' := T4.setTop (mkF m 14 #[.val (.ref a), .val (.int (3 : Int32)), .val (.int v3), .val (.int (2 : Int32))] [(.int (2 : Int32)), (.ref tr), (.int v3)])) (fun t k => XS.iloadN X4.here hx rfl (hb hby d13_13) rfl k) ?_
  have O5 := A_tr
  obtain ⟨c5, Ar5, S5, M5, V5⟩ := O5
  have at5 : c5.slots[((2 : Int32)).toNatClampNeg]? = some (.int t2) := own_at S5 V5 (own_ix (j := (2 : Int32)) (i := 2) (n := 7) (by decide) (by decide) (by decide)) rfl
  refine own_st (S' := T4.setTop (mkF m 15 #[.val (.ref a), .val (.int (3 : Int32)), .val (.int v3), .val (.int (2 : Int32))] [(.int t2), (.int v3)])) (fun t k => X4.iaload hx (j := (2 : Int32)) (v := (.int t2)) (by rw [e4]; exact Ar5.1) (State.isArrayOf_alike hZ.alike Ar5.2.1) Ar5.2.2 (own_in S5 (own_ix (j := (2 : Int32)) (i := 2) (n := 7) (by decide) (by decide) (by decide))) at5 (g := (mkF m 14 #[.val (.ref a), .val (.int (3 : Int32)), .val (.int v3), .val (.int (2 : Int32))] [(.int (2 : Int32)), (.ref tr), (.int v3)])) rfl rfl (hb hby d13_14) _ k) ?_
  refine own_st (S' := T4.setTop (mkF m 16 #[.val (.ref a), .val (.int (3 : Int32)), .val (.int v3), .val (.int (2 : Int32))] [(.int (v3 + t2))])) (fun t k => XS.iadd X4.here hx rfl (hb hby d13_15) rfl k) ?_
  obtain ⟨v6, qv6⟩ : ∃ z : Int32, z = (v3 + t2) := ⟨_, rfl⟩
  show own_Go p.tables e below _ (T4.setTop (mkF m 16 #[.val (.ref a), .val (.int (3 : Int32)), .val (.int v3), .val (.int (2 : Int32))] [(.int (v3 + t2))]))
  rw [← qv6]
  refine own_st (S' := T4.setTop (mkF m 17 #[.val (.ref a), .val (.int (3 : Int32)), .val (.int v6), .val (.int (2 : Int32))] [])) (fun t k => XS.istoreN X4.here hx rfl (hb hby d13_16) rfl (l' := #[.val (.ref a), .val (.int (3 : Int32)), .val (.int v6), .val (.int (2 : Int32))]) rfl k) ?_
  refine own_st (S' := T4.setTop (mkF m 18 #[.val (.ref a), .val (.int (3 : Int32)), .val (.int v6), .val (.int (2 : Int32))] [(.int (2 : Int32))])) (fun t k => XS.iloadN X4.here hx rfl (hb hby d13_17) rfl k) ?_
  refine own_st (S' := T4.setTop (mkF m 19 #[.val (.ref a), .val (.int (3 : Int32)), .val (.int v6), .val (.int (2 : Int32))] [(.int (2 : Int32)), (.int (2 : Int32))])) (fun t k => XS.iloadN X4.here hx rfl (hb hby d13_18) rfl k) ?_
  refine own_st (S' := T4.setTop (mkF m 20 #[.val (.ref a), .val (.int (3 : Int32)), .val (.int v6), .val (.int (2 : Int32))] [(.int (2 : Int32)), (.int (2 : Int32)), (.int (2 : Int32))])) (fun t k => XS.iloadN X4.here hx rfl (hb hby d13_19) rfl k) ?_
  refine own_st (S' := T4.setTop (mkF m 21 #[.val (.ref a), .val (.int (3 : Int32)), .val (.int v6), .val (.int (2 : Int32))] [(.int (-2 : Int32)), (.int (2 : Int32)), (.int (2 : Int32))])) (fun t k => XS.ineg X4.here hx rfl (hb hby d13_20) rfl k) ?_
  refine own_st (S' := T4.setTop (mkF m 22 #[.val (.ref a), .val (.int (3 : Int32)), .val (.int v6), .val (.int (2 : Int32))] [(.int (2 : Int32)), (.int (2 : Int32))])) (fun t k => XS.iand X4.here hx rfl (hb hby d13_21) rfl k) ?_
  refine own_st (S' := T4.setTop (mkF m 23 #[.val (.ref a), .val (.int (3 : Int32)), .val (.int v6), .val (.int (2 : Int32))] [(.int (0 : Int32))])) (fun t k => XS.isub X4.here hx rfl (hb hby d13_22) rfl k) ?_
  refine own_st (S' := T4.setTop (mkF m 24 #[.val (.ref a), .val (.int (3 : Int32)), .val (.int v6), .val (.int (0 : Int32))] [])) (fun t k => XS.istoreN X4.here hx rfl (hb hby d13_23) rfl (l' := #[.val (.ref a), .val (.int (3 : Int32)), .val (.int v6), .val (.int (0 : Int32))]) rfl k) ?_
  refine own_st (S' := T4.setTop (mkF m 4 #[.val (.ref a), .val (.int (3 : Int32)), .val (.int v6), .val (.int (0 : Int32))] [])) (fun t k => XS.goto X4.here hx rfl (pc0 := 24) (pc' := 4) rfl (hb hby d13_24) (by decide) (by decide) k) ?_
  refine own_st (S' := T4.setTop (mkF m 5 #[.val (.ref a), .val (.int (3 : Int32)), .val (.int v6), .val (.int (0 : Int32))] [(.int (0 : Int32))])) (fun t k => XS.iloadN X4.here hx rfl (hb hby d13_4) rfl k) ?_
  refine own_st (S' := T4.setTop (mkF m 27 #[.val (.ref a), .val (.int (3 : Int32)), .val (.int v6), .val (.int (0 : Int32))] [])) (fun t k => XS.ifYes X4.here hx rfl (pc0 := 5) (pc' := 27) rfl (hb hby d13_5) rfl ((if0 _ _).trans (flt (by decide)).2.2.2) (by decide) (by decide) k) ?_
  show own_Go p.tables e below _ (T4.setTop (mkF m 27 #[.val (.ref a), .val (.int (3 : Int32)), .val (.int v6), .val (.int (0 : Int32))] []))
  refine own_st (S' := T4.setTop (mkF m 28 #[.val (.ref a), .val (.int (3 : Int32)), .val (.int v6), .val (.int (0 : Int32))] [(.int v6)])) (fun t k => XS.iloadN X4.here hx rfl (hb hby d13_27) rfl k) ?_
  refine own_retI X4 hx hret hlk (hb hby d13_28) ?_ (by decide) (by decide)
  rw [e4]
  subst qv3
  subst qv6
  exact ⟨rfl, N0, rfl⟩
theorem d14_0 : decode prog_135_method_4_code 0 = .ok (.iconst 0, 1) := by decide +kernel
theorem d14_1 : decode prog_135_method_4_code 1 = .ok (.istore_n 2, 1) := by decide +kernel
theorem d14_2 : decode prog_135_method_4_code 2 = .ok (.iload_n 1, 1) := by decide +kernel
theorem d14_3 : decode prog_135_method_4_code 3 = .ok (.istore_n 3, 1) := by decide +kernel
theorem d14_4 : decode prog_135_method_4_code 4 = .ok (.iload_n 3, 1) := by decide +kernel
theorem d14_5 : decode prog_135_method_4_code 5 = .ok (.ifCond .le 22, 3) := by decide +kernel
theorem d14_8 : decode prog_135_method_4_code 8 = .ok (.iload_n 2, 1) := by decide +kernel
theorem d14_9 : decode prog_135_method_4_code 9 = .ok (.aload_n 0, 1) := by decide +kernel
theorem d14_10 : decode prog_135_method_4_code 10 = .ok (.getfield 18, 3) := by decide +kernel
theorem d14_13 : decode prog_135_method_4_code 13 = .ok (.iload_n 3, 1) := by decide +kernel
theorem d14_14 : decode prog_135_method_4_code 14 = .ok (.iaload, 1) := by decide +kernel
theorem d14_15 : decode prog_135_method_4_code 15 = .ok (.iadd, 1) := by decide +kernel
theorem d14_16 : decode prog_135_method_4_code 16 = .ok (.istore_n 2, 1) := by decide +kernel
theorem d14_17 : decode prog_135_method_4_code 17 = .ok (.iload_n 3, 1) := by decide +kernel
theorem d14_18 : decode prog_135_method_4_code 18 = .ok (.iload_n 3, 1) := by decide +kernel
theorem d14_19 : decode prog_135_method_4_code 19 = .ok (.iload_n 3, 1) := by decide +kernel
theorem d14_20 : decode prog_135_method_4_code 20 = .ok (.ineg, 1) := by decide +kernel
theorem d14_21 : decode prog_135_method_4_code 21 = .ok (.iand, 1) := by decide +kernel
theorem d14_22 : decode prog_135_method_4_code 22 = .ok (.isub, 1) := by decide +kernel
theorem d14_23 : decode prog_135_method_4_code 23 = .ok (.istore_n 3, 1) := by decide +kernel
theorem d14_24 : decode prog_135_method_4_code 24 = .ok (.goto (-20), 3) := by decide +kernel
theorem d14_27 : decode prog_135_method_4_code 27 = .ok (.iload_n 2, 1) := by decide +kernel
theorem d14_28 : decode prog_135_method_4_code 28 = .ok (.ireturn, 1) := by decide +kernel
theorem pn14 : plainName "kithrank/Weights" = true := by first | (simp [plainName, overriddenIn]; done) | decide +kernel
theorem ef14 (m : MethodId) (a : Addr) : entryFrame m #[(.ref a), (.int (4 : Int32))] 4 = mkF m 0 #[.val (.ref a), .val (.int (4 : Int32)), .unset, .unset] [] := by first | (simp [entryFrame, mkF, argsToLocals, Value.category]; done) | rfl
def Q14 (Z : State) (a : Addr) (tr : Addr) (t0 : Int32) (t1 : Int32) (t2 : Int32) (t3 : Int32) (t4 : Int32) (t5 : Int32) (t6 : Int32) (h0 : Heap) (n0 : Nat) (v : Option Value) (h : Heap) (L : List Loc) : Prop := v = some (.int ((0 : Int32) + t4)) ∧ Fr n0 L ∧ h = h0
set_option maxRecDepth 65536 in
set_option maxHeartbeats 40000000 in
theorem rm14 (l : Launch) (Z : State) (a0 : Array Value) (hw : ∀ d ∈ tables_1, d.before a0 Z = true) (ws : List Jvm.Cond) (a : Addr) (tr : Addr) (t0 : Int32) (t1 : Int32) (t2 : Int32) (t3 : Int32) (t4 : Int32) (t5 : Int32) (t6 : Int32) (h0 : Heap) (n0 : Nat) (Z0 : n0 ≤ h0.size) (F_a_tree : Fld Z h0 a "kithrank/Weights" "tree" "[I" (.ref tr)) (A_tr : own_A Z h0 tr .int 7 (own_V [(.int t0), (.int t1), (.int t2), (.int t3), (.int t4), (.int t5), (.int t6)])) :
    MetFree l (⟨"kithrank/Weights", "below", "(I)I"⟩ : MethodName) (head1 (Jvm.Cond.code (⟨"kithrank/Weights", "below", "(I)I"⟩ : MethodName) prog_135_method_4_code 4 (some .int) :: ws) ({ frames := 0, cells := 0, slots := 0, locals := 0 } : Room)) (fun as' U => as' = #[(.ref a), (.int (4 : Int32))] ∧ Z.Warmed39 U.vm ∧ U.heap = h0) (fun _ _ _ _ _ => True) (fun _ U o U' => ∃ v L, o = .returned v ∧ Q14 Z a tr t0 t1 t2 t3 t4 t5 t6 h0 n0 v U'.heap L ∧ FrameEnd U o U' L ({ frames := 0, cells := 0, slots := 0, locals := 0 } : Room).cells ({ frames := 0, cells := 0, slots := 0, locals := 0 } : Room).slots) := by
  refine own_body (plainFor_of_name pn14) ?_
  intro p e s m below meth c s₁ hx hby hml hown0 hnm hret hlk hZ X0 e0
  have hown : s.vm.findClass "kithrank/Weights" = some m.cls := hown0
  have N0 := Fr.nil n0
  rw [ef14]
  show own_Go p.tables e below _ (s₁.setTop (mkF m 0 #[.val (.ref a), .val (.int (4 : Int32)), .unset, .unset] []))
  refine own_st (S' := s₁.setTop (mkF m 1 #[.val (.ref a), .val (.int (4 : Int32)), .unset, .unset] [(.int (0 : Int32))])) (fun t k => XS.iconst X0.here hx rfl (hb hby d14_0) k) ?_
  refine own_st (S' := s₁.setTop (mkF m 2 #[.val (.ref a), .val (.int (4 : Int32)), .val (.int (0 : Int32)), .unset] [])) (fun t k => XS.istoreN X0.here hx rfl (hb hby d14_1) rfl (l' := #[.val (.ref a), .val (.int (4 : Int32)), .val (.int (0 : Int32)), .unset]) rfl k) ?_
  refine own_st (S' := s₁.setTop (mkF m 3 #[.val (.ref a), .val (.int (4 : Int32)), .val (.int (0 : Int32)), .unset] [(.int (4 : Int32))])) (fun t k => XS.iloadN X0.here hx rfl (hb hby d14_2) rfl k) ?_
  refine own_st (S' := s₁.setTop (mkF m 4 #[.val (.ref a), .val (.int (4 : Int32)), .val (.int (0 : Int32)), .val (.int (4 : Int32))] [])) (fun t k => XS.istoreN X0.here hx rfl (hb hby d14_3) rfl (l' := #[.val (.ref a), .val (.int (4 : Int32)), .val (.int (0 : Int32)), .val (.int (4 : Int32))]) rfl k) ?_
  refine own_st (S' := s₁.setTop (mkF m 5 #[.val (.ref a), .val (.int (4 : Int32)), .val (.int (0 : Int32)), .val (.int (4 : Int32))] [(.int (4 : Int32))])) (fun t k => XS.iloadN X0.here hx rfl (hb hby d14_4) rfl k) ?_
  refine own_st (S' := s₁.setTop (mkF m 8 #[.val (.ref a), .val (.int (4 : Int32)), .val (.int (0 : Int32)), .val (.int (4 : Int32))] [])) (fun t k => XS.ifNo X0.here hx rfl (hb hby d14_5) rfl ((if0 _ _).trans (tlt (by decide)).2.2.2) k) ?_
  show own_Go p.tables e below _ (s₁.setTop (mkF m 8 #[.val (.ref a), .val (.int (4 : Int32)), .val (.int (0 : Int32)), .val (.int (4 : Int32))] []))
  refine own_st (S' := s₁.setTop (mkF m 9 #[.val (.ref a), .val (.int (4 : Int32)), .val (.int (0 : Int32)), .val (.int (4 : Int32))] [(.int (0 : Int32))])) (fun t k => XS.iloadN X0.here hx rfl (hb hby d14_8) rfl k) ?_
  refine own_st (S' := s₁.setTop (mkF m 10 #[.val (.ref a), .val (.int (4 : Int32)), .val (.int (0 : Int32)), .val (.int (4 : Int32))] [(.ref a), (.int (0 : Int32))])) (fun t k => XS.aloadN X0.here hx rfl (hb hby d14_9) rfl rfl k) ?_
  obtain ⟨T1, X1, e1, st1⟩ := getF X0 hx hZ hown (host := "") (Or.inl (hw _ (List.mem_of_getElem? (i := 22) rfl))) Via.refl e0 F_a_tree (g := (mkF m 10 #[.val (.ref a), .val (.int (4 : Int32)), .val (.int (0 : Int32)), .val (.int (4 : Int32))] [(.ref a), (.int (0 : Int32))])) rfl rfl (hb hby d14_10)
  refine own_st st1 ?_
  show own_Go p.tables e below _ (T1.setTop (mkF m 13 #[.val (.ref a), .val (.int (4 : Int32)), .val (.int (0 : Int32)), .val (.int (4 : Int32))] [(.ref tr), (.int (0 : Int32))]))
  refine own_st (S' := T1.setTop (mkF m 14 #[.val (.ref a), .val (.int (4 : Int32)), .val (.int (0 : Int32)), .val (.int (4 : Int32))] [(.int (4 : Int32)), (.ref tr), (.int (0 : Int32))])) (fun t k => XS.iloadN X1.here hx rfl (hb hby d14_13) rfl k) ?_
  have O2 := A_tr
  obtain ⟨c2, Ar2, S2, M2, V2⟩ := O2
  have at2 : c2.slots[((4 : Int32)).toNatClampNeg]? = some (.int t4) := own_at S2 V2 (own_ix (j := (4 : Int32)) (i := 4) (n := 7) (by decide) (by decide) (by decide)) rfl
  refine own_st (S' := T1.setTop (mkF m 15 #[.val (.ref a), .val (.int (4 : Int32)), .val (.int (0 : Int32)), .val (.int (4 : Int32))] [(.int t4), (.int (0 : Int32))])) (fun t k => X1.iaload hx (j := (4 : Int32)) (v := (.int t4)) (by rw [e1]; exact Ar2.1) (State.isArrayOf_alike hZ.alike Ar2.2.1) Ar2.2.2 (own_in S2 (own_ix (j := (4 : Int32)) (i := 4) (n := 7) (by decide) (by decide) (by decide))) at2 (g := (mkF m 14 #[.val (.ref a), .val (.int (4 : Int32)), .val (.int (0 : Int32)), .val (.int (4 : Int32))] [(.int (4 : Int32)), (.ref tr), (.int (0 : Int32))])) rfl rfl (hb hby d14_14) _ k) ?_
  refine own_st (S' := T1.setTop (mkF m 16 #[.val (.ref a), .val (.int (4 : Int32)), .val (.int (0 : Int32)), .val (.int (4 : Int32))] [(.int ((0 : Int32) + t4))])) (fun t k => XS.iadd X1.here hx rfl (hb hby d14_15) rfl k) ?_
  obtain ⟨v3, qv3⟩ : ∃ z : Int32, z = ((0 : Int32) + t4) := ⟨_, rfl⟩
  show own_Go p.tables e below _ (T1.setTop (mkF m 16 #[.val (.ref a), .val (.int (4 : Int32)), .val (.int (0 : Int32)), .val (.int (4 : Int32))] [(.int ((0 : Int32) + t4))]))
  rw [← qv3]
  refine own_st (S' := T1.setTop (mkF m 17 #[.val (.ref a), .val (.int (4 : Int32)), .val (.int v3), .val (.int (4 : Int32))] [])) (fun t k => XS.istoreN X1.here hx rfl (hb hby d14_16) rfl (l' := #[.val (.ref a), .val (.int (4 : Int32)), .val (.int v3), .val (.int (4 : Int32))]) rfl k) ?_
  refine own_st (S' := T1.setTop (mkF m 18 #[.val (.ref a), .val (.int (4 : Int32)), .val (.int v3), .val (.int (4 : Int32))] [(.int (4 : Int32))])) (fun t k => XS.iloadN X1.here hx rfl (hb hby d14_17) rfl k) ?_
  refine own_st (S' := T1.setTop (mkF m 19 #[.val (.ref a), .val (.int (4 : Int32)), .val (.int v3), .val (.int (4 : Int32))] [(.int (4 : Int32)), (.int (4 : Int32))])) (fun t k => XS.iloadN X1.here hx rfl (hb hby d14_18) rfl k) ?_
  refine own_st (S' := T1.setTop (mkF m 20 #[.val (.ref a), .val (.int (4 : Int32)), .val (.int v3), .val (.int (4 : Int32))] [(.int (4 : Int32)), (.int (4 : Int32)), (.int (4 : Int32))])) (fun t k => XS.iloadN X1.here hx rfl (hb hby d14_19) rfl k) ?_
  refine own_st (S' := T1.setTop (mkF m 21 #[.val (.ref a), .val (.int (4 : Int32)), .val (.int v3), .val (.int (4 : Int32))] [(.int (-4 : Int32)), (.int (4 : Int32)), (.int (4 : Int32))])) (fun t k => XS.ineg X1.here hx rfl (hb hby d14_20) rfl k) ?_
  refine own_st (S' := T1.setTop (mkF m 22 #[.val (.ref a), .val (.int (4 : Int32)), .val (.int v3), .val (.int (4 : Int32))] [(.int (4 : Int32)), (.int (4 : Int32))])) (fun t k => XS.iand X1.here hx rfl (hb hby d14_21) rfl k) ?_
  refine own_st (S' := T1.setTop (mkF m 23 #[.val (.ref a), .val (.int (4 : Int32)), .val (.int v3), .val (.int (4 : Int32))] [(.int (0 : Int32))])) (fun t k => XS.isub X1.here hx rfl (hb hby d14_22) rfl k) ?_
  refine own_st (S' := T1.setTop (mkF m 24 #[.val (.ref a), .val (.int (4 : Int32)), .val (.int v3), .val (.int (0 : Int32))] [])) (fun t k => XS.istoreN X1.here hx rfl (hb hby d14_23) rfl (l' := #[.val (.ref a), .val (.int (4 : Int32)), .val (.int v3), .val (.int (0 : Int32))]) rfl k) ?_
  refine own_st (S' := T1.setTop (mkF m 4 #[.val (.ref a), .val (.int (4 : Int32)), .val (.int v3), .val (.int (0 : Int32))] [])) (fun t k => XS.goto X1.here hx rfl (pc0 := 24) (pc' := 4) rfl (hb hby d14_24) (by decide) (by decide) k) ?_
  refine own_st (S' := T1.setTop (mkF m 5 #[.val (.ref a), .val (.int (4 : Int32)), .val (.int v3), .val (.int (0 : Int32))] [(.int (0 : Int32))])) (fun t k => XS.iloadN X1.here hx rfl (hb hby d14_4) rfl k) ?_
  refine own_st (S' := T1.setTop (mkF m 27 #[.val (.ref a), .val (.int (4 : Int32)), .val (.int v3), .val (.int (0 : Int32))] [])) (fun t k => XS.ifYes X1.here hx rfl (pc0 := 5) (pc' := 27) rfl (hb hby d14_5) rfl ((if0 _ _).trans (flt (by decide)).2.2.2) (by decide) (by decide) k) ?_
  show own_Go p.tables e below _ (T1.setTop (mkF m 27 #[.val (.ref a), .val (.int (4 : Int32)), .val (.int v3), .val (.int (0 : Int32))] []))
  refine own_st (S' := T1.setTop (mkF m 28 #[.val (.ref a), .val (.int (4 : Int32)), .val (.int v3), .val (.int (0 : Int32))] [(.int v3)])) (fun t k => XS.iloadN X1.here hx rfl (hb hby d14_27) rfl k) ?_
  refine own_retI X1 hx hret hlk (hb hby d14_28) ?_ (by decide) (by decide)
  rw [e1]
  subst qv3
  exact ⟨rfl, N0, rfl⟩
theorem d15_0 : decode prog_135_method_4_code 0 = .ok (.iconst 0, 1) := by decide +kernel
theorem d15_1 : decode prog_135_method_4_code 1 = .ok (.istore_n 2, 1) := by decide +kernel
theorem d15_2 : decode prog_135_method_4_code 2 = .ok (.iload_n 1, 1) := by decide +kernel
theorem d15_3 : decode prog_135_method_4_code 3 = .ok (.istore_n 3, 1) := by decide +kernel
theorem d15_4 : decode prog_135_method_4_code 4 = .ok (.iload_n 3, 1) := by decide +kernel
theorem d15_5 : decode prog_135_method_4_code 5 = .ok (.ifCond .le 22, 3) := by decide +kernel
theorem d15_8 : decode prog_135_method_4_code 8 = .ok (.iload_n 2, 1) := by decide +kernel
theorem d15_9 : decode prog_135_method_4_code 9 = .ok (.aload_n 0, 1) := by decide +kernel
theorem d15_10 : decode prog_135_method_4_code 10 = .ok (.getfield 18, 3) := by decide +kernel
theorem d15_13 : decode prog_135_method_4_code 13 = .ok (.iload_n 3, 1) := by decide +kernel
theorem d15_14 : decode prog_135_method_4_code 14 = .ok (.iaload, 1) := by decide +kernel
theorem d15_15 : decode prog_135_method_4_code 15 = .ok (.iadd, 1) := by decide +kernel
theorem d15_16 : decode prog_135_method_4_code 16 = .ok (.istore_n 2, 1) := by decide +kernel
theorem d15_17 : decode prog_135_method_4_code 17 = .ok (.iload_n 3, 1) := by decide +kernel
theorem d15_18 : decode prog_135_method_4_code 18 = .ok (.iload_n 3, 1) := by decide +kernel
theorem d15_19 : decode prog_135_method_4_code 19 = .ok (.iload_n 3, 1) := by decide +kernel
theorem d15_20 : decode prog_135_method_4_code 20 = .ok (.ineg, 1) := by decide +kernel
theorem d15_21 : decode prog_135_method_4_code 21 = .ok (.iand, 1) := by decide +kernel
theorem d15_22 : decode prog_135_method_4_code 22 = .ok (.isub, 1) := by decide +kernel
theorem d15_23 : decode prog_135_method_4_code 23 = .ok (.istore_n 3, 1) := by decide +kernel
theorem d15_24 : decode prog_135_method_4_code 24 = .ok (.goto (-20), 3) := by decide +kernel
theorem d15_27 : decode prog_135_method_4_code 27 = .ok (.iload_n 2, 1) := by decide +kernel
theorem d15_28 : decode prog_135_method_4_code 28 = .ok (.ireturn, 1) := by decide +kernel
theorem pn15 : plainName "kithrank/Weights" = true := by first | (simp [plainName, overriddenIn]; done) | decide +kernel
theorem ef15 (m : MethodId) (a : Addr) : entryFrame m #[(.ref a), (.int (5 : Int32))] 4 = mkF m 0 #[.val (.ref a), .val (.int (5 : Int32)), .unset, .unset] [] := by first | (simp [entryFrame, mkF, argsToLocals, Value.category]; done) | rfl
def Q15 (Z : State) (a : Addr) (tr : Addr) (t0 : Int32) (t1 : Int32) (t2 : Int32) (t3 : Int32) (t4 : Int32) (t5 : Int32) (t6 : Int32) (h0 : Heap) (n0 : Nat) (v : Option Value) (h : Heap) (L : List Loc) : Prop := v = some (.int (((0 : Int32) + t5) + t4)) ∧ Fr n0 L ∧ h = h0
set_option maxRecDepth 65536 in
set_option maxHeartbeats 40000000 in
theorem rm15 (l : Launch) (Z : State) (a0 : Array Value) (hw : ∀ d ∈ tables_1, d.before a0 Z = true) (ws : List Jvm.Cond) (a : Addr) (tr : Addr) (t0 : Int32) (t1 : Int32) (t2 : Int32) (t3 : Int32) (t4 : Int32) (t5 : Int32) (t6 : Int32) (h0 : Heap) (n0 : Nat) (Z0 : n0 ≤ h0.size) (F_a_tree : Fld Z h0 a "kithrank/Weights" "tree" "[I" (.ref tr)) (A_tr : own_A Z h0 tr .int 7 (own_V [(.int t0), (.int t1), (.int t2), (.int t3), (.int t4), (.int t5), (.int t6)])) :
    MetFree l (⟨"kithrank/Weights", "below", "(I)I"⟩ : MethodName) (head1 (Jvm.Cond.code (⟨"kithrank/Weights", "below", "(I)I"⟩ : MethodName) prog_135_method_4_code 4 (some .int) :: ws) ({ frames := 0, cells := 0, slots := 0, locals := 0 } : Room)) (fun as' U => as' = #[(.ref a), (.int (5 : Int32))] ∧ Z.Warmed39 U.vm ∧ U.heap = h0) (fun _ _ _ _ _ => True) (fun _ U o U' => ∃ v L, o = .returned v ∧ Q15 Z a tr t0 t1 t2 t3 t4 t5 t6 h0 n0 v U'.heap L ∧ FrameEnd U o U' L ({ frames := 0, cells := 0, slots := 0, locals := 0 } : Room).cells ({ frames := 0, cells := 0, slots := 0, locals := 0 } : Room).slots) := by
  refine own_body (plainFor_of_name pn15) ?_
  intro p e s m below meth c s₁ hx hby hml hown0 hnm hret hlk hZ X0 e0
  have hown : s.vm.findClass "kithrank/Weights" = some m.cls := hown0
  have N0 := Fr.nil n0
  rw [ef15]
  show own_Go p.tables e below _ (s₁.setTop (mkF m 0 #[.val (.ref a), .val (.int (5 : Int32)), .unset, .unset] []))
  refine own_st (S' := s₁.setTop (mkF m 1 #[.val (.ref a), .val (.int (5 : Int32)), .unset, .unset] [(.int (0 : Int32))])) (fun t k => XS.iconst X0.here hx rfl (hb hby d15_0) k) ?_
  refine own_st (S' := s₁.setTop (mkF m 2 #[.val (.ref a), .val (.int (5 : Int32)), .val (.int (0 : Int32)), .unset] [])) (fun t k => XS.istoreN X0.here hx rfl (hb hby d15_1) rfl (l' := #[.val (.ref a), .val (.int (5 : Int32)), .val (.int (0 : Int32)), .unset]) rfl k) ?_
  refine own_st (S' := s₁.setTop (mkF m 3 #[.val (.ref a), .val (.int (5 : Int32)), .val (.int (0 : Int32)), .unset] [(.int (5 : Int32))])) (fun t k => XS.iloadN X0.here hx rfl (hb hby d15_2) rfl k) ?_
  refine own_st (S' := s₁.setTop (mkF m 4 #[.val (.ref a), .val (.int (5 : Int32)), .val (.int (0 : Int32)), .val (.int (5 : Int32))] [])) (fun t k => XS.istoreN X0.here hx rfl (hb hby d15_3) rfl (l' := #[.val (.ref a), .val (.int (5 : Int32)), .val (.int (0 : Int32)), .val (.int (5 : Int32))]) rfl k) ?_
  refine own_st (S' := s₁.setTop (mkF m 5 #[.val (.ref a), .val (.int (5 : Int32)), .val (.int (0 : Int32)), .val (.int (5 : Int32))] [(.int (5 : Int32))])) (fun t k => XS.iloadN X0.here hx rfl (hb hby d15_4) rfl k) ?_
  refine own_st (S' := s₁.setTop (mkF m 8 #[.val (.ref a), .val (.int (5 : Int32)), .val (.int (0 : Int32)), .val (.int (5 : Int32))] [])) (fun t k => XS.ifNo X0.here hx rfl (hb hby d15_5) rfl ((if0 _ _).trans (tlt (by decide)).2.2.2) k) ?_
  show own_Go p.tables e below _ (s₁.setTop (mkF m 8 #[.val (.ref a), .val (.int (5 : Int32)), .val (.int (0 : Int32)), .val (.int (5 : Int32))] []))
  refine own_st (S' := s₁.setTop (mkF m 9 #[.val (.ref a), .val (.int (5 : Int32)), .val (.int (0 : Int32)), .val (.int (5 : Int32))] [(.int (0 : Int32))])) (fun t k => XS.iloadN X0.here hx rfl (hb hby d15_8) rfl k) ?_
  refine own_st (S' := s₁.setTop (mkF m 10 #[.val (.ref a), .val (.int (5 : Int32)), .val (.int (0 : Int32)), .val (.int (5 : Int32))] [(.ref a), (.int (0 : Int32))])) (fun t k => XS.aloadN X0.here hx rfl (hb hby d15_9) rfl rfl k) ?_
  obtain ⟨T1, X1, e1, st1⟩ := getF X0 hx hZ hown (host := "") (Or.inl (hw _ (List.mem_of_getElem? (i := 22) rfl))) Via.refl e0 F_a_tree (g := (mkF m 10 #[.val (.ref a), .val (.int (5 : Int32)), .val (.int (0 : Int32)), .val (.int (5 : Int32))] [(.ref a), (.int (0 : Int32))])) rfl rfl (hb hby d15_10)
  refine own_st st1 ?_
  show own_Go p.tables e below _ (T1.setTop (mkF m 13 #[.val (.ref a), .val (.int (5 : Int32)), .val (.int (0 : Int32)), .val (.int (5 : Int32))] [(.ref tr), (.int (0 : Int32))]))
  refine own_st (S' := T1.setTop (mkF m 14 #[.val (.ref a), .val (.int (5 : Int32)), .val (.int (0 : Int32)), .val (.int (5 : Int32))] [(.int (5 : Int32)), (.ref tr), (.int (0 : Int32))])) (fun t k => XS.iloadN X1.here hx rfl (hb hby d15_13) rfl k) ?_
  have O2 := A_tr
  obtain ⟨c2, Ar2, S2, M2, V2⟩ := O2
  have at2 : c2.slots[((5 : Int32)).toNatClampNeg]? = some (.int t5) := own_at S2 V2 (own_ix (j := (5 : Int32)) (i := 5) (n := 7) (by decide) (by decide) (by decide)) rfl
  refine own_st (S' := T1.setTop (mkF m 15 #[.val (.ref a), .val (.int (5 : Int32)), .val (.int (0 : Int32)), .val (.int (5 : Int32))] [(.int t5), (.int (0 : Int32))])) (fun t k => X1.iaload hx (j := (5 : Int32)) (v := (.int t5)) (by rw [e1]; exact Ar2.1) (State.isArrayOf_alike hZ.alike Ar2.2.1) Ar2.2.2 (own_in S2 (own_ix (j := (5 : Int32)) (i := 5) (n := 7) (by decide) (by decide) (by decide))) at2 (g := (mkF m 14 #[.val (.ref a), .val (.int (5 : Int32)), .val (.int (0 : Int32)), .val (.int (5 : Int32))] [(.int (5 : Int32)), (.ref tr), (.int (0 : Int32))])) rfl rfl (hb hby d15_14) _ k) ?_
  refine own_st (S' := T1.setTop (mkF m 16 #[.val (.ref a), .val (.int (5 : Int32)), .val (.int (0 : Int32)), .val (.int (5 : Int32))] [(.int ((0 : Int32) + t5))])) (fun t k => XS.iadd X1.here hx rfl (hb hby d15_15) rfl k) ?_
  obtain ⟨v3, qv3⟩ : ∃ z : Int32, z = ((0 : Int32) + t5) := ⟨_, rfl⟩
  show own_Go p.tables e below _ (T1.setTop (mkF m 16 #[.val (.ref a), .val (.int (5 : Int32)), .val (.int (0 : Int32)), .val (.int (5 : Int32))] [(.int ((0 : Int32) + t5))]))
  rw [← qv3]
  refine own_st (S' := T1.setTop (mkF m 17 #[.val (.ref a), .val (.int (5 : Int32)), .val (.int v3), .val (.int (5 : Int32))] [])) (fun t k => XS.istoreN X1.here hx rfl (hb hby d15_16) rfl (l' := #[.val (.ref a), .val (.int (5 : Int32)), .val (.int v3), .val (.int (5 : Int32))]) rfl k) ?_
  refine own_st (S' := T1.setTop (mkF m 18 #[.val (.ref a), .val (.int (5 : Int32)), .val (.int v3), .val (.int (5 : Int32))] [(.int (5 : Int32))])) (fun t k => XS.iloadN X1.here hx rfl (hb hby d15_17) rfl k) ?_
  refine own_st (S' := T1.setTop (mkF m 19 #[.val (.ref a), .val (.int (5 : Int32)), .val (.int v3), .val (.int (5 : Int32))] [(.int (5 : Int32)), (.int (5 : Int32))])) (fun t k => XS.iloadN X1.here hx rfl (hb hby d15_18) rfl k) ?_
  refine own_st (S' := T1.setTop (mkF m 20 #[.val (.ref a), .val (.int (5 : Int32)), .val (.int v3), .val (.int (5 : Int32))] [(.int (5 : Int32)), (.int (5 : Int32)), (.int (5 : Int32))])) (fun t k => XS.iloadN X1.here hx rfl (hb hby d15_19) rfl k) ?_
  refine own_st (S' := T1.setTop (mkF m 21 #[.val (.ref a), .val (.int (5 : Int32)), .val (.int v3), .val (.int (5 : Int32))] [(.int (-5 : Int32)), (.int (5 : Int32)), (.int (5 : Int32))])) (fun t k => XS.ineg X1.here hx rfl (hb hby d15_20) rfl k) ?_
  refine own_st (S' := T1.setTop (mkF m 22 #[.val (.ref a), .val (.int (5 : Int32)), .val (.int v3), .val (.int (5 : Int32))] [(.int (1 : Int32)), (.int (5 : Int32))])) (fun t k => XS.iand X1.here hx rfl (hb hby d15_21) rfl k) ?_
  refine own_st (S' := T1.setTop (mkF m 23 #[.val (.ref a), .val (.int (5 : Int32)), .val (.int v3), .val (.int (5 : Int32))] [(.int (4 : Int32))])) (fun t k => XS.isub X1.here hx rfl (hb hby d15_22) rfl k) ?_
  refine own_st (S' := T1.setTop (mkF m 24 #[.val (.ref a), .val (.int (5 : Int32)), .val (.int v3), .val (.int (4 : Int32))] [])) (fun t k => XS.istoreN X1.here hx rfl (hb hby d15_23) rfl (l' := #[.val (.ref a), .val (.int (5 : Int32)), .val (.int v3), .val (.int (4 : Int32))]) rfl k) ?_
  refine own_st (S' := T1.setTop (mkF m 4 #[.val (.ref a), .val (.int (5 : Int32)), .val (.int v3), .val (.int (4 : Int32))] [])) (fun t k => XS.goto X1.here hx rfl (pc0 := 24) (pc' := 4) rfl (hb hby d15_24) (by decide) (by decide) k) ?_
  refine own_st (S' := T1.setTop (mkF m 5 #[.val (.ref a), .val (.int (5 : Int32)), .val (.int v3), .val (.int (4 : Int32))] [(.int (4 : Int32))])) (fun t k => XS.iloadN X1.here hx rfl (hb hby d15_4) rfl k) ?_
  refine own_st (S' := T1.setTop (mkF m 8 #[.val (.ref a), .val (.int (5 : Int32)), .val (.int v3), .val (.int (4 : Int32))] [])) (fun t k => XS.ifNo X1.here hx rfl (hb hby d15_5) rfl ((if0 _ _).trans (tlt (by decide)).2.2.2) k) ?_
  show own_Go p.tables e below _ (T1.setTop (mkF m 8 #[.val (.ref a), .val (.int (5 : Int32)), .val (.int v3), .val (.int (4 : Int32))] []))
  refine own_st (S' := T1.setTop (mkF m 9 #[.val (.ref a), .val (.int (5 : Int32)), .val (.int v3), .val (.int (4 : Int32))] [(.int v3)])) (fun t k => XS.iloadN X1.here hx rfl (hb hby d15_8) rfl k) ?_
  refine own_st (S' := T1.setTop (mkF m 10 #[.val (.ref a), .val (.int (5 : Int32)), .val (.int v3), .val (.int (4 : Int32))] [(.ref a), (.int v3)])) (fun t k => XS.aloadN X1.here hx rfl (hb hby d15_9) rfl rfl k) ?_
  obtain ⟨T4, X4, e4, st4⟩ := getF X1 hx hZ hown (host := "") (Or.inl (hw _ (List.mem_of_getElem? (i := 22) rfl))) Via.refl e1 F_a_tree (g := (mkF m 10 #[.val (.ref a), .val (.int (5 : Int32)), .val (.int v3), .val (.int (4 : Int32))] [(.ref a), (.int v3)])) rfl rfl (hb hby d15_10)
  refine own_st st4 ?_
  show own_Go p.tables e below _ (T4.setTop (mkF m 13 #[.val (.ref a), .val (.int (5 : Int32)), .val (.int v3), .val (.int (4 : Int32))] [(.ref tr), (.int v3)]))
  refine own_st (S' := T4.setTop (mkF m 14 #[.val (.ref a), .val (.int (5 : Int32)), .val (.int v3), .val (.int (4 : Int32))] [(.int (4 : Int32)), (.ref tr), (.int v3)])) (fun t k => XS.iloadN X4.here hx rfl (hb hby d15_13) rfl k) ?_
  have O5 := A_tr
  obtain ⟨c5, Ar5, S5, M5, V5⟩ := O5
  have at5 : c5.slots[((4 : Int32)).toNatClampNeg]? = some (.int t4) := own_at S5 V5 (own_ix (j := (4 : Int32)) (i := 4) (n := 7) (by decide) (by decide) (by decide)) rfl
  refine own_st (S' := T4.setTop (mkF m 15 #[.val (.ref a), .val (.int (5 : Int32)), .val (.int v3), .val (.int (4 : Int32))] [(.int t4), (.int v3)])) (fun t k => X4.iaload hx (j := (4 : Int32)) (v := (.int t4)) (by rw [e4]; exact Ar5.1) (State.isArrayOf_alike hZ.alike Ar5.2.1) Ar5.2.2 (own_in S5 (own_ix (j := (4 : Int32)) (i := 4) (n := 7) (by decide) (by decide) (by decide))) at5 (g := (mkF m 14 #[.val (.ref a), .val (.int (5 : Int32)), .val (.int v3), .val (.int (4 : Int32))] [(.int (4 : Int32)), (.ref tr), (.int v3)])) rfl rfl (hb hby d15_14) _ k) ?_
  refine own_st (S' := T4.setTop (mkF m 16 #[.val (.ref a), .val (.int (5 : Int32)), .val (.int v3), .val (.int (4 : Int32))] [(.int (v3 + t4))])) (fun t k => XS.iadd X4.here hx rfl (hb hby d15_15) rfl k) ?_
  obtain ⟨v6, qv6⟩ : ∃ z : Int32, z = (v3 + t4) := ⟨_, rfl⟩
  show own_Go p.tables e below _ (T4.setTop (mkF m 16 #[.val (.ref a), .val (.int (5 : Int32)), .val (.int v3), .val (.int (4 : Int32))] [(.int (v3 + t4))]))
  rw [← qv6]
  refine own_st (S' := T4.setTop (mkF m 17 #[.val (.ref a), .val (.int (5 : Int32)), .val (.int v6), .val (.int (4 : Int32))] [])) (fun t k => XS.istoreN X4.here hx rfl (hb hby d15_16) rfl (l' := #[.val (.ref a), .val (.int (5 : Int32)), .val (.int v6), .val (.int (4 : Int32))]) rfl k) ?_
  refine own_st (S' := T4.setTop (mkF m 18 #[.val (.ref a), .val (.int (5 : Int32)), .val (.int v6), .val (.int (4 : Int32))] [(.int (4 : Int32))])) (fun t k => XS.iloadN X4.here hx rfl (hb hby d15_17) rfl k) ?_
  refine own_st (S' := T4.setTop (mkF m 19 #[.val (.ref a), .val (.int (5 : Int32)), .val (.int v6), .val (.int (4 : Int32))] [(.int (4 : Int32)), (.int (4 : Int32))])) (fun t k => XS.iloadN X4.here hx rfl (hb hby d15_18) rfl k) ?_
  refine own_st (S' := T4.setTop (mkF m 20 #[.val (.ref a), .val (.int (5 : Int32)), .val (.int v6), .val (.int (4 : Int32))] [(.int (4 : Int32)), (.int (4 : Int32)), (.int (4 : Int32))])) (fun t k => XS.iloadN X4.here hx rfl (hb hby d15_19) rfl k) ?_
  refine own_st (S' := T4.setTop (mkF m 21 #[.val (.ref a), .val (.int (5 : Int32)), .val (.int v6), .val (.int (4 : Int32))] [(.int (-4 : Int32)), (.int (4 : Int32)), (.int (4 : Int32))])) (fun t k => XS.ineg X4.here hx rfl (hb hby d15_20) rfl k) ?_
  refine own_st (S' := T4.setTop (mkF m 22 #[.val (.ref a), .val (.int (5 : Int32)), .val (.int v6), .val (.int (4 : Int32))] [(.int (4 : Int32)), (.int (4 : Int32))])) (fun t k => XS.iand X4.here hx rfl (hb hby d15_21) rfl k) ?_
  refine own_st (S' := T4.setTop (mkF m 23 #[.val (.ref a), .val (.int (5 : Int32)), .val (.int v6), .val (.int (4 : Int32))] [(.int (0 : Int32))])) (fun t k => XS.isub X4.here hx rfl (hb hby d15_22) rfl k) ?_
  refine own_st (S' := T4.setTop (mkF m 24 #[.val (.ref a), .val (.int (5 : Int32)), .val (.int v6), .val (.int (0 : Int32))] [])) (fun t k => XS.istoreN X4.here hx rfl (hb hby d15_23) rfl (l' := #[.val (.ref a), .val (.int (5 : Int32)), .val (.int v6), .val (.int (0 : Int32))]) rfl k) ?_
  refine own_st (S' := T4.setTop (mkF m 4 #[.val (.ref a), .val (.int (5 : Int32)), .val (.int v6), .val (.int (0 : Int32))] [])) (fun t k => XS.goto X4.here hx rfl (pc0 := 24) (pc' := 4) rfl (hb hby d15_24) (by decide) (by decide) k) ?_
  refine own_st (S' := T4.setTop (mkF m 5 #[.val (.ref a), .val (.int (5 : Int32)), .val (.int v6), .val (.int (0 : Int32))] [(.int (0 : Int32))])) (fun t k => XS.iloadN X4.here hx rfl (hb hby d15_4) rfl k) ?_
  refine own_st (S' := T4.setTop (mkF m 27 #[.val (.ref a), .val (.int (5 : Int32)), .val (.int v6), .val (.int (0 : Int32))] [])) (fun t k => XS.ifYes X4.here hx rfl (pc0 := 5) (pc' := 27) rfl (hb hby d15_5) rfl ((if0 _ _).trans (flt (by decide)).2.2.2) (by decide) (by decide) k) ?_
  show own_Go p.tables e below _ (T4.setTop (mkF m 27 #[.val (.ref a), .val (.int (5 : Int32)), .val (.int v6), .val (.int (0 : Int32))] []))
  refine own_st (S' := T4.setTop (mkF m 28 #[.val (.ref a), .val (.int (5 : Int32)), .val (.int v6), .val (.int (0 : Int32))] [(.int v6)])) (fun t k => XS.iloadN X4.here hx rfl (hb hby d15_27) rfl k) ?_
  refine own_retI X4 hx hret hlk (hb hby d15_28) ?_ (by decide) (by decide)
  rw [e4]
  subst qv3
  subst qv6
  exact ⟨rfl, N0, rfl⟩
theorem d16_0 : decode prog_135_method_4_code 0 = .ok (.iconst 0, 1) := by decide +kernel
theorem d16_1 : decode prog_135_method_4_code 1 = .ok (.istore_n 2, 1) := by decide +kernel
theorem d16_2 : decode prog_135_method_4_code 2 = .ok (.iload_n 1, 1) := by decide +kernel
theorem d16_3 : decode prog_135_method_4_code 3 = .ok (.istore_n 3, 1) := by decide +kernel
theorem d16_4 : decode prog_135_method_4_code 4 = .ok (.iload_n 3, 1) := by decide +kernel
theorem d16_5 : decode prog_135_method_4_code 5 = .ok (.ifCond .le 22, 3) := by decide +kernel
theorem d16_8 : decode prog_135_method_4_code 8 = .ok (.iload_n 2, 1) := by decide +kernel
theorem d16_9 : decode prog_135_method_4_code 9 = .ok (.aload_n 0, 1) := by decide +kernel
theorem d16_10 : decode prog_135_method_4_code 10 = .ok (.getfield 18, 3) := by decide +kernel
theorem d16_13 : decode prog_135_method_4_code 13 = .ok (.iload_n 3, 1) := by decide +kernel
theorem d16_14 : decode prog_135_method_4_code 14 = .ok (.iaload, 1) := by decide +kernel
theorem d16_15 : decode prog_135_method_4_code 15 = .ok (.iadd, 1) := by decide +kernel
theorem d16_16 : decode prog_135_method_4_code 16 = .ok (.istore_n 2, 1) := by decide +kernel
theorem d16_17 : decode prog_135_method_4_code 17 = .ok (.iload_n 3, 1) := by decide +kernel
theorem d16_18 : decode prog_135_method_4_code 18 = .ok (.iload_n 3, 1) := by decide +kernel
theorem d16_19 : decode prog_135_method_4_code 19 = .ok (.iload_n 3, 1) := by decide +kernel
theorem d16_20 : decode prog_135_method_4_code 20 = .ok (.ineg, 1) := by decide +kernel
theorem d16_21 : decode prog_135_method_4_code 21 = .ok (.iand, 1) := by decide +kernel
theorem d16_22 : decode prog_135_method_4_code 22 = .ok (.isub, 1) := by decide +kernel
theorem d16_23 : decode prog_135_method_4_code 23 = .ok (.istore_n 3, 1) := by decide +kernel
theorem d16_24 : decode prog_135_method_4_code 24 = .ok (.goto (-20), 3) := by decide +kernel
theorem d16_27 : decode prog_135_method_4_code 27 = .ok (.iload_n 2, 1) := by decide +kernel
theorem d16_28 : decode prog_135_method_4_code 28 = .ok (.ireturn, 1) := by decide +kernel
theorem pn16 : plainName "kithrank/Weights" = true := by first | (simp [plainName, overriddenIn]; done) | decide +kernel
theorem ef16 (m : MethodId) (a : Addr) : entryFrame m #[(.ref a), (.int (6 : Int32))] 4 = mkF m 0 #[.val (.ref a), .val (.int (6 : Int32)), .unset, .unset] [] := by first | (simp [entryFrame, mkF, argsToLocals, Value.category]; done) | rfl
def Q16 (Z : State) (a : Addr) (tr : Addr) (t0 : Int32) (t1 : Int32) (t2 : Int32) (t3 : Int32) (t4 : Int32) (t5 : Int32) (t6 : Int32) (h0 : Heap) (n0 : Nat) (v : Option Value) (h : Heap) (L : List Loc) : Prop := v = some (.int (((0 : Int32) + t6) + t4)) ∧ Fr n0 L ∧ h = h0
set_option maxRecDepth 65536 in
set_option maxHeartbeats 40000000 in
theorem rm16 (l : Launch) (Z : State) (a0 : Array Value) (hw : ∀ d ∈ tables_1, d.before a0 Z = true) (ws : List Jvm.Cond) (a : Addr) (tr : Addr) (t0 : Int32) (t1 : Int32) (t2 : Int32) (t3 : Int32) (t4 : Int32) (t5 : Int32) (t6 : Int32) (h0 : Heap) (n0 : Nat) (Z0 : n0 ≤ h0.size) (F_a_tree : Fld Z h0 a "kithrank/Weights" "tree" "[I" (.ref tr)) (A_tr : own_A Z h0 tr .int 7 (own_V [(.int t0), (.int t1), (.int t2), (.int t3), (.int t4), (.int t5), (.int t6)])) :
    MetFree l (⟨"kithrank/Weights", "below", "(I)I"⟩ : MethodName) (head1 (Jvm.Cond.code (⟨"kithrank/Weights", "below", "(I)I"⟩ : MethodName) prog_135_method_4_code 4 (some .int) :: ws) ({ frames := 0, cells := 0, slots := 0, locals := 0 } : Room)) (fun as' U => as' = #[(.ref a), (.int (6 : Int32))] ∧ Z.Warmed39 U.vm ∧ U.heap = h0) (fun _ _ _ _ _ => True) (fun _ U o U' => ∃ v L, o = .returned v ∧ Q16 Z a tr t0 t1 t2 t3 t4 t5 t6 h0 n0 v U'.heap L ∧ FrameEnd U o U' L ({ frames := 0, cells := 0, slots := 0, locals := 0 } : Room).cells ({ frames := 0, cells := 0, slots := 0, locals := 0 } : Room).slots) := by
  refine own_body (plainFor_of_name pn16) ?_
  intro p e s m below meth c s₁ hx hby hml hown0 hnm hret hlk hZ X0 e0
  have hown : s.vm.findClass "kithrank/Weights" = some m.cls := hown0
  have N0 := Fr.nil n0
  rw [ef16]
  show own_Go p.tables e below _ (s₁.setTop (mkF m 0 #[.val (.ref a), .val (.int (6 : Int32)), .unset, .unset] []))
  refine own_st (S' := s₁.setTop (mkF m 1 #[.val (.ref a), .val (.int (6 : Int32)), .unset, .unset] [(.int (0 : Int32))])) (fun t k => XS.iconst X0.here hx rfl (hb hby d16_0) k) ?_
  refine own_st (S' := s₁.setTop (mkF m 2 #[.val (.ref a), .val (.int (6 : Int32)), .val (.int (0 : Int32)), .unset] [])) (fun t k => XS.istoreN X0.here hx rfl (hb hby d16_1) rfl (l' := #[.val (.ref a), .val (.int (6 : Int32)), .val (.int (0 : Int32)), .unset]) rfl k) ?_
  refine own_st (S' := s₁.setTop (mkF m 3 #[.val (.ref a), .val (.int (6 : Int32)), .val (.int (0 : Int32)), .unset] [(.int (6 : Int32))])) (fun t k => XS.iloadN X0.here hx rfl (hb hby d16_2) rfl k) ?_
  refine own_st (S' := s₁.setTop (mkF m 4 #[.val (.ref a), .val (.int (6 : Int32)), .val (.int (0 : Int32)), .val (.int (6 : Int32))] [])) (fun t k => XS.istoreN X0.here hx rfl (hb hby d16_3) rfl (l' := #[.val (.ref a), .val (.int (6 : Int32)), .val (.int (0 : Int32)), .val (.int (6 : Int32))]) rfl k) ?_
  refine own_st (S' := s₁.setTop (mkF m 5 #[.val (.ref a), .val (.int (6 : Int32)), .val (.int (0 : Int32)), .val (.int (6 : Int32))] [(.int (6 : Int32))])) (fun t k => XS.iloadN X0.here hx rfl (hb hby d16_4) rfl k) ?_
  refine own_st (S' := s₁.setTop (mkF m 8 #[.val (.ref a), .val (.int (6 : Int32)), .val (.int (0 : Int32)), .val (.int (6 : Int32))] [])) (fun t k => XS.ifNo X0.here hx rfl (hb hby d16_5) rfl ((if0 _ _).trans (tlt (by decide)).2.2.2) k) ?_
  show own_Go p.tables e below _ (s₁.setTop (mkF m 8 #[.val (.ref a), .val (.int (6 : Int32)), .val (.int (0 : Int32)), .val (.int (6 : Int32))] []))
  refine own_st (S' := s₁.setTop (mkF m 9 #[.val (.ref a), .val (.int (6 : Int32)), .val (.int (0 : Int32)), .val (.int (6 : Int32))] [(.int (0 : Int32))])) (fun t k => XS.iloadN X0.here hx rfl (hb hby d16_8) rfl k) ?_
  refine own_st (S' := s₁.setTop (mkF m 10 #[.val (.ref a), .val (.int (6 : Int32)), .val (.int (0 : Int32)), .val (.int (6 : Int32))] [(.ref a), (.int (0 : Int32))])) (fun t k => XS.aloadN X0.here hx rfl (hb hby d16_9) rfl rfl k) ?_
  obtain ⟨T1, X1, e1, st1⟩ := getF X0 hx hZ hown (host := "") (Or.inl (hw _ (List.mem_of_getElem? (i := 22) rfl))) Via.refl e0 F_a_tree (g := (mkF m 10 #[.val (.ref a), .val (.int (6 : Int32)), .val (.int (0 : Int32)), .val (.int (6 : Int32))] [(.ref a), (.int (0 : Int32))])) rfl rfl (hb hby d16_10)
  refine own_st st1 ?_
  show own_Go p.tables e below _ (T1.setTop (mkF m 13 #[.val (.ref a), .val (.int (6 : Int32)), .val (.int (0 : Int32)), .val (.int (6 : Int32))] [(.ref tr), (.int (0 : Int32))]))
  refine own_st (S' := T1.setTop (mkF m 14 #[.val (.ref a), .val (.int (6 : Int32)), .val (.int (0 : Int32)), .val (.int (6 : Int32))] [(.int (6 : Int32)), (.ref tr), (.int (0 : Int32))])) (fun t k => XS.iloadN X1.here hx rfl (hb hby d16_13) rfl k) ?_
  have O2 := A_tr
  obtain ⟨c2, Ar2, S2, M2, V2⟩ := O2
  have at2 : c2.slots[((6 : Int32)).toNatClampNeg]? = some (.int t6) := own_at S2 V2 (own_ix (j := (6 : Int32)) (i := 6) (n := 7) (by decide) (by decide) (by decide)) rfl
  refine own_st (S' := T1.setTop (mkF m 15 #[.val (.ref a), .val (.int (6 : Int32)), .val (.int (0 : Int32)), .val (.int (6 : Int32))] [(.int t6), (.int (0 : Int32))])) (fun t k => X1.iaload hx (j := (6 : Int32)) (v := (.int t6)) (by rw [e1]; exact Ar2.1) (State.isArrayOf_alike hZ.alike Ar2.2.1) Ar2.2.2 (own_in S2 (own_ix (j := (6 : Int32)) (i := 6) (n := 7) (by decide) (by decide) (by decide))) at2 (g := (mkF m 14 #[.val (.ref a), .val (.int (6 : Int32)), .val (.int (0 : Int32)), .val (.int (6 : Int32))] [(.int (6 : Int32)), (.ref tr), (.int (0 : Int32))])) rfl rfl (hb hby d16_14) _ k) ?_
  refine own_st (S' := T1.setTop (mkF m 16 #[.val (.ref a), .val (.int (6 : Int32)), .val (.int (0 : Int32)), .val (.int (6 : Int32))] [(.int ((0 : Int32) + t6))])) (fun t k => XS.iadd X1.here hx rfl (hb hby d16_15) rfl k) ?_
  obtain ⟨v3, qv3⟩ : ∃ z : Int32, z = ((0 : Int32) + t6) := ⟨_, rfl⟩
  show own_Go p.tables e below _ (T1.setTop (mkF m 16 #[.val (.ref a), .val (.int (6 : Int32)), .val (.int (0 : Int32)), .val (.int (6 : Int32))] [(.int ((0 : Int32) + t6))]))
  rw [← qv3]
  refine own_st (S' := T1.setTop (mkF m 17 #[.val (.ref a), .val (.int (6 : Int32)), .val (.int v3), .val (.int (6 : Int32))] [])) (fun t k => XS.istoreN X1.here hx rfl (hb hby d16_16) rfl (l' := #[.val (.ref a), .val (.int (6 : Int32)), .val (.int v3), .val (.int (6 : Int32))]) rfl k) ?_
  refine own_st (S' := T1.setTop (mkF m 18 #[.val (.ref a), .val (.int (6 : Int32)), .val (.int v3), .val (.int (6 : Int32))] [(.int (6 : Int32))])) (fun t k => XS.iloadN X1.here hx rfl (hb hby d16_17) rfl k) ?_
  refine own_st (S' := T1.setTop (mkF m 19 #[.val (.ref a), .val (.int (6 : Int32)), .val (.int v3), .val (.int (6 : Int32))] [(.int (6 : Int32)), (.int (6 : Int32))])) (fun t k => XS.iloadN X1.here hx rfl (hb hby d16_18) rfl k) ?_
  refine own_st (S' := T1.setTop (mkF m 20 #[.val (.ref a), .val (.int (6 : Int32)), .val (.int v3), .val (.int (6 : Int32))] [(.int (6 : Int32)), (.int (6 : Int32)), (.int (6 : Int32))])) (fun t k => XS.iloadN X1.here hx rfl (hb hby d16_19) rfl k) ?_
  refine own_st (S' := T1.setTop (mkF m 21 #[.val (.ref a), .val (.int (6 : Int32)), .val (.int v3), .val (.int (6 : Int32))] [(.int (-6 : Int32)), (.int (6 : Int32)), (.int (6 : Int32))])) (fun t k => XS.ineg X1.here hx rfl (hb hby d16_20) rfl k) ?_
  refine own_st (S' := T1.setTop (mkF m 22 #[.val (.ref a), .val (.int (6 : Int32)), .val (.int v3), .val (.int (6 : Int32))] [(.int (2 : Int32)), (.int (6 : Int32))])) (fun t k => XS.iand X1.here hx rfl (hb hby d16_21) rfl k) ?_
  refine own_st (S' := T1.setTop (mkF m 23 #[.val (.ref a), .val (.int (6 : Int32)), .val (.int v3), .val (.int (6 : Int32))] [(.int (4 : Int32))])) (fun t k => XS.isub X1.here hx rfl (hb hby d16_22) rfl k) ?_
  refine own_st (S' := T1.setTop (mkF m 24 #[.val (.ref a), .val (.int (6 : Int32)), .val (.int v3), .val (.int (4 : Int32))] [])) (fun t k => XS.istoreN X1.here hx rfl (hb hby d16_23) rfl (l' := #[.val (.ref a), .val (.int (6 : Int32)), .val (.int v3), .val (.int (4 : Int32))]) rfl k) ?_
  refine own_st (S' := T1.setTop (mkF m 4 #[.val (.ref a), .val (.int (6 : Int32)), .val (.int v3), .val (.int (4 : Int32))] [])) (fun t k => XS.goto X1.here hx rfl (pc0 := 24) (pc' := 4) rfl (hb hby d16_24) (by decide) (by decide) k) ?_
  refine own_st (S' := T1.setTop (mkF m 5 #[.val (.ref a), .val (.int (6 : Int32)), .val (.int v3), .val (.int (4 : Int32))] [(.int (4 : Int32))])) (fun t k => XS.iloadN X1.here hx rfl (hb hby d16_4) rfl k) ?_
  refine own_st (S' := T1.setTop (mkF m 8 #[.val (.ref a), .val (.int (6 : Int32)), .val (.int v3), .val (.int (4 : Int32))] [])) (fun t k => XS.ifNo X1.here hx rfl (hb hby d16_5) rfl ((if0 _ _).trans (tlt (by decide)).2.2.2) k) ?_
  show own_Go p.tables e below _ (T1.setTop (mkF m 8 #[.val (.ref a), .val (.int (6 : Int32)), .val (.int v3), .val (.int (4 : Int32))] []))
  refine own_st (S' := T1.setTop (mkF m 9 #[.val (.ref a), .val (.int (6 : Int32)), .val (.int v3), .val (.int (4 : Int32))] [(.int v3)])) (fun t k => XS.iloadN X1.here hx rfl (hb hby d16_8) rfl k) ?_
  refine own_st (S' := T1.setTop (mkF m 10 #[.val (.ref a), .val (.int (6 : Int32)), .val (.int v3), .val (.int (4 : Int32))] [(.ref a), (.int v3)])) (fun t k => XS.aloadN X1.here hx rfl (hb hby d16_9) rfl rfl k) ?_
  obtain ⟨T4, X4, e4, st4⟩ := getF X1 hx hZ hown (host := "") (Or.inl (hw _ (List.mem_of_getElem? (i := 22) rfl))) Via.refl e1 F_a_tree (g := (mkF m 10 #[.val (.ref a), .val (.int (6 : Int32)), .val (.int v3), .val (.int (4 : Int32))] [(.ref a), (.int v3)])) rfl rfl (hb hby d16_10)
  refine own_st st4 ?_
  show own_Go p.tables e below _ (T4.setTop (mkF m 13 #[.val (.ref a), .val (.int (6 : Int32)), .val (.int v3), .val (.int (4 : Int32))] [(.ref tr), (.int v3)]))
  refine own_st (S' := T4.setTop (mkF m 14 #[.val (.ref a), .val (.int (6 : Int32)), .val (.int v3), .val (.int (4 : Int32))] [(.int (4 : Int32)), (.ref tr), (.int v3)])) (fun t k => XS.iloadN X4.here hx rfl (hb hby d16_13) rfl k) ?_
  have O5 := A_tr
  obtain ⟨c5, Ar5, S5, M5, V5⟩ := O5
  have at5 : c5.slots[((4 : Int32)).toNatClampNeg]? = some (.int t4) := own_at S5 V5 (own_ix (j := (4 : Int32)) (i := 4) (n := 7) (by decide) (by decide) (by decide)) rfl
  refine own_st (S' := T4.setTop (mkF m 15 #[.val (.ref a), .val (.int (6 : Int32)), .val (.int v3), .val (.int (4 : Int32))] [(.int t4), (.int v3)])) (fun t k => X4.iaload hx (j := (4 : Int32)) (v := (.int t4)) (by rw [e4]; exact Ar5.1) (State.isArrayOf_alike hZ.alike Ar5.2.1) Ar5.2.2 (own_in S5 (own_ix (j := (4 : Int32)) (i := 4) (n := 7) (by decide) (by decide) (by decide))) at5 (g := (mkF m 14 #[.val (.ref a), .val (.int (6 : Int32)), .val (.int v3), .val (.int (4 : Int32))] [(.int (4 : Int32)), (.ref tr), (.int v3)])) rfl rfl (hb hby d16_14) _ k) ?_
  refine own_st (S' := T4.setTop (mkF m 16 #[.val (.ref a), .val (.int (6 : Int32)), .val (.int v3), .val (.int (4 : Int32))] [(.int (v3 + t4))])) (fun t k => XS.iadd X4.here hx rfl (hb hby d16_15) rfl k) ?_
  obtain ⟨v6, qv6⟩ : ∃ z : Int32, z = (v3 + t4) := ⟨_, rfl⟩
  show own_Go p.tables e below _ (T4.setTop (mkF m 16 #[.val (.ref a), .val (.int (6 : Int32)), .val (.int v3), .val (.int (4 : Int32))] [(.int (v3 + t4))]))
  rw [← qv6]
  refine own_st (S' := T4.setTop (mkF m 17 #[.val (.ref a), .val (.int (6 : Int32)), .val (.int v6), .val (.int (4 : Int32))] [])) (fun t k => XS.istoreN X4.here hx rfl (hb hby d16_16) rfl (l' := #[.val (.ref a), .val (.int (6 : Int32)), .val (.int v6), .val (.int (4 : Int32))]) rfl k) ?_
  refine own_st (S' := T4.setTop (mkF m 18 #[.val (.ref a), .val (.int (6 : Int32)), .val (.int v6), .val (.int (4 : Int32))] [(.int (4 : Int32))])) (fun t k => XS.iloadN X4.here hx rfl (hb hby d16_17) rfl k) ?_
  refine own_st (S' := T4.setTop (mkF m 19 #[.val (.ref a), .val (.int (6 : Int32)), .val (.int v6), .val (.int (4 : Int32))] [(.int (4 : Int32)), (.int (4 : Int32))])) (fun t k => XS.iloadN X4.here hx rfl (hb hby d16_18) rfl k) ?_
  refine own_st (S' := T4.setTop (mkF m 20 #[.val (.ref a), .val (.int (6 : Int32)), .val (.int v6), .val (.int (4 : Int32))] [(.int (4 : Int32)), (.int (4 : Int32)), (.int (4 : Int32))])) (fun t k => XS.iloadN X4.here hx rfl (hb hby d16_19) rfl k) ?_
  refine own_st (S' := T4.setTop (mkF m 21 #[.val (.ref a), .val (.int (6 : Int32)), .val (.int v6), .val (.int (4 : Int32))] [(.int (-4 : Int32)), (.int (4 : Int32)), (.int (4 : Int32))])) (fun t k => XS.ineg X4.here hx rfl (hb hby d16_20) rfl k) ?_
  refine own_st (S' := T4.setTop (mkF m 22 #[.val (.ref a), .val (.int (6 : Int32)), .val (.int v6), .val (.int (4 : Int32))] [(.int (4 : Int32)), (.int (4 : Int32))])) (fun t k => XS.iand X4.here hx rfl (hb hby d16_21) rfl k) ?_
  refine own_st (S' := T4.setTop (mkF m 23 #[.val (.ref a), .val (.int (6 : Int32)), .val (.int v6), .val (.int (4 : Int32))] [(.int (0 : Int32))])) (fun t k => XS.isub X4.here hx rfl (hb hby d16_22) rfl k) ?_
  refine own_st (S' := T4.setTop (mkF m 24 #[.val (.ref a), .val (.int (6 : Int32)), .val (.int v6), .val (.int (0 : Int32))] [])) (fun t k => XS.istoreN X4.here hx rfl (hb hby d16_23) rfl (l' := #[.val (.ref a), .val (.int (6 : Int32)), .val (.int v6), .val (.int (0 : Int32))]) rfl k) ?_
  refine own_st (S' := T4.setTop (mkF m 4 #[.val (.ref a), .val (.int (6 : Int32)), .val (.int v6), .val (.int (0 : Int32))] [])) (fun t k => XS.goto X4.here hx rfl (pc0 := 24) (pc' := 4) rfl (hb hby d16_24) (by decide) (by decide) k) ?_
  refine own_st (S' := T4.setTop (mkF m 5 #[.val (.ref a), .val (.int (6 : Int32)), .val (.int v6), .val (.int (0 : Int32))] [(.int (0 : Int32))])) (fun t k => XS.iloadN X4.here hx rfl (hb hby d16_4) rfl k) ?_
  refine own_st (S' := T4.setTop (mkF m 27 #[.val (.ref a), .val (.int (6 : Int32)), .val (.int v6), .val (.int (0 : Int32))] [])) (fun t k => XS.ifYes X4.here hx rfl (pc0 := 5) (pc' := 27) rfl (hb hby d16_5) rfl ((if0 _ _).trans (flt (by decide)).2.2.2) (by decide) (by decide) k) ?_
  show own_Go p.tables e below _ (T4.setTop (mkF m 27 #[.val (.ref a), .val (.int (6 : Int32)), .val (.int v6), .val (.int (0 : Int32))] []))
  refine own_st (S' := T4.setTop (mkF m 28 #[.val (.ref a), .val (.int (6 : Int32)), .val (.int v6), .val (.int (0 : Int32))] [(.int v6)])) (fun t k => XS.iloadN X4.here hx rfl (hb hby d16_27) rfl k) ?_
  refine own_retI X4 hx hret hlk (hb hby d16_28) ?_ (by decide) (by decide)
  rw [e4]
  subst qv3
  subst qv6
  exact ⟨rfl, N0, rfl⟩
theorem pd0_0 : parseMethodDescriptor "([I)V" = some ⟨[(.array .int)], none⟩ := by decide +kernel
theorem pd0_1 : parseMethodDescriptor "(II)V" = some ⟨[.int, .int], none⟩ := by decide +kernel
theorem pd0_2 : parseMethodDescriptor "(I)I" = some ⟨[.int], some .int⟩ := by decide +kernel
theorem pn0 : plainName "kithrank/WeightsSetPinLaw" = true := by first | (simp [plainName, overriddenIn]; done) | decide +kernel
theorem ef0 (m : MethodId) (p0 : Int32) (p1 : Int32) (p2 : Int64) (p3 : Int64) (p4 : Int32) (p5 : Int32) : entryFrame m #[(.int p0), (.int p1), (.long p2), (.long p3), (.int p4), (.int p5)] maxLocals = mkF m 0 #[.val (.int p0), .val (.int p1), .val (.long p2), .second, .val (.long p3), .second, .val (.int p4), .val (.int p5), .unset, .unset, .unset, .unset, .unset, .unset, .unset, .unset, .unset, .unset, .unset, .unset, .unset, .unset, .unset, .unset, .unset, .unset] [] := by first | (simp [entryFrame, mkF, argsToLocals, Value.category, maxLocals]; done) | rfl
def Q0 (n0 : Nat) (v : Option Value) (h : Heap) (L : List Loc) : Prop := v = some (.int 1) ∧ Fr n0 L
set_option maxRecDepth 65536 in
set_option maxHeartbeats 40000000 in
theorem rm0 (l : Launch) (Z : State) (a0 : Array Value) (hw : ∀ d ∈ tables_1, d.before a0 Z = true) (ws : List Jvm.Cond) (p0 : Int32) (p1 : Int32) (p2 : Int64) (p3 : Int64) (p4 : Int32) (p5 : Int32) (h0 : Heap) (n0 : Nat) (Z0 : n0 ≤ h0.size)  :
    MetFree l x (head1 (Jvm.Cond.code x code maxLocals ret :: ws) room_1) (fun as' U => as' = #[(.int p0), (.int p1), (.long p2), (.long p3), (.int p4), (.int p5)] ∧ Z.Warmed39 U.vm ∧ U.heap = h0) (fun _ _ _ _ _ => True) (fun _ U o U' => ∃ v L, o = .returned v ∧ Q0 n0 v U'.heap L ∧ FrameEnd U o U' L room_1.cells room_1.slots) := by
  refine own_body (plainFor_of_name pn0) ?_
  intro p e s m below meth c s₁ hx hby hml hown0 hnm hret hlk hZ X0 e0
  have hown : s.vm.findClass "kithrank/WeightsSetPinLaw" = some m.cls := hown0
  have N0 := Fr.nil n0
  rw [ef0]
  show own_Go p.tables e below _ (s₁.setTop (mkF m 0 #[.val (.int p0), .val (.int p1), .val (.long p2), .second, .val (.long p3), .second, .val (.int p4), .val (.int p5), .unset, .unset, .unset, .unset, .unset, .unset, .unset, .unset, .unset, .unset, .unset, .unset, .unset, .unset, .unset, .unset, .unset, .unset] []))
  refine own_st (S' := s₁.setTop (mkF m 1 #[.val (.int p0), .val (.int p1), .val (.long p2), .second, .val (.long p3), .second, .val (.int p4), .val (.int p5), .unset, .unset, .unset, .unset, .unset, .unset, .unset, .unset, .unset, .unset, .unset, .unset, .unset, .unset, .unset, .unset, .unset, .unset] [(.long p2)])) (fun t k => XS.lloadN X0.here hx rfl (hb hby at_0) rfl k) ?_
  refine own_st (S' := s₁.setTop (mkF m 2 #[.val (.int p0), .val (.int p1), .val (.long p2), .second, .val (.long p3), .second, .val (.int p4), .val (.int p5), .unset, .unset, .unset, .unset, .unset, .unset, .unset, .unset, .unset, .unset, .unset, .unset, .unset, .unset, .unset, .unset, .unset, .unset] [(.int p2.toInt32)])) (fun t k => XS.l2i X0.here hx rfl (hb hby at_1) rfl k) ?_
  refine own_st (S' := s₁.setTop (mkF m 4 #[.val (.int p0), .val (.int p1), .val (.long p2), .second, .val (.long p3), .second, .val (.int p4), .val (.int p5), .val (.int p2.toInt32), .unset, .unset, .unset, .unset, .unset, .unset, .unset, .unset, .unset, .unset, .unset, .unset, .unset, .unset, .unset, .unset, .unset] [])) (fun t k => XS.istore X0.here hx rfl (hb hby at_2) rfl (l' := #[.val (.int p0), .val (.int p1), .val (.long p2), .second, .val (.long p3), .second, .val (.int p4), .val (.int p5), .val (.int p2.toInt32), .unset, .unset, .unset, .unset, .unset, .unset, .unset, .unset, .unset, .unset, .unset, .unset, .unset, .unset, .unset, .unset, .unset]) rfl k) ?_
  refine own_st (S' := s₁.setTop (mkF m 5 #[.val (.int p0), .val (.int p1), .val (.long p2), .second, .val (.long p3), .second, .val (.int p4), .val (.int p5), .val (.int p2.toInt32), .unset, .unset, .unset, .unset, .unset, .unset, .unset, .unset, .unset, .unset, .unset, .unset, .unset, .unset, .unset, .unset, .unset] [(.long p2)])) (fun t k => XS.lloadN X0.here hx rfl (hb hby at_4) rfl k) ?_
  refine own_st (S' := s₁.setTop (mkF m 7 #[.val (.int p0), .val (.int p1), .val (.long p2), .second, .val (.long p3), .second, .val (.int p4), .val (.int p5), .val (.int p2.toInt32), .unset, .unset, .unset, .unset, .unset, .unset, .unset, .unset, .unset, .unset, .unset, .unset, .unset, .unset, .unset, .unset, .unset] [(.int (32 : Int32)), (.long p2)])) (fun t k => XS.bipush X0.here hx rfl (hb hby at_5) k) ?_
  refine own_st (S' := s₁.setTop (mkF m 8 #[.val (.int p0), .val (.int p1), .val (.long p2), .second, .val (.long p3), .second, .val (.int p4), .val (.int p5), .val (.int p2.toInt32), .unset, .unset, .unset, .unset, .unset, .unset, .unset, .unset, .unset, .unset, .unset, .unset, .unset, .unset, .unset, .unset, .unset] [(.long ((p2.toUInt64 >>> ((32 : Int32) &&& 0x3f).toInt64.toUInt64).toInt64))])) (fun t k => XS.lushr X0.here hx rfl (hb hby at_7) rfl k) ?_
  refine own_st (S' := s₁.setTop (mkF m 9 #[.val (.int p0), .val (.int p1), .val (.long p2), .second, .val (.long p3), .second, .val (.int p4), .val (.int p5), .val (.int p2.toInt32), .unset, .unset, .unset, .unset, .unset, .unset, .unset, .unset, .unset, .unset, .unset, .unset, .unset, .unset, .unset, .unset, .unset] [(.int ((p2.toUInt64 >>> ((32 : Int32) &&& 0x3f).toInt64.toUInt64).toInt64).toInt32)])) (fun t k => XS.l2i X0.here hx rfl (hb hby at_8) rfl k) ?_
  obtain ⟨v1, qv1⟩ : ∃ z : Int32, z = ((p2.toUInt64 >>> ((32 : Int32) &&& 0x3f).toInt64.toUInt64).toInt64).toInt32 := ⟨_, rfl⟩
  show own_Go p.tables e below _ (s₁.setTop (mkF m 9 #[.val (.int p0), .val (.int p1), .val (.long p2), .second, .val (.long p3), .second, .val (.int p4), .val (.int p5), .val (.int p2.toInt32), .unset, .unset, .unset, .unset, .unset, .unset, .unset, .unset, .unset, .unset, .unset, .unset, .unset, .unset, .unset, .unset, .unset] [(.int ((p2.toUInt64 >>> ((32 : Int32) &&& 0x3f).toInt64.toUInt64).toInt64).toInt32)]))
  rw [← qv1]
  refine own_st (S' := s₁.setTop (mkF m 11 #[.val (.int p0), .val (.int p1), .val (.long p2), .second, .val (.long p3), .second, .val (.int p4), .val (.int p5), .val (.int p2.toInt32), .val (.int v1), .unset, .unset, .unset, .unset, .unset, .unset, .unset, .unset, .unset, .unset, .unset, .unset, .unset, .unset, .unset, .unset] [])) (fun t k => XS.istore X0.here hx rfl (hb hby at_9) rfl (l' := #[.val (.int p0), .val (.int p1), .val (.long p2), .second, .val (.long p3), .second, .val (.int p4), .val (.int p5), .val (.int p2.toInt32), .val (.int v1), .unset, .unset, .unset, .unset, .unset, .unset, .unset, .unset, .unset, .unset, .unset, .unset, .unset, .unset, .unset, .unset]) rfl k) ?_
  refine own_st (S' := s₁.setTop (mkF m 13 #[.val (.int p0), .val (.int p1), .val (.long p2), .second, .val (.long p3), .second, .val (.int p4), .val (.int p5), .val (.int p2.toInt32), .val (.int v1), .unset, .unset, .unset, .unset, .unset, .unset, .unset, .unset, .unset, .unset, .unset, .unset, .unset, .unset, .unset, .unset] [(.long p3)])) (fun t k => XS.lload X0.here hx rfl (hb hby at_11) rfl k) ?_
  refine own_st (S' := s₁.setTop (mkF m 14 #[.val (.int p0), .val (.int p1), .val (.long p2), .second, .val (.long p3), .second, .val (.int p4), .val (.int p5), .val (.int p2.toInt32), .val (.int v1), .unset, .unset, .unset, .unset, .unset, .unset, .unset, .unset, .unset, .unset, .unset, .unset, .unset, .unset, .unset, .unset] [(.int p3.toInt32)])) (fun t k => XS.l2i X0.here hx rfl (hb hby at_13) rfl k) ?_
  refine own_st (S' := s₁.setTop (mkF m 16 #[.val (.int p0), .val (.int p1), .val (.long p2), .second, .val (.long p3), .second, .val (.int p4), .val (.int p5), .val (.int p2.toInt32), .val (.int v1), .val (.int p3.toInt32), .unset, .unset, .unset, .unset, .unset, .unset, .unset, .unset, .unset, .unset, .unset, .unset, .unset, .unset, .unset] [])) (fun t k => XS.istore X0.here hx rfl (hb hby at_14) rfl (l' := #[.val (.int p0), .val (.int p1), .val (.long p2), .second, .val (.long p3), .second, .val (.int p4), .val (.int p5), .val (.int p2.toInt32), .val (.int v1), .val (.int p3.toInt32), .unset, .unset, .unset, .unset, .unset, .unset, .unset, .unset, .unset, .unset, .unset, .unset, .unset, .unset, .unset]) rfl k) ?_
  refine own_st (S' := s₁.setTop (mkF m 18 #[.val (.int p0), .val (.int p1), .val (.long p2), .second, .val (.long p3), .second, .val (.int p4), .val (.int p5), .val (.int p2.toInt32), .val (.int v1), .val (.int p3.toInt32), .unset, .unset, .unset, .unset, .unset, .unset, .unset, .unset, .unset, .unset, .unset, .unset, .unset, .unset, .unset] [(.long p3)])) (fun t k => XS.lload X0.here hx rfl (hb hby at_16) rfl k) ?_
  refine own_st (S' := s₁.setTop (mkF m 20 #[.val (.int p0), .val (.int p1), .val (.long p2), .second, .val (.long p3), .second, .val (.int p4), .val (.int p5), .val (.int p2.toInt32), .val (.int v1), .val (.int p3.toInt32), .unset, .unset, .unset, .unset, .unset, .unset, .unset, .unset, .unset, .unset, .unset, .unset, .unset, .unset, .unset] [(.int (32 : Int32)), (.long p3)])) (fun t k => XS.bipush X0.here hx rfl (hb hby at_18) k) ?_
  refine own_st (S' := s₁.setTop (mkF m 21 #[.val (.int p0), .val (.int p1), .val (.long p2), .second, .val (.long p3), .second, .val (.int p4), .val (.int p5), .val (.int p2.toInt32), .val (.int v1), .val (.int p3.toInt32), .unset, .unset, .unset, .unset, .unset, .unset, .unset, .unset, .unset, .unset, .unset, .unset, .unset, .unset, .unset] [(.long ((p3.toUInt64 >>> ((32 : Int32) &&& 0x3f).toInt64.toUInt64).toInt64))])) (fun t k => XS.lushr X0.here hx rfl (hb hby at_20) rfl k) ?_
  refine own_st (S' := s₁.setTop (mkF m 22 #[.val (.int p0), .val (.int p1), .val (.long p2), .second, .val (.long p3), .second, .val (.int p4), .val (.int p5), .val (.int p2.toInt32), .val (.int v1), .val (.int p3.toInt32), .unset, .unset, .unset, .unset, .unset, .unset, .unset, .unset, .unset, .unset, .unset, .unset, .unset, .unset, .unset] [(.int ((p3.toUInt64 >>> ((32 : Int32) &&& 0x3f).toInt64.toUInt64).toInt64).toInt32)])) (fun t k => XS.l2i X0.here hx rfl (hb hby at_21) rfl k) ?_
  obtain ⟨v2, qv2⟩ : ∃ z : Int32, z = ((p3.toUInt64 >>> ((32 : Int32) &&& 0x3f).toInt64.toUInt64).toInt64).toInt32 := ⟨_, rfl⟩
  show own_Go p.tables e below _ (s₁.setTop (mkF m 22 #[.val (.int p0), .val (.int p1), .val (.long p2), .second, .val (.long p3), .second, .val (.int p4), .val (.int p5), .val (.int p2.toInt32), .val (.int v1), .val (.int p3.toInt32), .unset, .unset, .unset, .unset, .unset, .unset, .unset, .unset, .unset, .unset, .unset, .unset, .unset, .unset, .unset] [(.int ((p3.toUInt64 >>> ((32 : Int32) &&& 0x3f).toInt64.toUInt64).toInt64).toInt32)]))
  rw [← qv2]
  refine own_st (S' := s₁.setTop (mkF m 24 #[.val (.int p0), .val (.int p1), .val (.long p2), .second, .val (.long p3), .second, .val (.int p4), .val (.int p5), .val (.int p2.toInt32), .val (.int v1), .val (.int p3.toInt32), .val (.int v2), .unset, .unset, .unset, .unset, .unset, .unset, .unset, .unset, .unset, .unset, .unset, .unset, .unset, .unset] [])) (fun t k => XS.istore X0.here hx rfl (hb hby at_22) rfl (l' := #[.val (.int p0), .val (.int p1), .val (.long p2), .second, .val (.long p3), .second, .val (.int p4), .val (.int p5), .val (.int p2.toInt32), .val (.int v1), .val (.int p3.toInt32), .val (.int v2), .unset, .unset, .unset, .unset, .unset, .unset, .unset, .unset, .unset, .unset, .unset, .unset, .unset, .unset]) rfl k) ?_
  refine own_st (S' := s₁.setTop (mkF m 26 #[.val (.int p0), .val (.int p1), .val (.long p2), .second, .val (.long p3), .second, .val (.int p4), .val (.int p5), .val (.int p2.toInt32), .val (.int v1), .val (.int p3.toInt32), .val (.int v2), .unset, .unset, .unset, .unset, .unset, .unset, .unset, .unset, .unset, .unset, .unset, .unset, .unset, .unset] [(.int p4)])) (fun t k => XS.iload X0.here hx rfl (hb hby at_24) rfl k) ?_
  refine own_st (S' := s₁.setTop (mkF m 28 #[.val (.int p0), .val (.int p1), .val (.long p2), .second, .val (.long p3), .second, .val (.int p4), .val (.int p5), .val (.int p2.toInt32), .val (.int v1), .val (.int p3.toInt32), .val (.int v2), .val (.int p4), .unset, .unset, .unset, .unset, .unset, .unset, .unset, .unset, .unset, .unset, .unset, .unset, .unset] [])) (fun t k => XS.istore X0.here hx rfl (hb hby at_26) rfl (l' := #[.val (.int p0), .val (.int p1), .val (.long p2), .second, .val (.long p3), .second, .val (.int p4), .val (.int p5), .val (.int p2.toInt32), .val (.int v1), .val (.int p3.toInt32), .val (.int v2), .val (.int p4), .unset, .unset, .unset, .unset, .unset, .unset, .unset, .unset, .unset, .unset, .unset, .unset, .unset]) rfl k) ?_
  refine own_st (S' := s₁.setTop (mkF m 30 #[.val (.int p0), .val (.int p1), .val (.long p2), .second, .val (.long p3), .second, .val (.int p4), .val (.int p5), .val (.int p2.toInt32), .val (.int v1), .val (.int p3.toInt32), .val (.int v2), .val (.int p4), .unset, .unset, .unset, .unset, .unset, .unset, .unset, .unset, .unset, .unset, .unset, .unset, .unset] [(.int p5)])) (fun t k => XS.iload X0.here hx rfl (hb hby at_28) rfl k) ?_
  refine own_st (S' := s₁.setTop (mkF m 32 #[.val (.int p0), .val (.int p1), .val (.long p2), .second, .val (.long p3), .second, .val (.int p4), .val (.int p5), .val (.int p2.toInt32), .val (.int v1), .val (.int p3.toInt32), .val (.int v2), .val (.int p4), .val (.int p5), .unset, .unset, .unset, .unset, .unset, .unset, .unset, .unset, .unset, .unset, .unset, .unset] [])) (fun t k => XS.istore X0.here hx rfl (hb hby at_30) rfl (l' := #[.val (.int p0), .val (.int p1), .val (.long p2), .second, .val (.long p3), .second, .val (.int p4), .val (.int p5), .val (.int p2.toInt32), .val (.int v1), .val (.int p3.toInt32), .val (.int v2), .val (.int p4), .val (.int p5), .unset, .unset, .unset, .unset, .unset, .unset, .unset, .unset, .unset, .unset, .unset, .unset]) rfl k) ?_
  refine own_st (S' := s₁.setTop (mkF m 33 #[.val (.int p0), .val (.int p1), .val (.long p2), .second, .val (.long p3), .second, .val (.int p4), .val (.int p5), .val (.int p2.toInt32), .val (.int v1), .val (.int p3.toInt32), .val (.int v2), .val (.int p4), .val (.int p5), .unset, .unset, .unset, .unset, .unset, .unset, .unset, .unset, .unset, .unset, .unset, .unset] [(.int p0)])) (fun t k => XS.iloadN X0.here hx rfl (hb hby at_32) rfl k) ?_
  refine own_st (S' := s₁.setTop (mkF m 35 #[.val (.int p0), .val (.int p1), .val (.long p2), .second, .val (.long p3), .second, .val (.int p4), .val (.int p5), .val (.int p2.toInt32), .val (.int v1), .val (.int p3.toInt32), .val (.int v2), .val (.int p4), .val (.int p5), .unset, .unset, .unset, .unset, .unset, .unset, .unset, .unset, .unset, .unset, .unset, .unset] [(.int (2147483647 : Int32)), (.int p0)])) (fun t k => X0.ldcInt hx hown (mvT hZ (hw _ (List.mem_of_getElem? (i := 0) rfl))) (g := (mkF m 33 #[.val (.int p0), .val (.int p1), .val (.long p2), .second, .val (.long p3), .second, .val (.int p4), .val (.int p5), .val (.int p2.toInt32), .val (.int v1), .val (.int p3.toInt32), .val (.int v2), .val (.int p4), .val (.int p5), .unset, .unset, .unset, .unset, .unset, .unset, .unset, .unset, .unset, .unset, .unset, .unset] [(.int p0)])) rfl (hb hby at_33) _ k) ?_
  refine own_st (S' := s₁.setTop (mkF m 36 #[.val (.int p0), .val (.int p1), .val (.long p2), .second, .val (.long p3), .second, .val (.int p4), .val (.int p5), .val (.int p2.toInt32), .val (.int v1), .val (.int p3.toInt32), .val (.int v2), .val (.int p4), .val (.int p5), .unset, .unset, .unset, .unset, .unset, .unset, .unset, .unset, .unset, .unset, .unset, .unset] [(.int (p0 &&& (2147483647 : Int32)))])) (fun t k => XS.iand X0.here hx rfl (hb hby at_35) rfl k) ?_
  refine own_st (S' := s₁.setTop (mkF m 38 #[.val (.int p0), .val (.int p1), .val (.long p2), .second, .val (.long p3), .second, .val (.int p4), .val (.int p5), .val (.int p2.toInt32), .val (.int v1), .val (.int p3.toInt32), .val (.int v2), .val (.int p4), .val (.int p5), .unset, .unset, .unset, .unset, .unset, .unset, .unset, .unset, .unset, .unset, .unset, .unset] [(.int (6 : Int32)), (.int (p0 &&& (2147483647 : Int32)))])) (fun t k => XS.bipush X0.here hx rfl (hb hby at_36) k) ?_
  refine own_st (S' := s₁.setTop (mkF m 39 #[.val (.int p0), .val (.int p1), .val (.long p2), .second, .val (.long p3), .second, .val (.int p4), .val (.int p5), .val (.int p2.toInt32), .val (.int v1), .val (.int p3.toInt32), .val (.int v2), .val (.int p4), .val (.int p5), .unset, .unset, .unset, .unset, .unset, .unset, .unset, .unset, .unset, .unset, .unset, .unset] [(.int ((p0 &&& (2147483647 : Int32)) % (6 : Int32)))])) (fun t k => Jvm.RoadKit.iremM X0 hx rfl (hb hby at_38) rfl (by decide) k) ?_
  obtain ⟨v3, qv3⟩ : ∃ z : Int32, z = ((p0 &&& (2147483647 : Int32)) % (6 : Int32)) := ⟨_, rfl⟩
  show own_Go p.tables e below _ (s₁.setTop (mkF m 39 #[.val (.int p0), .val (.int p1), .val (.long p2), .second, .val (.long p3), .second, .val (.int p4), .val (.int p5), .val (.int p2.toInt32), .val (.int v1), .val (.int p3.toInt32), .val (.int v2), .val (.int p4), .val (.int p5), .unset, .unset, .unset, .unset, .unset, .unset, .unset, .unset, .unset, .unset, .unset, .unset] [(.int ((p0 &&& (2147483647 : Int32)) % (6 : Int32)))]))
  rw [← qv3]
  refine own_st (S' := s₁.setTop (mkF m 41 #[.val (.int p0), .val (.int p1), .val (.long p2), .second, .val (.long p3), .second, .val (.int p4), .val (.int p5), .val (.int p2.toInt32), .val (.int v1), .val (.int p3.toInt32), .val (.int v2), .val (.int p4), .val (.int p5), .val (.int v3), .unset, .unset, .unset, .unset, .unset, .unset, .unset, .unset, .unset, .unset, .unset] [])) (fun t k => XS.istore X0.here hx rfl (hb hby at_39) rfl (l' := #[.val (.int p0), .val (.int p1), .val (.long p2), .second, .val (.long p3), .second, .val (.int p4), .val (.int p5), .val (.int p2.toInt32), .val (.int v1), .val (.int p3.toInt32), .val (.int v2), .val (.int p4), .val (.int p5), .val (.int v3), .unset, .unset, .unset, .unset, .unset, .unset, .unset, .unset, .unset, .unset, .unset]) rfl k) ?_
  refine own_st (S' := s₁.setTop (mkF m 43 #[.val (.int p0), .val (.int p1), .val (.long p2), .second, .val (.long p3), .second, .val (.int p4), .val (.int p5), .val (.int p2.toInt32), .val (.int v1), .val (.int p3.toInt32), .val (.int v2), .val (.int p4), .val (.int p5), .val (.int v3), .unset, .unset, .unset, .unset, .unset, .unset, .unset, .unset, .unset, .unset, .unset] [(.int (6 : Int32))])) (fun t k => XS.bipush X0.here hx rfl (hb hby at_41) k) ?_
  obtain ⟨T4, h4, k4, X4, e4, E4, A4, B4, st4⟩ := newPE X0 hx hZ (hw _ (List.mem_of_getElem? (i := 1) rfl)) e0 (g := (mkF m 43 #[.val (.int p0), .val (.int p1), .val (.long p2), .second, .val (.long p3), .second, .val (.int p4), .val (.int p5), .val (.int p2.toInt32), .val (.int v1), .val (.int p3.toInt32), .val (.int v2), .val (.int p4), .val (.int p5), .val (.int v3), .unset, .unset, .unset, .unset, .unset, .unset, .unset, .unset, .unset, .unset, .unset] [(.int (6 : Int32))])) rfl (hb hby at_43) rfl (by decide) (cap := 6) (by decide) (by decide) (by decide) (by decide) (ad := "[I") (by decide)
  obtain ⟨b4, g4⟩ : ∃ z, z = h0.size := ⟨_, rfl⟩
  rw [← g4] at A4 st4 B4
  have G_b4 : n0 ≤ b4 := Nat.le_trans Z0 (Nat.le_of_eq g4.symm)
  have Z4 : n0 ≤ h4.size := Nat.le_trans Z0 E4.1
  have f5 : own_A Z h4 b4 .int 6 (fun _ => (.int (0 : Int32))) := own_A.new A4 (by first | rfl | decide | exact rfl)
  have f6 : own_A Z h4 b4 .int 6 (own_V [(.int (0 : Int32)), (.int (0 : Int32)), (.int (0 : Int32)), (.int (0 : Int32)), (.int (0 : Int32)), (.int (0 : Int32))]) := f5.cong (fun j hj => by match j, hj with | 0, _ => rfl | 1, _ => rfl | 2, _ => rfl | 3, _ => rfl | 4, _ => rfl | 5, _ => rfl | j + 6, h => exact absurd h (by omega))
  refine own_st st4 ?_
  show own_Go p.tables e below _ (T4.setTop (mkF m 45 #[.val (.int p0), .val (.int p1), .val (.long p2), .second, .val (.long p3), .second, .val (.int p4), .val (.int p5), .val (.int p2.toInt32), .val (.int v1), .val (.int p3.toInt32), .val (.int v2), .val (.int p4), .val (.int p5), .val (.int v3), .unset, .unset, .unset, .unset, .unset, .unset, .unset, .unset, .unset, .unset, .unset] [(.ref b4)]))
  refine own_st (S' := T4.setTop (mkF m 46 #[.val (.int p0), .val (.int p1), .val (.long p2), .second, .val (.long p3), .second, .val (.int p4), .val (.int p5), .val (.int p2.toInt32), .val (.int v1), .val (.int p3.toInt32), .val (.int v2), .val (.int p4), .val (.int p5), .val (.int v3), .unset, .unset, .unset, .unset, .unset, .unset, .unset, .unset, .unset, .unset, .unset] [(.ref b4), (.ref b4)])) (fun t k => XS.dup X4.here hx rfl (hb hby at_45) rfl rfl k) ?_
  refine own_st (S' := T4.setTop (mkF m 47 #[.val (.int p0), .val (.int p1), .val (.long p2), .second, .val (.long p3), .second, .val (.int p4), .val (.int p5), .val (.int p2.toInt32), .val (.int v1), .val (.int p3.toInt32), .val (.int v2), .val (.int p4), .val (.int p5), .val (.int v3), .unset, .unset, .unset, .unset, .unset, .unset, .unset, .unset, .unset, .unset, .unset] [(.int (0 : Int32)), (.ref b4), (.ref b4)])) (fun t k => XS.iconst X4.here hx rfl (hb hby at_46) k) ?_
  refine own_st (S' := T4.setTop (mkF m 49 #[.val (.int p0), .val (.int p1), .val (.long p2), .second, .val (.long p3), .second, .val (.int p4), .val (.int p5), .val (.int p2.toInt32), .val (.int v1), .val (.int p3.toInt32), .val (.int v2), .val (.int p4), .val (.int p5), .val (.int v3), .unset, .unset, .unset, .unset, .unset, .unset, .unset, .unset, .unset, .unset, .unset] [(.int p2.toInt32), (.int (0 : Int32)), (.ref b4), (.ref b4)])) (fun t k => XS.iload X4.here hx rfl (hb hby at_47) rfl k) ?_
  have O7 := f6
  obtain ⟨c7, Ar7, S7, M7, V7⟩ := O7
  obtain ⟨T7, h7, X7, e7, W7, st7⟩ := stI X4 hx hZ e4 Ar7 (j := (0 : Int32)) (own_in S7 (own_ix (j := (0 : Int32)) (i := 0) (n := 6) (by decide) (by decide) (by decide))) (g := (mkF m 49 #[.val (.int p0), .val (.int p1), .val (.long p2), .second, .val (.long p3), .second, .val (.int p4), .val (.int p5), .val (.int p2.toInt32), .val (.int v1), .val (.int p3.toInt32), .val (.int v2), .val (.int p4), .val (.int p5), .val (.int v3), .unset, .unset, .unset, .unset, .unset, .unset, .unset, .unset, .unset, .unset, .unset] [(.int p2.toInt32), (.int (0 : Int32)), (.ref b4), (.ref b4)])) rfl rfl (hb hby at_49)
  refine own_st st7 ?_
  have f8 : Exa Z h7 b4 "[I" := B4.wr W7
  have Z7 : n0 ≤ h7.size := Nat.le_trans Z4 (Keep.of_wr W7).1
  have N7 := Fr.snoc X7 N0 G_b4
  have f9 : own_A Z h7 b4 .int 6 (own_V [(.int p2.toInt32), (.int (0 : Int32)), (.int (0 : Int32)), (.int (0 : Int32)), (.int (0 : Int32)), (.int (0 : Int32))]) := (own_A.set ⟨c7, Ar7, S7, M7, V7⟩ (own_ix (j := (0 : Int32)) (i := 0) (n := 6) (by decide) (by decide) (by decide)) W7).cong (fun j hj => by match j, hj with | 0, _ => rfl | 1, _ => rfl | 2, _ => rfl | 3, _ => rfl | 4, _ => rfl | 5, _ => rfl | j + 6, h => exact absurd h (by omega))
  show own_Go p.tables e below _ (T7.setTop (mkF m 50 #[.val (.int p0), .val (.int p1), .val (.long p2), .second, .val (.long p3), .second, .val (.int p4), .val (.int p5), .val (.int p2.toInt32), .val (.int v1), .val (.int p3.toInt32), .val (.int v2), .val (.int p4), .val (.int p5), .val (.int v3), .unset, .unset, .unset, .unset, .unset, .unset, .unset, .unset, .unset, .unset, .unset] [(.ref b4)]))
  refine own_st (S' := T7.setTop (mkF m 51 #[.val (.int p0), .val (.int p1), .val (.long p2), .second, .val (.long p3), .second, .val (.int p4), .val (.int p5), .val (.int p2.toInt32), .val (.int v1), .val (.int p3.toInt32), .val (.int v2), .val (.int p4), .val (.int p5), .val (.int v3), .unset, .unset, .unset, .unset, .unset, .unset, .unset, .unset, .unset, .unset, .unset] [(.ref b4), (.ref b4)])) (fun t k => XS.dup X7.here hx rfl (hb hby at_50) rfl rfl k) ?_
  refine own_st (S' := T7.setTop (mkF m 52 #[.val (.int p0), .val (.int p1), .val (.long p2), .second, .val (.long p3), .second, .val (.int p4), .val (.int p5), .val (.int p2.toInt32), .val (.int v1), .val (.int p3.toInt32), .val (.int v2), .val (.int p4), .val (.int p5), .val (.int v3), .unset, .unset, .unset, .unset, .unset, .unset, .unset, .unset, .unset, .unset, .unset] [(.int (1 : Int32)), (.ref b4), (.ref b4)])) (fun t k => XS.iconst X7.here hx rfl (hb hby at_51) k) ?_
  refine own_st (S' := T7.setTop (mkF m 54 #[.val (.int p0), .val (.int p1), .val (.long p2), .second, .val (.long p3), .second, .val (.int p4), .val (.int p5), .val (.int p2.toInt32), .val (.int v1), .val (.int p3.toInt32), .val (.int v2), .val (.int p4), .val (.int p5), .val (.int v3), .unset, .unset, .unset, .unset, .unset, .unset, .unset, .unset, .unset, .unset, .unset] [(.int v1), (.int (1 : Int32)), (.ref b4), (.ref b4)])) (fun t k => XS.iload X7.here hx rfl (hb hby at_52) rfl k) ?_
  have O10 := f9
  obtain ⟨c10, Ar10, S10, M10, V10⟩ := O10
  obtain ⟨T10, h10, X10, e10, W10, st10⟩ := stI X7 hx hZ e7 Ar10 (j := (1 : Int32)) (own_in S10 (own_ix (j := (1 : Int32)) (i := 1) (n := 6) (by decide) (by decide) (by decide))) (g := (mkF m 54 #[.val (.int p0), .val (.int p1), .val (.long p2), .second, .val (.long p3), .second, .val (.int p4), .val (.int p5), .val (.int p2.toInt32), .val (.int v1), .val (.int p3.toInt32), .val (.int v2), .val (.int p4), .val (.int p5), .val (.int v3), .unset, .unset, .unset, .unset, .unset, .unset, .unset, .unset, .unset, .unset, .unset] [(.int v1), (.int (1 : Int32)), (.ref b4), (.ref b4)])) rfl rfl (hb hby at_54)
  refine own_st st10 ?_
  have f11 : Exa Z h10 b4 "[I" := f8.wr W10
  have Z10 : n0 ≤ h10.size := Nat.le_trans Z7 (Keep.of_wr W10).1
  have N10 := Fr.snoc X10 N7 G_b4
  have f12 : own_A Z h10 b4 .int 6 (own_V [(.int p2.toInt32), (.int v1), (.int (0 : Int32)), (.int (0 : Int32)), (.int (0 : Int32)), (.int (0 : Int32))]) := (own_A.set ⟨c10, Ar10, S10, M10, V10⟩ (own_ix (j := (1 : Int32)) (i := 1) (n := 6) (by decide) (by decide) (by decide)) W10).cong (fun j hj => by match j, hj with | 0, _ => rfl | 1, _ => rfl | 2, _ => rfl | 3, _ => rfl | 4, _ => rfl | 5, _ => rfl | j + 6, h => exact absurd h (by omega))
  show own_Go p.tables e below _ (T10.setTop (mkF m 55 #[.val (.int p0), .val (.int p1), .val (.long p2), .second, .val (.long p3), .second, .val (.int p4), .val (.int p5), .val (.int p2.toInt32), .val (.int v1), .val (.int p3.toInt32), .val (.int v2), .val (.int p4), .val (.int p5), .val (.int v3), .unset, .unset, .unset, .unset, .unset, .unset, .unset, .unset, .unset, .unset, .unset] [(.ref b4)]))
  refine own_st (S' := T10.setTop (mkF m 56 #[.val (.int p0), .val (.int p1), .val (.long p2), .second, .val (.long p3), .second, .val (.int p4), .val (.int p5), .val (.int p2.toInt32), .val (.int v1), .val (.int p3.toInt32), .val (.int v2), .val (.int p4), .val (.int p5), .val (.int v3), .unset, .unset, .unset, .unset, .unset, .unset, .unset, .unset, .unset, .unset, .unset] [(.ref b4), (.ref b4)])) (fun t k => XS.dup X10.here hx rfl (hb hby at_55) rfl rfl k) ?_
  refine own_st (S' := T10.setTop (mkF m 57 #[.val (.int p0), .val (.int p1), .val (.long p2), .second, .val (.long p3), .second, .val (.int p4), .val (.int p5), .val (.int p2.toInt32), .val (.int v1), .val (.int p3.toInt32), .val (.int v2), .val (.int p4), .val (.int p5), .val (.int v3), .unset, .unset, .unset, .unset, .unset, .unset, .unset, .unset, .unset, .unset, .unset] [(.int (2 : Int32)), (.ref b4), (.ref b4)])) (fun t k => XS.iconst X10.here hx rfl (hb hby at_56) k) ?_
  refine own_st (S' := T10.setTop (mkF m 59 #[.val (.int p0), .val (.int p1), .val (.long p2), .second, .val (.long p3), .second, .val (.int p4), .val (.int p5), .val (.int p2.toInt32), .val (.int v1), .val (.int p3.toInt32), .val (.int v2), .val (.int p4), .val (.int p5), .val (.int v3), .unset, .unset, .unset, .unset, .unset, .unset, .unset, .unset, .unset, .unset, .unset] [(.int p3.toInt32), (.int (2 : Int32)), (.ref b4), (.ref b4)])) (fun t k => XS.iload X10.here hx rfl (hb hby at_57) rfl k) ?_
  have O13 := f12
  obtain ⟨c13, Ar13, S13, M13, V13⟩ := O13
  obtain ⟨T13, h13, X13, e13, W13, st13⟩ := stI X10 hx hZ e10 Ar13 (j := (2 : Int32)) (own_in S13 (own_ix (j := (2 : Int32)) (i := 2) (n := 6) (by decide) (by decide) (by decide))) (g := (mkF m 59 #[.val (.int p0), .val (.int p1), .val (.long p2), .second, .val (.long p3), .second, .val (.int p4), .val (.int p5), .val (.int p2.toInt32), .val (.int v1), .val (.int p3.toInt32), .val (.int v2), .val (.int p4), .val (.int p5), .val (.int v3), .unset, .unset, .unset, .unset, .unset, .unset, .unset, .unset, .unset, .unset, .unset] [(.int p3.toInt32), (.int (2 : Int32)), (.ref b4), (.ref b4)])) rfl rfl (hb hby at_59)
  refine own_st st13 ?_
  have f14 : Exa Z h13 b4 "[I" := f11.wr W13
  have Z13 : n0 ≤ h13.size := Nat.le_trans Z10 (Keep.of_wr W13).1
  have N13 := Fr.snoc X13 N10 G_b4
  have f15 : own_A Z h13 b4 .int 6 (own_V [(.int p2.toInt32), (.int v1), (.int p3.toInt32), (.int (0 : Int32)), (.int (0 : Int32)), (.int (0 : Int32))]) := (own_A.set ⟨c13, Ar13, S13, M13, V13⟩ (own_ix (j := (2 : Int32)) (i := 2) (n := 6) (by decide) (by decide) (by decide)) W13).cong (fun j hj => by match j, hj with | 0, _ => rfl | 1, _ => rfl | 2, _ => rfl | 3, _ => rfl | 4, _ => rfl | 5, _ => rfl | j + 6, h => exact absurd h (by omega))
  show own_Go p.tables e below _ (T13.setTop (mkF m 60 #[.val (.int p0), .val (.int p1), .val (.long p2), .second, .val (.long p3), .second, .val (.int p4), .val (.int p5), .val (.int p2.toInt32), .val (.int v1), .val (.int p3.toInt32), .val (.int v2), .val (.int p4), .val (.int p5), .val (.int v3), .unset, .unset, .unset, .unset, .unset, .unset, .unset, .unset, .unset, .unset, .unset] [(.ref b4)]))
  refine own_st (S' := T13.setTop (mkF m 61 #[.val (.int p0), .val (.int p1), .val (.long p2), .second, .val (.long p3), .second, .val (.int p4), .val (.int p5), .val (.int p2.toInt32), .val (.int v1), .val (.int p3.toInt32), .val (.int v2), .val (.int p4), .val (.int p5), .val (.int v3), .unset, .unset, .unset, .unset, .unset, .unset, .unset, .unset, .unset, .unset, .unset] [(.ref b4), (.ref b4)])) (fun t k => XS.dup X13.here hx rfl (hb hby at_60) rfl rfl k) ?_
  refine own_st (S' := T13.setTop (mkF m 62 #[.val (.int p0), .val (.int p1), .val (.long p2), .second, .val (.long p3), .second, .val (.int p4), .val (.int p5), .val (.int p2.toInt32), .val (.int v1), .val (.int p3.toInt32), .val (.int v2), .val (.int p4), .val (.int p5), .val (.int v3), .unset, .unset, .unset, .unset, .unset, .unset, .unset, .unset, .unset, .unset, .unset] [(.int (3 : Int32)), (.ref b4), (.ref b4)])) (fun t k => XS.iconst X13.here hx rfl (hb hby at_61) k) ?_
  refine own_st (S' := T13.setTop (mkF m 64 #[.val (.int p0), .val (.int p1), .val (.long p2), .second, .val (.long p3), .second, .val (.int p4), .val (.int p5), .val (.int p2.toInt32), .val (.int v1), .val (.int p3.toInt32), .val (.int v2), .val (.int p4), .val (.int p5), .val (.int v3), .unset, .unset, .unset, .unset, .unset, .unset, .unset, .unset, .unset, .unset, .unset] [(.int v2), (.int (3 : Int32)), (.ref b4), (.ref b4)])) (fun t k => XS.iload X13.here hx rfl (hb hby at_62) rfl k) ?_
  have O16 := f15
  obtain ⟨c16, Ar16, S16, M16, V16⟩ := O16
  obtain ⟨T16, h16, X16, e16, W16, st16⟩ := stI X13 hx hZ e13 Ar16 (j := (3 : Int32)) (own_in S16 (own_ix (j := (3 : Int32)) (i := 3) (n := 6) (by decide) (by decide) (by decide))) (g := (mkF m 64 #[.val (.int p0), .val (.int p1), .val (.long p2), .second, .val (.long p3), .second, .val (.int p4), .val (.int p5), .val (.int p2.toInt32), .val (.int v1), .val (.int p3.toInt32), .val (.int v2), .val (.int p4), .val (.int p5), .val (.int v3), .unset, .unset, .unset, .unset, .unset, .unset, .unset, .unset, .unset, .unset, .unset] [(.int v2), (.int (3 : Int32)), (.ref b4), (.ref b4)])) rfl rfl (hb hby at_64)
  refine own_st st16 ?_
  have f17 : Exa Z h16 b4 "[I" := f14.wr W16
  have Z16 : n0 ≤ h16.size := Nat.le_trans Z13 (Keep.of_wr W16).1
  have N16 := Fr.snoc X16 N13 G_b4
  have f18 : own_A Z h16 b4 .int 6 (own_V [(.int p2.toInt32), (.int v1), (.int p3.toInt32), (.int v2), (.int (0 : Int32)), (.int (0 : Int32))]) := (own_A.set ⟨c16, Ar16, S16, M16, V16⟩ (own_ix (j := (3 : Int32)) (i := 3) (n := 6) (by decide) (by decide) (by decide)) W16).cong (fun j hj => by match j, hj with | 0, _ => rfl | 1, _ => rfl | 2, _ => rfl | 3, _ => rfl | 4, _ => rfl | 5, _ => rfl | j + 6, h => exact absurd h (by omega))
  show own_Go p.tables e below _ (T16.setTop (mkF m 65 #[.val (.int p0), .val (.int p1), .val (.long p2), .second, .val (.long p3), .second, .val (.int p4), .val (.int p5), .val (.int p2.toInt32), .val (.int v1), .val (.int p3.toInt32), .val (.int v2), .val (.int p4), .val (.int p5), .val (.int v3), .unset, .unset, .unset, .unset, .unset, .unset, .unset, .unset, .unset, .unset, .unset] [(.ref b4)]))
  refine own_st (S' := T16.setTop (mkF m 66 #[.val (.int p0), .val (.int p1), .val (.long p2), .second, .val (.long p3), .second, .val (.int p4), .val (.int p5), .val (.int p2.toInt32), .val (.int v1), .val (.int p3.toInt32), .val (.int v2), .val (.int p4), .val (.int p5), .val (.int v3), .unset, .unset, .unset, .unset, .unset, .unset, .unset, .unset, .unset, .unset, .unset] [(.ref b4), (.ref b4)])) (fun t k => XS.dup X16.here hx rfl (hb hby at_65) rfl rfl k) ?_
  refine own_st (S' := T16.setTop (mkF m 67 #[.val (.int p0), .val (.int p1), .val (.long p2), .second, .val (.long p3), .second, .val (.int p4), .val (.int p5), .val (.int p2.toInt32), .val (.int v1), .val (.int p3.toInt32), .val (.int v2), .val (.int p4), .val (.int p5), .val (.int v3), .unset, .unset, .unset, .unset, .unset, .unset, .unset, .unset, .unset, .unset, .unset] [(.int (4 : Int32)), (.ref b4), (.ref b4)])) (fun t k => XS.iconst X16.here hx rfl (hb hby at_66) k) ?_
  refine own_st (S' := T16.setTop (mkF m 69 #[.val (.int p0), .val (.int p1), .val (.long p2), .second, .val (.long p3), .second, .val (.int p4), .val (.int p5), .val (.int p2.toInt32), .val (.int v1), .val (.int p3.toInt32), .val (.int v2), .val (.int p4), .val (.int p5), .val (.int v3), .unset, .unset, .unset, .unset, .unset, .unset, .unset, .unset, .unset, .unset, .unset] [(.int p4), (.int (4 : Int32)), (.ref b4), (.ref b4)])) (fun t k => XS.iload X16.here hx rfl (hb hby at_67) rfl k) ?_
  have O19 := f18
  obtain ⟨c19, Ar19, S19, M19, V19⟩ := O19
  obtain ⟨T19, h19, X19, e19, W19, st19⟩ := stI X16 hx hZ e16 Ar19 (j := (4 : Int32)) (own_in S19 (own_ix (j := (4 : Int32)) (i := 4) (n := 6) (by decide) (by decide) (by decide))) (g := (mkF m 69 #[.val (.int p0), .val (.int p1), .val (.long p2), .second, .val (.long p3), .second, .val (.int p4), .val (.int p5), .val (.int p2.toInt32), .val (.int v1), .val (.int p3.toInt32), .val (.int v2), .val (.int p4), .val (.int p5), .val (.int v3), .unset, .unset, .unset, .unset, .unset, .unset, .unset, .unset, .unset, .unset, .unset] [(.int p4), (.int (4 : Int32)), (.ref b4), (.ref b4)])) rfl rfl (hb hby at_69)
  refine own_st st19 ?_
  have f20 : Exa Z h19 b4 "[I" := f17.wr W19
  have Z19 : n0 ≤ h19.size := Nat.le_trans Z16 (Keep.of_wr W19).1
  have N19 := Fr.snoc X19 N16 G_b4
  have f21 : own_A Z h19 b4 .int 6 (own_V [(.int p2.toInt32), (.int v1), (.int p3.toInt32), (.int v2), (.int p4), (.int (0 : Int32))]) := (own_A.set ⟨c19, Ar19, S19, M19, V19⟩ (own_ix (j := (4 : Int32)) (i := 4) (n := 6) (by decide) (by decide) (by decide)) W19).cong (fun j hj => by match j, hj with | 0, _ => rfl | 1, _ => rfl | 2, _ => rfl | 3, _ => rfl | 4, _ => rfl | 5, _ => rfl | j + 6, h => exact absurd h (by omega))
  show own_Go p.tables e below _ (T19.setTop (mkF m 70 #[.val (.int p0), .val (.int p1), .val (.long p2), .second, .val (.long p3), .second, .val (.int p4), .val (.int p5), .val (.int p2.toInt32), .val (.int v1), .val (.int p3.toInt32), .val (.int v2), .val (.int p4), .val (.int p5), .val (.int v3), .unset, .unset, .unset, .unset, .unset, .unset, .unset, .unset, .unset, .unset, .unset] [(.ref b4)]))
  refine own_st (S' := T19.setTop (mkF m 71 #[.val (.int p0), .val (.int p1), .val (.long p2), .second, .val (.long p3), .second, .val (.int p4), .val (.int p5), .val (.int p2.toInt32), .val (.int v1), .val (.int p3.toInt32), .val (.int v2), .val (.int p4), .val (.int p5), .val (.int v3), .unset, .unset, .unset, .unset, .unset, .unset, .unset, .unset, .unset, .unset, .unset] [(.ref b4), (.ref b4)])) (fun t k => XS.dup X19.here hx rfl (hb hby at_70) rfl rfl k) ?_
  refine own_st (S' := T19.setTop (mkF m 72 #[.val (.int p0), .val (.int p1), .val (.long p2), .second, .val (.long p3), .second, .val (.int p4), .val (.int p5), .val (.int p2.toInt32), .val (.int v1), .val (.int p3.toInt32), .val (.int v2), .val (.int p4), .val (.int p5), .val (.int v3), .unset, .unset, .unset, .unset, .unset, .unset, .unset, .unset, .unset, .unset, .unset] [(.int (5 : Int32)), (.ref b4), (.ref b4)])) (fun t k => XS.iconst X19.here hx rfl (hb hby at_71) k) ?_
  refine own_st (S' := T19.setTop (mkF m 74 #[.val (.int p0), .val (.int p1), .val (.long p2), .second, .val (.long p3), .second, .val (.int p4), .val (.int p5), .val (.int p2.toInt32), .val (.int v1), .val (.int p3.toInt32), .val (.int v2), .val (.int p4), .val (.int p5), .val (.int v3), .unset, .unset, .unset, .unset, .unset, .unset, .unset, .unset, .unset, .unset, .unset] [(.int p5), (.int (5 : Int32)), (.ref b4), (.ref b4)])) (fun t k => XS.iload X19.here hx rfl (hb hby at_72) rfl k) ?_
  have O22 := f21
  obtain ⟨c22, Ar22, S22, M22, V22⟩ := O22
  obtain ⟨T22, h22, X22, e22, W22, st22⟩ := stI X19 hx hZ e19 Ar22 (j := (5 : Int32)) (own_in S22 (own_ix (j := (5 : Int32)) (i := 5) (n := 6) (by decide) (by decide) (by decide))) (g := (mkF m 74 #[.val (.int p0), .val (.int p1), .val (.long p2), .second, .val (.long p3), .second, .val (.int p4), .val (.int p5), .val (.int p2.toInt32), .val (.int v1), .val (.int p3.toInt32), .val (.int v2), .val (.int p4), .val (.int p5), .val (.int v3), .unset, .unset, .unset, .unset, .unset, .unset, .unset, .unset, .unset, .unset, .unset] [(.int p5), (.int (5 : Int32)), (.ref b4), (.ref b4)])) rfl rfl (hb hby at_74)
  refine own_st st22 ?_
  have f23 : Exa Z h22 b4 "[I" := f20.wr W22
  have Z22 : n0 ≤ h22.size := Nat.le_trans Z19 (Keep.of_wr W22).1
  have N22 := Fr.snoc X22 N19 G_b4
  have f24 : own_A Z h22 b4 .int 6 (own_V [(.int p2.toInt32), (.int v1), (.int p3.toInt32), (.int v2), (.int p4), (.int p5)]) := (own_A.set ⟨c22, Ar22, S22, M22, V22⟩ (own_ix (j := (5 : Int32)) (i := 5) (n := 6) (by decide) (by decide) (by decide)) W22).cong (fun j hj => by match j, hj with | 0, _ => rfl | 1, _ => rfl | 2, _ => rfl | 3, _ => rfl | 4, _ => rfl | 5, _ => rfl | j + 6, h => exact absurd h (by omega))
  show own_Go p.tables e below _ (T22.setTop (mkF m 75 #[.val (.int p0), .val (.int p1), .val (.long p2), .second, .val (.long p3), .second, .val (.int p4), .val (.int p5), .val (.int p2.toInt32), .val (.int v1), .val (.int p3.toInt32), .val (.int v2), .val (.int p4), .val (.int p5), .val (.int v3), .unset, .unset, .unset, .unset, .unset, .unset, .unset, .unset, .unset, .unset, .unset] [(.ref b4)]))
  refine own_st (S' := T22.setTop (mkF m 77 #[.val (.int p0), .val (.int p1), .val (.long p2), .second, .val (.long p3), .second, .val (.int p4), .val (.int p5), .val (.int p2.toInt32), .val (.int v1), .val (.int p3.toInt32), .val (.int v2), .val (.int p4), .val (.int p5), .val (.int v3), .val (.ref b4), .unset, .unset, .unset, .unset, .unset, .unset, .unset, .unset, .unset, .unset] [])) (fun t k => XS.astore X22.here hx rfl (hb hby at_75) rfl rfl (l' := #[.val (.int p0), .val (.int p1), .val (.long p2), .second, .val (.long p3), .second, .val (.int p4), .val (.int p5), .val (.int p2.toInt32), .val (.int v1), .val (.int p3.toInt32), .val (.int v2), .val (.int p4), .val (.int p5), .val (.int v3), .val (.ref b4), .unset, .unset, .unset, .unset, .unset, .unset, .unset, .unset, .unset, .unset]) rfl k) ?_
  refine own_st (S' := T22.setTop (mkF m 79 #[.val (.int p0), .val (.int p1), .val (.long p2), .second, .val (.long p3), .second, .val (.int p4), .val (.int p5), .val (.int p2.toInt32), .val (.int v1), .val (.int p3.toInt32), .val (.int v2), .val (.int p4), .val (.int p5), .val (.int v3), .val (.ref b4), .unset, .unset, .unset, .unset, .unset, .unset, .unset, .unset, .unset, .unset] [(.int (6 : Int32))])) (fun t k => XS.bipush X22.here hx rfl (hb hby at_77) k) ?_
  obtain ⟨T25, h25, k25, X25, e25, E25, A25, B25, st25⟩ := newPE X22 hx hZ (hw _ (List.mem_of_getElem? (i := 1) rfl)) e22 (g := (mkF m 79 #[.val (.int p0), .val (.int p1), .val (.long p2), .second, .val (.long p3), .second, .val (.int p4), .val (.int p5), .val (.int p2.toInt32), .val (.int v1), .val (.int p3.toInt32), .val (.int v2), .val (.int p4), .val (.int p5), .val (.int v3), .val (.ref b4), .unset, .unset, .unset, .unset, .unset, .unset, .unset, .unset, .unset, .unset] [(.int (6 : Int32))])) rfl (hb hby at_79) rfl (by decide) (cap := 6) (by decide) (by decide) (by decide) (by decide) (ad := "[I") (by decide)
  obtain ⟨b25, g25⟩ : ∃ z, z = h22.size := ⟨_, rfl⟩
  rw [← g25] at A25 st25 B25
  have G_b25 : n0 ≤ b25 := Nat.le_trans Z22 (Nat.le_of_eq g25.symm)
  have ne_b4_b25 : b4 ≠ b25 := Nat.ne_of_lt (Nat.lt_of_lt_of_le f24.lt (Nat.le_of_eq g25.symm))
  have f26 : own_A Z h25 b4 .int 6 (own_V [(.int p2.toInt32), (.int v1), (.int p3.toInt32), (.int v2), (.int p4), (.int p5)]) := f24.ext E25
  have f27 : Exa Z h25 b4 "[I" := f23.ext E25
  have Z25 : n0 ≤ h25.size := Nat.le_trans Z22 E25.1
  have f28 : own_A Z h25 b25 .int 6 (fun _ => (.int (0 : Int32))) := own_A.new A25 (by first | rfl | decide | exact rfl)
  have f29 : own_A Z h25 b25 .int 6 (own_V [(.int (0 : Int32)), (.int (0 : Int32)), (.int (0 : Int32)), (.int (0 : Int32)), (.int (0 : Int32)), (.int (0 : Int32))]) := f28.cong (fun j hj => by match j, hj with | 0, _ => rfl | 1, _ => rfl | 2, _ => rfl | 3, _ => rfl | 4, _ => rfl | 5, _ => rfl | j + 6, h => exact absurd h (by omega))
  refine own_st st25 ?_
  show own_Go p.tables e below _ (T25.setTop (mkF m 81 #[.val (.int p0), .val (.int p1), .val (.long p2), .second, .val (.long p3), .second, .val (.int p4), .val (.int p5), .val (.int p2.toInt32), .val (.int v1), .val (.int p3.toInt32), .val (.int v2), .val (.int p4), .val (.int p5), .val (.int v3), .val (.ref b4), .unset, .unset, .unset, .unset, .unset, .unset, .unset, .unset, .unset, .unset] [(.ref b25)]))
  refine own_st (S' := T25.setTop (mkF m 82 #[.val (.int p0), .val (.int p1), .val (.long p2), .second, .val (.long p3), .second, .val (.int p4), .val (.int p5), .val (.int p2.toInt32), .val (.int v1), .val (.int p3.toInt32), .val (.int v2), .val (.int p4), .val (.int p5), .val (.int v3), .val (.ref b4), .unset, .unset, .unset, .unset, .unset, .unset, .unset, .unset, .unset, .unset] [(.ref b25), (.ref b25)])) (fun t k => XS.dup X25.here hx rfl (hb hby at_81) rfl rfl k) ?_
  refine own_st (S' := T25.setTop (mkF m 83 #[.val (.int p0), .val (.int p1), .val (.long p2), .second, .val (.long p3), .second, .val (.int p4), .val (.int p5), .val (.int p2.toInt32), .val (.int v1), .val (.int p3.toInt32), .val (.int v2), .val (.int p4), .val (.int p5), .val (.int v3), .val (.ref b4), .unset, .unset, .unset, .unset, .unset, .unset, .unset, .unset, .unset, .unset] [(.int (0 : Int32)), (.ref b25), (.ref b25)])) (fun t k => XS.iconst X25.here hx rfl (hb hby at_82) k) ?_
  refine own_st (S' := T25.setTop (mkF m 85 #[.val (.int p0), .val (.int p1), .val (.long p2), .second, .val (.long p3), .second, .val (.int p4), .val (.int p5), .val (.int p2.toInt32), .val (.int v1), .val (.int p3.toInt32), .val (.int v2), .val (.int p4), .val (.int p5), .val (.int v3), .val (.ref b4), .unset, .unset, .unset, .unset, .unset, .unset, .unset, .unset, .unset, .unset] [(.int p2.toInt32), (.int (0 : Int32)), (.ref b25), (.ref b25)])) (fun t k => XS.iload X25.here hx rfl (hb hby at_83) rfl k) ?_
  have O30 := f29
  obtain ⟨c30, Ar30, S30, M30, V30⟩ := O30
  obtain ⟨T30, h30, X30, e30, W30, st30⟩ := stI X25 hx hZ e25 Ar30 (j := (0 : Int32)) (own_in S30 (own_ix (j := (0 : Int32)) (i := 0) (n := 6) (by decide) (by decide) (by decide))) (g := (mkF m 85 #[.val (.int p0), .val (.int p1), .val (.long p2), .second, .val (.long p3), .second, .val (.int p4), .val (.int p5), .val (.int p2.toInt32), .val (.int v1), .val (.int p3.toInt32), .val (.int v2), .val (.int p4), .val (.int p5), .val (.int v3), .val (.ref b4), .unset, .unset, .unset, .unset, .unset, .unset, .unset, .unset, .unset, .unset] [(.int p2.toInt32), (.int (0 : Int32)), (.ref b25), (.ref b25)])) rfl rfl (hb hby at_85)
  refine own_st st30 ?_
  have f31 : own_A Z h30 b4 .int 6 (own_V [(.int p2.toInt32), (.int v1), (.int p3.toInt32), (.int v2), (.int p4), (.int p5)]) := f26.other W30 ne_b4_b25
  have f32 : Exa Z h30 b4 "[I" := f27.wr W30
  have f33 : Exa Z h30 b25 "[I" := B25.wr W30
  have Z30 : n0 ≤ h30.size := Nat.le_trans Z25 (Keep.of_wr W30).1
  have N30 := Fr.snoc X30 N22 G_b25
  have f34 : own_A Z h30 b25 .int 6 (own_V [(.int p2.toInt32), (.int (0 : Int32)), (.int (0 : Int32)), (.int (0 : Int32)), (.int (0 : Int32)), (.int (0 : Int32))]) := (own_A.set ⟨c30, Ar30, S30, M30, V30⟩ (own_ix (j := (0 : Int32)) (i := 0) (n := 6) (by decide) (by decide) (by decide)) W30).cong (fun j hj => by match j, hj with | 0, _ => rfl | 1, _ => rfl | 2, _ => rfl | 3, _ => rfl | 4, _ => rfl | 5, _ => rfl | j + 6, h => exact absurd h (by omega))
  show own_Go p.tables e below _ (T30.setTop (mkF m 86 #[.val (.int p0), .val (.int p1), .val (.long p2), .second, .val (.long p3), .second, .val (.int p4), .val (.int p5), .val (.int p2.toInt32), .val (.int v1), .val (.int p3.toInt32), .val (.int v2), .val (.int p4), .val (.int p5), .val (.int v3), .val (.ref b4), .unset, .unset, .unset, .unset, .unset, .unset, .unset, .unset, .unset, .unset] [(.ref b25)]))
  refine own_st (S' := T30.setTop (mkF m 87 #[.val (.int p0), .val (.int p1), .val (.long p2), .second, .val (.long p3), .second, .val (.int p4), .val (.int p5), .val (.int p2.toInt32), .val (.int v1), .val (.int p3.toInt32), .val (.int v2), .val (.int p4), .val (.int p5), .val (.int v3), .val (.ref b4), .unset, .unset, .unset, .unset, .unset, .unset, .unset, .unset, .unset, .unset] [(.ref b25), (.ref b25)])) (fun t k => XS.dup X30.here hx rfl (hb hby at_86) rfl rfl k) ?_
  refine own_st (S' := T30.setTop (mkF m 88 #[.val (.int p0), .val (.int p1), .val (.long p2), .second, .val (.long p3), .second, .val (.int p4), .val (.int p5), .val (.int p2.toInt32), .val (.int v1), .val (.int p3.toInt32), .val (.int v2), .val (.int p4), .val (.int p5), .val (.int v3), .val (.ref b4), .unset, .unset, .unset, .unset, .unset, .unset, .unset, .unset, .unset, .unset] [(.int (1 : Int32)), (.ref b25), (.ref b25)])) (fun t k => XS.iconst X30.here hx rfl (hb hby at_87) k) ?_
  refine own_st (S' := T30.setTop (mkF m 90 #[.val (.int p0), .val (.int p1), .val (.long p2), .second, .val (.long p3), .second, .val (.int p4), .val (.int p5), .val (.int p2.toInt32), .val (.int v1), .val (.int p3.toInt32), .val (.int v2), .val (.int p4), .val (.int p5), .val (.int v3), .val (.ref b4), .unset, .unset, .unset, .unset, .unset, .unset, .unset, .unset, .unset, .unset] [(.int v1), (.int (1 : Int32)), (.ref b25), (.ref b25)])) (fun t k => XS.iload X30.here hx rfl (hb hby at_88) rfl k) ?_
  have O35 := f34
  obtain ⟨c35, Ar35, S35, M35, V35⟩ := O35
  obtain ⟨T35, h35, X35, e35, W35, st35⟩ := stI X30 hx hZ e30 Ar35 (j := (1 : Int32)) (own_in S35 (own_ix (j := (1 : Int32)) (i := 1) (n := 6) (by decide) (by decide) (by decide))) (g := (mkF m 90 #[.val (.int p0), .val (.int p1), .val (.long p2), .second, .val (.long p3), .second, .val (.int p4), .val (.int p5), .val (.int p2.toInt32), .val (.int v1), .val (.int p3.toInt32), .val (.int v2), .val (.int p4), .val (.int p5), .val (.int v3), .val (.ref b4), .unset, .unset, .unset, .unset, .unset, .unset, .unset, .unset, .unset, .unset] [(.int v1), (.int (1 : Int32)), (.ref b25), (.ref b25)])) rfl rfl (hb hby at_90)
  refine own_st st35 ?_
  have f36 : own_A Z h35 b4 .int 6 (own_V [(.int p2.toInt32), (.int v1), (.int p3.toInt32), (.int v2), (.int p4), (.int p5)]) := f31.other W35 ne_b4_b25
  have f37 : Exa Z h35 b4 "[I" := f32.wr W35
  have f38 : Exa Z h35 b25 "[I" := f33.wr W35
  have Z35 : n0 ≤ h35.size := Nat.le_trans Z30 (Keep.of_wr W35).1
  have N35 := Fr.snoc X35 N30 G_b25
  have f39 : own_A Z h35 b25 .int 6 (own_V [(.int p2.toInt32), (.int v1), (.int (0 : Int32)), (.int (0 : Int32)), (.int (0 : Int32)), (.int (0 : Int32))]) := (own_A.set ⟨c35, Ar35, S35, M35, V35⟩ (own_ix (j := (1 : Int32)) (i := 1) (n := 6) (by decide) (by decide) (by decide)) W35).cong (fun j hj => by match j, hj with | 0, _ => rfl | 1, _ => rfl | 2, _ => rfl | 3, _ => rfl | 4, _ => rfl | 5, _ => rfl | j + 6, h => exact absurd h (by omega))
  show own_Go p.tables e below _ (T35.setTop (mkF m 91 #[.val (.int p0), .val (.int p1), .val (.long p2), .second, .val (.long p3), .second, .val (.int p4), .val (.int p5), .val (.int p2.toInt32), .val (.int v1), .val (.int p3.toInt32), .val (.int v2), .val (.int p4), .val (.int p5), .val (.int v3), .val (.ref b4), .unset, .unset, .unset, .unset, .unset, .unset, .unset, .unset, .unset, .unset] [(.ref b25)]))
  refine own_st (S' := T35.setTop (mkF m 92 #[.val (.int p0), .val (.int p1), .val (.long p2), .second, .val (.long p3), .second, .val (.int p4), .val (.int p5), .val (.int p2.toInt32), .val (.int v1), .val (.int p3.toInt32), .val (.int v2), .val (.int p4), .val (.int p5), .val (.int v3), .val (.ref b4), .unset, .unset, .unset, .unset, .unset, .unset, .unset, .unset, .unset, .unset] [(.ref b25), (.ref b25)])) (fun t k => XS.dup X35.here hx rfl (hb hby at_91) rfl rfl k) ?_
  refine own_st (S' := T35.setTop (mkF m 93 #[.val (.int p0), .val (.int p1), .val (.long p2), .second, .val (.long p3), .second, .val (.int p4), .val (.int p5), .val (.int p2.toInt32), .val (.int v1), .val (.int p3.toInt32), .val (.int v2), .val (.int p4), .val (.int p5), .val (.int v3), .val (.ref b4), .unset, .unset, .unset, .unset, .unset, .unset, .unset, .unset, .unset, .unset] [(.int (2 : Int32)), (.ref b25), (.ref b25)])) (fun t k => XS.iconst X35.here hx rfl (hb hby at_92) k) ?_
  refine own_st (S' := T35.setTop (mkF m 95 #[.val (.int p0), .val (.int p1), .val (.long p2), .second, .val (.long p3), .second, .val (.int p4), .val (.int p5), .val (.int p2.toInt32), .val (.int v1), .val (.int p3.toInt32), .val (.int v2), .val (.int p4), .val (.int p5), .val (.int v3), .val (.ref b4), .unset, .unset, .unset, .unset, .unset, .unset, .unset, .unset, .unset, .unset] [(.int p3.toInt32), (.int (2 : Int32)), (.ref b25), (.ref b25)])) (fun t k => XS.iload X35.here hx rfl (hb hby at_93) rfl k) ?_
  have O40 := f39
  obtain ⟨c40, Ar40, S40, M40, V40⟩ := O40
  obtain ⟨T40, h40, X40, e40, W40, st40⟩ := stI X35 hx hZ e35 Ar40 (j := (2 : Int32)) (own_in S40 (own_ix (j := (2 : Int32)) (i := 2) (n := 6) (by decide) (by decide) (by decide))) (g := (mkF m 95 #[.val (.int p0), .val (.int p1), .val (.long p2), .second, .val (.long p3), .second, .val (.int p4), .val (.int p5), .val (.int p2.toInt32), .val (.int v1), .val (.int p3.toInt32), .val (.int v2), .val (.int p4), .val (.int p5), .val (.int v3), .val (.ref b4), .unset, .unset, .unset, .unset, .unset, .unset, .unset, .unset, .unset, .unset] [(.int p3.toInt32), (.int (2 : Int32)), (.ref b25), (.ref b25)])) rfl rfl (hb hby at_95)
  refine own_st st40 ?_
  have f41 : own_A Z h40 b4 .int 6 (own_V [(.int p2.toInt32), (.int v1), (.int p3.toInt32), (.int v2), (.int p4), (.int p5)]) := f36.other W40 ne_b4_b25
  have f42 : Exa Z h40 b4 "[I" := f37.wr W40
  have f43 : Exa Z h40 b25 "[I" := f38.wr W40
  have Z40 : n0 ≤ h40.size := Nat.le_trans Z35 (Keep.of_wr W40).1
  have N40 := Fr.snoc X40 N35 G_b25
  have f44 : own_A Z h40 b25 .int 6 (own_V [(.int p2.toInt32), (.int v1), (.int p3.toInt32), (.int (0 : Int32)), (.int (0 : Int32)), (.int (0 : Int32))]) := (own_A.set ⟨c40, Ar40, S40, M40, V40⟩ (own_ix (j := (2 : Int32)) (i := 2) (n := 6) (by decide) (by decide) (by decide)) W40).cong (fun j hj => by match j, hj with | 0, _ => rfl | 1, _ => rfl | 2, _ => rfl | 3, _ => rfl | 4, _ => rfl | 5, _ => rfl | j + 6, h => exact absurd h (by omega))
  show own_Go p.tables e below _ (T40.setTop (mkF m 96 #[.val (.int p0), .val (.int p1), .val (.long p2), .second, .val (.long p3), .second, .val (.int p4), .val (.int p5), .val (.int p2.toInt32), .val (.int v1), .val (.int p3.toInt32), .val (.int v2), .val (.int p4), .val (.int p5), .val (.int v3), .val (.ref b4), .unset, .unset, .unset, .unset, .unset, .unset, .unset, .unset, .unset, .unset] [(.ref b25)]))
  refine own_st (S' := T40.setTop (mkF m 97 #[.val (.int p0), .val (.int p1), .val (.long p2), .second, .val (.long p3), .second, .val (.int p4), .val (.int p5), .val (.int p2.toInt32), .val (.int v1), .val (.int p3.toInt32), .val (.int v2), .val (.int p4), .val (.int p5), .val (.int v3), .val (.ref b4), .unset, .unset, .unset, .unset, .unset, .unset, .unset, .unset, .unset, .unset] [(.ref b25), (.ref b25)])) (fun t k => XS.dup X40.here hx rfl (hb hby at_96) rfl rfl k) ?_
  refine own_st (S' := T40.setTop (mkF m 98 #[.val (.int p0), .val (.int p1), .val (.long p2), .second, .val (.long p3), .second, .val (.int p4), .val (.int p5), .val (.int p2.toInt32), .val (.int v1), .val (.int p3.toInt32), .val (.int v2), .val (.int p4), .val (.int p5), .val (.int v3), .val (.ref b4), .unset, .unset, .unset, .unset, .unset, .unset, .unset, .unset, .unset, .unset] [(.int (3 : Int32)), (.ref b25), (.ref b25)])) (fun t k => XS.iconst X40.here hx rfl (hb hby at_97) k) ?_
  refine own_st (S' := T40.setTop (mkF m 100 #[.val (.int p0), .val (.int p1), .val (.long p2), .second, .val (.long p3), .second, .val (.int p4), .val (.int p5), .val (.int p2.toInt32), .val (.int v1), .val (.int p3.toInt32), .val (.int v2), .val (.int p4), .val (.int p5), .val (.int v3), .val (.ref b4), .unset, .unset, .unset, .unset, .unset, .unset, .unset, .unset, .unset, .unset] [(.int v2), (.int (3 : Int32)), (.ref b25), (.ref b25)])) (fun t k => XS.iload X40.here hx rfl (hb hby at_98) rfl k) ?_
  have O45 := f44
  obtain ⟨c45, Ar45, S45, M45, V45⟩ := O45
  obtain ⟨T45, h45, X45, e45, W45, st45⟩ := stI X40 hx hZ e40 Ar45 (j := (3 : Int32)) (own_in S45 (own_ix (j := (3 : Int32)) (i := 3) (n := 6) (by decide) (by decide) (by decide))) (g := (mkF m 100 #[.val (.int p0), .val (.int p1), .val (.long p2), .second, .val (.long p3), .second, .val (.int p4), .val (.int p5), .val (.int p2.toInt32), .val (.int v1), .val (.int p3.toInt32), .val (.int v2), .val (.int p4), .val (.int p5), .val (.int v3), .val (.ref b4), .unset, .unset, .unset, .unset, .unset, .unset, .unset, .unset, .unset, .unset] [(.int v2), (.int (3 : Int32)), (.ref b25), (.ref b25)])) rfl rfl (hb hby at_100)
  refine own_st st45 ?_
  have f46 : own_A Z h45 b4 .int 6 (own_V [(.int p2.toInt32), (.int v1), (.int p3.toInt32), (.int v2), (.int p4), (.int p5)]) := f41.other W45 ne_b4_b25
  have f47 : Exa Z h45 b4 "[I" := f42.wr W45
  have f48 : Exa Z h45 b25 "[I" := f43.wr W45
  have Z45 : n0 ≤ h45.size := Nat.le_trans Z40 (Keep.of_wr W45).1
  have N45 := Fr.snoc X45 N40 G_b25
  have f49 : own_A Z h45 b25 .int 6 (own_V [(.int p2.toInt32), (.int v1), (.int p3.toInt32), (.int v2), (.int (0 : Int32)), (.int (0 : Int32))]) := (own_A.set ⟨c45, Ar45, S45, M45, V45⟩ (own_ix (j := (3 : Int32)) (i := 3) (n := 6) (by decide) (by decide) (by decide)) W45).cong (fun j hj => by match j, hj with | 0, _ => rfl | 1, _ => rfl | 2, _ => rfl | 3, _ => rfl | 4, _ => rfl | 5, _ => rfl | j + 6, h => exact absurd h (by omega))
  show own_Go p.tables e below _ (T45.setTop (mkF m 101 #[.val (.int p0), .val (.int p1), .val (.long p2), .second, .val (.long p3), .second, .val (.int p4), .val (.int p5), .val (.int p2.toInt32), .val (.int v1), .val (.int p3.toInt32), .val (.int v2), .val (.int p4), .val (.int p5), .val (.int v3), .val (.ref b4), .unset, .unset, .unset, .unset, .unset, .unset, .unset, .unset, .unset, .unset] [(.ref b25)]))
  refine own_st (S' := T45.setTop (mkF m 102 #[.val (.int p0), .val (.int p1), .val (.long p2), .second, .val (.long p3), .second, .val (.int p4), .val (.int p5), .val (.int p2.toInt32), .val (.int v1), .val (.int p3.toInt32), .val (.int v2), .val (.int p4), .val (.int p5), .val (.int v3), .val (.ref b4), .unset, .unset, .unset, .unset, .unset, .unset, .unset, .unset, .unset, .unset] [(.ref b25), (.ref b25)])) (fun t k => XS.dup X45.here hx rfl (hb hby at_101) rfl rfl k) ?_
  refine own_st (S' := T45.setTop (mkF m 103 #[.val (.int p0), .val (.int p1), .val (.long p2), .second, .val (.long p3), .second, .val (.int p4), .val (.int p5), .val (.int p2.toInt32), .val (.int v1), .val (.int p3.toInt32), .val (.int v2), .val (.int p4), .val (.int p5), .val (.int v3), .val (.ref b4), .unset, .unset, .unset, .unset, .unset, .unset, .unset, .unset, .unset, .unset] [(.int (4 : Int32)), (.ref b25), (.ref b25)])) (fun t k => XS.iconst X45.here hx rfl (hb hby at_102) k) ?_
  refine own_st (S' := T45.setTop (mkF m 105 #[.val (.int p0), .val (.int p1), .val (.long p2), .second, .val (.long p3), .second, .val (.int p4), .val (.int p5), .val (.int p2.toInt32), .val (.int v1), .val (.int p3.toInt32), .val (.int v2), .val (.int p4), .val (.int p5), .val (.int v3), .val (.ref b4), .unset, .unset, .unset, .unset, .unset, .unset, .unset, .unset, .unset, .unset] [(.int p4), (.int (4 : Int32)), (.ref b25), (.ref b25)])) (fun t k => XS.iload X45.here hx rfl (hb hby at_103) rfl k) ?_
  have O50 := f49
  obtain ⟨c50, Ar50, S50, M50, V50⟩ := O50
  obtain ⟨T50, h50, X50, e50, W50, st50⟩ := stI X45 hx hZ e45 Ar50 (j := (4 : Int32)) (own_in S50 (own_ix (j := (4 : Int32)) (i := 4) (n := 6) (by decide) (by decide) (by decide))) (g := (mkF m 105 #[.val (.int p0), .val (.int p1), .val (.long p2), .second, .val (.long p3), .second, .val (.int p4), .val (.int p5), .val (.int p2.toInt32), .val (.int v1), .val (.int p3.toInt32), .val (.int v2), .val (.int p4), .val (.int p5), .val (.int v3), .val (.ref b4), .unset, .unset, .unset, .unset, .unset, .unset, .unset, .unset, .unset, .unset] [(.int p4), (.int (4 : Int32)), (.ref b25), (.ref b25)])) rfl rfl (hb hby at_105)
  refine own_st st50 ?_
  have f51 : own_A Z h50 b4 .int 6 (own_V [(.int p2.toInt32), (.int v1), (.int p3.toInt32), (.int v2), (.int p4), (.int p5)]) := f46.other W50 ne_b4_b25
  have f52 : Exa Z h50 b4 "[I" := f47.wr W50
  have f53 : Exa Z h50 b25 "[I" := f48.wr W50
  have Z50 : n0 ≤ h50.size := Nat.le_trans Z45 (Keep.of_wr W50).1
  have N50 := Fr.snoc X50 N45 G_b25
  have f54 : own_A Z h50 b25 .int 6 (own_V [(.int p2.toInt32), (.int v1), (.int p3.toInt32), (.int v2), (.int p4), (.int (0 : Int32))]) := (own_A.set ⟨c50, Ar50, S50, M50, V50⟩ (own_ix (j := (4 : Int32)) (i := 4) (n := 6) (by decide) (by decide) (by decide)) W50).cong (fun j hj => by match j, hj with | 0, _ => rfl | 1, _ => rfl | 2, _ => rfl | 3, _ => rfl | 4, _ => rfl | 5, _ => rfl | j + 6, h => exact absurd h (by omega))
  show own_Go p.tables e below _ (T50.setTop (mkF m 106 #[.val (.int p0), .val (.int p1), .val (.long p2), .second, .val (.long p3), .second, .val (.int p4), .val (.int p5), .val (.int p2.toInt32), .val (.int v1), .val (.int p3.toInt32), .val (.int v2), .val (.int p4), .val (.int p5), .val (.int v3), .val (.ref b4), .unset, .unset, .unset, .unset, .unset, .unset, .unset, .unset, .unset, .unset] [(.ref b25)]))
  refine own_st (S' := T50.setTop (mkF m 107 #[.val (.int p0), .val (.int p1), .val (.long p2), .second, .val (.long p3), .second, .val (.int p4), .val (.int p5), .val (.int p2.toInt32), .val (.int v1), .val (.int p3.toInt32), .val (.int v2), .val (.int p4), .val (.int p5), .val (.int v3), .val (.ref b4), .unset, .unset, .unset, .unset, .unset, .unset, .unset, .unset, .unset, .unset] [(.ref b25), (.ref b25)])) (fun t k => XS.dup X50.here hx rfl (hb hby at_106) rfl rfl k) ?_
  refine own_st (S' := T50.setTop (mkF m 108 #[.val (.int p0), .val (.int p1), .val (.long p2), .second, .val (.long p3), .second, .val (.int p4), .val (.int p5), .val (.int p2.toInt32), .val (.int v1), .val (.int p3.toInt32), .val (.int v2), .val (.int p4), .val (.int p5), .val (.int v3), .val (.ref b4), .unset, .unset, .unset, .unset, .unset, .unset, .unset, .unset, .unset, .unset] [(.int (5 : Int32)), (.ref b25), (.ref b25)])) (fun t k => XS.iconst X50.here hx rfl (hb hby at_107) k) ?_
  refine own_st (S' := T50.setTop (mkF m 110 #[.val (.int p0), .val (.int p1), .val (.long p2), .second, .val (.long p3), .second, .val (.int p4), .val (.int p5), .val (.int p2.toInt32), .val (.int v1), .val (.int p3.toInt32), .val (.int v2), .val (.int p4), .val (.int p5), .val (.int v3), .val (.ref b4), .unset, .unset, .unset, .unset, .unset, .unset, .unset, .unset, .unset, .unset] [(.int p5), (.int (5 : Int32)), (.ref b25), (.ref b25)])) (fun t k => XS.iload X50.here hx rfl (hb hby at_108) rfl k) ?_
  have O55 := f54
  obtain ⟨c55, Ar55, S55, M55, V55⟩ := O55
  obtain ⟨T55, h55, X55, e55, W55, st55⟩ := stI X50 hx hZ e50 Ar55 (j := (5 : Int32)) (own_in S55 (own_ix (j := (5 : Int32)) (i := 5) (n := 6) (by decide) (by decide) (by decide))) (g := (mkF m 110 #[.val (.int p0), .val (.int p1), .val (.long p2), .second, .val (.long p3), .second, .val (.int p4), .val (.int p5), .val (.int p2.toInt32), .val (.int v1), .val (.int p3.toInt32), .val (.int v2), .val (.int p4), .val (.int p5), .val (.int v3), .val (.ref b4), .unset, .unset, .unset, .unset, .unset, .unset, .unset, .unset, .unset, .unset] [(.int p5), (.int (5 : Int32)), (.ref b25), (.ref b25)])) rfl rfl (hb hby at_110)
  refine own_st st55 ?_
  have f56 : own_A Z h55 b4 .int 6 (own_V [(.int p2.toInt32), (.int v1), (.int p3.toInt32), (.int v2), (.int p4), (.int p5)]) := f51.other W55 ne_b4_b25
  have f57 : Exa Z h55 b4 "[I" := f52.wr W55
  have f58 : Exa Z h55 b25 "[I" := f53.wr W55
  have Z55 : n0 ≤ h55.size := Nat.le_trans Z50 (Keep.of_wr W55).1
  have N55 := Fr.snoc X55 N50 G_b25
  have f59 : own_A Z h55 b25 .int 6 (own_V [(.int p2.toInt32), (.int v1), (.int p3.toInt32), (.int v2), (.int p4), (.int p5)]) := (own_A.set ⟨c55, Ar55, S55, M55, V55⟩ (own_ix (j := (5 : Int32)) (i := 5) (n := 6) (by decide) (by decide) (by decide)) W55).cong (fun j hj => by match j, hj with | 0, _ => rfl | 1, _ => rfl | 2, _ => rfl | 3, _ => rfl | 4, _ => rfl | 5, _ => rfl | j + 6, h => exact absurd h (by omega))
  show own_Go p.tables e below _ (T55.setTop (mkF m 111 #[.val (.int p0), .val (.int p1), .val (.long p2), .second, .val (.long p3), .second, .val (.int p4), .val (.int p5), .val (.int p2.toInt32), .val (.int v1), .val (.int p3.toInt32), .val (.int v2), .val (.int p4), .val (.int p5), .val (.int v3), .val (.ref b4), .unset, .unset, .unset, .unset, .unset, .unset, .unset, .unset, .unset, .unset] [(.ref b25)]))
  refine own_st (S' := T55.setTop (mkF m 113 #[.val (.int p0), .val (.int p1), .val (.long p2), .second, .val (.long p3), .second, .val (.int p4), .val (.int p5), .val (.int p2.toInt32), .val (.int v1), .val (.int p3.toInt32), .val (.int v2), .val (.int p4), .val (.int p5), .val (.int v3), .val (.ref b4), .val (.ref b25), .unset, .unset, .unset, .unset, .unset, .unset, .unset, .unset, .unset] [])) (fun t k => XS.astore X55.here hx rfl (hb hby at_111) rfl rfl (l' := #[.val (.int p0), .val (.int p1), .val (.long p2), .second, .val (.long p3), .second, .val (.int p4), .val (.int p5), .val (.int p2.toInt32), .val (.int v1), .val (.int p3.toInt32), .val (.int v2), .val (.int p4), .val (.int p5), .val (.int v3), .val (.ref b4), .val (.ref b25), .unset, .unset, .unset, .unset, .unset, .unset, .unset, .unset, .unset]) rfl k) ?_
  have hi14 := own_i6 qv3
  refine own_st (S' := T55.setTop (mkF m 115 #[.val (.int p0), .val (.int p1), .val (.long p2), .second, .val (.long p3), .second, .val (.int p4), .val (.int p5), .val (.int p2.toInt32), .val (.int v1), .val (.int p3.toInt32), .val (.int v2), .val (.int p4), .val (.int p5), .val (.int v3), .val (.ref b4), .val (.ref b25), .unset, .unset, .unset, .unset, .unset, .unset, .unset, .unset, .unset] [(.ref b25)])) (fun t k => XS.aload X55.here hx rfl (hb hby at_113) rfl rfl k) ?_
  refine own_st (S' := T55.setTop (mkF m 117 #[.val (.int p0), .val (.int p1), .val (.long p2), .second, .val (.long p3), .second, .val (.int p4), .val (.int p5), .val (.int p2.toInt32), .val (.int v1), .val (.int p3.toInt32), .val (.int v2), .val (.int p4), .val (.int p5), .val (.int v3), .val (.ref b4), .val (.ref b25), .unset, .unset, .unset, .unset, .unset, .unset, .unset, .unset, .unset] [(.int v3), (.ref b25)])) (fun t k => XS.iload X55.here hx rfl (hb hby at_115) rfl k) ?_
  refine own_st (S' := T55.setTop (mkF m 118 #[.val (.int p0), .val (.int p1), .val (.long p2), .second, .val (.long p3), .second, .val (.int p4), .val (.int p5), .val (.int p2.toInt32), .val (.int v1), .val (.int p3.toInt32), .val (.int v2), .val (.int p4), .val (.int p5), .val (.int v3), .val (.ref b4), .val (.ref b25), .unset, .unset, .unset, .unset, .unset, .unset, .unset, .unset, .unset] [(.int p1), (.int v3), (.ref b25)])) (fun t k => XS.iloadN X55.here hx rfl (hb hby at_117) rfl k) ?_
  have O60 := f59
  obtain ⟨c60, Ar60, S60, M60, V60⟩ := O60
  obtain ⟨T60, h60, X60, e60, W60, st60⟩ := stI X55 hx hZ e55 Ar60 (j := v3) (own_in S60 (own_ix6 hi14)) (g := (mkF m 118 #[.val (.int p0), .val (.int p1), .val (.long p2), .second, .val (.long p3), .second, .val (.int p4), .val (.int p5), .val (.int p2.toInt32), .val (.int v1), .val (.int p3.toInt32), .val (.int v2), .val (.int p4), .val (.int p5), .val (.int v3), .val (.ref b4), .val (.ref b25), .unset, .unset, .unset, .unset, .unset, .unset, .unset, .unset, .unset] [(.int p1), (.int v3), (.ref b25)])) rfl rfl (hb hby at_118)
  refine own_st st60 ?_
  have f61 : own_A Z h60 b4 .int 6 (own_V [(.int p2.toInt32), (.int v1), (.int p3.toInt32), (.int v2), (.int p4), (.int p5)]) := f56.other W60 ne_b4_b25
  have f62 : Exa Z h60 b4 "[I" := f57.wr W60
  have f63 : Exa Z h60 b25 "[I" := f58.wr W60
  have Z60 : n0 ≤ h60.size := Nat.le_trans Z55 (Keep.of_wr W60).1
  have N60 := Fr.snoc X60 N55 G_b25
  have f64 : own_A Z h60 b25 .int 6 (own_V [(.int (if v3 = (0 : Int32) then p1 else p2.toInt32)), (.int (if v3 = (1 : Int32) then p1 else v1)), (.int (if v3 = (2 : Int32) then p1 else p3.toInt32)), (.int (if v3 = (3 : Int32) then p1 else v2)), (.int (if v3 = (4 : Int32) then p1 else p4)), (.int (if v3 = (5 : Int32) then p1 else p5))]) := (own_A.set ⟨c60, Ar60, S60, M60, V60⟩ (own_ix6 hi14) W60).cong (own_upd6 hi14 p1 p2.toInt32 v1 p3.toInt32 v2 p4 p5)
  obtain ⟨y65, qy65⟩ : ∃ z : Int32, z = (if v3 = (0 : Int32) then p1 else p2.toInt32) := ⟨_, rfl⟩
  obtain ⟨y66, qy66⟩ : ∃ z : Int32, z = (if v3 = (1 : Int32) then p1 else v1) := ⟨_, rfl⟩
  obtain ⟨y67, qy67⟩ : ∃ z : Int32, z = (if v3 = (2 : Int32) then p1 else p3.toInt32) := ⟨_, rfl⟩
  obtain ⟨y68, qy68⟩ : ∃ z : Int32, z = (if v3 = (3 : Int32) then p1 else v2) := ⟨_, rfl⟩
  obtain ⟨y69, qy69⟩ : ∃ z : Int32, z = (if v3 = (4 : Int32) then p1 else p4) := ⟨_, rfl⟩
  obtain ⟨y70, qy70⟩ : ∃ z : Int32, z = (if v3 = (5 : Int32) then p1 else p5) := ⟨_, rfl⟩
  have f71 : own_A Z h60 b25 .int 6 (own_V [(.int y65), (.int y66), (.int y67), (.int y68), (.int y69), (.int y70)]) := by rw [qy65, qy66, qy67, qy68, qy69, qy70]; exact f64
  show own_Go p.tables e below _ (T60.setTop (mkF m 119 #[.val (.int p0), .val (.int p1), .val (.long p2), .second, .val (.long p3), .second, .val (.int p4), .val (.int p5), .val (.int p2.toInt32), .val (.int v1), .val (.int p3.toInt32), .val (.int v2), .val (.int p4), .val (.int p5), .val (.int v3), .val (.ref b4), .val (.ref b25), .unset, .unset, .unset, .unset, .unset, .unset, .unset, .unset, .unset] []))
  refine own_st (S' := T60.setTop (mkF m 121 #[.val (.int p0), .val (.int p1), .val (.long p2), .second, .val (.long p3), .second, .val (.int p4), .val (.int p5), .val (.int p2.toInt32), .val (.int v1), .val (.int p3.toInt32), .val (.int v2), .val (.int p4), .val (.int p5), .val (.int v3), .val (.ref b4), .val (.ref b25), .unset, .unset, .unset, .unset, .unset, .unset, .unset, .unset, .unset] [(.int v3)])) (fun t k => XS.iload X60.here hx rfl (hb hby at_119) rfl k) ?_
  refine own_st (S' := T60.setTop (mkF m 122 #[.val (.int p0), .val (.int p1), .val (.long p2), .second, .val (.long p3), .second, .val (.int p4), .val (.int p5), .val (.int p2.toInt32), .val (.int v1), .val (.int p3.toInt32), .val (.int v2), .val (.int p4), .val (.int p5), .val (.int v3), .val (.ref b4), .val (.ref b25), .unset, .unset, .unset, .unset, .unset, .unset, .unset, .unset, .unset] [(.int (5 : Int32)), (.int v3)])) (fun t k => XS.iconst X60.here hx rfl (hb hby at_121) k) ?_
  obtain ⟨v72, qv72⟩ : ∃ z : Int32, z = (if v3 = (5 : Int32) then (0 : Int32) else (v3 + (1 : Int32))) := ⟨_, rfl⟩
  refine own_st (S' := T60.setTop (mkF m 133 #[.val (.int p0), .val (.int p1), .val (.long p2), .second, .val (.long p3), .second, .val (.int p4), .val (.int p5), .val (.int p2.toInt32), .val (.int v1), .val (.int p3.toInt32), .val (.int v2), .val (.int p4), .val (.int p5), .val (.int v3), .val (.ref b4), .val (.ref b25), .unset, .unset, .unset, .unset, .unset, .unset, .unset, .unset, .unset] [(.int v72)])) (fun t k => ?_) ?_
  · show Steps p.tables e below (T60.setTop (mkF m 122 #[.val (.int p0), .val (.int p1), .val (.long p2), .second, .val (.long p3), .second, .val (.int p4), .val (.int p5), .val (.int p2.toInt32), .val (.int v1), .val (.int p3.toInt32), .val (.int v2), .val (.int p4), .val (.int p5), .val (.int v3), .val (.ref b4), .val (.ref b25), .unset, .unset, .unset, .unset, .unset, .unset, .unset, .unset, .unset] [(.int (5 : Int32)), (.int v3)])) _
    by_cases hc73 : v3 = (5 : Int32)
    · rw [if_pos hc73] at qv72
      replace qv72 := Eq.symm qv72
      subst qv72
      refine XS.icmpNo X60.here hx rfl (hb hby at_122) rfl (teq hc73).2 ?_
      show Steps p.tables e below (T60.setTop (mkF m 125 #[.val (.int p0), .val (.int p1), .val (.long p2), .second, .val (.long p3), .second, .val (.int p4), .val (.int p5), .val (.int p2.toInt32), .val (.int v1), .val (.int p3.toInt32), .val (.int v2), .val (.int p4), .val (.int p5), .val (.int v3), .val (.ref b4), .val (.ref b25), .unset, .unset, .unset, .unset, .unset, .unset, .unset, .unset, .unset] [])) _
      refine XS.iconst X60.here hx rfl (hb hby at_125) ?_
      show Steps p.tables e below (T60.setTop (mkF m 126 #[.val (.int p0), .val (.int p1), .val (.long p2), .second, .val (.long p3), .second, .val (.int p4), .val (.int p5), .val (.int p2.toInt32), .val (.int v1), .val (.int p3.toInt32), .val (.int v2), .val (.int p4), .val (.int p5), .val (.int v3), .val (.ref b4), .val (.ref b25), .unset, .unset, .unset, .unset, .unset, .unset, .unset, .unset, .unset] [(.int (0 : Int32))])) _
      refine XS.goto X60.here hx rfl (pc0 := 126) (pc' := 133) rfl (hb hby at_126) (by decide) (by decide) ?_
      show Steps p.tables e below (T60.setTop (mkF m 133 #[.val (.int p0), .val (.int p1), .val (.long p2), .second, .val (.long p3), .second, .val (.int p4), .val (.int p5), .val (.int p2.toInt32), .val (.int v1), .val (.int p3.toInt32), .val (.int v2), .val (.int p4), .val (.int p5), .val (.int v3), .val (.ref b4), .val (.ref b25), .unset, .unset, .unset, .unset, .unset, .unset, .unset, .unset, .unset] [(.int (0 : Int32))])) _
      exact k
    · rw [if_neg hc73] at qv72
      replace qv72 := Eq.symm qv72
      subst qv72
      refine XS.icmpYes X60.here hx rfl (pc0 := 122) (pc' := 129) rfl (hb hby at_122) rfl (feq hc73).2 (by decide) (by decide) ?_
      show Steps p.tables e below (T60.setTop (mkF m 129 #[.val (.int p0), .val (.int p1), .val (.long p2), .second, .val (.long p3), .second, .val (.int p4), .val (.int p5), .val (.int p2.toInt32), .val (.int v1), .val (.int p3.toInt32), .val (.int v2), .val (.int p4), .val (.int p5), .val (.int v3), .val (.ref b4), .val (.ref b25), .unset, .unset, .unset, .unset, .unset, .unset, .unset, .unset, .unset] [])) _
      refine XS.iload X60.here hx rfl (hb hby at_129) rfl ?_
      show Steps p.tables e below (T60.setTop (mkF m 131 #[.val (.int p0), .val (.int p1), .val (.long p2), .second, .val (.long p3), .second, .val (.int p4), .val (.int p5), .val (.int p2.toInt32), .val (.int v1), .val (.int p3.toInt32), .val (.int v2), .val (.int p4), .val (.int p5), .val (.int v3), .val (.ref b4), .val (.ref b25), .unset, .unset, .unset, .unset, .unset, .unset, .unset, .unset, .unset] [(.int v3)])) _
      refine XS.iconst X60.here hx rfl (hb hby at_131) ?_
      show Steps p.tables e below (T60.setTop (mkF m 132 #[.val (.int p0), .val (.int p1), .val (.long p2), .second, .val (.long p3), .second, .val (.int p4), .val (.int p5), .val (.int p2.toInt32), .val (.int v1), .val (.int p3.toInt32), .val (.int v2), .val (.int p4), .val (.int p5), .val (.int v3), .val (.ref b4), .val (.ref b25), .unset, .unset, .unset, .unset, .unset, .unset, .unset, .unset, .unset] [(.int (1 : Int32)), (.int v3)])) _
      refine XS.iadd X60.here hx rfl (hb hby at_132) rfl ?_
      show Steps p.tables e below (T60.setTop (mkF m 133 #[.val (.int p0), .val (.int p1), .val (.long p2), .second, .val (.long p3), .second, .val (.int p4), .val (.int p5), .val (.int p2.toInt32), .val (.int v1), .val (.int p3.toInt32), .val (.int v2), .val (.int p4), .val (.int p5), .val (.int v3), .val (.ref b4), .val (.ref b25), .unset, .unset, .unset, .unset, .unset, .unset, .unset, .unset, .unset] [(.int (v3 + (1 : Int32)))])) _
      exact k
  show own_Go p.tables e below _ (T60.setTop (mkF m 133 #[.val (.int p0), .val (.int p1), .val (.long p2), .second, .val (.long p3), .second, .val (.int p4), .val (.int p5), .val (.int p2.toInt32), .val (.int v1), .val (.int p3.toInt32), .val (.int v2), .val (.int p4), .val (.int p5), .val (.int v3), .val (.ref b4), .val (.ref b25), .unset, .unset, .unset, .unset, .unset, .unset, .unset, .unset, .unset] [(.int v72)]))
  refine own_st (S' := T60.setTop (mkF m 135 #[.val (.int p0), .val (.int p1), .val (.long p2), .second, .val (.long p3), .second, .val (.int p4), .val (.int p5), .val (.int p2.toInt32), .val (.int v1), .val (.int p3.toInt32), .val (.int v2), .val (.int p4), .val (.int p5), .val (.int v3), .val (.ref b4), .val (.ref b25), .val (.int v72), .unset, .unset, .unset, .unset, .unset, .unset, .unset, .unset] [])) (fun t k => XS.istore X60.here hx rfl (hb hby at_133) rfl (l' := #[.val (.int p0), .val (.int p1), .val (.long p2), .second, .val (.long p3), .second, .val (.int p4), .val (.int p5), .val (.int p2.toInt32), .val (.int v1), .val (.int p3.toInt32), .val (.int v2), .val (.int p4), .val (.int p5), .val (.int v3), .val (.ref b4), .val (.ref b25), .val (.int v72), .unset, .unset, .unset, .unset, .unset, .unset, .unset, .unset]) rfl k) ?_
  have hk17 := own_k6 hi14 qv72
  obtain ⟨T74, h74, X74, e74, E74, A74, D74, -, st74⟩ := newO X60 hx hZ hown (hw _ (List.mem_of_getElem? (i := 2) rfl)) (hw _ (List.mem_of_getElem? (i := 3) rfl)) (hw _ (List.mem_of_getElem? (i := 4) rfl)) e60 (g := (mkF m 135 #[.val (.int p0), .val (.int p1), .val (.long p2), .second, .val (.long p3), .second, .val (.int p4), .val (.int p5), .val (.int p2.toInt32), .val (.int v1), .val (.int p3.toInt32), .val (.int v2), .val (.int p4), .val (.int p5), .val (.int v3), .val (.ref b4), .val (.ref b25), .val (.int v72), .unset, .unset, .unset, .unset, .unset, .unset, .unset, .unset] [])) rfl (hb hby at_135) (by decide) (by decide)
  obtain ⟨b74, g74⟩ : ∃ z, z = h60.size := ⟨_, rfl⟩
  rw [← g74] at A74 D74 st74
  have G_b74 : n0 ≤ b74 := Nat.le_trans Z60 (Nat.le_of_eq g74.symm)
  have ne_b25_b74 : b25 ≠ b74 := Nat.ne_of_lt (Nat.lt_of_lt_of_le f71.lt (Nat.le_of_eq g74.symm))
  have ne_b4_b74 : b4 ≠ b74 := Nat.ne_of_lt (Nat.lt_of_lt_of_le f61.lt (Nat.le_of_eq g74.symm))
  have f75 : own_A Z h74 b4 .int 6 (own_V [(.int p2.toInt32), (.int v1), (.int p3.toInt32), (.int v2), (.int p4), (.int p5)]) := f61.ext E74
  have f76 : Exa Z h74 b4 "[I" := f62.ext E74
  have f77 : own_A Z h74 b25 .int 6 (own_V [(.int y65), (.int y66), (.int y67), (.int y68), (.int y69), (.int y70)]) := f71.ext E74
  have f78 : Exa Z h74 b25 "[I" := f63.ext E74
  have Z74 : n0 ≤ h74.size := Nat.le_trans Z60 E74.1
  have f79 : Fld Z h74 b74 "kithrank/Weights" "weight" "[I" .null := D74 (Or.inr (hw _ (List.mem_of_getElem? (i := 21) rfl))) (ty := (.array .int)) (by decide)
  have f80 : Fld Z h74 b74 "kithrank/Weights" "tree" "[I" .null := D74 (Or.inr (hw _ (List.mem_of_getElem? (i := 23) rfl))) (ty := (.array .int)) (by decide)
  refine own_st st74 ?_
  show own_Go p.tables e below _ (T74.setTop (mkF m 138 #[.val (.int p0), .val (.int p1), .val (.long p2), .second, .val (.long p3), .second, .val (.int p4), .val (.int p5), .val (.int p2.toInt32), .val (.int v1), .val (.int p3.toInt32), .val (.int v2), .val (.int p4), .val (.int p5), .val (.int v3), .val (.ref b4), .val (.ref b25), .val (.int v72), .unset, .unset, .unset, .unset, .unset, .unset, .unset, .unset] [(.ref b74)]))
  refine own_st (S' := T74.setTop (mkF m 139 #[.val (.int p0), .val (.int p1), .val (.long p2), .second, .val (.long p3), .second, .val (.int p4), .val (.int p5), .val (.int p2.toInt32), .val (.int v1), .val (.int p3.toInt32), .val (.int v2), .val (.int p4), .val (.int p5), .val (.int v3), .val (.ref b4), .val (.ref b25), .val (.int v72), .unset, .unset, .unset, .unset, .unset, .unset, .unset, .unset] [(.ref b74), (.ref b74)])) (fun t k => XS.dup X74.here hx rfl (hb hby at_138) rfl rfl k) ?_
  refine own_st (S' := T74.setTop (mkF m 141 #[.val (.int p0), .val (.int p1), .val (.long p2), .second, .val (.long p3), .second, .val (.int p4), .val (.int p5), .val (.int p2.toInt32), .val (.int v1), .val (.int p3.toInt32), .val (.int v2), .val (.int p4), .val (.int p5), .val (.int v3), .val (.ref b4), .val (.ref b25), .val (.int v72), .unset, .unset, .unset, .unset, .unset, .unset, .unset, .unset] [(.ref b4), (.ref b74), (.ref b74)])) (fun t k => XS.aload X74.here hx rfl (hb hby at_139) rfl rfl k) ?_
  obtain ⟨_, _, ⟨T81, L81, k81, n81⟩, -, X81, ⟨Lc81, hQ81, l81, y81, z81⟩, st81⟩ := X74.specialBack hx (y := (⟨"kithrank/Weights", "<init>", "([I)V"⟩ : MethodName)) rfl hown (mvT hZ (hw _ (List.mem_of_getElem? (i := 5) rfl))) (mvT hZ (hw _ (List.mem_of_getElem? (i := 6) rfl))) (mvT hZ (hw _ (List.mem_of_getElem? (i := 7) rfl))) (by decide) (backOf (W := 1) (rm1 l Z a0 hw [] b74 b4 p2.toInt32 v1 p3.toInt32 v2 p4 p5 h74 n0 Z74 A74 f79 f80 G_b74 f75 f76 (Ne.symm ne_b4_b74)) hZ (hw _ (List.mem_of_getElem? (i := 7) rfl)) (hw _ (List.mem_of_getElem? (i := 4) rfl)) (by decide) (by decide)) (g := (mkF m 141 #[.val (.int p0), .val (.int p1), .val (.long p2), .second, .val (.long p3), .second, .val (.int p4), .val (.int p5), .val (.int p2.toInt32), .val (.int v1), .val (.int p3.toInt32), .val (.int v2), .val (.int p4), .val (.int p5), .val (.int v3), .val (.ref b4), .val (.ref b25), .val (.int v72), .unset, .unset, .unset, .unset, .unset, .unset, .unset, .unset] [(.ref b4), (.ref b74), (.ref b74)])) rfl (by rw [hml]; rfl) (Steps.refl _) (a := b74) (argsL := [(.ref b4)]) (rest := [(.ref b74)]) (lenOf pd0_0 rfl) rfl (by show 2 * 0 + _ ≤ _; exact Nat.le_of_eq rfl) (hb hby at_141) (fun _ _ => ⟨rfl, e74, (by decide : 3 + 2 ≤ _), (by decide : 14 + 13 ≤ _)⟩)
  dsimp only [Pt.U, Pt.locs, Pt.cells, Pt.slots] at X81 l81 y81 z81 st81 hQ81
  rw [l81, y81, z81] at X81
  obtain ⟨wt81, tr81, rfl, N81q, Kq81, sq_wt81, sq_tr81, ne_wt81_tr81, g0_81, g1_81, g2_81, g3_81, g4_81⟩ := hQ81
  have G_wt81 : n0 ≤ wt81 := Nat.le_trans Z74 sq_wt81
  have ne_b25_wt81 : b25 ≠ wt81 := Nat.ne_of_lt (Nat.lt_of_lt_of_le f77.lt sq_wt81)
  have ne_b4_wt81 : b4 ≠ wt81 := Nat.ne_of_lt (Nat.lt_of_lt_of_le f75.lt sq_wt81)
  have ne_b74_wt81 : b74 ≠ wt81 := Nat.ne_of_lt (Nat.lt_of_lt_of_le A74.lt sq_wt81)
  have G_tr81 : n0 ≤ tr81 := Nat.le_trans Z74 sq_tr81
  have ne_b25_tr81 : b25 ≠ tr81 := Nat.ne_of_lt (Nat.lt_of_lt_of_le f77.lt sq_tr81)
  have ne_b4_tr81 : b4 ≠ tr81 := Nat.ne_of_lt (Nat.lt_of_lt_of_le f75.lt sq_tr81)
  have ne_b74_tr81 : b74 ≠ tr81 := Nat.ne_of_lt (Nat.lt_of_lt_of_le A74.lt sq_tr81)
  have f82 : own_A Z T81.heap b4 .int 6 (own_V [(.int p2.toInt32), (.int v1), (.int p3.toInt32), (.int v2), (.int p4), (.int p5)]) := f75.keep Kq81 (ninS ne_b4_b74 nin0)
  have f83 : Exa Z T81.heap b4 "[I" := f76.keep Kq81
  have f84 : own_A Z T81.heap b25 .int 6 (own_V [(.int y65), (.int y66), (.int y67), (.int y68), (.int y69), (.int y70)]) := f77.keep Kq81 (ninS ne_b25_b74 nin0)
  have f85 : Exa Z T81.heap b25 "[I" := f78.keep Kq81
  have f86 : Exa Z T81.heap b74 "kithrank/Weights" := A74.keep Kq81
  obtain ⟨y87, qy87⟩ : ∃ z : Int32, z = ((0 : Int32) + p2.toInt32) := ⟨_, rfl⟩
  obtain ⟨y88, qy88⟩ : ∃ z : Int32, z = (((0 : Int32) + ((0 : Int32) + p2.toInt32)) + v1) := ⟨_, rfl⟩
  obtain ⟨y89, qy89⟩ : ∃ z : Int32, z = ((0 : Int32) + p3.toInt32) := ⟨_, rfl⟩
  obtain ⟨y90, qy90⟩ : ∃ z : Int32, z = ((((0 : Int32) + (((0 : Int32) + ((0 : Int32) + p2.toInt32)) + v1)) + ((0 : Int32) + p3.toInt32)) + v2) := ⟨_, rfl⟩
  obtain ⟨y91, qy91⟩ : ∃ z : Int32, z = ((0 : Int32) + p4) := ⟨_, rfl⟩
  obtain ⟨y92, qy92⟩ : ∃ z : Int32, z = (((0 : Int32) + ((0 : Int32) + p4)) + p5) := ⟨_, rfl⟩
  have f93 : own_A Z T81.heap tr81 .int 7 (own_V [(.int (0 : Int32)), (.int y87), (.int y88), (.int y89), (.int y90), (.int y91), (.int y92)]) := by rw [qy87, qy88, qy89, qy90, qy91, qy92]; exact g4_81
  have Z81 : n0 ≤ T81.heap.size := Nat.le_trans Z74 Kq81.1
  have N81 := Fr.app N60 N81q
  refine own_tr st81 ?_
  show own_Go p.tables e below _ (T81.setTop (mkF m 144 #[.val (.int p0), .val (.int p1), .val (.long p2), .second, .val (.long p3), .second, .val (.int p4), .val (.int p5), .val (.int p2.toInt32), .val (.int v1), .val (.int p3.toInt32), .val (.int v2), .val (.int p4), .val (.int p5), .val (.int v3), .val (.ref b4), .val (.ref b25), .val (.int v72), .unset, .unset, .unset, .unset, .unset, .unset, .unset, .unset] [(.ref b74)]))
  refine own_st (S' := T81.setTop (mkF m 146 #[.val (.int p0), .val (.int p1), .val (.long p2), .second, .val (.long p3), .second, .val (.int p4), .val (.int p5), .val (.int p2.toInt32), .val (.int v1), .val (.int p3.toInt32), .val (.int v2), .val (.int p4), .val (.int p5), .val (.int v3), .val (.ref b4), .val (.ref b25), .val (.int v72), .val (.ref b74), .unset, .unset, .unset, .unset, .unset, .unset, .unset] [])) (fun t k => XS.astore X81.here hx rfl (hb hby at_144) rfl rfl (l' := #[.val (.int p0), .val (.int p1), .val (.long p2), .second, .val (.long p3), .second, .val (.int p4), .val (.int p5), .val (.int p2.toInt32), .val (.int v1), .val (.int p3.toInt32), .val (.int v2), .val (.int p4), .val (.int p5), .val (.int v3), .val (.ref b4), .val (.ref b25), .val (.int v72), .val (.ref b74), .unset, .unset, .unset, .unset, .unset, .unset, .unset]) rfl k) ?_
  refine own_st (S' := T81.setTop (mkF m 148 #[.val (.int p0), .val (.int p1), .val (.long p2), .second, .val (.long p3), .second, .val (.int p4), .val (.int p5), .val (.int p2.toInt32), .val (.int v1), .val (.int p3.toInt32), .val (.int v2), .val (.int p4), .val (.int p5), .val (.int v3), .val (.ref b4), .val (.ref b25), .val (.int v72), .val (.ref b74), .unset, .unset, .unset, .unset, .unset, .unset, .unset] [(.ref b74)])) (fun t k => XS.aload X81.here hx rfl (hb hby at_146) rfl rfl k) ?_
  refine own_st (S' := T81.setTop (mkF m 150 #[.val (.int p0), .val (.int p1), .val (.long p2), .second, .val (.long p3), .second, .val (.int p4), .val (.int p5), .val (.int p2.toInt32), .val (.int v1), .val (.int p3.toInt32), .val (.int v2), .val (.int p4), .val (.int p5), .val (.int v3), .val (.ref b4), .val (.ref b25), .val (.int v72), .val (.ref b74), .unset, .unset, .unset, .unset, .unset, .unset, .unset] [(.int v3), (.ref b74)])) (fun t k => XS.iload X81.here hx rfl (hb hby at_148) rfl k) ?_
  refine own_st (S' := T81.setTop (mkF m 151 #[.val (.int p0), .val (.int p1), .val (.long p2), .second, .val (.long p3), .second, .val (.int p4), .val (.int p5), .val (.int p2.toInt32), .val (.int v1), .val (.int p3.toInt32), .val (.int v2), .val (.int p4), .val (.int p5), .val (.int v3), .val (.ref b4), .val (.ref b25), .val (.int v72), .val (.ref b74), .unset, .unset, .unset, .unset, .unset, .unset, .unset] [(.int p1), (.int v3), (.ref b74)])) (fun t k => XS.iloadN X81.here hx rfl (hb hby at_150) rfl k) ?_
  obtain ⟨cq94, kq94, q94a, q94b, q94c⟩ := isOf hZ rfl g0_81
  obtain ⟨_, _, ⟨T94, L94, k94, n94⟩, -, X94, ⟨Lc94, hQ94, l94, y94, z94⟩, st94⟩ := X81.virtualBack hx (y := (⟨"kithrank/Weights", "set", "(II)V"⟩ : MethodName)) (z := (⟨"kithrank/Weights", "set", "(II)V"⟩ : MethodName)) hown (mvT hZ (hw _ (List.mem_of_getElem? (i := 24) rfl))) (mvT hZ (hw _ (List.mem_of_getElem? (i := 25) rfl))) (notFace_of_selects (args := #[]) (mvT hZ (hw _ (List.mem_of_getElem? (i := 27) rfl)))) (mvT hZ (hw _ (List.mem_of_getElem? (i := 27) rfl))) (mvT hZ (hw _ (List.mem_of_getElem? (i := 26) rfl))) (by decide) (backOf (W := 0) (rm2 l Z a0 hw [] b74 v3 p1 wt81 tr81 p2.toInt32 v1 p3.toInt32 v2 p4 p5 (0 : Int32) y87 y88 y89 y90 y91 y92 T81.heap n0 Z81 g1_81 g2_81 g3_81 f93 G_wt81 G_tr81 ne_wt81_tr81 ne_b74_wt81 ne_b74_tr81 hi14) hZ (hw _ (List.mem_of_getElem? (i := 28) rfl)) (hw _ (List.mem_of_getElem? (i := 4) rfl)) (by decide) (by decide)) q94a q94c (g := (mkF m 151 #[.val (.int p0), .val (.int p1), .val (.long p2), .second, .val (.long p3), .second, .val (.int p4), .val (.int p5), .val (.int p2.toInt32), .val (.int v1), .val (.int p3.toInt32), .val (.int v2), .val (.int p4), .val (.int p5), .val (.int v3), .val (.ref b4), .val (.ref b25), .val (.int v72), .val (.ref b74), .unset, .unset, .unset, .unset, .unset, .unset, .unset] [(.int p1), (.int v3), (.ref b74)])) rfl (by rw [hml]; rfl) (Steps.refl _) (argsL := [(.int v3), (.int p1)]) (rest := []) (lenOf pd0_1 rfl) rfl (by show 2 * 0 + _ ≤ _; exact Nat.le_of_eq rfl) (hb hby at_151) (fun _ _ => ⟨rfl, rfl, (by decide : 5 + 0 ≤ _), (by decide : 27 + 0 ≤ _)⟩)
  dsimp only [Pt.U, Pt.locs, Pt.cells, Pt.slots] at X94 l94 y94 z94 st94 hQ94
  rw [l94, y94, z94] at X94
  obtain ⟨rfl, N94q, Kq94, g0_94, g1_94⟩ := hQ94
  have f95 : own_A Z T94.heap b4 .int 6 (own_V [(.int p2.toInt32), (.int v1), (.int p3.toInt32), (.int v2), (.int p4), (.int p5)]) := f82.keep Kq94 (ninS ne_b4_wt81 (ninS ne_b4_tr81 nin0))
  have f96 : Exa Z T94.heap b4 "[I" := f83.keep Kq94
  have f97 : own_A Z T94.heap b25 .int 6 (own_V [(.int y65), (.int y66), (.int y67), (.int y68), (.int y69), (.int y70)]) := f84.keep Kq94 (ninS ne_b25_wt81 (ninS ne_b25_tr81 nin0))
  have f98 : Exa Z T94.heap b25 "[I" := f85.keep Kq94
  have f99 : Exa Z T94.heap b74 "kithrank/Weights" := g0_81.keep Kq94
  have f100 : Fld Z T94.heap b74 "kithrank/Weights" "weight" "[I" (.ref wt81) := g1_81.keep Kq94 (ninS ne_b74_wt81 (ninS ne_b74_tr81 nin0))
  have f101 : Fld Z T94.heap b74 "kithrank/Weights" "tree" "[I" (.ref tr81) := g2_81.keep Kq94 (ninS ne_b74_wt81 (ninS ne_b74_tr81 nin0))
  obtain ⟨y102, qy102⟩ : ∃ z : Int32, z = (if v3 = (0 : Int32) then p1 else p2.toInt32) := ⟨_, rfl⟩
  obtain ⟨y103, qy103⟩ : ∃ z : Int32, z = (if v3 = (1 : Int32) then p1 else v1) := ⟨_, rfl⟩
  obtain ⟨y104, qy104⟩ : ∃ z : Int32, z = (if v3 = (2 : Int32) then p1 else p3.toInt32) := ⟨_, rfl⟩
  obtain ⟨y105, qy105⟩ : ∃ z : Int32, z = (if v3 = (3 : Int32) then p1 else v2) := ⟨_, rfl⟩
  obtain ⟨y106, qy106⟩ : ∃ z : Int32, z = (if v3 = (4 : Int32) then p1 else p4) := ⟨_, rfl⟩
  obtain ⟨y107, qy107⟩ : ∃ z : Int32, z = (if v3 = (5 : Int32) then p1 else p5) := ⟨_, rfl⟩
  have f108 : own_A Z T94.heap wt81 .int 6 (own_V [(.int y102), (.int y103), (.int y104), (.int y105), (.int y106), (.int y107)]) := by rw [qy102, qy103, qy104, qy105, qy106, qy107]; exact g0_94
  obtain ⟨y109, qy109⟩ : ∃ z : Int32, z = (if v3 = (0 : Int32) then (y87 + (p1 - p2.toInt32)) else y87) := ⟨_, rfl⟩
  obtain ⟨y110, qy110⟩ : ∃ z : Int32, z = (if v3 = (0 : Int32) then (y88 + (p1 - p2.toInt32)) else (if v3 = (1 : Int32) then (y88 + (p1 - v1)) else y88)) := ⟨_, rfl⟩
  obtain ⟨y111, qy111⟩ : ∃ z : Int32, z = (if v3 = (2 : Int32) then (y89 + (p1 - p3.toInt32)) else y89) := ⟨_, rfl⟩
  obtain ⟨y112, qy112⟩ : ∃ z : Int32, z = (if v3 = (0 : Int32) then (y90 + (p1 - p2.toInt32)) else (if v3 = (1 : Int32) then (y90 + (p1 - v1)) else (if v3 = (2 : Int32) then (y90 + (p1 - p3.toInt32)) else (if v3 = (3 : Int32) then (y90 + (p1 - v2)) else y90)))) := ⟨_, rfl⟩
  obtain ⟨y113, qy113⟩ : ∃ z : Int32, z = (if v3 = (4 : Int32) then (y91 + (p1 - p4)) else y91) := ⟨_, rfl⟩
  obtain ⟨y114, qy114⟩ : ∃ z : Int32, z = (if v3 = (4 : Int32) then (y92 + (p1 - p4)) else (if v3 = (5 : Int32) then (y92 + (p1 - p5)) else y92)) := ⟨_, rfl⟩
  have f115 : own_A Z T94.heap tr81 .int 7 (own_V [(.int (0 : Int32)), (.int y109), (.int y110), (.int y111), (.int y112), (.int y113), (.int y114)]) := by rw [qy109, qy110, qy111, qy112, qy113, qy114]; exact g1_94
  have Z94 : n0 ≤ T94.heap.size := Nat.le_trans Z81 Kq94.1
  have N94 := Fr.app N81 N94q
  refine own_tr st94 ?_
  show own_Go p.tables e below _ (T94.setTop (mkF m 154 #[.val (.int p0), .val (.int p1), .val (.long p2), .second, .val (.long p3), .second, .val (.int p4), .val (.int p5), .val (.int p2.toInt32), .val (.int v1), .val (.int p3.toInt32), .val (.int v2), .val (.int p4), .val (.int p5), .val (.int v3), .val (.ref b4), .val (.ref b25), .val (.int v72), .val (.ref b74), .unset, .unset, .unset, .unset, .unset, .unset, .unset] []))
  refine own_st (S' := T94.setTop (mkF m 156 #[.val (.int p0), .val (.int p1), .val (.long p2), .second, .val (.long p3), .second, .val (.int p4), .val (.int p5), .val (.int p2.toInt32), .val (.int v1), .val (.int p3.toInt32), .val (.int v2), .val (.int p4), .val (.int p5), .val (.int v3), .val (.ref b4), .val (.ref b25), .val (.int v72), .val (.ref b74), .unset, .unset, .unset, .unset, .unset, .unset, .unset] [(.ref b25)])) (fun t k => XS.aload X94.here hx rfl (hb hby at_154) rfl rfl k) ?_
  refine own_st (S' := T94.setTop (mkF m 157 #[.val (.int p0), .val (.int p1), .val (.long p2), .second, .val (.long p3), .second, .val (.int p4), .val (.int p5), .val (.int p2.toInt32), .val (.int v1), .val (.int p3.toInt32), .val (.int v2), .val (.int p4), .val (.int p5), .val (.int v3), .val (.ref b4), .val (.ref b25), .val (.int v72), .val (.ref b74), .unset, .unset, .unset, .unset, .unset, .unset, .unset] [(.int (0 : Int32)), (.ref b25)])) (fun t k => XS.iconst X94.here hx rfl (hb hby at_156) k) ?_
  have O116 := f97
  obtain ⟨c116, Ar116, S116, M116, V116⟩ := O116
  have at116 : c116.slots[((0 : Int32)).toNatClampNeg]? = some (.int y65) := own_at S116 V116 (own_ix (j := (0 : Int32)) (i := 0) (n := 6) (by decide) (by decide) (by decide)) rfl
  refine own_st (S' := T94.setTop (mkF m 158 #[.val (.int p0), .val (.int p1), .val (.long p2), .second, .val (.long p3), .second, .val (.int p4), .val (.int p5), .val (.int p2.toInt32), .val (.int v1), .val (.int p3.toInt32), .val (.int v2), .val (.int p4), .val (.int p5), .val (.int v3), .val (.ref b4), .val (.ref b25), .val (.int v72), .val (.ref b74), .unset, .unset, .unset, .unset, .unset, .unset, .unset] [(.int y65)])) (fun t k => X94.iaload hx (j := (0 : Int32)) (v := (.int y65)) Ar116.1 (State.isArrayOf_alike hZ.alike Ar116.2.1) Ar116.2.2 (own_in S116 (own_ix (j := (0 : Int32)) (i := 0) (n := 6) (by decide) (by decide) (by decide))) at116 (g := (mkF m 157 #[.val (.int p0), .val (.int p1), .val (.long p2), .second, .val (.long p3), .second, .val (.int p4), .val (.int p5), .val (.int p2.toInt32), .val (.int v1), .val (.int p3.toInt32), .val (.int v2), .val (.int p4), .val (.int p5), .val (.int v3), .val (.ref b4), .val (.ref b25), .val (.int v72), .val (.ref b74), .unset, .unset, .unset, .unset, .unset, .unset, .unset] [(.int (0 : Int32)), (.ref b25)])) rfl rfl (hb hby at_157) _ k) ?_
  refine own_st (S' := T94.setTop (mkF m 160 #[.val (.int p0), .val (.int p1), .val (.long p2), .second, .val (.long p3), .second, .val (.int p4), .val (.int p5), .val (.int p2.toInt32), .val (.int v1), .val (.int p3.toInt32), .val (.int v2), .val (.int p4), .val (.int p5), .val (.int v3), .val (.ref b4), .val (.ref b25), .val (.int v72), .val (.ref b74), .val (.int y65), .unset, .unset, .unset, .unset, .unset, .unset] [])) (fun t k => XS.istore X94.here hx rfl (hb hby at_158) rfl (l' := #[.val (.int p0), .val (.int p1), .val (.long p2), .second, .val (.long p3), .second, .val (.int p4), .val (.int p5), .val (.int p2.toInt32), .val (.int v1), .val (.int p3.toInt32), .val (.int v2), .val (.int p4), .val (.int p5), .val (.int v3), .val (.ref b4), .val (.ref b25), .val (.int v72), .val (.ref b74), .val (.int y65), .unset, .unset, .unset, .unset, .unset, .unset]) rfl k) ?_
  refine own_st (S' := T94.setTop (mkF m 162 #[.val (.int p0), .val (.int p1), .val (.long p2), .second, .val (.long p3), .second, .val (.int p4), .val (.int p5), .val (.int p2.toInt32), .val (.int v1), .val (.int p3.toInt32), .val (.int v2), .val (.int p4), .val (.int p5), .val (.int v3), .val (.ref b4), .val (.ref b25), .val (.int v72), .val (.ref b74), .val (.int y65), .unset, .unset, .unset, .unset, .unset, .unset] [(.int y65)])) (fun t k => XS.iload X94.here hx rfl (hb hby at_160) rfl k) ?_
  refine own_st (S' := T94.setTop (mkF m 164 #[.val (.int p0), .val (.int p1), .val (.long p2), .second, .val (.long p3), .second, .val (.int p4), .val (.int p5), .val (.int p2.toInt32), .val (.int v1), .val (.int p3.toInt32), .val (.int v2), .val (.int p4), .val (.int p5), .val (.int v3), .val (.ref b4), .val (.ref b25), .val (.int v72), .val (.ref b74), .val (.int y65), .unset, .unset, .unset, .unset, .unset, .unset] [(.ref b25), (.int y65)])) (fun t k => XS.aload X94.here hx rfl (hb hby at_162) rfl rfl k) ?_
  refine own_st (S' := T94.setTop (mkF m 165 #[.val (.int p0), .val (.int p1), .val (.long p2), .second, .val (.long p3), .second, .val (.int p4), .val (.int p5), .val (.int p2.toInt32), .val (.int v1), .val (.int p3.toInt32), .val (.int v2), .val (.int p4), .val (.int p5), .val (.int v3), .val (.ref b4), .val (.ref b25), .val (.int v72), .val (.ref b74), .val (.int y65), .unset, .unset, .unset, .unset, .unset, .unset] [(.int (1 : Int32)), (.ref b25), (.int y65)])) (fun t k => XS.iconst X94.here hx rfl (hb hby at_164) k) ?_
  have O117 := f97
  obtain ⟨c117, Ar117, S117, M117, V117⟩ := O117
  have at117 : c117.slots[((1 : Int32)).toNatClampNeg]? = some (.int y66) := own_at S117 V117 (own_ix (j := (1 : Int32)) (i := 1) (n := 6) (by decide) (by decide) (by decide)) rfl
  refine own_st (S' := T94.setTop (mkF m 166 #[.val (.int p0), .val (.int p1), .val (.long p2), .second, .val (.long p3), .second, .val (.int p4), .val (.int p5), .val (.int p2.toInt32), .val (.int v1), .val (.int p3.toInt32), .val (.int v2), .val (.int p4), .val (.int p5), .val (.int v3), .val (.ref b4), .val (.ref b25), .val (.int v72), .val (.ref b74), .val (.int y65), .unset, .unset, .unset, .unset, .unset, .unset] [(.int y66), (.int y65)])) (fun t k => X94.iaload hx (j := (1 : Int32)) (v := (.int y66)) Ar117.1 (State.isArrayOf_alike hZ.alike Ar117.2.1) Ar117.2.2 (own_in S117 (own_ix (j := (1 : Int32)) (i := 1) (n := 6) (by decide) (by decide) (by decide))) at117 (g := (mkF m 165 #[.val (.int p0), .val (.int p1), .val (.long p2), .second, .val (.long p3), .second, .val (.int p4), .val (.int p5), .val (.int p2.toInt32), .val (.int v1), .val (.int p3.toInt32), .val (.int v2), .val (.int p4), .val (.int p5), .val (.int v3), .val (.ref b4), .val (.ref b25), .val (.int v72), .val (.ref b74), .val (.int y65), .unset, .unset, .unset, .unset, .unset, .unset] [(.int (1 : Int32)), (.ref b25), (.int y65)])) rfl rfl (hb hby at_165) _ k) ?_
  refine own_st (S' := T94.setTop (mkF m 167 #[.val (.int p0), .val (.int p1), .val (.long p2), .second, .val (.long p3), .second, .val (.int p4), .val (.int p5), .val (.int p2.toInt32), .val (.int v1), .val (.int p3.toInt32), .val (.int v2), .val (.int p4), .val (.int p5), .val (.int v3), .val (.ref b4), .val (.ref b25), .val (.int v72), .val (.ref b74), .val (.int y65), .unset, .unset, .unset, .unset, .unset, .unset] [(.int (y65 + y66))])) (fun t k => XS.iadd X94.here hx rfl (hb hby at_166) rfl k) ?_
  obtain ⟨v118, qv118⟩ : ∃ z : Int32, z = (y65 + y66) := ⟨_, rfl⟩
  show own_Go p.tables e below _ (T94.setTop (mkF m 167 #[.val (.int p0), .val (.int p1), .val (.long p2), .second, .val (.long p3), .second, .val (.int p4), .val (.int p5), .val (.int p2.toInt32), .val (.int v1), .val (.int p3.toInt32), .val (.int v2), .val (.int p4), .val (.int p5), .val (.int v3), .val (.ref b4), .val (.ref b25), .val (.int v72), .val (.ref b74), .val (.int y65), .unset, .unset, .unset, .unset, .unset, .unset] [(.int (y65 + y66))]))
  rw [← qv118]
  refine own_st (S' := T94.setTop (mkF m 169 #[.val (.int p0), .val (.int p1), .val (.long p2), .second, .val (.long p3), .second, .val (.int p4), .val (.int p5), .val (.int p2.toInt32), .val (.int v1), .val (.int p3.toInt32), .val (.int v2), .val (.int p4), .val (.int p5), .val (.int v3), .val (.ref b4), .val (.ref b25), .val (.int v72), .val (.ref b74), .val (.int y65), .val (.int v118), .unset, .unset, .unset, .unset, .unset] [])) (fun t k => XS.istore X94.here hx rfl (hb hby at_167) rfl (l' := #[.val (.int p0), .val (.int p1), .val (.long p2), .second, .val (.long p3), .second, .val (.int p4), .val (.int p5), .val (.int p2.toInt32), .val (.int v1), .val (.int p3.toInt32), .val (.int v2), .val (.int p4), .val (.int p5), .val (.int v3), .val (.ref b4), .val (.ref b25), .val (.int v72), .val (.ref b74), .val (.int y65), .val (.int v118), .unset, .unset, .unset, .unset, .unset]) rfl k) ?_
  refine own_st (S' := T94.setTop (mkF m 171 #[.val (.int p0), .val (.int p1), .val (.long p2), .second, .val (.long p3), .second, .val (.int p4), .val (.int p5), .val (.int p2.toInt32), .val (.int v1), .val (.int p3.toInt32), .val (.int v2), .val (.int p4), .val (.int p5), .val (.int v3), .val (.ref b4), .val (.ref b25), .val (.int v72), .val (.ref b74), .val (.int y65), .val (.int v118), .unset, .unset, .unset, .unset, .unset] [(.int v118)])) (fun t k => XS.iload X94.here hx rfl (hb hby at_169) rfl k) ?_
  refine own_st (S' := T94.setTop (mkF m 173 #[.val (.int p0), .val (.int p1), .val (.long p2), .second, .val (.long p3), .second, .val (.int p4), .val (.int p5), .val (.int p2.toInt32), .val (.int v1), .val (.int p3.toInt32), .val (.int v2), .val (.int p4), .val (.int p5), .val (.int v3), .val (.ref b4), .val (.ref b25), .val (.int v72), .val (.ref b74), .val (.int y65), .val (.int v118), .unset, .unset, .unset, .unset, .unset] [(.ref b25), (.int v118)])) (fun t k => XS.aload X94.here hx rfl (hb hby at_171) rfl rfl k) ?_
  refine own_st (S' := T94.setTop (mkF m 174 #[.val (.int p0), .val (.int p1), .val (.long p2), .second, .val (.long p3), .second, .val (.int p4), .val (.int p5), .val (.int p2.toInt32), .val (.int v1), .val (.int p3.toInt32), .val (.int v2), .val (.int p4), .val (.int p5), .val (.int v3), .val (.ref b4), .val (.ref b25), .val (.int v72), .val (.ref b74), .val (.int y65), .val (.int v118), .unset, .unset, .unset, .unset, .unset] [(.int (2 : Int32)), (.ref b25), (.int v118)])) (fun t k => XS.iconst X94.here hx rfl (hb hby at_173) k) ?_
  have O119 := f97
  obtain ⟨c119, Ar119, S119, M119, V119⟩ := O119
  have at119 : c119.slots[((2 : Int32)).toNatClampNeg]? = some (.int y67) := own_at S119 V119 (own_ix (j := (2 : Int32)) (i := 2) (n := 6) (by decide) (by decide) (by decide)) rfl
  refine own_st (S' := T94.setTop (mkF m 175 #[.val (.int p0), .val (.int p1), .val (.long p2), .second, .val (.long p3), .second, .val (.int p4), .val (.int p5), .val (.int p2.toInt32), .val (.int v1), .val (.int p3.toInt32), .val (.int v2), .val (.int p4), .val (.int p5), .val (.int v3), .val (.ref b4), .val (.ref b25), .val (.int v72), .val (.ref b74), .val (.int y65), .val (.int v118), .unset, .unset, .unset, .unset, .unset] [(.int y67), (.int v118)])) (fun t k => X94.iaload hx (j := (2 : Int32)) (v := (.int y67)) Ar119.1 (State.isArrayOf_alike hZ.alike Ar119.2.1) Ar119.2.2 (own_in S119 (own_ix (j := (2 : Int32)) (i := 2) (n := 6) (by decide) (by decide) (by decide))) at119 (g := (mkF m 174 #[.val (.int p0), .val (.int p1), .val (.long p2), .second, .val (.long p3), .second, .val (.int p4), .val (.int p5), .val (.int p2.toInt32), .val (.int v1), .val (.int p3.toInt32), .val (.int v2), .val (.int p4), .val (.int p5), .val (.int v3), .val (.ref b4), .val (.ref b25), .val (.int v72), .val (.ref b74), .val (.int y65), .val (.int v118), .unset, .unset, .unset, .unset, .unset] [(.int (2 : Int32)), (.ref b25), (.int v118)])) rfl rfl (hb hby at_174) _ k) ?_
  refine own_st (S' := T94.setTop (mkF m 176 #[.val (.int p0), .val (.int p1), .val (.long p2), .second, .val (.long p3), .second, .val (.int p4), .val (.int p5), .val (.int p2.toInt32), .val (.int v1), .val (.int p3.toInt32), .val (.int v2), .val (.int p4), .val (.int p5), .val (.int v3), .val (.ref b4), .val (.ref b25), .val (.int v72), .val (.ref b74), .val (.int y65), .val (.int v118), .unset, .unset, .unset, .unset, .unset] [(.int (v118 + y67))])) (fun t k => XS.iadd X94.here hx rfl (hb hby at_175) rfl k) ?_
  obtain ⟨v120, qv120⟩ : ∃ z : Int32, z = (v118 + y67) := ⟨_, rfl⟩
  show own_Go p.tables e below _ (T94.setTop (mkF m 176 #[.val (.int p0), .val (.int p1), .val (.long p2), .second, .val (.long p3), .second, .val (.int p4), .val (.int p5), .val (.int p2.toInt32), .val (.int v1), .val (.int p3.toInt32), .val (.int v2), .val (.int p4), .val (.int p5), .val (.int v3), .val (.ref b4), .val (.ref b25), .val (.int v72), .val (.ref b74), .val (.int y65), .val (.int v118), .unset, .unset, .unset, .unset, .unset] [(.int (v118 + y67))]))
  rw [← qv120]
  refine own_st (S' := T94.setTop (mkF m 178 #[.val (.int p0), .val (.int p1), .val (.long p2), .second, .val (.long p3), .second, .val (.int p4), .val (.int p5), .val (.int p2.toInt32), .val (.int v1), .val (.int p3.toInt32), .val (.int v2), .val (.int p4), .val (.int p5), .val (.int v3), .val (.ref b4), .val (.ref b25), .val (.int v72), .val (.ref b74), .val (.int y65), .val (.int v118), .val (.int v120), .unset, .unset, .unset, .unset] [])) (fun t k => XS.istore X94.here hx rfl (hb hby at_176) rfl (l' := #[.val (.int p0), .val (.int p1), .val (.long p2), .second, .val (.long p3), .second, .val (.int p4), .val (.int p5), .val (.int p2.toInt32), .val (.int v1), .val (.int p3.toInt32), .val (.int v2), .val (.int p4), .val (.int p5), .val (.int v3), .val (.ref b4), .val (.ref b25), .val (.int v72), .val (.ref b74), .val (.int y65), .val (.int v118), .val (.int v120), .unset, .unset, .unset, .unset]) rfl k) ?_
  refine own_st (S' := T94.setTop (mkF m 180 #[.val (.int p0), .val (.int p1), .val (.long p2), .second, .val (.long p3), .second, .val (.int p4), .val (.int p5), .val (.int p2.toInt32), .val (.int v1), .val (.int p3.toInt32), .val (.int v2), .val (.int p4), .val (.int p5), .val (.int v3), .val (.ref b4), .val (.ref b25), .val (.int v72), .val (.ref b74), .val (.int y65), .val (.int v118), .val (.int v120), .unset, .unset, .unset, .unset] [(.int v120)])) (fun t k => XS.iload X94.here hx rfl (hb hby at_178) rfl k) ?_
  refine own_st (S' := T94.setTop (mkF m 182 #[.val (.int p0), .val (.int p1), .val (.long p2), .second, .val (.long p3), .second, .val (.int p4), .val (.int p5), .val (.int p2.toInt32), .val (.int v1), .val (.int p3.toInt32), .val (.int v2), .val (.int p4), .val (.int p5), .val (.int v3), .val (.ref b4), .val (.ref b25), .val (.int v72), .val (.ref b74), .val (.int y65), .val (.int v118), .val (.int v120), .unset, .unset, .unset, .unset] [(.ref b25), (.int v120)])) (fun t k => XS.aload X94.here hx rfl (hb hby at_180) rfl rfl k) ?_
  refine own_st (S' := T94.setTop (mkF m 183 #[.val (.int p0), .val (.int p1), .val (.long p2), .second, .val (.long p3), .second, .val (.int p4), .val (.int p5), .val (.int p2.toInt32), .val (.int v1), .val (.int p3.toInt32), .val (.int v2), .val (.int p4), .val (.int p5), .val (.int v3), .val (.ref b4), .val (.ref b25), .val (.int v72), .val (.ref b74), .val (.int y65), .val (.int v118), .val (.int v120), .unset, .unset, .unset, .unset] [(.int (3 : Int32)), (.ref b25), (.int v120)])) (fun t k => XS.iconst X94.here hx rfl (hb hby at_182) k) ?_
  have O121 := f97
  obtain ⟨c121, Ar121, S121, M121, V121⟩ := O121
  have at121 : c121.slots[((3 : Int32)).toNatClampNeg]? = some (.int y68) := own_at S121 V121 (own_ix (j := (3 : Int32)) (i := 3) (n := 6) (by decide) (by decide) (by decide)) rfl
  refine own_st (S' := T94.setTop (mkF m 184 #[.val (.int p0), .val (.int p1), .val (.long p2), .second, .val (.long p3), .second, .val (.int p4), .val (.int p5), .val (.int p2.toInt32), .val (.int v1), .val (.int p3.toInt32), .val (.int v2), .val (.int p4), .val (.int p5), .val (.int v3), .val (.ref b4), .val (.ref b25), .val (.int v72), .val (.ref b74), .val (.int y65), .val (.int v118), .val (.int v120), .unset, .unset, .unset, .unset] [(.int y68), (.int v120)])) (fun t k => X94.iaload hx (j := (3 : Int32)) (v := (.int y68)) Ar121.1 (State.isArrayOf_alike hZ.alike Ar121.2.1) Ar121.2.2 (own_in S121 (own_ix (j := (3 : Int32)) (i := 3) (n := 6) (by decide) (by decide) (by decide))) at121 (g := (mkF m 183 #[.val (.int p0), .val (.int p1), .val (.long p2), .second, .val (.long p3), .second, .val (.int p4), .val (.int p5), .val (.int p2.toInt32), .val (.int v1), .val (.int p3.toInt32), .val (.int v2), .val (.int p4), .val (.int p5), .val (.int v3), .val (.ref b4), .val (.ref b25), .val (.int v72), .val (.ref b74), .val (.int y65), .val (.int v118), .val (.int v120), .unset, .unset, .unset, .unset] [(.int (3 : Int32)), (.ref b25), (.int v120)])) rfl rfl (hb hby at_183) _ k) ?_
  refine own_st (S' := T94.setTop (mkF m 185 #[.val (.int p0), .val (.int p1), .val (.long p2), .second, .val (.long p3), .second, .val (.int p4), .val (.int p5), .val (.int p2.toInt32), .val (.int v1), .val (.int p3.toInt32), .val (.int v2), .val (.int p4), .val (.int p5), .val (.int v3), .val (.ref b4), .val (.ref b25), .val (.int v72), .val (.ref b74), .val (.int y65), .val (.int v118), .val (.int v120), .unset, .unset, .unset, .unset] [(.int (v120 + y68))])) (fun t k => XS.iadd X94.here hx rfl (hb hby at_184) rfl k) ?_
  obtain ⟨v122, qv122⟩ : ∃ z : Int32, z = (v120 + y68) := ⟨_, rfl⟩
  show own_Go p.tables e below _ (T94.setTop (mkF m 185 #[.val (.int p0), .val (.int p1), .val (.long p2), .second, .val (.long p3), .second, .val (.int p4), .val (.int p5), .val (.int p2.toInt32), .val (.int v1), .val (.int p3.toInt32), .val (.int v2), .val (.int p4), .val (.int p5), .val (.int v3), .val (.ref b4), .val (.ref b25), .val (.int v72), .val (.ref b74), .val (.int y65), .val (.int v118), .val (.int v120), .unset, .unset, .unset, .unset] [(.int (v120 + y68))]))
  rw [← qv122]
  refine own_st (S' := T94.setTop (mkF m 187 #[.val (.int p0), .val (.int p1), .val (.long p2), .second, .val (.long p3), .second, .val (.int p4), .val (.int p5), .val (.int p2.toInt32), .val (.int v1), .val (.int p3.toInt32), .val (.int v2), .val (.int p4), .val (.int p5), .val (.int v3), .val (.ref b4), .val (.ref b25), .val (.int v72), .val (.ref b74), .val (.int y65), .val (.int v118), .val (.int v120), .val (.int v122), .unset, .unset, .unset] [])) (fun t k => XS.istore X94.here hx rfl (hb hby at_185) rfl (l' := #[.val (.int p0), .val (.int p1), .val (.long p2), .second, .val (.long p3), .second, .val (.int p4), .val (.int p5), .val (.int p2.toInt32), .val (.int v1), .val (.int p3.toInt32), .val (.int v2), .val (.int p4), .val (.int p5), .val (.int v3), .val (.ref b4), .val (.ref b25), .val (.int v72), .val (.ref b74), .val (.int y65), .val (.int v118), .val (.int v120), .val (.int v122), .unset, .unset, .unset]) rfl k) ?_
  refine own_st (S' := T94.setTop (mkF m 189 #[.val (.int p0), .val (.int p1), .val (.long p2), .second, .val (.long p3), .second, .val (.int p4), .val (.int p5), .val (.int p2.toInt32), .val (.int v1), .val (.int p3.toInt32), .val (.int v2), .val (.int p4), .val (.int p5), .val (.int v3), .val (.ref b4), .val (.ref b25), .val (.int v72), .val (.ref b74), .val (.int y65), .val (.int v118), .val (.int v120), .val (.int v122), .unset, .unset, .unset] [(.int v122)])) (fun t k => XS.iload X94.here hx rfl (hb hby at_187) rfl k) ?_
  refine own_st (S' := T94.setTop (mkF m 191 #[.val (.int p0), .val (.int p1), .val (.long p2), .second, .val (.long p3), .second, .val (.int p4), .val (.int p5), .val (.int p2.toInt32), .val (.int v1), .val (.int p3.toInt32), .val (.int v2), .val (.int p4), .val (.int p5), .val (.int v3), .val (.ref b4), .val (.ref b25), .val (.int v72), .val (.ref b74), .val (.int y65), .val (.int v118), .val (.int v120), .val (.int v122), .unset, .unset, .unset] [(.ref b25), (.int v122)])) (fun t k => XS.aload X94.here hx rfl (hb hby at_189) rfl rfl k) ?_
  refine own_st (S' := T94.setTop (mkF m 192 #[.val (.int p0), .val (.int p1), .val (.long p2), .second, .val (.long p3), .second, .val (.int p4), .val (.int p5), .val (.int p2.toInt32), .val (.int v1), .val (.int p3.toInt32), .val (.int v2), .val (.int p4), .val (.int p5), .val (.int v3), .val (.ref b4), .val (.ref b25), .val (.int v72), .val (.ref b74), .val (.int y65), .val (.int v118), .val (.int v120), .val (.int v122), .unset, .unset, .unset] [(.int (4 : Int32)), (.ref b25), (.int v122)])) (fun t k => XS.iconst X94.here hx rfl (hb hby at_191) k) ?_
  have O123 := f97
  obtain ⟨c123, Ar123, S123, M123, V123⟩ := O123
  have at123 : c123.slots[((4 : Int32)).toNatClampNeg]? = some (.int y69) := own_at S123 V123 (own_ix (j := (4 : Int32)) (i := 4) (n := 6) (by decide) (by decide) (by decide)) rfl
  refine own_st (S' := T94.setTop (mkF m 193 #[.val (.int p0), .val (.int p1), .val (.long p2), .second, .val (.long p3), .second, .val (.int p4), .val (.int p5), .val (.int p2.toInt32), .val (.int v1), .val (.int p3.toInt32), .val (.int v2), .val (.int p4), .val (.int p5), .val (.int v3), .val (.ref b4), .val (.ref b25), .val (.int v72), .val (.ref b74), .val (.int y65), .val (.int v118), .val (.int v120), .val (.int v122), .unset, .unset, .unset] [(.int y69), (.int v122)])) (fun t k => X94.iaload hx (j := (4 : Int32)) (v := (.int y69)) Ar123.1 (State.isArrayOf_alike hZ.alike Ar123.2.1) Ar123.2.2 (own_in S123 (own_ix (j := (4 : Int32)) (i := 4) (n := 6) (by decide) (by decide) (by decide))) at123 (g := (mkF m 192 #[.val (.int p0), .val (.int p1), .val (.long p2), .second, .val (.long p3), .second, .val (.int p4), .val (.int p5), .val (.int p2.toInt32), .val (.int v1), .val (.int p3.toInt32), .val (.int v2), .val (.int p4), .val (.int p5), .val (.int v3), .val (.ref b4), .val (.ref b25), .val (.int v72), .val (.ref b74), .val (.int y65), .val (.int v118), .val (.int v120), .val (.int v122), .unset, .unset, .unset] [(.int (4 : Int32)), (.ref b25), (.int v122)])) rfl rfl (hb hby at_192) _ k) ?_
  refine own_st (S' := T94.setTop (mkF m 194 #[.val (.int p0), .val (.int p1), .val (.long p2), .second, .val (.long p3), .second, .val (.int p4), .val (.int p5), .val (.int p2.toInt32), .val (.int v1), .val (.int p3.toInt32), .val (.int v2), .val (.int p4), .val (.int p5), .val (.int v3), .val (.ref b4), .val (.ref b25), .val (.int v72), .val (.ref b74), .val (.int y65), .val (.int v118), .val (.int v120), .val (.int v122), .unset, .unset, .unset] [(.int (v122 + y69))])) (fun t k => XS.iadd X94.here hx rfl (hb hby at_193) rfl k) ?_
  obtain ⟨v124, qv124⟩ : ∃ z : Int32, z = (v122 + y69) := ⟨_, rfl⟩
  show own_Go p.tables e below _ (T94.setTop (mkF m 194 #[.val (.int p0), .val (.int p1), .val (.long p2), .second, .val (.long p3), .second, .val (.int p4), .val (.int p5), .val (.int p2.toInt32), .val (.int v1), .val (.int p3.toInt32), .val (.int v2), .val (.int p4), .val (.int p5), .val (.int v3), .val (.ref b4), .val (.ref b25), .val (.int v72), .val (.ref b74), .val (.int y65), .val (.int v118), .val (.int v120), .val (.int v122), .unset, .unset, .unset] [(.int (v122 + y69))]))
  rw [← qv124]
  refine own_st (S' := T94.setTop (mkF m 196 #[.val (.int p0), .val (.int p1), .val (.long p2), .second, .val (.long p3), .second, .val (.int p4), .val (.int p5), .val (.int p2.toInt32), .val (.int v1), .val (.int p3.toInt32), .val (.int v2), .val (.int p4), .val (.int p5), .val (.int v3), .val (.ref b4), .val (.ref b25), .val (.int v72), .val (.ref b74), .val (.int y65), .val (.int v118), .val (.int v120), .val (.int v122), .val (.int v124), .unset, .unset] [])) (fun t k => XS.istore X94.here hx rfl (hb hby at_194) rfl (l' := #[.val (.int p0), .val (.int p1), .val (.long p2), .second, .val (.long p3), .second, .val (.int p4), .val (.int p5), .val (.int p2.toInt32), .val (.int v1), .val (.int p3.toInt32), .val (.int v2), .val (.int p4), .val (.int p5), .val (.int v3), .val (.ref b4), .val (.ref b25), .val (.int v72), .val (.ref b74), .val (.int y65), .val (.int v118), .val (.int v120), .val (.int v122), .val (.int v124), .unset, .unset]) rfl k) ?_
  refine own_st (S' := T94.setTop (mkF m 198 #[.val (.int p0), .val (.int p1), .val (.long p2), .second, .val (.long p3), .second, .val (.int p4), .val (.int p5), .val (.int p2.toInt32), .val (.int v1), .val (.int p3.toInt32), .val (.int v2), .val (.int p4), .val (.int p5), .val (.int v3), .val (.ref b4), .val (.ref b25), .val (.int v72), .val (.ref b74), .val (.int y65), .val (.int v118), .val (.int v120), .val (.int v122), .val (.int v124), .unset, .unset] [(.int v124)])) (fun t k => XS.iload X94.here hx rfl (hb hby at_196) rfl k) ?_
  refine own_st (S' := T94.setTop (mkF m 200 #[.val (.int p0), .val (.int p1), .val (.long p2), .second, .val (.long p3), .second, .val (.int p4), .val (.int p5), .val (.int p2.toInt32), .val (.int v1), .val (.int p3.toInt32), .val (.int v2), .val (.int p4), .val (.int p5), .val (.int v3), .val (.ref b4), .val (.ref b25), .val (.int v72), .val (.ref b74), .val (.int y65), .val (.int v118), .val (.int v120), .val (.int v122), .val (.int v124), .unset, .unset] [(.ref b25), (.int v124)])) (fun t k => XS.aload X94.here hx rfl (hb hby at_198) rfl rfl k) ?_
  refine own_st (S' := T94.setTop (mkF m 201 #[.val (.int p0), .val (.int p1), .val (.long p2), .second, .val (.long p3), .second, .val (.int p4), .val (.int p5), .val (.int p2.toInt32), .val (.int v1), .val (.int p3.toInt32), .val (.int v2), .val (.int p4), .val (.int p5), .val (.int v3), .val (.ref b4), .val (.ref b25), .val (.int v72), .val (.ref b74), .val (.int y65), .val (.int v118), .val (.int v120), .val (.int v122), .val (.int v124), .unset, .unset] [(.int (5 : Int32)), (.ref b25), (.int v124)])) (fun t k => XS.iconst X94.here hx rfl (hb hby at_200) k) ?_
  have O125 := f97
  obtain ⟨c125, Ar125, S125, M125, V125⟩ := O125
  have at125 : c125.slots[((5 : Int32)).toNatClampNeg]? = some (.int y70) := own_at S125 V125 (own_ix (j := (5 : Int32)) (i := 5) (n := 6) (by decide) (by decide) (by decide)) rfl
  refine own_st (S' := T94.setTop (mkF m 202 #[.val (.int p0), .val (.int p1), .val (.long p2), .second, .val (.long p3), .second, .val (.int p4), .val (.int p5), .val (.int p2.toInt32), .val (.int v1), .val (.int p3.toInt32), .val (.int v2), .val (.int p4), .val (.int p5), .val (.int v3), .val (.ref b4), .val (.ref b25), .val (.int v72), .val (.ref b74), .val (.int y65), .val (.int v118), .val (.int v120), .val (.int v122), .val (.int v124), .unset, .unset] [(.int y70), (.int v124)])) (fun t k => X94.iaload hx (j := (5 : Int32)) (v := (.int y70)) Ar125.1 (State.isArrayOf_alike hZ.alike Ar125.2.1) Ar125.2.2 (own_in S125 (own_ix (j := (5 : Int32)) (i := 5) (n := 6) (by decide) (by decide) (by decide))) at125 (g := (mkF m 201 #[.val (.int p0), .val (.int p1), .val (.long p2), .second, .val (.long p3), .second, .val (.int p4), .val (.int p5), .val (.int p2.toInt32), .val (.int v1), .val (.int p3.toInt32), .val (.int v2), .val (.int p4), .val (.int p5), .val (.int v3), .val (.ref b4), .val (.ref b25), .val (.int v72), .val (.ref b74), .val (.int y65), .val (.int v118), .val (.int v120), .val (.int v122), .val (.int v124), .unset, .unset] [(.int (5 : Int32)), (.ref b25), (.int v124)])) rfl rfl (hb hby at_201) _ k) ?_
  refine own_st (S' := T94.setTop (mkF m 203 #[.val (.int p0), .val (.int p1), .val (.long p2), .second, .val (.long p3), .second, .val (.int p4), .val (.int p5), .val (.int p2.toInt32), .val (.int v1), .val (.int p3.toInt32), .val (.int v2), .val (.int p4), .val (.int p5), .val (.int v3), .val (.ref b4), .val (.ref b25), .val (.int v72), .val (.ref b74), .val (.int y65), .val (.int v118), .val (.int v120), .val (.int v122), .val (.int v124), .unset, .unset] [(.int (v124 + y70))])) (fun t k => XS.iadd X94.here hx rfl (hb hby at_202) rfl k) ?_
  obtain ⟨v126, qv126⟩ : ∃ z : Int32, z = (v124 + y70) := ⟨_, rfl⟩
  show own_Go p.tables e below _ (T94.setTop (mkF m 203 #[.val (.int p0), .val (.int p1), .val (.long p2), .second, .val (.long p3), .second, .val (.int p4), .val (.int p5), .val (.int p2.toInt32), .val (.int v1), .val (.int p3.toInt32), .val (.int v2), .val (.int p4), .val (.int p5), .val (.int v3), .val (.ref b4), .val (.ref b25), .val (.int v72), .val (.ref b74), .val (.int y65), .val (.int v118), .val (.int v120), .val (.int v122), .val (.int v124), .unset, .unset] [(.int (v124 + y70))]))
  rw [← qv126]
  refine own_st (S' := T94.setTop (mkF m 205 #[.val (.int p0), .val (.int p1), .val (.long p2), .second, .val (.long p3), .second, .val (.int p4), .val (.int p5), .val (.int p2.toInt32), .val (.int v1), .val (.int p3.toInt32), .val (.int v2), .val (.int p4), .val (.int p5), .val (.int v3), .val (.ref b4), .val (.ref b25), .val (.int v72), .val (.ref b74), .val (.int y65), .val (.int v118), .val (.int v120), .val (.int v122), .val (.int v124), .val (.int v126), .unset] [])) (fun t k => XS.istore X94.here hx rfl (hb hby at_203) rfl (l' := #[.val (.int p0), .val (.int p1), .val (.long p2), .second, .val (.long p3), .second, .val (.int p4), .val (.int p5), .val (.int p2.toInt32), .val (.int v1), .val (.int p3.toInt32), .val (.int v2), .val (.int p4), .val (.int p5), .val (.int v3), .val (.ref b4), .val (.ref b25), .val (.int v72), .val (.ref b74), .val (.int y65), .val (.int v118), .val (.int v120), .val (.int v122), .val (.int v124), .val (.int v126), .unset]) rfl k) ?_
  refine own_st (S' := T94.setTop (mkF m 207 #[.val (.int p0), .val (.int p1), .val (.long p2), .second, .val (.long p3), .second, .val (.int p4), .val (.int p5), .val (.int p2.toInt32), .val (.int v1), .val (.int p3.toInt32), .val (.int v2), .val (.int p4), .val (.int p5), .val (.int v3), .val (.ref b4), .val (.ref b25), .val (.int v72), .val (.ref b74), .val (.int y65), .val (.int v118), .val (.int v120), .val (.int v122), .val (.int v124), .val (.int v126), .unset] [(.ref b74)])) (fun t k => XS.aload X94.here hx rfl (hb hby at_205) rfl rfl k) ?_
  refine own_st (S' := T94.setTop (mkF m 209 #[.val (.int p0), .val (.int p1), .val (.long p2), .second, .val (.long p3), .second, .val (.int p4), .val (.int p5), .val (.int p2.toInt32), .val (.int v1), .val (.int p3.toInt32), .val (.int v2), .val (.int p4), .val (.int p5), .val (.int v3), .val (.ref b4), .val (.ref b25), .val (.int v72), .val (.ref b74), .val (.int y65), .val (.int v118), .val (.int v120), .val (.int v122), .val (.int v124), .val (.int v126), .unset] [(.int v3), (.ref b74)])) (fun t k => XS.iload X94.here hx rfl (hb hby at_207) rfl k) ?_
  obtain ⟨cq127, kq127, q127a, q127b, q127c⟩ := isOf hZ rfl f99
  obtain ⟨_, _, ⟨T127, L127, k127, n127⟩, -, X127, ⟨Lc127, hQ127, l127, y127, z127⟩, st127⟩ := X94.virtualBack hx (y := (⟨"kithrank/Weights", "weight", "(I)I"⟩ : MethodName)) (z := (⟨"kithrank/Weights", "weight", "(I)I"⟩ : MethodName)) hown (mvT hZ (hw _ (List.mem_of_getElem? (i := 29) rfl))) (mvT hZ (hw _ (List.mem_of_getElem? (i := 30) rfl))) (notFace_of_selects (args := #[]) (mvT hZ (hw _ (List.mem_of_getElem? (i := 32) rfl)))) (mvT hZ (hw _ (List.mem_of_getElem? (i := 32) rfl))) (mvT hZ (hw _ (List.mem_of_getElem? (i := 31) rfl))) (by decide) (backOf (W := 0) (rm3 l Z a0 hw [] b74 v3 wt81 y102 y103 y104 y105 y106 y107 T94.heap n0 Z94 f100 f108 hi14) hZ (hw _ (List.mem_of_getElem? (i := 33) rfl)) (hw _ (List.mem_of_getElem? (i := 4) rfl)) (by decide) (by decide)) q127a q127c (g := (mkF m 209 #[.val (.int p0), .val (.int p1), .val (.long p2), .second, .val (.long p3), .second, .val (.int p4), .val (.int p5), .val (.int p2.toInt32), .val (.int v1), .val (.int p3.toInt32), .val (.int v2), .val (.int p4), .val (.int p5), .val (.int v3), .val (.ref b4), .val (.ref b25), .val (.int v72), .val (.ref b74), .val (.int y65), .val (.int v118), .val (.int v120), .val (.int v122), .val (.int v124), .val (.int v126), .unset] [(.int v3), (.ref b74)])) rfl (by rw [hml]; rfl) (Steps.refl _) (argsL := [(.int v3)]) (rest := []) (lenOf pd0_2 rfl) rfl (by show 2 * 0 + _ ≤ _; exact Nat.le_of_eq rfl) (hb hby at_209) (fun _ _ => ⟨rfl, rfl, (by decide : 5 + 0 ≤ _), (by decide : 27 + 0 ≤ _)⟩)
  dsimp only [Pt.U, Pt.locs, Pt.cells, Pt.slots] at X127 l127 y127 z127 st127 hQ127
  rw [l127, y127, z127] at X127
  obtain ⟨rfl, N127q, hh127⟩ := hQ127
  have N127 := Fr.app N94 N127q
  refine own_tr st127 ?_
  show own_Go p.tables e below _ (T127.setTop (mkF m 212 #[.val (.int p0), .val (.int p1), .val (.long p2), .second, .val (.long p3), .second, .val (.int p4), .val (.int p5), .val (.int p2.toInt32), .val (.int v1), .val (.int p3.toInt32), .val (.int v2), .val (.int p4), .val (.int p5), .val (.int v3), .val (.ref b4), .val (.ref b25), .val (.int v72), .val (.ref b74), .val (.int y65), .val (.int v118), .val (.int v120), .val (.int v122), .val (.int v124), .val (.int v126), .unset] [(.int (own_s6 v3 y102 y103 y104 y105 y106 y107))]))
  obtain ⟨v128, qv128⟩ : ∃ z : Int32, z = (own_s6 v3 y102 y103 y104 y105 y106 y107) := ⟨_, rfl⟩
  rw [← qv128]
  refine own_st (S' := T127.setTop (mkF m 213 #[.val (.int p0), .val (.int p1), .val (.long p2), .second, .val (.long p3), .second, .val (.int p4), .val (.int p5), .val (.int p2.toInt32), .val (.int v1), .val (.int p3.toInt32), .val (.int v2), .val (.int p4), .val (.int p5), .val (.int v3), .val (.ref b4), .val (.ref b25), .val (.int v72), .val (.ref b74), .val (.int y65), .val (.int v118), .val (.int v120), .val (.int v122), .val (.int v124), .val (.int v126), .unset] [(.int p1), (.int v128)])) (fun t k => XS.iloadN X127.here hx rfl (hb hby at_212) rfl k) ?_
  have hc129 : v128 = p1 := by subst qv128; subst qv126; subst qv124; subst qv122; subst qv120; subst qv118; subst qy114; subst qy113; subst qy112; subst qy111; subst qy110; subst qy109; subst qy107; subst qy106; subst qy105; subst qy104; subst qy103; subst qy102; subst qy92; subst qy91; subst qy90; subst qy89; subst qy88; subst qy87; subst qy70; subst qy69; subst qy68; subst qy67; subst qy66; subst qy65; exact own_wi hi14 p1 p2.toInt32 v1 p3.toInt32 v2 p4 p5
  refine own_st (S' := T127.setTop (mkF m 216 #[.val (.int p0), .val (.int p1), .val (.long p2), .second, .val (.long p3), .second, .val (.int p4), .val (.int p5), .val (.int p2.toInt32), .val (.int v1), .val (.int p3.toInt32), .val (.int v2), .val (.int p4), .val (.int p5), .val (.int v3), .val (.ref b4), .val (.ref b25), .val (.int v72), .val (.ref b74), .val (.int y65), .val (.int v118), .val (.int v120), .val (.int v122), .val (.int v124), .val (.int v126), .unset] [])) (fun t k => XS.icmpNo X127.here hx rfl (hb hby at_213) rfl (teq hc129).2 k) ?_
  show own_Go p.tables e below _ (T127.setTop (mkF m 216 #[.val (.int p0), .val (.int p1), .val (.long p2), .second, .val (.long p3), .second, .val (.int p4), .val (.int p5), .val (.int p2.toInt32), .val (.int v1), .val (.int p3.toInt32), .val (.int v2), .val (.int p4), .val (.int p5), .val (.int v3), .val (.ref b4), .val (.ref b25), .val (.int v72), .val (.ref b74), .val (.int y65), .val (.int v118), .val (.int v120), .val (.int v122), .val (.int v124), .val (.int v126), .unset] []))
  refine own_st (S' := T127.setTop (mkF m 217 #[.val (.int p0), .val (.int p1), .val (.long p2), .second, .val (.long p3), .second, .val (.int p4), .val (.int p5), .val (.int p2.toInt32), .val (.int v1), .val (.int p3.toInt32), .val (.int v2), .val (.int p4), .val (.int p5), .val (.int v3), .val (.ref b4), .val (.ref b25), .val (.int v72), .val (.ref b74), .val (.int y65), .val (.int v118), .val (.int v120), .val (.int v122), .val (.int v124), .val (.int v126), .unset] [(.int (1 : Int32))])) (fun t k => XS.iconst X127.here hx rfl (hb hby at_216) k) ?_
  refine own_st (S' := T127.setTop (mkF m 221 #[.val (.int p0), .val (.int p1), .val (.long p2), .second, .val (.long p3), .second, .val (.int p4), .val (.int p5), .val (.int p2.toInt32), .val (.int v1), .val (.int p3.toInt32), .val (.int v2), .val (.int p4), .val (.int p5), .val (.int v3), .val (.ref b4), .val (.ref b25), .val (.int v72), .val (.ref b74), .val (.int y65), .val (.int v118), .val (.int v120), .val (.int v122), .val (.int v124), .val (.int v126), .unset] [(.int (1 : Int32))])) (fun t k => XS.goto X127.here hx rfl (pc0 := 217) (pc' := 221) rfl (hb hby at_217) (by decide) (by decide) k) ?_
  refine own_st (S' := T127.setTop (mkF m 223 #[.val (.int p0), .val (.int p1), .val (.long p2), .second, .val (.long p3), .second, .val (.int p4), .val (.int p5), .val (.int p2.toInt32), .val (.int v1), .val (.int p3.toInt32), .val (.int v2), .val (.int p4), .val (.int p5), .val (.int v3), .val (.ref b4), .val (.ref b25), .val (.int v72), .val (.ref b74), .val (.int y65), .val (.int v118), .val (.int v120), .val (.int v122), .val (.int v124), .val (.int v126), .val (.int (1 : Int32))] [])) (fun t k => XS.istore X127.here hx rfl (hb hby at_221) rfl (l' := #[.val (.int p0), .val (.int p1), .val (.long p2), .second, .val (.long p3), .second, .val (.int p4), .val (.int p5), .val (.int p2.toInt32), .val (.int v1), .val (.int p3.toInt32), .val (.int v2), .val (.int p4), .val (.int p5), .val (.int v3), .val (.ref b4), .val (.ref b25), .val (.int v72), .val (.ref b74), .val (.int y65), .val (.int v118), .val (.int v120), .val (.int v122), .val (.int v124), .val (.int v126), .val (.int (1 : Int32))]) rfl k) ?_
  refine own_st (S' := T127.setTop (mkF m 225 #[.val (.int p0), .val (.int p1), .val (.long p2), .second, .val (.long p3), .second, .val (.int p4), .val (.int p5), .val (.int p2.toInt32), .val (.int v1), .val (.int p3.toInt32), .val (.int v2), .val (.int p4), .val (.int p5), .val (.int v3), .val (.ref b4), .val (.ref b25), .val (.int v72), .val (.ref b74), .val (.int y65), .val (.int v118), .val (.int v120), .val (.int v122), .val (.int v124), .val (.int v126), .val (.int (1 : Int32))] [(.int (1 : Int32))])) (fun t k => XS.iload X127.here hx rfl (hb hby at_223) rfl k) ?_
  refine own_st (S' := T127.setTop (mkF m 228 #[.val (.int p0), .val (.int p1), .val (.long p2), .second, .val (.long p3), .second, .val (.int p4), .val (.int p5), .val (.int p2.toInt32), .val (.int v1), .val (.int p3.toInt32), .val (.int v2), .val (.int p4), .val (.int p5), .val (.int v3), .val (.ref b4), .val (.ref b25), .val (.int v72), .val (.ref b74), .val (.int y65), .val (.int v118), .val (.int v120), .val (.int v122), .val (.int v124), .val (.int v126), .val (.int (1 : Int32))] [])) (fun t k => XS.ifNo X127.here hx rfl (hb hby at_225) rfl ((if0 _ _).trans (feq (by decide)).1) k) ?_
  show own_Go p.tables e below _ (T127.setTop (mkF m 228 #[.val (.int p0), .val (.int p1), .val (.long p2), .second, .val (.long p3), .second, .val (.int p4), .val (.int p5), .val (.int p2.toInt32), .val (.int v1), .val (.int p3.toInt32), .val (.int v2), .val (.int p4), .val (.int p5), .val (.int v3), .val (.ref b4), .val (.ref b25), .val (.int v72), .val (.ref b74), .val (.int y65), .val (.int v118), .val (.int v120), .val (.int v122), .val (.int v124), .val (.int v126), .val (.int (1 : Int32))] []))
  refine own_st (S' := T127.setTop (mkF m 230 #[.val (.int p0), .val (.int p1), .val (.long p2), .second, .val (.long p3), .second, .val (.int p4), .val (.int p5), .val (.int p2.toInt32), .val (.int v1), .val (.int p3.toInt32), .val (.int v2), .val (.int p4), .val (.int p5), .val (.int v3), .val (.ref b4), .val (.ref b25), .val (.int v72), .val (.ref b74), .val (.int y65), .val (.int v118), .val (.int v120), .val (.int v122), .val (.int v124), .val (.int v126), .val (.int (1 : Int32))] [(.ref b74)])) (fun t k => XS.aload X127.here hx rfl (hb hby at_228) rfl rfl k) ?_
  refine own_st (S' := T127.setTop (mkF m 232 #[.val (.int p0), .val (.int p1), .val (.long p2), .second, .val (.long p3), .second, .val (.int p4), .val (.int p5), .val (.int p2.toInt32), .val (.int v1), .val (.int p3.toInt32), .val (.int v2), .val (.int p4), .val (.int p5), .val (.int v3), .val (.ref b4), .val (.ref b25), .val (.int v72), .val (.ref b74), .val (.int y65), .val (.int v118), .val (.int v120), .val (.int v122), .val (.int v124), .val (.int v126), .val (.int (1 : Int32))] [(.int v72), (.ref b74)])) (fun t k => XS.iload X127.here hx rfl (hb hby at_230) rfl k) ?_
  obtain ⟨cq130, kq130, q130a, q130b, q130c⟩ := isOf hZ hh127 f99
  obtain ⟨_, _, ⟨T130, L130, k130, n130⟩, -, X130, ⟨Lc130, hQ130, l130, y130, z130⟩, st130⟩ := X127.virtualBack hx (y := (⟨"kithrank/Weights", "weight", "(I)I"⟩ : MethodName)) (z := (⟨"kithrank/Weights", "weight", "(I)I"⟩ : MethodName)) hown (mvT hZ (hw _ (List.mem_of_getElem? (i := 29) rfl))) (mvT hZ (hw _ (List.mem_of_getElem? (i := 30) rfl))) (notFace_of_selects (args := #[]) (mvT hZ (hw _ (List.mem_of_getElem? (i := 32) rfl)))) (mvT hZ (hw _ (List.mem_of_getElem? (i := 32) rfl))) (mvT hZ (hw _ (List.mem_of_getElem? (i := 31) rfl))) (by decide) (backOf (W := 0) (rm3 l Z a0 hw [] b74 v72 wt81 y102 y103 y104 y105 y106 y107 T94.heap n0 Z94 f100 f108 hk17) hZ (hw _ (List.mem_of_getElem? (i := 33) rfl)) (hw _ (List.mem_of_getElem? (i := 4) rfl)) (by decide) (by decide)) q130a q130c (g := (mkF m 232 #[.val (.int p0), .val (.int p1), .val (.long p2), .second, .val (.long p3), .second, .val (.int p4), .val (.int p5), .val (.int p2.toInt32), .val (.int v1), .val (.int p3.toInt32), .val (.int v2), .val (.int p4), .val (.int p5), .val (.int v3), .val (.ref b4), .val (.ref b25), .val (.int v72), .val (.ref b74), .val (.int y65), .val (.int v118), .val (.int v120), .val (.int v122), .val (.int v124), .val (.int v126), .val (.int (1 : Int32))] [(.int v72), (.ref b74)])) rfl (by rw [hml]; rfl) (Steps.refl _) (argsL := [(.int v72)]) (rest := []) (lenOf pd0_2 rfl) rfl (by show 2 * 0 + _ ≤ _; exact Nat.le_of_eq rfl) (hb hby at_232) (fun _ _ => ⟨rfl, hh127, (by decide : 5 + 0 ≤ _), (by decide : 27 + 0 ≤ _)⟩)
  dsimp only [Pt.U, Pt.locs, Pt.cells, Pt.slots] at X130 l130 y130 z130 st130 hQ130
  rw [l130, y130, z130] at X130
  obtain ⟨rfl, N130q, hh130⟩ := hQ130
  have N130 := Fr.app N127 N130q
  refine own_tr st130 ?_
  show own_Go p.tables e below _ (T130.setTop (mkF m 235 #[.val (.int p0), .val (.int p1), .val (.long p2), .second, .val (.long p3), .second, .val (.int p4), .val (.int p5), .val (.int p2.toInt32), .val (.int v1), .val (.int p3.toInt32), .val (.int v2), .val (.int p4), .val (.int p5), .val (.int v3), .val (.ref b4), .val (.ref b25), .val (.int v72), .val (.ref b74), .val (.int y65), .val (.int v118), .val (.int v120), .val (.int v122), .val (.int v124), .val (.int v126), .val (.int (1 : Int32))] [(.int (own_s6 v72 y102 y103 y104 y105 y106 y107))]))
  obtain ⟨v131, qv131⟩ : ∃ z : Int32, z = (own_s6 v72 y102 y103 y104 y105 y106 y107) := ⟨_, rfl⟩
  rw [← qv131]
  refine own_st (S' := T130.setTop (mkF m 237 #[.val (.int p0), .val (.int p1), .val (.long p2), .second, .val (.long p3), .second, .val (.int p4), .val (.int p5), .val (.int p2.toInt32), .val (.int v1), .val (.int p3.toInt32), .val (.int v2), .val (.int p4), .val (.int p5), .val (.int v3), .val (.ref b4), .val (.ref b25), .val (.int v72), .val (.ref b74), .val (.int y65), .val (.int v118), .val (.int v120), .val (.int v122), .val (.int v124), .val (.int v126), .val (.int (1 : Int32))] [(.ref b25), (.int v131)])) (fun t k => XS.aload X130.here hx rfl (hb hby at_235) rfl rfl k) ?_
  refine own_st (S' := T130.setTop (mkF m 239 #[.val (.int p0), .val (.int p1), .val (.long p2), .second, .val (.long p3), .second, .val (.int p4), .val (.int p5), .val (.int p2.toInt32), .val (.int v1), .val (.int p3.toInt32), .val (.int v2), .val (.int p4), .val (.int p5), .val (.int v3), .val (.ref b4), .val (.ref b25), .val (.int v72), .val (.ref b74), .val (.int y65), .val (.int v118), .val (.int v120), .val (.int v122), .val (.int v124), .val (.int v126), .val (.int (1 : Int32))] [(.int v72), (.ref b25), (.int v131)])) (fun t k => XS.iload X130.here hx rfl (hb hby at_237) rfl k) ?_
  have O132 := f97
  obtain ⟨c132, Ar132, S132, M132, V132⟩ := O132
  have at132 : c132.slots[(v72).toNatClampNeg]? = some (.int (own_s6 v72 y65 y66 y67 y68 y69 y70)) := own_at S132 V132 (own_ix6 hk17) (own_at6 hk17 y65 y66 y67 y68 y69 y70)
  refine own_st (S' := T130.setTop (mkF m 240 #[.val (.int p0), .val (.int p1), .val (.long p2), .second, .val (.long p3), .second, .val (.int p4), .val (.int p5), .val (.int p2.toInt32), .val (.int v1), .val (.int p3.toInt32), .val (.int v2), .val (.int p4), .val (.int p5), .val (.int v3), .val (.ref b4), .val (.ref b25), .val (.int v72), .val (.ref b74), .val (.int y65), .val (.int v118), .val (.int v120), .val (.int v122), .val (.int v124), .val (.int v126), .val (.int (1 : Int32))] [(.int (own_s6 v72 y65 y66 y67 y68 y69 y70)), (.int v131)])) (fun t k => X130.iaload hx (j := v72) (v := (.int (own_s6 v72 y65 y66 y67 y68 y69 y70))) (by rw [hh130]; exact Ar132.1) (State.isArrayOf_alike hZ.alike Ar132.2.1) Ar132.2.2 (own_in S132 (own_ix6 hk17)) at132 (g := (mkF m 239 #[.val (.int p0), .val (.int p1), .val (.long p2), .second, .val (.long p3), .second, .val (.int p4), .val (.int p5), .val (.int p2.toInt32), .val (.int v1), .val (.int p3.toInt32), .val (.int v2), .val (.int p4), .val (.int p5), .val (.int v3), .val (.ref b4), .val (.ref b25), .val (.int v72), .val (.ref b74), .val (.int y65), .val (.int v118), .val (.int v120), .val (.int v122), .val (.int v124), .val (.int v126), .val (.int (1 : Int32))] [(.int v72), (.ref b25), (.int v131)])) rfl rfl (hb hby at_239) _ k) ?_
  have hc133 : v131 = (own_s6 v72 y65 y66 y67 y68 y69 y70) := by subst qv131; subst qv128; subst qv126; subst qv124; subst qv122; subst qv120; subst qv118; subst qy114; subst qy113; subst qy112; subst qy111; subst qy110; subst qy109; subst qy107; subst qy106; subst qy105; subst qy104; subst qy103; subst qy102; subst qy92; subst qy91; subst qy90; subst qy89; subst qy88; subst qy87; subst qy70; subst qy69; subst qy68; subst qy67; subst qy66; subst qy65; rfl
  refine own_st (S' := T130.setTop (mkF m 243 #[.val (.int p0), .val (.int p1), .val (.long p2), .second, .val (.long p3), .second, .val (.int p4), .val (.int p5), .val (.int p2.toInt32), .val (.int v1), .val (.int p3.toInt32), .val (.int v2), .val (.int p4), .val (.int p5), .val (.int v3), .val (.ref b4), .val (.ref b25), .val (.int v72), .val (.ref b74), .val (.int y65), .val (.int v118), .val (.int v120), .val (.int v122), .val (.int v124), .val (.int v126), .val (.int (1 : Int32))] [])) (fun t k => XS.icmpNo X130.here hx rfl (hb hby at_240) rfl (teq hc133).2 k) ?_
  show own_Go p.tables e below _ (T130.setTop (mkF m 243 #[.val (.int p0), .val (.int p1), .val (.long p2), .second, .val (.long p3), .second, .val (.int p4), .val (.int p5), .val (.int p2.toInt32), .val (.int v1), .val (.int p3.toInt32), .val (.int v2), .val (.int p4), .val (.int p5), .val (.int v3), .val (.ref b4), .val (.ref b25), .val (.int v72), .val (.ref b74), .val (.int y65), .val (.int v118), .val (.int v120), .val (.int v122), .val (.int v124), .val (.int v126), .val (.int (1 : Int32))] []))
  refine own_st (S' := T130.setTop (mkF m 244 #[.val (.int p0), .val (.int p1), .val (.long p2), .second, .val (.long p3), .second, .val (.int p4), .val (.int p5), .val (.int p2.toInt32), .val (.int v1), .val (.int p3.toInt32), .val (.int v2), .val (.int p4), .val (.int p5), .val (.int v3), .val (.ref b4), .val (.ref b25), .val (.int v72), .val (.ref b74), .val (.int y65), .val (.int v118), .val (.int v120), .val (.int v122), .val (.int v124), .val (.int v126), .val (.int (1 : Int32))] [(.int (1 : Int32))])) (fun t k => XS.iconst X130.here hx rfl (hb hby at_243) k) ?_
  refine own_st (S' := T130.setTop (mkF m 248 #[.val (.int p0), .val (.int p1), .val (.long p2), .second, .val (.long p3), .second, .val (.int p4), .val (.int p5), .val (.int p2.toInt32), .val (.int v1), .val (.int p3.toInt32), .val (.int v2), .val (.int p4), .val (.int p5), .val (.int v3), .val (.ref b4), .val (.ref b25), .val (.int v72), .val (.ref b74), .val (.int y65), .val (.int v118), .val (.int v120), .val (.int v122), .val (.int v124), .val (.int v126), .val (.int (1 : Int32))] [(.int (1 : Int32))])) (fun t k => XS.goto X130.here hx rfl (pc0 := 244) (pc' := 248) rfl (hb hby at_244) (by decide) (by decide) k) ?_
  refine own_st (S' := T130.setTop (mkF m 250 #[.val (.int p0), .val (.int p1), .val (.long p2), .second, .val (.long p3), .second, .val (.int p4), .val (.int p5), .val (.int p2.toInt32), .val (.int v1), .val (.int p3.toInt32), .val (.int v2), .val (.int p4), .val (.int p5), .val (.int v3), .val (.ref b4), .val (.ref b25), .val (.int v72), .val (.ref b74), .val (.int y65), .val (.int v118), .val (.int v120), .val (.int v122), .val (.int v124), .val (.int v126), .val (.int (1 : Int32))] [])) (fun t k => XS.istore X130.here hx rfl (hb hby at_248) rfl (l' := #[.val (.int p0), .val (.int p1), .val (.long p2), .second, .val (.long p3), .second, .val (.int p4), .val (.int p5), .val (.int p2.toInt32), .val (.int v1), .val (.int p3.toInt32), .val (.int v2), .val (.int p4), .val (.int p5), .val (.int v3), .val (.ref b4), .val (.ref b25), .val (.int v72), .val (.ref b74), .val (.int y65), .val (.int v118), .val (.int v120), .val (.int v122), .val (.int v124), .val (.int v126), .val (.int (1 : Int32))]) rfl k) ?_
  refine own_st (S' := T130.setTop (mkF m 252 #[.val (.int p0), .val (.int p1), .val (.long p2), .second, .val (.long p3), .second, .val (.int p4), .val (.int p5), .val (.int p2.toInt32), .val (.int v1), .val (.int p3.toInt32), .val (.int v2), .val (.int p4), .val (.int p5), .val (.int v3), .val (.ref b4), .val (.ref b25), .val (.int v72), .val (.ref b74), .val (.int y65), .val (.int v118), .val (.int v120), .val (.int v122), .val (.int v124), .val (.int v126), .val (.int (1 : Int32))] [(.int (1 : Int32))])) (fun t k => XS.iload X130.here hx rfl (hb hby at_250) rfl k) ?_
  refine own_st (S' := T130.setTop (mkF m 255 #[.val (.int p0), .val (.int p1), .val (.long p2), .second, .val (.long p3), .second, .val (.int p4), .val (.int p5), .val (.int p2.toInt32), .val (.int v1), .val (.int p3.toInt32), .val (.int v2), .val (.int p4), .val (.int p5), .val (.int v3), .val (.ref b4), .val (.ref b25), .val (.int v72), .val (.ref b74), .val (.int y65), .val (.int v118), .val (.int v120), .val (.int v122), .val (.int v124), .val (.int v126), .val (.int (1 : Int32))] [])) (fun t k => XS.ifNo X130.here hx rfl (hb hby at_252) rfl ((if0 _ _).trans (feq (by decide)).1) k) ?_
  show own_Go p.tables e below _ (T130.setTop (mkF m 255 #[.val (.int p0), .val (.int p1), .val (.long p2), .second, .val (.long p3), .second, .val (.int p4), .val (.int p5), .val (.int p2.toInt32), .val (.int v1), .val (.int p3.toInt32), .val (.int v2), .val (.int p4), .val (.int p5), .val (.int v3), .val (.ref b4), .val (.ref b25), .val (.int v72), .val (.ref b74), .val (.int y65), .val (.int v118), .val (.int v120), .val (.int v122), .val (.int v124), .val (.int v126), .val (.int (1 : Int32))] []))
  refine own_st (S' := T130.setTop (mkF m 257 #[.val (.int p0), .val (.int p1), .val (.long p2), .second, .val (.long p3), .second, .val (.int p4), .val (.int p5), .val (.int p2.toInt32), .val (.int v1), .val (.int p3.toInt32), .val (.int v2), .val (.int p4), .val (.int p5), .val (.int v3), .val (.ref b4), .val (.ref b25), .val (.int v72), .val (.ref b74), .val (.int y65), .val (.int v118), .val (.int v120), .val (.int v122), .val (.int v124), .val (.int v126), .val (.int (1 : Int32))] [(.ref b74)])) (fun t k => XS.aload X130.here hx rfl (hb hby at_255) rfl rfl k) ?_
  refine own_st (S' := T130.setTop (mkF m 258 #[.val (.int p0), .val (.int p1), .val (.long p2), .second, .val (.long p3), .second, .val (.int p4), .val (.int p5), .val (.int p2.toInt32), .val (.int v1), .val (.int p3.toInt32), .val (.int v2), .val (.int p4), .val (.int p5), .val (.int v3), .val (.ref b4), .val (.ref b25), .val (.int v72), .val (.ref b74), .val (.int y65), .val (.int v118), .val (.int v120), .val (.int v122), .val (.int v124), .val (.int v126), .val (.int (1 : Int32))] [(.int (1 : Int32)), (.ref b74)])) (fun t k => XS.iconst X130.here hx rfl (hb hby at_257) k) ?_
  obtain ⟨cq134, kq134, q134a, q134b, q134c⟩ := isOf hZ hh130 f99
  obtain ⟨_, _, ⟨T134, L134, k134, n134⟩, -, X134, ⟨Lc134, hQ134, l134, y134, z134⟩, st134⟩ := X130.virtualBack hx (y := (⟨"kithrank/Weights", "below", "(I)I"⟩ : MethodName)) (z := (⟨"kithrank/Weights", "below", "(I)I"⟩ : MethodName)) hown (mvT hZ (hw _ (List.mem_of_getElem? (i := 34) rfl))) (mvT hZ (hw _ (List.mem_of_getElem? (i := 35) rfl))) (notFace_of_selects (args := #[]) (mvT hZ (hw _ (List.mem_of_getElem? (i := 37) rfl)))) (mvT hZ (hw _ (List.mem_of_getElem? (i := 37) rfl))) (mvT hZ (hw _ (List.mem_of_getElem? (i := 36) rfl))) (by decide) (backOf (W := 0) (rm11 l Z a0 hw [] b74 tr81 (0 : Int32) y109 y110 y111 y112 y113 y114 T94.heap n0 Z94 f101 f115) hZ (hw _ (List.mem_of_getElem? (i := 38) rfl)) (hw _ (List.mem_of_getElem? (i := 4) rfl)) (by decide) (by decide)) q134a q134c (g := (mkF m 258 #[.val (.int p0), .val (.int p1), .val (.long p2), .second, .val (.long p3), .second, .val (.int p4), .val (.int p5), .val (.int p2.toInt32), .val (.int v1), .val (.int p3.toInt32), .val (.int v2), .val (.int p4), .val (.int p5), .val (.int v3), .val (.ref b4), .val (.ref b25), .val (.int v72), .val (.ref b74), .val (.int y65), .val (.int v118), .val (.int v120), .val (.int v122), .val (.int v124), .val (.int v126), .val (.int (1 : Int32))] [(.int (1 : Int32)), (.ref b74)])) rfl (by rw [hml]; rfl) (Steps.refl _) (argsL := [(.int (1 : Int32))]) (rest := []) (lenOf pd0_2 rfl) rfl (by show 2 * 0 + _ ≤ _; exact Nat.le_of_eq rfl) (hb hby at_258) (fun _ _ => ⟨rfl, hh130, (by decide : 5 + 0 ≤ _), (by decide : 27 + 0 ≤ _)⟩)
  dsimp only [Pt.U, Pt.locs, Pt.cells, Pt.slots] at X134 l134 y134 z134 st134 hQ134
  rw [l134, y134, z134] at X134
  obtain ⟨rfl, N134q, hh134⟩ := hQ134
  have N134 := Fr.app N130 N134q
  refine own_tr st134 ?_
  show own_Go p.tables e below _ (T134.setTop (mkF m 261 #[.val (.int p0), .val (.int p1), .val (.long p2), .second, .val (.long p3), .second, .val (.int p4), .val (.int p5), .val (.int p2.toInt32), .val (.int v1), .val (.int p3.toInt32), .val (.int v2), .val (.int p4), .val (.int p5), .val (.int v3), .val (.ref b4), .val (.ref b25), .val (.int v72), .val (.ref b74), .val (.int y65), .val (.int v118), .val (.int v120), .val (.int v122), .val (.int v124), .val (.int v126), .val (.int (1 : Int32))] [(.int ((0 : Int32) + y109))]))
  obtain ⟨v135, qv135⟩ : ∃ z : Int32, z = ((0 : Int32) + y109) := ⟨_, rfl⟩
  rw [← qv135]
  refine own_st (S' := T134.setTop (mkF m 263 #[.val (.int p0), .val (.int p1), .val (.long p2), .second, .val (.long p3), .second, .val (.int p4), .val (.int p5), .val (.int p2.toInt32), .val (.int v1), .val (.int p3.toInt32), .val (.int v2), .val (.int p4), .val (.int p5), .val (.int v3), .val (.ref b4), .val (.ref b25), .val (.int v72), .val (.ref b74), .val (.int y65), .val (.int v118), .val (.int v120), .val (.int v122), .val (.int v124), .val (.int v126), .val (.int (1 : Int32))] [(.int y65), (.int v135)])) (fun t k => XS.iload X134.here hx rfl (hb hby at_261) rfl k) ?_
  have hc136 : v135 = y65 := by subst qv135; subst qv131; subst qv128; subst qv126; subst qv124; subst qv122; subst qv120; subst qv118; subst qy114; subst qy113; subst qy112; subst qy111; subst qy110; subst qy109; subst qy107; subst qy106; subst qy105; subst qy104; subst qy103; subst qy102; subst qy92; subst qy91; subst qy90; subst qy89; subst qy88; subst qy87; subst qy70; subst qy69; subst qy68; subst qy67; subst qy66; subst qy65; exact own_be1 hi14 p1 p2.toInt32 v1 p3.toInt32 v2 p4 p5
  refine own_st (S' := T134.setTop (mkF m 266 #[.val (.int p0), .val (.int p1), .val (.long p2), .second, .val (.long p3), .second, .val (.int p4), .val (.int p5), .val (.int p2.toInt32), .val (.int v1), .val (.int p3.toInt32), .val (.int v2), .val (.int p4), .val (.int p5), .val (.int v3), .val (.ref b4), .val (.ref b25), .val (.int v72), .val (.ref b74), .val (.int y65), .val (.int v118), .val (.int v120), .val (.int v122), .val (.int v124), .val (.int v126), .val (.int (1 : Int32))] [])) (fun t k => XS.icmpNo X134.here hx rfl (hb hby at_263) rfl (teq hc136).2 k) ?_
  show own_Go p.tables e below _ (T134.setTop (mkF m 266 #[.val (.int p0), .val (.int p1), .val (.long p2), .second, .val (.long p3), .second, .val (.int p4), .val (.int p5), .val (.int p2.toInt32), .val (.int v1), .val (.int p3.toInt32), .val (.int v2), .val (.int p4), .val (.int p5), .val (.int v3), .val (.ref b4), .val (.ref b25), .val (.int v72), .val (.ref b74), .val (.int y65), .val (.int v118), .val (.int v120), .val (.int v122), .val (.int v124), .val (.int v126), .val (.int (1 : Int32))] []))
  refine own_st (S' := T134.setTop (mkF m 267 #[.val (.int p0), .val (.int p1), .val (.long p2), .second, .val (.long p3), .second, .val (.int p4), .val (.int p5), .val (.int p2.toInt32), .val (.int v1), .val (.int p3.toInt32), .val (.int v2), .val (.int p4), .val (.int p5), .val (.int v3), .val (.ref b4), .val (.ref b25), .val (.int v72), .val (.ref b74), .val (.int y65), .val (.int v118), .val (.int v120), .val (.int v122), .val (.int v124), .val (.int v126), .val (.int (1 : Int32))] [(.int (1 : Int32))])) (fun t k => XS.iconst X134.here hx rfl (hb hby at_266) k) ?_
  refine own_st (S' := T134.setTop (mkF m 271 #[.val (.int p0), .val (.int p1), .val (.long p2), .second, .val (.long p3), .second, .val (.int p4), .val (.int p5), .val (.int p2.toInt32), .val (.int v1), .val (.int p3.toInt32), .val (.int v2), .val (.int p4), .val (.int p5), .val (.int v3), .val (.ref b4), .val (.ref b25), .val (.int v72), .val (.ref b74), .val (.int y65), .val (.int v118), .val (.int v120), .val (.int v122), .val (.int v124), .val (.int v126), .val (.int (1 : Int32))] [(.int (1 : Int32))])) (fun t k => XS.goto X134.here hx rfl (pc0 := 267) (pc' := 271) rfl (hb hby at_267) (by decide) (by decide) k) ?_
  refine own_st (S' := T134.setTop (mkF m 273 #[.val (.int p0), .val (.int p1), .val (.long p2), .second, .val (.long p3), .second, .val (.int p4), .val (.int p5), .val (.int p2.toInt32), .val (.int v1), .val (.int p3.toInt32), .val (.int v2), .val (.int p4), .val (.int p5), .val (.int v3), .val (.ref b4), .val (.ref b25), .val (.int v72), .val (.ref b74), .val (.int y65), .val (.int v118), .val (.int v120), .val (.int v122), .val (.int v124), .val (.int v126), .val (.int (1 : Int32))] [])) (fun t k => XS.istore X134.here hx rfl (hb hby at_271) rfl (l' := #[.val (.int p0), .val (.int p1), .val (.long p2), .second, .val (.long p3), .second, .val (.int p4), .val (.int p5), .val (.int p2.toInt32), .val (.int v1), .val (.int p3.toInt32), .val (.int v2), .val (.int p4), .val (.int p5), .val (.int v3), .val (.ref b4), .val (.ref b25), .val (.int v72), .val (.ref b74), .val (.int y65), .val (.int v118), .val (.int v120), .val (.int v122), .val (.int v124), .val (.int v126), .val (.int (1 : Int32))]) rfl k) ?_
  refine own_st (S' := T134.setTop (mkF m 275 #[.val (.int p0), .val (.int p1), .val (.long p2), .second, .val (.long p3), .second, .val (.int p4), .val (.int p5), .val (.int p2.toInt32), .val (.int v1), .val (.int p3.toInt32), .val (.int v2), .val (.int p4), .val (.int p5), .val (.int v3), .val (.ref b4), .val (.ref b25), .val (.int v72), .val (.ref b74), .val (.int y65), .val (.int v118), .val (.int v120), .val (.int v122), .val (.int v124), .val (.int v126), .val (.int (1 : Int32))] [(.int (1 : Int32))])) (fun t k => XS.iload X134.here hx rfl (hb hby at_273) rfl k) ?_
  refine own_st (S' := T134.setTop (mkF m 278 #[.val (.int p0), .val (.int p1), .val (.long p2), .second, .val (.long p3), .second, .val (.int p4), .val (.int p5), .val (.int p2.toInt32), .val (.int v1), .val (.int p3.toInt32), .val (.int v2), .val (.int p4), .val (.int p5), .val (.int v3), .val (.ref b4), .val (.ref b25), .val (.int v72), .val (.ref b74), .val (.int y65), .val (.int v118), .val (.int v120), .val (.int v122), .val (.int v124), .val (.int v126), .val (.int (1 : Int32))] [])) (fun t k => XS.ifNo X134.here hx rfl (hb hby at_275) rfl ((if0 _ _).trans (feq (by decide)).1) k) ?_
  show own_Go p.tables e below _ (T134.setTop (mkF m 278 #[.val (.int p0), .val (.int p1), .val (.long p2), .second, .val (.long p3), .second, .val (.int p4), .val (.int p5), .val (.int p2.toInt32), .val (.int v1), .val (.int p3.toInt32), .val (.int v2), .val (.int p4), .val (.int p5), .val (.int v3), .val (.ref b4), .val (.ref b25), .val (.int v72), .val (.ref b74), .val (.int y65), .val (.int v118), .val (.int v120), .val (.int v122), .val (.int v124), .val (.int v126), .val (.int (1 : Int32))] []))
  refine own_st (S' := T134.setTop (mkF m 280 #[.val (.int p0), .val (.int p1), .val (.long p2), .second, .val (.long p3), .second, .val (.int p4), .val (.int p5), .val (.int p2.toInt32), .val (.int v1), .val (.int p3.toInt32), .val (.int v2), .val (.int p4), .val (.int p5), .val (.int v3), .val (.ref b4), .val (.ref b25), .val (.int v72), .val (.ref b74), .val (.int y65), .val (.int v118), .val (.int v120), .val (.int v122), .val (.int v124), .val (.int v126), .val (.int (1 : Int32))] [(.ref b74)])) (fun t k => XS.aload X134.here hx rfl (hb hby at_278) rfl rfl k) ?_
  refine own_st (S' := T134.setTop (mkF m 281 #[.val (.int p0), .val (.int p1), .val (.long p2), .second, .val (.long p3), .second, .val (.int p4), .val (.int p5), .val (.int p2.toInt32), .val (.int v1), .val (.int p3.toInt32), .val (.int v2), .val (.int p4), .val (.int p5), .val (.int v3), .val (.ref b4), .val (.ref b25), .val (.int v72), .val (.ref b74), .val (.int y65), .val (.int v118), .val (.int v120), .val (.int v122), .val (.int v124), .val (.int v126), .val (.int (1 : Int32))] [(.int (2 : Int32)), (.ref b74)])) (fun t k => XS.iconst X134.here hx rfl (hb hby at_280) k) ?_
  obtain ⟨cq137, kq137, q137a, q137b, q137c⟩ := isOf hZ hh134 f99
  obtain ⟨_, _, ⟨T137, L137, k137, n137⟩, -, X137, ⟨Lc137, hQ137, l137, y137, z137⟩, st137⟩ := X134.virtualBack hx (y := (⟨"kithrank/Weights", "below", "(I)I"⟩ : MethodName)) (z := (⟨"kithrank/Weights", "below", "(I)I"⟩ : MethodName)) hown (mvT hZ (hw _ (List.mem_of_getElem? (i := 34) rfl))) (mvT hZ (hw _ (List.mem_of_getElem? (i := 35) rfl))) (notFace_of_selects (args := #[]) (mvT hZ (hw _ (List.mem_of_getElem? (i := 37) rfl)))) (mvT hZ (hw _ (List.mem_of_getElem? (i := 37) rfl))) (mvT hZ (hw _ (List.mem_of_getElem? (i := 36) rfl))) (by decide) (backOf (W := 0) (rm12 l Z a0 hw [] b74 tr81 (0 : Int32) y109 y110 y111 y112 y113 y114 T94.heap n0 Z94 f101 f115) hZ (hw _ (List.mem_of_getElem? (i := 38) rfl)) (hw _ (List.mem_of_getElem? (i := 4) rfl)) (by decide) (by decide)) q137a q137c (g := (mkF m 281 #[.val (.int p0), .val (.int p1), .val (.long p2), .second, .val (.long p3), .second, .val (.int p4), .val (.int p5), .val (.int p2.toInt32), .val (.int v1), .val (.int p3.toInt32), .val (.int v2), .val (.int p4), .val (.int p5), .val (.int v3), .val (.ref b4), .val (.ref b25), .val (.int v72), .val (.ref b74), .val (.int y65), .val (.int v118), .val (.int v120), .val (.int v122), .val (.int v124), .val (.int v126), .val (.int (1 : Int32))] [(.int (2 : Int32)), (.ref b74)])) rfl (by rw [hml]; rfl) (Steps.refl _) (argsL := [(.int (2 : Int32))]) (rest := []) (lenOf pd0_2 rfl) rfl (by show 2 * 0 + _ ≤ _; exact Nat.le_of_eq rfl) (hb hby at_281) (fun _ _ => ⟨rfl, hh134, (by decide : 5 + 0 ≤ _), (by decide : 27 + 0 ≤ _)⟩)
  dsimp only [Pt.U, Pt.locs, Pt.cells, Pt.slots] at X137 l137 y137 z137 st137 hQ137
  rw [l137, y137, z137] at X137
  obtain ⟨rfl, N137q, hh137⟩ := hQ137
  have N137 := Fr.app N134 N137q
  refine own_tr st137 ?_
  show own_Go p.tables e below _ (T137.setTop (mkF m 284 #[.val (.int p0), .val (.int p1), .val (.long p2), .second, .val (.long p3), .second, .val (.int p4), .val (.int p5), .val (.int p2.toInt32), .val (.int v1), .val (.int p3.toInt32), .val (.int v2), .val (.int p4), .val (.int p5), .val (.int v3), .val (.ref b4), .val (.ref b25), .val (.int v72), .val (.ref b74), .val (.int y65), .val (.int v118), .val (.int v120), .val (.int v122), .val (.int v124), .val (.int v126), .val (.int (1 : Int32))] [(.int ((0 : Int32) + y110))]))
  obtain ⟨v138, qv138⟩ : ∃ z : Int32, z = ((0 : Int32) + y110) := ⟨_, rfl⟩
  rw [← qv138]
  refine own_st (S' := T137.setTop (mkF m 286 #[.val (.int p0), .val (.int p1), .val (.long p2), .second, .val (.long p3), .second, .val (.int p4), .val (.int p5), .val (.int p2.toInt32), .val (.int v1), .val (.int p3.toInt32), .val (.int v2), .val (.int p4), .val (.int p5), .val (.int v3), .val (.ref b4), .val (.ref b25), .val (.int v72), .val (.ref b74), .val (.int y65), .val (.int v118), .val (.int v120), .val (.int v122), .val (.int v124), .val (.int v126), .val (.int (1 : Int32))] [(.int v118), (.int v138)])) (fun t k => XS.iload X137.here hx rfl (hb hby at_284) rfl k) ?_
  have hc139 : v138 = v118 := by subst qv138; subst qv135; subst qv131; subst qv128; subst qv126; subst qv124; subst qv122; subst qv120; subst qv118; subst qy114; subst qy113; subst qy112; subst qy111; subst qy110; subst qy109; subst qy107; subst qy106; subst qy105; subst qy104; subst qy103; subst qy102; subst qy92; subst qy91; subst qy90; subst qy89; subst qy88; subst qy87; subst qy70; subst qy69; subst qy68; subst qy67; subst qy66; subst qy65; exact own_be2 hi14 p1 p2.toInt32 v1 p3.toInt32 v2 p4 p5
  refine own_st (S' := T137.setTop (mkF m 289 #[.val (.int p0), .val (.int p1), .val (.long p2), .second, .val (.long p3), .second, .val (.int p4), .val (.int p5), .val (.int p2.toInt32), .val (.int v1), .val (.int p3.toInt32), .val (.int v2), .val (.int p4), .val (.int p5), .val (.int v3), .val (.ref b4), .val (.ref b25), .val (.int v72), .val (.ref b74), .val (.int y65), .val (.int v118), .val (.int v120), .val (.int v122), .val (.int v124), .val (.int v126), .val (.int (1 : Int32))] [])) (fun t k => XS.icmpNo X137.here hx rfl (hb hby at_286) rfl (teq hc139).2 k) ?_
  show own_Go p.tables e below _ (T137.setTop (mkF m 289 #[.val (.int p0), .val (.int p1), .val (.long p2), .second, .val (.long p3), .second, .val (.int p4), .val (.int p5), .val (.int p2.toInt32), .val (.int v1), .val (.int p3.toInt32), .val (.int v2), .val (.int p4), .val (.int p5), .val (.int v3), .val (.ref b4), .val (.ref b25), .val (.int v72), .val (.ref b74), .val (.int y65), .val (.int v118), .val (.int v120), .val (.int v122), .val (.int v124), .val (.int v126), .val (.int (1 : Int32))] []))
  refine own_st (S' := T137.setTop (mkF m 290 #[.val (.int p0), .val (.int p1), .val (.long p2), .second, .val (.long p3), .second, .val (.int p4), .val (.int p5), .val (.int p2.toInt32), .val (.int v1), .val (.int p3.toInt32), .val (.int v2), .val (.int p4), .val (.int p5), .val (.int v3), .val (.ref b4), .val (.ref b25), .val (.int v72), .val (.ref b74), .val (.int y65), .val (.int v118), .val (.int v120), .val (.int v122), .val (.int v124), .val (.int v126), .val (.int (1 : Int32))] [(.int (1 : Int32))])) (fun t k => XS.iconst X137.here hx rfl (hb hby at_289) k) ?_
  refine own_st (S' := T137.setTop (mkF m 294 #[.val (.int p0), .val (.int p1), .val (.long p2), .second, .val (.long p3), .second, .val (.int p4), .val (.int p5), .val (.int p2.toInt32), .val (.int v1), .val (.int p3.toInt32), .val (.int v2), .val (.int p4), .val (.int p5), .val (.int v3), .val (.ref b4), .val (.ref b25), .val (.int v72), .val (.ref b74), .val (.int y65), .val (.int v118), .val (.int v120), .val (.int v122), .val (.int v124), .val (.int v126), .val (.int (1 : Int32))] [(.int (1 : Int32))])) (fun t k => XS.goto X137.here hx rfl (pc0 := 290) (pc' := 294) rfl (hb hby at_290) (by decide) (by decide) k) ?_
  refine own_st (S' := T137.setTop (mkF m 296 #[.val (.int p0), .val (.int p1), .val (.long p2), .second, .val (.long p3), .second, .val (.int p4), .val (.int p5), .val (.int p2.toInt32), .val (.int v1), .val (.int p3.toInt32), .val (.int v2), .val (.int p4), .val (.int p5), .val (.int v3), .val (.ref b4), .val (.ref b25), .val (.int v72), .val (.ref b74), .val (.int y65), .val (.int v118), .val (.int v120), .val (.int v122), .val (.int v124), .val (.int v126), .val (.int (1 : Int32))] [])) (fun t k => XS.istore X137.here hx rfl (hb hby at_294) rfl (l' := #[.val (.int p0), .val (.int p1), .val (.long p2), .second, .val (.long p3), .second, .val (.int p4), .val (.int p5), .val (.int p2.toInt32), .val (.int v1), .val (.int p3.toInt32), .val (.int v2), .val (.int p4), .val (.int p5), .val (.int v3), .val (.ref b4), .val (.ref b25), .val (.int v72), .val (.ref b74), .val (.int y65), .val (.int v118), .val (.int v120), .val (.int v122), .val (.int v124), .val (.int v126), .val (.int (1 : Int32))]) rfl k) ?_
  refine own_st (S' := T137.setTop (mkF m 298 #[.val (.int p0), .val (.int p1), .val (.long p2), .second, .val (.long p3), .second, .val (.int p4), .val (.int p5), .val (.int p2.toInt32), .val (.int v1), .val (.int p3.toInt32), .val (.int v2), .val (.int p4), .val (.int p5), .val (.int v3), .val (.ref b4), .val (.ref b25), .val (.int v72), .val (.ref b74), .val (.int y65), .val (.int v118), .val (.int v120), .val (.int v122), .val (.int v124), .val (.int v126), .val (.int (1 : Int32))] [(.int (1 : Int32))])) (fun t k => XS.iload X137.here hx rfl (hb hby at_296) rfl k) ?_
  refine own_st (S' := T137.setTop (mkF m 301 #[.val (.int p0), .val (.int p1), .val (.long p2), .second, .val (.long p3), .second, .val (.int p4), .val (.int p5), .val (.int p2.toInt32), .val (.int v1), .val (.int p3.toInt32), .val (.int v2), .val (.int p4), .val (.int p5), .val (.int v3), .val (.ref b4), .val (.ref b25), .val (.int v72), .val (.ref b74), .val (.int y65), .val (.int v118), .val (.int v120), .val (.int v122), .val (.int v124), .val (.int v126), .val (.int (1 : Int32))] [])) (fun t k => XS.ifNo X137.here hx rfl (hb hby at_298) rfl ((if0 _ _).trans (feq (by decide)).1) k) ?_
  show own_Go p.tables e below _ (T137.setTop (mkF m 301 #[.val (.int p0), .val (.int p1), .val (.long p2), .second, .val (.long p3), .second, .val (.int p4), .val (.int p5), .val (.int p2.toInt32), .val (.int v1), .val (.int p3.toInt32), .val (.int v2), .val (.int p4), .val (.int p5), .val (.int v3), .val (.ref b4), .val (.ref b25), .val (.int v72), .val (.ref b74), .val (.int y65), .val (.int v118), .val (.int v120), .val (.int v122), .val (.int v124), .val (.int v126), .val (.int (1 : Int32))] []))
  refine own_st (S' := T137.setTop (mkF m 303 #[.val (.int p0), .val (.int p1), .val (.long p2), .second, .val (.long p3), .second, .val (.int p4), .val (.int p5), .val (.int p2.toInt32), .val (.int v1), .val (.int p3.toInt32), .val (.int v2), .val (.int p4), .val (.int p5), .val (.int v3), .val (.ref b4), .val (.ref b25), .val (.int v72), .val (.ref b74), .val (.int y65), .val (.int v118), .val (.int v120), .val (.int v122), .val (.int v124), .val (.int v126), .val (.int (1 : Int32))] [(.ref b74)])) (fun t k => XS.aload X137.here hx rfl (hb hby at_301) rfl rfl k) ?_
  refine own_st (S' := T137.setTop (mkF m 304 #[.val (.int p0), .val (.int p1), .val (.long p2), .second, .val (.long p3), .second, .val (.int p4), .val (.int p5), .val (.int p2.toInt32), .val (.int v1), .val (.int p3.toInt32), .val (.int v2), .val (.int p4), .val (.int p5), .val (.int v3), .val (.ref b4), .val (.ref b25), .val (.int v72), .val (.ref b74), .val (.int y65), .val (.int v118), .val (.int v120), .val (.int v122), .val (.int v124), .val (.int v126), .val (.int (1 : Int32))] [(.int (3 : Int32)), (.ref b74)])) (fun t k => XS.iconst X137.here hx rfl (hb hby at_303) k) ?_
  obtain ⟨cq140, kq140, q140a, q140b, q140c⟩ := isOf hZ hh137 f99
  obtain ⟨_, _, ⟨T140, L140, k140, n140⟩, -, X140, ⟨Lc140, hQ140, l140, y140, z140⟩, st140⟩ := X137.virtualBack hx (y := (⟨"kithrank/Weights", "below", "(I)I"⟩ : MethodName)) (z := (⟨"kithrank/Weights", "below", "(I)I"⟩ : MethodName)) hown (mvT hZ (hw _ (List.mem_of_getElem? (i := 34) rfl))) (mvT hZ (hw _ (List.mem_of_getElem? (i := 35) rfl))) (notFace_of_selects (args := #[]) (mvT hZ (hw _ (List.mem_of_getElem? (i := 37) rfl)))) (mvT hZ (hw _ (List.mem_of_getElem? (i := 37) rfl))) (mvT hZ (hw _ (List.mem_of_getElem? (i := 36) rfl))) (by decide) (backOf (W := 0) (rm13 l Z a0 hw [] b74 tr81 (0 : Int32) y109 y110 y111 y112 y113 y114 T94.heap n0 Z94 f101 f115) hZ (hw _ (List.mem_of_getElem? (i := 38) rfl)) (hw _ (List.mem_of_getElem? (i := 4) rfl)) (by decide) (by decide)) q140a q140c (g := (mkF m 304 #[.val (.int p0), .val (.int p1), .val (.long p2), .second, .val (.long p3), .second, .val (.int p4), .val (.int p5), .val (.int p2.toInt32), .val (.int v1), .val (.int p3.toInt32), .val (.int v2), .val (.int p4), .val (.int p5), .val (.int v3), .val (.ref b4), .val (.ref b25), .val (.int v72), .val (.ref b74), .val (.int y65), .val (.int v118), .val (.int v120), .val (.int v122), .val (.int v124), .val (.int v126), .val (.int (1 : Int32))] [(.int (3 : Int32)), (.ref b74)])) rfl (by rw [hml]; rfl) (Steps.refl _) (argsL := [(.int (3 : Int32))]) (rest := []) (lenOf pd0_2 rfl) rfl (by show 2 * 0 + _ ≤ _; exact Nat.le_of_eq rfl) (hb hby at_304) (fun _ _ => ⟨rfl, hh137, (by decide : 5 + 0 ≤ _), (by decide : 27 + 0 ≤ _)⟩)
  dsimp only [Pt.U, Pt.locs, Pt.cells, Pt.slots] at X140 l140 y140 z140 st140 hQ140
  rw [l140, y140, z140] at X140
  obtain ⟨rfl, N140q, hh140⟩ := hQ140
  have N140 := Fr.app N137 N140q
  refine own_tr st140 ?_
  show own_Go p.tables e below _ (T140.setTop (mkF m 307 #[.val (.int p0), .val (.int p1), .val (.long p2), .second, .val (.long p3), .second, .val (.int p4), .val (.int p5), .val (.int p2.toInt32), .val (.int v1), .val (.int p3.toInt32), .val (.int v2), .val (.int p4), .val (.int p5), .val (.int v3), .val (.ref b4), .val (.ref b25), .val (.int v72), .val (.ref b74), .val (.int y65), .val (.int v118), .val (.int v120), .val (.int v122), .val (.int v124), .val (.int v126), .val (.int (1 : Int32))] [(.int (((0 : Int32) + y111) + y110))]))
  obtain ⟨v141, qv141⟩ : ∃ z : Int32, z = (((0 : Int32) + y111) + y110) := ⟨_, rfl⟩
  rw [← qv141]
  refine own_st (S' := T140.setTop (mkF m 309 #[.val (.int p0), .val (.int p1), .val (.long p2), .second, .val (.long p3), .second, .val (.int p4), .val (.int p5), .val (.int p2.toInt32), .val (.int v1), .val (.int p3.toInt32), .val (.int v2), .val (.int p4), .val (.int p5), .val (.int v3), .val (.ref b4), .val (.ref b25), .val (.int v72), .val (.ref b74), .val (.int y65), .val (.int v118), .val (.int v120), .val (.int v122), .val (.int v124), .val (.int v126), .val (.int (1 : Int32))] [(.int v120), (.int v141)])) (fun t k => XS.iload X140.here hx rfl (hb hby at_307) rfl k) ?_
  have hc142 : v141 = v120 := by subst qv141; subst qv138; subst qv135; subst qv131; subst qv128; subst qv126; subst qv124; subst qv122; subst qv120; subst qv118; subst qy114; subst qy113; subst qy112; subst qy111; subst qy110; subst qy109; subst qy107; subst qy106; subst qy105; subst qy104; subst qy103; subst qy102; subst qy92; subst qy91; subst qy90; subst qy89; subst qy88; subst qy87; subst qy70; subst qy69; subst qy68; subst qy67; subst qy66; subst qy65; exact own_be3 hi14 p1 p2.toInt32 v1 p3.toInt32 v2 p4 p5
  refine own_st (S' := T140.setTop (mkF m 312 #[.val (.int p0), .val (.int p1), .val (.long p2), .second, .val (.long p3), .second, .val (.int p4), .val (.int p5), .val (.int p2.toInt32), .val (.int v1), .val (.int p3.toInt32), .val (.int v2), .val (.int p4), .val (.int p5), .val (.int v3), .val (.ref b4), .val (.ref b25), .val (.int v72), .val (.ref b74), .val (.int y65), .val (.int v118), .val (.int v120), .val (.int v122), .val (.int v124), .val (.int v126), .val (.int (1 : Int32))] [])) (fun t k => XS.icmpNo X140.here hx rfl (hb hby at_309) rfl (teq hc142).2 k) ?_
  show own_Go p.tables e below _ (T140.setTop (mkF m 312 #[.val (.int p0), .val (.int p1), .val (.long p2), .second, .val (.long p3), .second, .val (.int p4), .val (.int p5), .val (.int p2.toInt32), .val (.int v1), .val (.int p3.toInt32), .val (.int v2), .val (.int p4), .val (.int p5), .val (.int v3), .val (.ref b4), .val (.ref b25), .val (.int v72), .val (.ref b74), .val (.int y65), .val (.int v118), .val (.int v120), .val (.int v122), .val (.int v124), .val (.int v126), .val (.int (1 : Int32))] []))
  refine own_st (S' := T140.setTop (mkF m 313 #[.val (.int p0), .val (.int p1), .val (.long p2), .second, .val (.long p3), .second, .val (.int p4), .val (.int p5), .val (.int p2.toInt32), .val (.int v1), .val (.int p3.toInt32), .val (.int v2), .val (.int p4), .val (.int p5), .val (.int v3), .val (.ref b4), .val (.ref b25), .val (.int v72), .val (.ref b74), .val (.int y65), .val (.int v118), .val (.int v120), .val (.int v122), .val (.int v124), .val (.int v126), .val (.int (1 : Int32))] [(.int (1 : Int32))])) (fun t k => XS.iconst X140.here hx rfl (hb hby at_312) k) ?_
  refine own_st (S' := T140.setTop (mkF m 317 #[.val (.int p0), .val (.int p1), .val (.long p2), .second, .val (.long p3), .second, .val (.int p4), .val (.int p5), .val (.int p2.toInt32), .val (.int v1), .val (.int p3.toInt32), .val (.int v2), .val (.int p4), .val (.int p5), .val (.int v3), .val (.ref b4), .val (.ref b25), .val (.int v72), .val (.ref b74), .val (.int y65), .val (.int v118), .val (.int v120), .val (.int v122), .val (.int v124), .val (.int v126), .val (.int (1 : Int32))] [(.int (1 : Int32))])) (fun t k => XS.goto X140.here hx rfl (pc0 := 313) (pc' := 317) rfl (hb hby at_313) (by decide) (by decide) k) ?_
  refine own_st (S' := T140.setTop (mkF m 319 #[.val (.int p0), .val (.int p1), .val (.long p2), .second, .val (.long p3), .second, .val (.int p4), .val (.int p5), .val (.int p2.toInt32), .val (.int v1), .val (.int p3.toInt32), .val (.int v2), .val (.int p4), .val (.int p5), .val (.int v3), .val (.ref b4), .val (.ref b25), .val (.int v72), .val (.ref b74), .val (.int y65), .val (.int v118), .val (.int v120), .val (.int v122), .val (.int v124), .val (.int v126), .val (.int (1 : Int32))] [])) (fun t k => XS.istore X140.here hx rfl (hb hby at_317) rfl (l' := #[.val (.int p0), .val (.int p1), .val (.long p2), .second, .val (.long p3), .second, .val (.int p4), .val (.int p5), .val (.int p2.toInt32), .val (.int v1), .val (.int p3.toInt32), .val (.int v2), .val (.int p4), .val (.int p5), .val (.int v3), .val (.ref b4), .val (.ref b25), .val (.int v72), .val (.ref b74), .val (.int y65), .val (.int v118), .val (.int v120), .val (.int v122), .val (.int v124), .val (.int v126), .val (.int (1 : Int32))]) rfl k) ?_
  refine own_st (S' := T140.setTop (mkF m 321 #[.val (.int p0), .val (.int p1), .val (.long p2), .second, .val (.long p3), .second, .val (.int p4), .val (.int p5), .val (.int p2.toInt32), .val (.int v1), .val (.int p3.toInt32), .val (.int v2), .val (.int p4), .val (.int p5), .val (.int v3), .val (.ref b4), .val (.ref b25), .val (.int v72), .val (.ref b74), .val (.int y65), .val (.int v118), .val (.int v120), .val (.int v122), .val (.int v124), .val (.int v126), .val (.int (1 : Int32))] [(.int (1 : Int32))])) (fun t k => XS.iload X140.here hx rfl (hb hby at_319) rfl k) ?_
  refine own_st (S' := T140.setTop (mkF m 324 #[.val (.int p0), .val (.int p1), .val (.long p2), .second, .val (.long p3), .second, .val (.int p4), .val (.int p5), .val (.int p2.toInt32), .val (.int v1), .val (.int p3.toInt32), .val (.int v2), .val (.int p4), .val (.int p5), .val (.int v3), .val (.ref b4), .val (.ref b25), .val (.int v72), .val (.ref b74), .val (.int y65), .val (.int v118), .val (.int v120), .val (.int v122), .val (.int v124), .val (.int v126), .val (.int (1 : Int32))] [])) (fun t k => XS.ifNo X140.here hx rfl (hb hby at_321) rfl ((if0 _ _).trans (feq (by decide)).1) k) ?_
  show own_Go p.tables e below _ (T140.setTop (mkF m 324 #[.val (.int p0), .val (.int p1), .val (.long p2), .second, .val (.long p3), .second, .val (.int p4), .val (.int p5), .val (.int p2.toInt32), .val (.int v1), .val (.int p3.toInt32), .val (.int v2), .val (.int p4), .val (.int p5), .val (.int v3), .val (.ref b4), .val (.ref b25), .val (.int v72), .val (.ref b74), .val (.int y65), .val (.int v118), .val (.int v120), .val (.int v122), .val (.int v124), .val (.int v126), .val (.int (1 : Int32))] []))
  refine own_st (S' := T140.setTop (mkF m 326 #[.val (.int p0), .val (.int p1), .val (.long p2), .second, .val (.long p3), .second, .val (.int p4), .val (.int p5), .val (.int p2.toInt32), .val (.int v1), .val (.int p3.toInt32), .val (.int v2), .val (.int p4), .val (.int p5), .val (.int v3), .val (.ref b4), .val (.ref b25), .val (.int v72), .val (.ref b74), .val (.int y65), .val (.int v118), .val (.int v120), .val (.int v122), .val (.int v124), .val (.int v126), .val (.int (1 : Int32))] [(.ref b74)])) (fun t k => XS.aload X140.here hx rfl (hb hby at_324) rfl rfl k) ?_
  refine own_st (S' := T140.setTop (mkF m 327 #[.val (.int p0), .val (.int p1), .val (.long p2), .second, .val (.long p3), .second, .val (.int p4), .val (.int p5), .val (.int p2.toInt32), .val (.int v1), .val (.int p3.toInt32), .val (.int v2), .val (.int p4), .val (.int p5), .val (.int v3), .val (.ref b4), .val (.ref b25), .val (.int v72), .val (.ref b74), .val (.int y65), .val (.int v118), .val (.int v120), .val (.int v122), .val (.int v124), .val (.int v126), .val (.int (1 : Int32))] [(.int (4 : Int32)), (.ref b74)])) (fun t k => XS.iconst X140.here hx rfl (hb hby at_326) k) ?_
  obtain ⟨cq143, kq143, q143a, q143b, q143c⟩ := isOf hZ hh140 f99
  obtain ⟨_, _, ⟨T143, L143, k143, n143⟩, -, X143, ⟨Lc143, hQ143, l143, y143, z143⟩, st143⟩ := X140.virtualBack hx (y := (⟨"kithrank/Weights", "below", "(I)I"⟩ : MethodName)) (z := (⟨"kithrank/Weights", "below", "(I)I"⟩ : MethodName)) hown (mvT hZ (hw _ (List.mem_of_getElem? (i := 34) rfl))) (mvT hZ (hw _ (List.mem_of_getElem? (i := 35) rfl))) (notFace_of_selects (args := #[]) (mvT hZ (hw _ (List.mem_of_getElem? (i := 37) rfl)))) (mvT hZ (hw _ (List.mem_of_getElem? (i := 37) rfl))) (mvT hZ (hw _ (List.mem_of_getElem? (i := 36) rfl))) (by decide) (backOf (W := 0) (rm14 l Z a0 hw [] b74 tr81 (0 : Int32) y109 y110 y111 y112 y113 y114 T94.heap n0 Z94 f101 f115) hZ (hw _ (List.mem_of_getElem? (i := 38) rfl)) (hw _ (List.mem_of_getElem? (i := 4) rfl)) (by decide) (by decide)) q143a q143c (g := (mkF m 327 #[.val (.int p0), .val (.int p1), .val (.long p2), .second, .val (.long p3), .second, .val (.int p4), .val (.int p5), .val (.int p2.toInt32), .val (.int v1), .val (.int p3.toInt32), .val (.int v2), .val (.int p4), .val (.int p5), .val (.int v3), .val (.ref b4), .val (.ref b25), .val (.int v72), .val (.ref b74), .val (.int y65), .val (.int v118), .val (.int v120), .val (.int v122), .val (.int v124), .val (.int v126), .val (.int (1 : Int32))] [(.int (4 : Int32)), (.ref b74)])) rfl (by rw [hml]; rfl) (Steps.refl _) (argsL := [(.int (4 : Int32))]) (rest := []) (lenOf pd0_2 rfl) rfl (by show 2 * 0 + _ ≤ _; exact Nat.le_of_eq rfl) (hb hby at_327) (fun _ _ => ⟨rfl, hh140, (by decide : 5 + 0 ≤ _), (by decide : 27 + 0 ≤ _)⟩)
  dsimp only [Pt.U, Pt.locs, Pt.cells, Pt.slots] at X143 l143 y143 z143 st143 hQ143
  rw [l143, y143, z143] at X143
  obtain ⟨rfl, N143q, hh143⟩ := hQ143
  have N143 := Fr.app N140 N143q
  refine own_tr st143 ?_
  show own_Go p.tables e below _ (T143.setTop (mkF m 330 #[.val (.int p0), .val (.int p1), .val (.long p2), .second, .val (.long p3), .second, .val (.int p4), .val (.int p5), .val (.int p2.toInt32), .val (.int v1), .val (.int p3.toInt32), .val (.int v2), .val (.int p4), .val (.int p5), .val (.int v3), .val (.ref b4), .val (.ref b25), .val (.int v72), .val (.ref b74), .val (.int y65), .val (.int v118), .val (.int v120), .val (.int v122), .val (.int v124), .val (.int v126), .val (.int (1 : Int32))] [(.int ((0 : Int32) + y112))]))
  obtain ⟨v144, qv144⟩ : ∃ z : Int32, z = ((0 : Int32) + y112) := ⟨_, rfl⟩
  rw [← qv144]
  refine own_st (S' := T143.setTop (mkF m 332 #[.val (.int p0), .val (.int p1), .val (.long p2), .second, .val (.long p3), .second, .val (.int p4), .val (.int p5), .val (.int p2.toInt32), .val (.int v1), .val (.int p3.toInt32), .val (.int v2), .val (.int p4), .val (.int p5), .val (.int v3), .val (.ref b4), .val (.ref b25), .val (.int v72), .val (.ref b74), .val (.int y65), .val (.int v118), .val (.int v120), .val (.int v122), .val (.int v124), .val (.int v126), .val (.int (1 : Int32))] [(.int v122), (.int v144)])) (fun t k => XS.iload X143.here hx rfl (hb hby at_330) rfl k) ?_
  have hc145 : v144 = v122 := by subst qv144; subst qv141; subst qv138; subst qv135; subst qv131; subst qv128; subst qv126; subst qv124; subst qv122; subst qv120; subst qv118; subst qy114; subst qy113; subst qy112; subst qy111; subst qy110; subst qy109; subst qy107; subst qy106; subst qy105; subst qy104; subst qy103; subst qy102; subst qy92; subst qy91; subst qy90; subst qy89; subst qy88; subst qy87; subst qy70; subst qy69; subst qy68; subst qy67; subst qy66; subst qy65; exact own_be4 hi14 p1 p2.toInt32 v1 p3.toInt32 v2 p4 p5
  refine own_st (S' := T143.setTop (mkF m 335 #[.val (.int p0), .val (.int p1), .val (.long p2), .second, .val (.long p3), .second, .val (.int p4), .val (.int p5), .val (.int p2.toInt32), .val (.int v1), .val (.int p3.toInt32), .val (.int v2), .val (.int p4), .val (.int p5), .val (.int v3), .val (.ref b4), .val (.ref b25), .val (.int v72), .val (.ref b74), .val (.int y65), .val (.int v118), .val (.int v120), .val (.int v122), .val (.int v124), .val (.int v126), .val (.int (1 : Int32))] [])) (fun t k => XS.icmpNo X143.here hx rfl (hb hby at_332) rfl (teq hc145).2 k) ?_
  show own_Go p.tables e below _ (T143.setTop (mkF m 335 #[.val (.int p0), .val (.int p1), .val (.long p2), .second, .val (.long p3), .second, .val (.int p4), .val (.int p5), .val (.int p2.toInt32), .val (.int v1), .val (.int p3.toInt32), .val (.int v2), .val (.int p4), .val (.int p5), .val (.int v3), .val (.ref b4), .val (.ref b25), .val (.int v72), .val (.ref b74), .val (.int y65), .val (.int v118), .val (.int v120), .val (.int v122), .val (.int v124), .val (.int v126), .val (.int (1 : Int32))] []))
  refine own_st (S' := T143.setTop (mkF m 336 #[.val (.int p0), .val (.int p1), .val (.long p2), .second, .val (.long p3), .second, .val (.int p4), .val (.int p5), .val (.int p2.toInt32), .val (.int v1), .val (.int p3.toInt32), .val (.int v2), .val (.int p4), .val (.int p5), .val (.int v3), .val (.ref b4), .val (.ref b25), .val (.int v72), .val (.ref b74), .val (.int y65), .val (.int v118), .val (.int v120), .val (.int v122), .val (.int v124), .val (.int v126), .val (.int (1 : Int32))] [(.int (1 : Int32))])) (fun t k => XS.iconst X143.here hx rfl (hb hby at_335) k) ?_
  refine own_st (S' := T143.setTop (mkF m 340 #[.val (.int p0), .val (.int p1), .val (.long p2), .second, .val (.long p3), .second, .val (.int p4), .val (.int p5), .val (.int p2.toInt32), .val (.int v1), .val (.int p3.toInt32), .val (.int v2), .val (.int p4), .val (.int p5), .val (.int v3), .val (.ref b4), .val (.ref b25), .val (.int v72), .val (.ref b74), .val (.int y65), .val (.int v118), .val (.int v120), .val (.int v122), .val (.int v124), .val (.int v126), .val (.int (1 : Int32))] [(.int (1 : Int32))])) (fun t k => XS.goto X143.here hx rfl (pc0 := 336) (pc' := 340) rfl (hb hby at_336) (by decide) (by decide) k) ?_
  refine own_st (S' := T143.setTop (mkF m 342 #[.val (.int p0), .val (.int p1), .val (.long p2), .second, .val (.long p3), .second, .val (.int p4), .val (.int p5), .val (.int p2.toInt32), .val (.int v1), .val (.int p3.toInt32), .val (.int v2), .val (.int p4), .val (.int p5), .val (.int v3), .val (.ref b4), .val (.ref b25), .val (.int v72), .val (.ref b74), .val (.int y65), .val (.int v118), .val (.int v120), .val (.int v122), .val (.int v124), .val (.int v126), .val (.int (1 : Int32))] [])) (fun t k => XS.istore X143.here hx rfl (hb hby at_340) rfl (l' := #[.val (.int p0), .val (.int p1), .val (.long p2), .second, .val (.long p3), .second, .val (.int p4), .val (.int p5), .val (.int p2.toInt32), .val (.int v1), .val (.int p3.toInt32), .val (.int v2), .val (.int p4), .val (.int p5), .val (.int v3), .val (.ref b4), .val (.ref b25), .val (.int v72), .val (.ref b74), .val (.int y65), .val (.int v118), .val (.int v120), .val (.int v122), .val (.int v124), .val (.int v126), .val (.int (1 : Int32))]) rfl k) ?_
  refine own_st (S' := T143.setTop (mkF m 344 #[.val (.int p0), .val (.int p1), .val (.long p2), .second, .val (.long p3), .second, .val (.int p4), .val (.int p5), .val (.int p2.toInt32), .val (.int v1), .val (.int p3.toInt32), .val (.int v2), .val (.int p4), .val (.int p5), .val (.int v3), .val (.ref b4), .val (.ref b25), .val (.int v72), .val (.ref b74), .val (.int y65), .val (.int v118), .val (.int v120), .val (.int v122), .val (.int v124), .val (.int v126), .val (.int (1 : Int32))] [(.int (1 : Int32))])) (fun t k => XS.iload X143.here hx rfl (hb hby at_342) rfl k) ?_
  refine own_st (S' := T143.setTop (mkF m 347 #[.val (.int p0), .val (.int p1), .val (.long p2), .second, .val (.long p3), .second, .val (.int p4), .val (.int p5), .val (.int p2.toInt32), .val (.int v1), .val (.int p3.toInt32), .val (.int v2), .val (.int p4), .val (.int p5), .val (.int v3), .val (.ref b4), .val (.ref b25), .val (.int v72), .val (.ref b74), .val (.int y65), .val (.int v118), .val (.int v120), .val (.int v122), .val (.int v124), .val (.int v126), .val (.int (1 : Int32))] [])) (fun t k => XS.ifNo X143.here hx rfl (hb hby at_344) rfl ((if0 _ _).trans (feq (by decide)).1) k) ?_
  show own_Go p.tables e below _ (T143.setTop (mkF m 347 #[.val (.int p0), .val (.int p1), .val (.long p2), .second, .val (.long p3), .second, .val (.int p4), .val (.int p5), .val (.int p2.toInt32), .val (.int v1), .val (.int p3.toInt32), .val (.int v2), .val (.int p4), .val (.int p5), .val (.int v3), .val (.ref b4), .val (.ref b25), .val (.int v72), .val (.ref b74), .val (.int y65), .val (.int v118), .val (.int v120), .val (.int v122), .val (.int v124), .val (.int v126), .val (.int (1 : Int32))] []))
  refine own_st (S' := T143.setTop (mkF m 349 #[.val (.int p0), .val (.int p1), .val (.long p2), .second, .val (.long p3), .second, .val (.int p4), .val (.int p5), .val (.int p2.toInt32), .val (.int v1), .val (.int p3.toInt32), .val (.int v2), .val (.int p4), .val (.int p5), .val (.int v3), .val (.ref b4), .val (.ref b25), .val (.int v72), .val (.ref b74), .val (.int y65), .val (.int v118), .val (.int v120), .val (.int v122), .val (.int v124), .val (.int v126), .val (.int (1 : Int32))] [(.ref b74)])) (fun t k => XS.aload X143.here hx rfl (hb hby at_347) rfl rfl k) ?_
  refine own_st (S' := T143.setTop (mkF m 350 #[.val (.int p0), .val (.int p1), .val (.long p2), .second, .val (.long p3), .second, .val (.int p4), .val (.int p5), .val (.int p2.toInt32), .val (.int v1), .val (.int p3.toInt32), .val (.int v2), .val (.int p4), .val (.int p5), .val (.int v3), .val (.ref b4), .val (.ref b25), .val (.int v72), .val (.ref b74), .val (.int y65), .val (.int v118), .val (.int v120), .val (.int v122), .val (.int v124), .val (.int v126), .val (.int (1 : Int32))] [(.int (5 : Int32)), (.ref b74)])) (fun t k => XS.iconst X143.here hx rfl (hb hby at_349) k) ?_
  obtain ⟨cq146, kq146, q146a, q146b, q146c⟩ := isOf hZ hh143 f99
  obtain ⟨_, _, ⟨T146, L146, k146, n146⟩, -, X146, ⟨Lc146, hQ146, l146, y146, z146⟩, st146⟩ := X143.virtualBack hx (y := (⟨"kithrank/Weights", "below", "(I)I"⟩ : MethodName)) (z := (⟨"kithrank/Weights", "below", "(I)I"⟩ : MethodName)) hown (mvT hZ (hw _ (List.mem_of_getElem? (i := 34) rfl))) (mvT hZ (hw _ (List.mem_of_getElem? (i := 35) rfl))) (notFace_of_selects (args := #[]) (mvT hZ (hw _ (List.mem_of_getElem? (i := 37) rfl)))) (mvT hZ (hw _ (List.mem_of_getElem? (i := 37) rfl))) (mvT hZ (hw _ (List.mem_of_getElem? (i := 36) rfl))) (by decide) (backOf (W := 0) (rm15 l Z a0 hw [] b74 tr81 (0 : Int32) y109 y110 y111 y112 y113 y114 T94.heap n0 Z94 f101 f115) hZ (hw _ (List.mem_of_getElem? (i := 38) rfl)) (hw _ (List.mem_of_getElem? (i := 4) rfl)) (by decide) (by decide)) q146a q146c (g := (mkF m 350 #[.val (.int p0), .val (.int p1), .val (.long p2), .second, .val (.long p3), .second, .val (.int p4), .val (.int p5), .val (.int p2.toInt32), .val (.int v1), .val (.int p3.toInt32), .val (.int v2), .val (.int p4), .val (.int p5), .val (.int v3), .val (.ref b4), .val (.ref b25), .val (.int v72), .val (.ref b74), .val (.int y65), .val (.int v118), .val (.int v120), .val (.int v122), .val (.int v124), .val (.int v126), .val (.int (1 : Int32))] [(.int (5 : Int32)), (.ref b74)])) rfl (by rw [hml]; rfl) (Steps.refl _) (argsL := [(.int (5 : Int32))]) (rest := []) (lenOf pd0_2 rfl) rfl (by show 2 * 0 + _ ≤ _; exact Nat.le_of_eq rfl) (hb hby at_350) (fun _ _ => ⟨rfl, hh143, (by decide : 5 + 0 ≤ _), (by decide : 27 + 0 ≤ _)⟩)
  dsimp only [Pt.U, Pt.locs, Pt.cells, Pt.slots] at X146 l146 y146 z146 st146 hQ146
  rw [l146, y146, z146] at X146
  obtain ⟨rfl, N146q, hh146⟩ := hQ146
  have N146 := Fr.app N143 N146q
  refine own_tr st146 ?_
  show own_Go p.tables e below _ (T146.setTop (mkF m 353 #[.val (.int p0), .val (.int p1), .val (.long p2), .second, .val (.long p3), .second, .val (.int p4), .val (.int p5), .val (.int p2.toInt32), .val (.int v1), .val (.int p3.toInt32), .val (.int v2), .val (.int p4), .val (.int p5), .val (.int v3), .val (.ref b4), .val (.ref b25), .val (.int v72), .val (.ref b74), .val (.int y65), .val (.int v118), .val (.int v120), .val (.int v122), .val (.int v124), .val (.int v126), .val (.int (1 : Int32))] [(.int (((0 : Int32) + y113) + y112))]))
  obtain ⟨v147, qv147⟩ : ∃ z : Int32, z = (((0 : Int32) + y113) + y112) := ⟨_, rfl⟩
  rw [← qv147]
  refine own_st (S' := T146.setTop (mkF m 355 #[.val (.int p0), .val (.int p1), .val (.long p2), .second, .val (.long p3), .second, .val (.int p4), .val (.int p5), .val (.int p2.toInt32), .val (.int v1), .val (.int p3.toInt32), .val (.int v2), .val (.int p4), .val (.int p5), .val (.int v3), .val (.ref b4), .val (.ref b25), .val (.int v72), .val (.ref b74), .val (.int y65), .val (.int v118), .val (.int v120), .val (.int v122), .val (.int v124), .val (.int v126), .val (.int (1 : Int32))] [(.int v124), (.int v147)])) (fun t k => XS.iload X146.here hx rfl (hb hby at_353) rfl k) ?_
  have hc148 : v147 = v124 := by subst qv147; subst qv144; subst qv141; subst qv138; subst qv135; subst qv131; subst qv128; subst qv126; subst qv124; subst qv122; subst qv120; subst qv118; subst qy114; subst qy113; subst qy112; subst qy111; subst qy110; subst qy109; subst qy107; subst qy106; subst qy105; subst qy104; subst qy103; subst qy102; subst qy92; subst qy91; subst qy90; subst qy89; subst qy88; subst qy87; subst qy70; subst qy69; subst qy68; subst qy67; subst qy66; subst qy65; exact own_be5 hi14 p1 p2.toInt32 v1 p3.toInt32 v2 p4 p5
  refine own_st (S' := T146.setTop (mkF m 358 #[.val (.int p0), .val (.int p1), .val (.long p2), .second, .val (.long p3), .second, .val (.int p4), .val (.int p5), .val (.int p2.toInt32), .val (.int v1), .val (.int p3.toInt32), .val (.int v2), .val (.int p4), .val (.int p5), .val (.int v3), .val (.ref b4), .val (.ref b25), .val (.int v72), .val (.ref b74), .val (.int y65), .val (.int v118), .val (.int v120), .val (.int v122), .val (.int v124), .val (.int v126), .val (.int (1 : Int32))] [])) (fun t k => XS.icmpNo X146.here hx rfl (hb hby at_355) rfl (teq hc148).2 k) ?_
  show own_Go p.tables e below _ (T146.setTop (mkF m 358 #[.val (.int p0), .val (.int p1), .val (.long p2), .second, .val (.long p3), .second, .val (.int p4), .val (.int p5), .val (.int p2.toInt32), .val (.int v1), .val (.int p3.toInt32), .val (.int v2), .val (.int p4), .val (.int p5), .val (.int v3), .val (.ref b4), .val (.ref b25), .val (.int v72), .val (.ref b74), .val (.int y65), .val (.int v118), .val (.int v120), .val (.int v122), .val (.int v124), .val (.int v126), .val (.int (1 : Int32))] []))
  refine own_st (S' := T146.setTop (mkF m 359 #[.val (.int p0), .val (.int p1), .val (.long p2), .second, .val (.long p3), .second, .val (.int p4), .val (.int p5), .val (.int p2.toInt32), .val (.int v1), .val (.int p3.toInt32), .val (.int v2), .val (.int p4), .val (.int p5), .val (.int v3), .val (.ref b4), .val (.ref b25), .val (.int v72), .val (.ref b74), .val (.int y65), .val (.int v118), .val (.int v120), .val (.int v122), .val (.int v124), .val (.int v126), .val (.int (1 : Int32))] [(.int (1 : Int32))])) (fun t k => XS.iconst X146.here hx rfl (hb hby at_358) k) ?_
  refine own_st (S' := T146.setTop (mkF m 363 #[.val (.int p0), .val (.int p1), .val (.long p2), .second, .val (.long p3), .second, .val (.int p4), .val (.int p5), .val (.int p2.toInt32), .val (.int v1), .val (.int p3.toInt32), .val (.int v2), .val (.int p4), .val (.int p5), .val (.int v3), .val (.ref b4), .val (.ref b25), .val (.int v72), .val (.ref b74), .val (.int y65), .val (.int v118), .val (.int v120), .val (.int v122), .val (.int v124), .val (.int v126), .val (.int (1 : Int32))] [(.int (1 : Int32))])) (fun t k => XS.goto X146.here hx rfl (pc0 := 359) (pc' := 363) rfl (hb hby at_359) (by decide) (by decide) k) ?_
  refine own_st (S' := T146.setTop (mkF m 365 #[.val (.int p0), .val (.int p1), .val (.long p2), .second, .val (.long p3), .second, .val (.int p4), .val (.int p5), .val (.int p2.toInt32), .val (.int v1), .val (.int p3.toInt32), .val (.int v2), .val (.int p4), .val (.int p5), .val (.int v3), .val (.ref b4), .val (.ref b25), .val (.int v72), .val (.ref b74), .val (.int y65), .val (.int v118), .val (.int v120), .val (.int v122), .val (.int v124), .val (.int v126), .val (.int (1 : Int32))] [])) (fun t k => XS.istore X146.here hx rfl (hb hby at_363) rfl (l' := #[.val (.int p0), .val (.int p1), .val (.long p2), .second, .val (.long p3), .second, .val (.int p4), .val (.int p5), .val (.int p2.toInt32), .val (.int v1), .val (.int p3.toInt32), .val (.int v2), .val (.int p4), .val (.int p5), .val (.int v3), .val (.ref b4), .val (.ref b25), .val (.int v72), .val (.ref b74), .val (.int y65), .val (.int v118), .val (.int v120), .val (.int v122), .val (.int v124), .val (.int v126), .val (.int (1 : Int32))]) rfl k) ?_
  refine own_st (S' := T146.setTop (mkF m 367 #[.val (.int p0), .val (.int p1), .val (.long p2), .second, .val (.long p3), .second, .val (.int p4), .val (.int p5), .val (.int p2.toInt32), .val (.int v1), .val (.int p3.toInt32), .val (.int v2), .val (.int p4), .val (.int p5), .val (.int v3), .val (.ref b4), .val (.ref b25), .val (.int v72), .val (.ref b74), .val (.int y65), .val (.int v118), .val (.int v120), .val (.int v122), .val (.int v124), .val (.int v126), .val (.int (1 : Int32))] [(.int (1 : Int32))])) (fun t k => XS.iload X146.here hx rfl (hb hby at_365) rfl k) ?_
  refine own_st (S' := T146.setTop (mkF m 370 #[.val (.int p0), .val (.int p1), .val (.long p2), .second, .val (.long p3), .second, .val (.int p4), .val (.int p5), .val (.int p2.toInt32), .val (.int v1), .val (.int p3.toInt32), .val (.int v2), .val (.int p4), .val (.int p5), .val (.int v3), .val (.ref b4), .val (.ref b25), .val (.int v72), .val (.ref b74), .val (.int y65), .val (.int v118), .val (.int v120), .val (.int v122), .val (.int v124), .val (.int v126), .val (.int (1 : Int32))] [])) (fun t k => XS.ifNo X146.here hx rfl (hb hby at_367) rfl ((if0 _ _).trans (feq (by decide)).1) k) ?_
  show own_Go p.tables e below _ (T146.setTop (mkF m 370 #[.val (.int p0), .val (.int p1), .val (.long p2), .second, .val (.long p3), .second, .val (.int p4), .val (.int p5), .val (.int p2.toInt32), .val (.int v1), .val (.int p3.toInt32), .val (.int v2), .val (.int p4), .val (.int p5), .val (.int v3), .val (.ref b4), .val (.ref b25), .val (.int v72), .val (.ref b74), .val (.int y65), .val (.int v118), .val (.int v120), .val (.int v122), .val (.int v124), .val (.int v126), .val (.int (1 : Int32))] []))
  refine own_st (S' := T146.setTop (mkF m 372 #[.val (.int p0), .val (.int p1), .val (.long p2), .second, .val (.long p3), .second, .val (.int p4), .val (.int p5), .val (.int p2.toInt32), .val (.int v1), .val (.int p3.toInt32), .val (.int v2), .val (.int p4), .val (.int p5), .val (.int v3), .val (.ref b4), .val (.ref b25), .val (.int v72), .val (.ref b74), .val (.int y65), .val (.int v118), .val (.int v120), .val (.int v122), .val (.int v124), .val (.int v126), .val (.int (1 : Int32))] [(.ref b74)])) (fun t k => XS.aload X146.here hx rfl (hb hby at_370) rfl rfl k) ?_
  refine own_st (S' := T146.setTop (mkF m 374 #[.val (.int p0), .val (.int p1), .val (.long p2), .second, .val (.long p3), .second, .val (.int p4), .val (.int p5), .val (.int p2.toInt32), .val (.int v1), .val (.int p3.toInt32), .val (.int v2), .val (.int p4), .val (.int p5), .val (.int v3), .val (.ref b4), .val (.ref b25), .val (.int v72), .val (.ref b74), .val (.int y65), .val (.int v118), .val (.int v120), .val (.int v122), .val (.int v124), .val (.int v126), .val (.int (1 : Int32))] [(.int (6 : Int32)), (.ref b74)])) (fun t k => XS.bipush X146.here hx rfl (hb hby at_372) k) ?_
  obtain ⟨cq149, kq149, q149a, q149b, q149c⟩ := isOf hZ hh146 f99
  obtain ⟨_, _, ⟨T149, L149, k149, n149⟩, -, X149, ⟨Lc149, hQ149, l149, y149, z149⟩, st149⟩ := X146.virtualBack hx (y := (⟨"kithrank/Weights", "below", "(I)I"⟩ : MethodName)) (z := (⟨"kithrank/Weights", "below", "(I)I"⟩ : MethodName)) hown (mvT hZ (hw _ (List.mem_of_getElem? (i := 34) rfl))) (mvT hZ (hw _ (List.mem_of_getElem? (i := 35) rfl))) (notFace_of_selects (args := #[]) (mvT hZ (hw _ (List.mem_of_getElem? (i := 37) rfl)))) (mvT hZ (hw _ (List.mem_of_getElem? (i := 37) rfl))) (mvT hZ (hw _ (List.mem_of_getElem? (i := 36) rfl))) (by decide) (backOf (W := 0) (rm16 l Z a0 hw [] b74 tr81 (0 : Int32) y109 y110 y111 y112 y113 y114 T94.heap n0 Z94 f101 f115) hZ (hw _ (List.mem_of_getElem? (i := 38) rfl)) (hw _ (List.mem_of_getElem? (i := 4) rfl)) (by decide) (by decide)) q149a q149c (g := (mkF m 374 #[.val (.int p0), .val (.int p1), .val (.long p2), .second, .val (.long p3), .second, .val (.int p4), .val (.int p5), .val (.int p2.toInt32), .val (.int v1), .val (.int p3.toInt32), .val (.int v2), .val (.int p4), .val (.int p5), .val (.int v3), .val (.ref b4), .val (.ref b25), .val (.int v72), .val (.ref b74), .val (.int y65), .val (.int v118), .val (.int v120), .val (.int v122), .val (.int v124), .val (.int v126), .val (.int (1 : Int32))] [(.int (6 : Int32)), (.ref b74)])) rfl (by rw [hml]; rfl) (Steps.refl _) (argsL := [(.int (6 : Int32))]) (rest := []) (lenOf pd0_2 rfl) rfl (by show 2 * 0 + _ ≤ _; exact Nat.le_of_eq rfl) (hb hby at_374) (fun _ _ => ⟨rfl, hh146, (by decide : 5 + 0 ≤ _), (by decide : 27 + 0 ≤ _)⟩)
  dsimp only [Pt.U, Pt.locs, Pt.cells, Pt.slots] at X149 l149 y149 z149 st149 hQ149
  rw [l149, y149, z149] at X149
  obtain ⟨rfl, N149q, hh149⟩ := hQ149
  have N149 := Fr.app N146 N149q
  refine own_tr st149 ?_
  show own_Go p.tables e below _ (T149.setTop (mkF m 377 #[.val (.int p0), .val (.int p1), .val (.long p2), .second, .val (.long p3), .second, .val (.int p4), .val (.int p5), .val (.int p2.toInt32), .val (.int v1), .val (.int p3.toInt32), .val (.int v2), .val (.int p4), .val (.int p5), .val (.int v3), .val (.ref b4), .val (.ref b25), .val (.int v72), .val (.ref b74), .val (.int y65), .val (.int v118), .val (.int v120), .val (.int v122), .val (.int v124), .val (.int v126), .val (.int (1 : Int32))] [(.int (((0 : Int32) + y114) + y112))]))
  obtain ⟨v150, qv150⟩ : ∃ z : Int32, z = (((0 : Int32) + y114) + y112) := ⟨_, rfl⟩
  rw [← qv150]
  refine own_st (S' := T149.setTop (mkF m 379 #[.val (.int p0), .val (.int p1), .val (.long p2), .second, .val (.long p3), .second, .val (.int p4), .val (.int p5), .val (.int p2.toInt32), .val (.int v1), .val (.int p3.toInt32), .val (.int v2), .val (.int p4), .val (.int p5), .val (.int v3), .val (.ref b4), .val (.ref b25), .val (.int v72), .val (.ref b74), .val (.int y65), .val (.int v118), .val (.int v120), .val (.int v122), .val (.int v124), .val (.int v126), .val (.int (1 : Int32))] [(.int v126), (.int v150)])) (fun t k => XS.iload X149.here hx rfl (hb hby at_377) rfl k) ?_
  have hc151 : v150 = v126 := by subst qv150; subst qv147; subst qv144; subst qv141; subst qv138; subst qv135; subst qv131; subst qv128; subst qv126; subst qv124; subst qv122; subst qv120; subst qv118; subst qy114; subst qy113; subst qy112; subst qy111; subst qy110; subst qy109; subst qy107; subst qy106; subst qy105; subst qy104; subst qy103; subst qy102; subst qy92; subst qy91; subst qy90; subst qy89; subst qy88; subst qy87; subst qy70; subst qy69; subst qy68; subst qy67; subst qy66; subst qy65; exact own_be6 hi14 p1 p2.toInt32 v1 p3.toInt32 v2 p4 p5
  refine own_st (S' := T149.setTop (mkF m 382 #[.val (.int p0), .val (.int p1), .val (.long p2), .second, .val (.long p3), .second, .val (.int p4), .val (.int p5), .val (.int p2.toInt32), .val (.int v1), .val (.int p3.toInt32), .val (.int v2), .val (.int p4), .val (.int p5), .val (.int v3), .val (.ref b4), .val (.ref b25), .val (.int v72), .val (.ref b74), .val (.int y65), .val (.int v118), .val (.int v120), .val (.int v122), .val (.int v124), .val (.int v126), .val (.int (1 : Int32))] [])) (fun t k => XS.icmpNo X149.here hx rfl (hb hby at_379) rfl (teq hc151).2 k) ?_
  show own_Go p.tables e below _ (T149.setTop (mkF m 382 #[.val (.int p0), .val (.int p1), .val (.long p2), .second, .val (.long p3), .second, .val (.int p4), .val (.int p5), .val (.int p2.toInt32), .val (.int v1), .val (.int p3.toInt32), .val (.int v2), .val (.int p4), .val (.int p5), .val (.int v3), .val (.ref b4), .val (.ref b25), .val (.int v72), .val (.ref b74), .val (.int y65), .val (.int v118), .val (.int v120), .val (.int v122), .val (.int v124), .val (.int v126), .val (.int (1 : Int32))] []))
  refine own_st (S' := T149.setTop (mkF m 383 #[.val (.int p0), .val (.int p1), .val (.long p2), .second, .val (.long p3), .second, .val (.int p4), .val (.int p5), .val (.int p2.toInt32), .val (.int v1), .val (.int p3.toInt32), .val (.int v2), .val (.int p4), .val (.int p5), .val (.int v3), .val (.ref b4), .val (.ref b25), .val (.int v72), .val (.ref b74), .val (.int y65), .val (.int v118), .val (.int v120), .val (.int v122), .val (.int v124), .val (.int v126), .val (.int (1 : Int32))] [(.int (1 : Int32))])) (fun t k => XS.iconst X149.here hx rfl (hb hby at_382) k) ?_
  refine own_st (S' := T149.setTop (mkF m 387 #[.val (.int p0), .val (.int p1), .val (.long p2), .second, .val (.long p3), .second, .val (.int p4), .val (.int p5), .val (.int p2.toInt32), .val (.int v1), .val (.int p3.toInt32), .val (.int v2), .val (.int p4), .val (.int p5), .val (.int v3), .val (.ref b4), .val (.ref b25), .val (.int v72), .val (.ref b74), .val (.int y65), .val (.int v118), .val (.int v120), .val (.int v122), .val (.int v124), .val (.int v126), .val (.int (1 : Int32))] [(.int (1 : Int32))])) (fun t k => XS.goto X149.here hx rfl (pc0 := 383) (pc' := 387) rfl (hb hby at_383) (by decide) (by decide) k) ?_
  refine own_st (S' := T149.setTop (mkF m 389 #[.val (.int p0), .val (.int p1), .val (.long p2), .second, .val (.long p3), .second, .val (.int p4), .val (.int p5), .val (.int p2.toInt32), .val (.int v1), .val (.int p3.toInt32), .val (.int v2), .val (.int p4), .val (.int p5), .val (.int v3), .val (.ref b4), .val (.ref b25), .val (.int v72), .val (.ref b74), .val (.int y65), .val (.int v118), .val (.int v120), .val (.int v122), .val (.int v124), .val (.int v126), .val (.int (1 : Int32))] [])) (fun t k => XS.istore X149.here hx rfl (hb hby at_387) rfl (l' := #[.val (.int p0), .val (.int p1), .val (.long p2), .second, .val (.long p3), .second, .val (.int p4), .val (.int p5), .val (.int p2.toInt32), .val (.int v1), .val (.int p3.toInt32), .val (.int v2), .val (.int p4), .val (.int p5), .val (.int v3), .val (.ref b4), .val (.ref b25), .val (.int v72), .val (.ref b74), .val (.int y65), .val (.int v118), .val (.int v120), .val (.int v122), .val (.int v124), .val (.int v126), .val (.int (1 : Int32))]) rfl k) ?_
  refine own_st (S' := T149.setTop (mkF m 391 #[.val (.int p0), .val (.int p1), .val (.long p2), .second, .val (.long p3), .second, .val (.int p4), .val (.int p5), .val (.int p2.toInt32), .val (.int v1), .val (.int p3.toInt32), .val (.int v2), .val (.int p4), .val (.int p5), .val (.int v3), .val (.ref b4), .val (.ref b25), .val (.int v72), .val (.ref b74), .val (.int y65), .val (.int v118), .val (.int v120), .val (.int v122), .val (.int v124), .val (.int v126), .val (.int (1 : Int32))] [(.int (1 : Int32))])) (fun t k => XS.iload X149.here hx rfl (hb hby at_389) rfl k) ?_
  refine own_retN X149 hx (t := .boolean) hret (by simp) hlk (hb hby at_391) ?_ (by decide) (by decide)
  rw [hh149]
  exact ⟨rfl, N149⟩
set_option maxRecDepth 65536 in
set_option maxHeartbeats 40000000 in
theorem comes_1 {Post : Tables → Env → Array Value → State → Outcome → State → Prop} (hpost : ∀ tb e args s v u, (limb_1_1.after args s (.returned v) u = true ∧ limb_1_2.after args s (.returned v) u = true ∧ True) → FrameEnd s (.returned v) u (Jvm.fieldLocs frame_1_writes args s ++ Jvm.arrayLocs frame_1_arrays args s ++ Jvm.staticLocs frame_1_statics s) 24 128 → Post tb e args s (.returned v) u) :
    ArmFor flags0 classFile x code maxLocals ret World_1 tables_1 room_1 Calls_1 rest_1 Pre_1 Post := by
  intro l hfl _ _ p e ha hc hk s m args below hf hA hF happ hP
  obtain ⟨hcalls, hrest, hpre⟩ := hP
  obtain ⟨-, -, -, hnamed, -, -, -, hat⟩ := (Spec.applies_iff hf).mp happ
  obtain ⟨hg, hn⟩ := and_e (Cond.before_iff.mp (show (Jvm.Cond.and given_1 narrow_1).before args s = true from hpre))
  obtain ⟨c0, d0⟩ := and_e hg
  obtain ⟨c1, d1⟩ := and_e d0
  obtain ⟨c2, d2⟩ := and_e d1
  obtain ⟨c3, d3⟩ := and_e d2
  obtain ⟨c4, d4⟩ := and_e d3
  obtain ⟨c5, d5⟩ := and_e d4
  obtain ⟨w0, w1, w2, w3, w4, w5, rfl⟩ : ∃ w0 w1 w2 w3 w4 w5 : Value, args = #[w0, w1, w2, w3, w4, w5] := by
    have hs : args.size = 6 := by simpa [Cond.value, given_1] using c0
    obtain ⟨L⟩ := args
    match L, hs with
    | [w0, w1, w2, w3, w4, w5], _ => exact ⟨w0, w1, w2, w3, w4, w5, rfl⟩
  have hw := fun d (hd : d ∈ tables_1) => atoms_spec (ws := Jvm.Cond.code x code maxLocals ret :: tables_1) hat d (List.mem_cons_of_mem _ hd)
  have hfit : Fit s := fun {y c} hc i hi => by
    obtain ⟨ha, rfl⟩ := Array.getElem?_eq_some_iff.mp hc
    have q := List.all_eq_true.mp ((Array.all_eq_true_iff_forall_mem.mp hF) _ (Array.getElem_mem ha)) i (List.mem_range.mpr hi)
    simpa [Array.getElem?_eq_getElem hi] using q
  obtain ⟨i0, ei0⟩ := is_v c1
  obtain rfl : w0 = (.int i0) := Option.some.inj ei0
  obtain ⟨i1, ei1⟩ := is_v c2
  obtain rfl : w1 = (.int i1) := Option.some.inj ei1
  obtain ⟨i2, ei2⟩ := isL_v c3
  obtain rfl : w2 = (.long i2) := Option.some.inj ei2
  obtain ⟨i3, ei3⟩ := isL_v c4
  obtain rfl : w3 = (.long i3) := Option.some.inj ei3
  obtain ⟨i4, ei4⟩ := is_v c5
  obtain rfl : w4 = (.int i4) := Option.some.inj ei4
  obtain ⟨i5, ei5⟩ := is_v d5
  obtain rfl : w5 = (.int i5) := Option.some.inj ei5
  obtain ⟨n, o, h1, h2, h3, _, L, rfl, ⟨rfl, N⟩, hq⟩ := rm0 l s _ hw tables_1 i0 i1 i2 i3 i4 i5  s.heap s.heap.size (Nat.le_refl _)  p e ha hc hk s m _ below hf ((Spec.applies_iff_loose hf).mp happ).1 ⟨rfl, State.Warmed39.refl s, rfl⟩ trivial
  refine ⟨n, _, h1, h2, h3, hpost _ _ _ _ _ _ ⟨Cond.after_iff.mpr rfl, Cond.after_iff.mpr (eq_i res_at (Term.int_eval (1)) rfl), trivial⟩ ⟨hq.1, hq.2.1, (hq.2.2.sift fun y hy => Or.inr (N y hy)).mono (by decide) (by decide)⟩⟩
theorem main_1_1 : Claimed_1_1 := comes_1 fun _ _ _ _ _ _ h hF => ⟨h.1, hF⟩
theorem main_1_2 : Claimed_1_2 := comes_1 fun _ _ _ _ _ _ h hF => ⟨h.2.1, hF⟩
end Jvm.Pilot.@@N@@
namespace Jvm.Pilot.@@N@@
open Jvm Jvm.ClassFile Sem Op Lib Jvm.Free Jvm.Stand Jvm.Pilot.@@N@@.Jvm.D
/-! MADE BY PROGRAM (witnessworld.py) out of the Statement's table words and the real class files: 9 classes; the members and pool entries that the words name. The judged class is class 1, her method 1. -/
namespace start1
open Jvm.ClassFile
def u (s : String) : CpInfo := .utf8 (stringToUtf16 s)
/-- a pool by its gaps: so many unusable entries, then the entry; so many at the end -/
def gap : Nat → List CpInfo → List CpInfo
  | 0, r => r
  | n + 1, r => .unusable :: gap n r
def poolList (es : List (Nat × CpInfo)) (last : Nat) : List CpInfo := es.foldr (fun e r => gap e.1 (e.2 :: r)) (gap last [])
def pool (es : List (Nat × CpInfo)) (last : Nat) : Array CpInfo := ⟨poolList es last⟩
def fileOf (pool : Array CpInfo) (this : Nat) (attrs : Array Attribute := #[]) (ms : Array MethodInfo := #[]) (fl : Nat := 33) (sup : Nat := 0) (ifs : Array Nat := #[]) (fds : Array FieldInfo := #[]) : ClassFile where
  minorVersion := 0
  majorVersion := 65
  constantPool := pool
  accessFlags := fl
  thisClass := this
  superClass := sup
  interfaces := ifs
  fields := fds
  methods := ms
  attributes := attrs
def plain (name : String) (sup : Option ClassId) : Class where
  name := name
  kind := .ordinary
  loader := none
  accessFlags := 33
  super := sup
  interfaces := #[]
  cf := none
  fields := #[]
  methods := #[]
  instanceTypes := #[]
  staticTypes := #[]
  resolved := #[]
  callSites := []
  init := .initialized
  statics := none
  mirror := none

def pool0 : Array CpInfo := pool [(5, u "<init>"), (0, u "()V"), (1, .class_ 10), (1, u "java/lang/Object"), (85, u "clone"), (0, u "()Ljava/lang/Object;")] 26

def k0c0 : Code := { maxStack := 0, maxLocals := 1, code := object_method_1_code, exceptionTable := #[], attributes := #[] }
def k0m0 : Method := { name := "<init>", desc := "()V", sig := { parameters := [], returnType := none }, accessFlags := 1, code := some k0c0 }
def k0m1 : Method := { name := "clone", desc := "()Ljava/lang/Object;", sig := { parameters := [], returnType := some (.object "java/lang/Object") }, accessFlags := 260, code := none }
/-- java/lang/Object -/
def k0 : Class := { plain "java/lang/Object" none with
  accessFlags := 33
  interfaces := #[]
  cf := some (fileOf pool0 8 #[] #[{ accessFlags := 1, nameIndex := 5, descriptorIndex := 6, attributes := #[] }, { accessFlags := 260, nameIndex := 96, descriptorIndex := 97, attributes := #[] }] 33 0 #[] #[])
  fields := #[]
  methods := #[k0m0, k0m1]
  instanceTypes := #[]
  staticTypes := #[]
  resolved := Array.replicate 124 none
  statics := none }

def pool1 : Array CpInfo := pool [(2, .class_ 4), (1, u "java/lang/Object"), (0, u "<init>"), (0, u "()V"), (0, .integer 2147483647), (0, .class_ 9), (0, u "kithrank/Weights"), (0, .methodref 8 11), (0, .nameAndType 5 12), (0, u "([I)V"), (0, .methodref 8 14), (0, .nameAndType 15 16), (0, u "set"), (0, u "(II)V"), (0, .methodref 8 18), (0, .nameAndType 19 20), (0, u "weight"), (0, u "(I)I"), (0, .methodref 8 22), (0, .nameAndType 23 20), (0, u "below"), (0, .class_ 25), (0, u "kithrank/WeightsSetPinLaw"), (2, u "law"), (0, u "(IIJJII)Z")] 5

def k1m0 : Method := { name := "<init>", desc := "()V", sig := { parameters := [], returnType := none }, accessFlags := 1, code := none }
def k1c1 : Code := { maxStack := 4, maxLocals := 26, code := code, exceptionTable := #[], attributes := #[] }
def k1m1 : Method := { name := "law", desc := "(IIJJII)Z", sig := { parameters := [.int, .int, .long, .long, .int, .int], returnType := some .boolean }, accessFlags := 9, code := some k1c1 }
/-- kithrank/WeightsSetPinLaw -/
def k1 : Class := { plain "kithrank/WeightsSetPinLaw" (some 0) with
  accessFlags := 49
  interfaces := #[]
  cf := some (fileOf pool1 24 #[] #[{ accessFlags := 1, nameIndex := 5, descriptorIndex := 6, attributes := #[] }, { accessFlags := 9, nameIndex := 28, descriptorIndex := 29, attributes := #[] }] 49 2 #[] #[])
  fields := #[]
  methods := #[k1m0, k1m1]
  instanceTypes := #[]
  staticTypes := #[]
  resolved := Array.replicate 35 none
  statics := none }

def pool2 : Array CpInfo := pool [(1, .methodref 2 3), (0, .class_ 4), (0, .nameAndType 5 6), (0, u "java/lang/Object"), (0, u "<init>"), (0, u "()V"), (0, .methodref 8 9), (0, .class_ 10), (0, .nameAndType 11 12), (0, u "[I"), (0, u "clone"), (0, u "()Ljava/lang/Object;"), (0, .fieldref 14 15), (0, .class_ 16), (0, .nameAndType 17 10), (0, u "kithrank/Weights"), (0, u "weight"), (0, .fieldref 14 19), (0, .nameAndType 20 10), (0, u "tree"), (5, u "(I)I"), (2, u "below"), (12, u "([I)V"), (3, u "set"), (0, u "(II)V")] 3

def k2c0 : Code := { maxStack := 6, maxLocals := 4, code := prog_135_method_1_code, exceptionTable := #[], attributes := #[] }
def k2m0 : Method := { name := "<init>", desc := "([I)V", sig := { parameters := [(.array .int)], returnType := none }, accessFlags := 0, code := some k2c0 }
def k2c1 : Code := { maxStack := 2, maxLocals := 2, code := prog_135_method_2_code, exceptionTable := #[], attributes := #[] }
def k2m1 : Method := { name := "weight", desc := "(I)I", sig := { parameters := [.int], returnType := some .int }, accessFlags := 0, code := some k2c1 }
def k2c2 : Code := { maxStack := 4, maxLocals := 5, code := prog_135_method_3_code, exceptionTable := #[], attributes := #[] }
def k2m2 : Method := { name := "set", desc := "(II)V", sig := { parameters := [.int, .int], returnType := none }, accessFlags := 0, code := some k2c2 }
def k2c3 : Code := { maxStack := 3, maxLocals := 4, code := prog_135_method_4_code, exceptionTable := #[], attributes := #[] }
def k2m3 : Method := { name := "below", desc := "(I)I", sig := { parameters := [.int], returnType := some .int }, accessFlags := 0, code := some k2c3 }
/-- kithrank/Weights -/
def k2 : Class := { plain "kithrank/Weights" (some 0) with
  accessFlags := 48
  interfaces := #[]
  cf := some (fileOf pool2 14 #[] #[{ accessFlags := 0, nameIndex := 5, descriptorIndex := 42, attributes := #[] }, { accessFlags := 0, nameIndex := 17, descriptorIndex := 26, attributes := #[] }, { accessFlags := 0, nameIndex := 46, descriptorIndex := 47, attributes := #[] }, { accessFlags := 0, nameIndex := 29, descriptorIndex := 26, attributes := #[] }] 48 2 #[] #[{ accessFlags := 18, nameIndex := 17, descriptorIndex := 10, attributes := #[] }, { accessFlags := 18, nameIndex := 20, descriptorIndex := 10, attributes := #[] }])
  fields := #[{ name := "weight", type := (.array .int), accessFlags := 18, slot := 0, constantValue := 0 }, { name := "tree", type := (.array .int), accessFlags := 18, slot := 1, constantValue := 0 }]
  methods := #[k2m0, k2m1, k2m2, k2m3]
  instanceTypes := #[(.array .int), (.array .int)]
  staticTypes := #[]
  resolved := Array.replicate 51 none
  statics := none }

def pool3 : Array CpInfo := pool [(1, .class_ 2), (0, u "java/lang/Cloneable"), (0, .class_ 4), (0, u "java/lang/Object")] 2

/-- java/lang/Cloneable -/
def k3 : Class := { plain "java/lang/Cloneable" (some 0) with
  accessFlags := 1537
  interfaces := #[]
  cf := some (fileOf pool3 1 #[] #[] 1537 3 #[] #[])
  fields := #[]
  methods := #[]
  instanceTypes := #[]
  staticTypes := #[]
  resolved := Array.replicate 7 none
  statics := none }

def pool4 : Array CpInfo := pool [(1, u "java/io/Serializable"), (0, .class_ 1), (0, u "java/lang/Object"), (0, .class_ 3)] 3

/-- java/io/Serializable -/
def k4 : Class := { plain "java/io/Serializable" (some 0) with
  accessFlags := 1537
  interfaces := #[]
  cf := some (fileOf pool4 2 #[] #[] 1537 4 #[] #[])
  fields := #[]
  methods := #[]
  instanceTypes := #[]
  staticTypes := #[]
  resolved := Array.replicate 8 none
  statics := none }

/-- the primitive byte -/
def k5 : Class := { plain "byte" none with kind := .primitive 'B', accessFlags := 0x411 }
/-- [B -/
def k6 : Class := { plain "[B" (some 0) with kind := .array 5 .byte, interfaces := #[3, 4], accessFlags := 1041 }

/-- the primitive int -/
def k7 : Class := { plain "int" none with kind := .primitive 'I', accessFlags := 0x411 }
/-- [I -/
def k8 : Class := { plain "[I" (some 0) with kind := .array 7 .int, interfaces := #[3, 4], accessFlags := 1041 }

def heap : Heap := #[]
def classes : Array Class := #[k0, k1, k2, k3, k4, k5, k6, k7, k8]
def interned : List (Array UInt16 × Addr) := []
def slotsUsed : Nat := 0
def theMethod : MethodId := ⟨1, 1⟩
def args0 : Array Value := #[.int 5, .int 6, .long 3, .long 4, .int 7, .int 8]
def aboutOver (below : List Frame) : State where
  vm := { classes := classes, interned := interned.toArray }
  heap := heap
  slotsUsed := slotsUsed
  threads := #[{ frames := .invoking theMethod args0 :: below }]
def below0 : List Frame := [.native { method := ⟨0, 0⟩, args := #[] }]
def about1 : State := aboutOver below0
def p0 : Program := .bare "" "" ""
def e0 : Env := launch0.env 0 0 0
theorem w_frames : about1.frames = Frame.invoking theMethod args0 :: below0 := rfl
set_option maxRecDepth 65536 in
theorem w_args : argsFit about1.vm theMethod args0 = true := by decide +kernel
set_option maxRecDepth 65536 in
theorem w_heap : heapFits about1 = true := by decide +kernel
set_option maxRecDepth 65536 in
theorem w_runnable : about1.curStatus? = some .runnable := by decide +kernel
set_option maxRecDepth 65536 in
theorem w_alone : about1.alone = true := by decide +kernel
set_option maxRecDepth 65536 in
theorem w_named : about1.methodNamed? x = some theMethod := by decide +kernel
set_option maxRecDepth 65536 in
theorem w_hears : about1.hears theMethod below0 = true := by decide +kernel
set_option maxRecDepth 65536 in
theorem w_ripe : about1.ripe theMethod args0 below0 = true := by decide +kernel
theorem w_running : about1.status = .running := rfl
set_option maxRecDepth 65536 in
theorem w_room : about1.hasRoom e0.platform room_1 = true :=
  launch0.hasRoom_least _ room_1 (by decide +kernel) (by decide +kernel) (by decide +kernel) (by decide +kernel) (by decide +kernel) (by decide +kernel)
theorem allAtoms_all (ts : List Jvm.Cond) (a : Array Jvm.Value) (st : Jvm.State) : (allAtoms ts).before a st = ts.all (fun c => c.before a st) := by
  induction ts with
  | nil => rfl
  | cons c t ih =>
    show (Jvm.Cond.and c (allAtoms t)).before a st = _
    rw [Jvm.Cond.before_and, ih, List.all_cons]
def words1 : List Jvm.Cond := Jvm.Cond.code x code maxLocals ret :: tables_1
/-- a 'code' word, met by the world's own term for the bytes: nothing is compared byte by byte -/
theorem code_word {y : MethodName} {bytes : ByteArray} {mx : Nat} {rt : Option FieldType} {a : Array Value} {s : State} {m : MethodId} {meth : Method} {c : Code} (h1 : s.methodNamed? y = some m) (h2 : s.vm.method? m = some meth) (h3 : meth.code = some c) (h4 : c.code = bytes)
    (h5 : (c.maxLocals == mx && c.exceptionTable.isEmpty && decide (c.maxStack ≤ mostOperands) && decide (meth.sig.returnType = rt) && !meth.locks && decide (parseMethodDescriptor y.desc = some meth.sig)) = true) : (Jvm.Cond.code y bytes mx rt).before a s = true := by
  simp only [Bool.and_eq_true, beq_iff_eq, Bool.not_eq_true', decide_eq_true_eq] at h5
  obtain ⟨⟨⟨⟨⟨g1, g2⟩, g3⟩, g4⟩, g5⟩, g6⟩ := h5
  simp [Cond.before, Cond.holds, Cond.value, h1, h2, h3, h4, g1, g2, g3, g4, g5, g6]
def isCode : Jvm.Cond → Bool
  | .code _ _ _ _ => true
  | _ => false
theorem all_split {L : List Jvm.Cond} {P : Jvm.Cond → Bool} (h1 : L.all (fun c => isCode c || P c) = true) (h2 : ∀ c ∈ L.filter isCode, P c = true) : L.all P = true := by
  refine List.all_eq_true.mpr fun c hc => ?_
  have h := List.all_eq_true.mp h1 c hc
  rcases Bool.eq_false_or_eq_true (isCode c) with hi | hi
  · exact h2 c (List.mem_filter.mpr ⟨hc, hi⟩)
  · simpa [hi] using h
set_option maxRecDepth 65536 in
theorem w_c0 : (Jvm.Cond.code x code maxLocals ret).before args0 about1 = true := code_word (m := ⟨1, 1⟩) (meth := k1m1) (c := k1c1) (by decide +kernel) rfl rfl rfl (by decide +kernel)
set_option maxRecDepth 65536 in
theorem w_c1 : (Jvm.Cond.code ({ cls := "kithrank/Weights", name := "<init>", desc := "([I)V" } : Jvm.MethodName) prog_135_method_1_code (4 : Nat) (Option.none : Option Jvm.ClassFile.FieldType)).before args0 about1 = true := code_word (m := ⟨2, 0⟩) (meth := k2m0) (c := k2c0) (by decide +kernel) rfl rfl rfl (by decide +kernel)
set_option maxRecDepth 65536 in
theorem w_c2 : (Jvm.Cond.code ({ cls := "java/lang/Object", name := "<init>", desc := "()V" } : Jvm.MethodName) object_method_1_code (1 : Nat) (Option.none : Option Jvm.ClassFile.FieldType)).before args0 about1 = true := code_word (m := ⟨0, 0⟩) (meth := k0m0) (c := k0c0) (by decide +kernel) rfl rfl rfl (by decide +kernel)
set_option maxRecDepth 65536 in
theorem w_c3 : (Jvm.Cond.code ({ cls := "kithrank/Weights", name := "set", desc := "(II)V" } : Jvm.MethodName) prog_135_method_3_code (5 : Nat) (Option.none : Option Jvm.ClassFile.FieldType)).before args0 about1 = true := code_word (m := ⟨2, 2⟩) (meth := k2m2) (c := k2c2) (by decide +kernel) rfl rfl rfl (by decide +kernel)
set_option maxRecDepth 65536 in
theorem w_c4 : (Jvm.Cond.code ({ cls := "kithrank/Weights", name := "weight", desc := "(I)I" } : Jvm.MethodName) prog_135_method_2_code (2 : Nat) (Option.some Jvm.ClassFile.FieldType.int)).before args0 about1 = true := code_word (m := ⟨2, 1⟩) (meth := k2m1) (c := k2c1) (by decide +kernel) rfl rfl rfl (by decide +kernel)
set_option maxRecDepth 65536 in
theorem w_c5 : (Jvm.Cond.code ({ cls := "kithrank/Weights", name := "below", desc := "(I)I" } : Jvm.MethodName) prog_135_method_4_code (4 : Nat) (Option.some Jvm.ClassFile.FieldType.int)).before args0 about1 = true := code_word (m := ⟨2, 3⟩) (meth := k2m3) (c := k2c3) (by decide +kernel) rfl rfl rfl (by decide +kernel)
def codes1 : List Jvm.Cond := [Jvm.Cond.code x code maxLocals ret, Jvm.Cond.code ({ cls := "kithrank/Weights", name := "<init>", desc := "([I)V" } : Jvm.MethodName) prog_135_method_1_code (4 : Nat) (Option.none : Option Jvm.ClassFile.FieldType), Jvm.Cond.code ({ cls := "java/lang/Object", name := "<init>", desc := "()V" } : Jvm.MethodName) object_method_1_code (1 : Nat) (Option.none : Option Jvm.ClassFile.FieldType), Jvm.Cond.code ({ cls := "kithrank/Weights", name := "set", desc := "(II)V" } : Jvm.MethodName) prog_135_method_3_code (5 : Nat) (Option.none : Option Jvm.ClassFile.FieldType), Jvm.Cond.code ({ cls := "kithrank/Weights", name := "weight", desc := "(I)I" } : Jvm.MethodName) prog_135_method_2_code (2 : Nat) (Option.some Jvm.ClassFile.FieldType.int), Jvm.Cond.code ({ cls := "kithrank/Weights", name := "below", desc := "(I)I" } : Jvm.MethodName) prog_135_method_4_code (4 : Nat) (Option.some Jvm.ClassFile.FieldType.int)]
set_option maxRecDepth 65536 in
theorem codes_eq : words1.filter isCode = codes1 := rfl
theorem w_codes : ∀ c ∈ words1.filter isCode, c.before args0 about1 = true := by
  rw [codes_eq]
  intro c hc
  simp only [codes1, List.mem_cons, List.not_mem_nil, or_false] at hc
  rcases hc with rfl | rfl | rfl | rfl | rfl | rfl
  · exact w_c0
  · exact w_c1
  · exact w_c2
  · exact w_c3
  · exact w_c4
  · exact w_c5
set_option maxRecDepth 65536 in
theorem w_t1 : (words1.take 24).all (fun c => isCode c || c.before args0 about1) = true := by decide +kernel
set_option maxRecDepth 65536 in
theorem w_t2 : (words1.drop 24).all (fun c => isCode c || c.before args0 about1) = true := by decide +kernel
theorem w_tables : (allAtoms (Jvm.Cond.code x code maxLocals ret :: tables_1)).before args0 about1 = true := by
  rw [allAtoms_all]
  show words1.all (fun c => c.before args0 about1) = true
  refine all_split ?_ w_codes
  rw [← List.take_append_drop 24 words1, List.all_append, w_t1, w_t2]
  rfl
set_option maxRecDepth 65536 in
theorem w_case : (Jvm.Cond.and given_1 narrow_1).before args0 about1 = true := by decide +kernel
theorem w_applies : (headSpec (Jvm.Cond.code x code maxLocals ret :: tables_1) room_1).applies x e0.platform about1 = true :=
  (Spec.applies_iff w_frames).mpr ⟨w_running, w_runnable, w_alone, w_named, w_hears, w_ripe, w_room, w_tables⟩
theorem atStart : AtStart classFile x code maxLocals ret World_1 tables_1 room_1 Calls_1 rest_1 Pre_1 launch0 p0 e0 about1 theMethod args0 below0 :=
  ⟨lists_1, trivial, launch0.admits_env _ _ _, launch0.least_env, fairChoices_fair.cas, fairChoices_fair.clock, w_frames, w_args, w_heap, w_applies, trivial, trivial, w_case⟩
end start1
theorem witness_1 : WitnessClaimed_1 := ⟨start1.p0, start1.e0, start1.about1, start1.theMethod, start1.args0, start1.below0, start1.atStart⟩
end Jvm.Pilot.@@N@@
