import JvmDerived
import JvmDerived.Pilot.@@N@@Statement
import JvmDerived.Pilot.@@N@@Code
set_option linter.unusedVariables false
set_option linter.unusedSimpArgs false
namespace Jvm.Pilot.@@N@@
open Jvm Jvm.ClassFile Sem Op Lib Jvm.Free Jvm.Stand Jvm.LawKit Jvm.RoadKit Bundle Jvm.Pilot.@@N@@.Jvm.D
section Own
variable {p : Program} {l : Launch} {e : Env} {R : Room} {s : State} {m : MethodId} {args : Array Value} {below : List Frame} {meth : Method} {c : Code} {T : State} {locs : List Loc} {cells slots : Nat} {Q : Option Value → Heap → List Loc → Prop} {k n : Nat}
/-- from this state the body comes to an end that meets Φ -/
def own_Go (tb : Tables) (e : Env) (below : List Frame) (Φ : Outcome → State → Prop) (S : State) : Prop :=
  ∃ U o, Steps tb e below S U ∧ U.status = .running ∧ Ended U below o ∧ Φ o U
/-- it returned; what it leaves meets Q; nothing else moved -/
def own_F (s : State) (Q : Option Value → Heap → List Loc → Prop) (k n : Nat) (o : Outcome) (U : State) : Prop := ∃ v L, o = .returned v ∧ Q v U.heap L ∧ FrameEnd s o U L k n
theorem own_st {tb : Tables} {Φ : Outcome → State → Prop} {S S' : State} (h : ∀ t, Steps tb e below S' t → Steps tb e below S t) (g : own_Go tb e below Φ S') : own_Go tb e below Φ S := by
  obtain ⟨U, o, h1, r⟩ := g
  exact ⟨U, o, h _ h1, r⟩
theorem own_tr {tb : Tables} {Φ : Outcome → State → Prop} {S S' : State} (h : Steps tb e below S S') (g : own_Go tb e below Φ S') : own_Go tb e below Φ S := by
  obtain ⟨U, o, h1, r⟩ := g
  exact ⟨U, o, h.trans h1, r⟩
theorem own_end (X : Stand p l e R s m args below meth c T locs cells slots) (v : Option Value) (hv : meth.sig.returnType = none → v = none) (hlk : meth.locks = false) (hq : Q v T.heap locs) (hk : cells ≤ k) (hn : slots ≤ n) {S : State}
    (hs : ∀ fs, (∀ (f : JFrame) (acts : List Action), f.method = m → f.locked = none → f.entered = [] → (doReturn e (T.setTop f) acts v).1 = T.setFrames fs) → Steps p.tables e below S (T.setFrames fs)) : own_Go p.tables e below (own_F s Q k n) S := by
  obtain ⟨fs, hr, hrun, hended, hW, hsame⟩ := X.leave (v := v) hv hlk
  exact ⟨_, _, hs fs hr, hrun, hended, v, locs, rfl, hq, ⟨_, rfl⟩, hW, hsame.mono hk hn⟩
theorem own_retN (X : Stand p l e R s m args below meth c T locs cells slots) (hx : p.tables.exec = Jvm.exec) {pc : Nat} {Ls : Array Slot} {z : Int32} {t : FieldType} {rest : List Value} (hret : meth.sig.returnType = some t) (ht : t = .boolean ∨ t = .byte ∨ t = .char ∨ t = .short) (hlk : meth.locks = false)
    (hd : decode c.code pc = .ok (.ireturn, 1)) (hq : Q (some (.int (nar t z))) T.heap locs) (hk : cells ≤ k) (hn : slots ≤ n) : own_Go p.tables e below (own_F s Q k n) (T.setTop (mkF m pc Ls (.int z :: rest))) :=
  own_end X _ (fun h => by rw [hret] at h; cases h) hlk hq hk hn fun fs hr => retN X hx hret ht hd hr
theorem own_retI (X : Stand p l e R s m args below meth c T locs cells slots) (hx : p.tables.exec = Jvm.exec) {pc : Nat} {Ls : Array Slot} {z : Int32} {rest : List Value} (hret : meth.sig.returnType = some .int) (hlk : meth.locks = false)
    (hd : decode c.code pc = .ok (.ireturn, 1)) (hq : Q (some (.int z)) T.heap locs) (hk : cells ≤ k) (hn : slots ≤ n) : own_Go p.tables e below (own_F s Q k n) (T.setTop (mkF m pc Ls (.int z :: rest))) :=
  own_end X _ (fun h => by rw [hret] at h; cases h) hlk hq hk hn fun fs hr => retOut X hx hret rfl (Or.inl ⟨rfl, Or.inl rfl, z, rfl⟩) hd hr
theorem own_retL (X : Stand p l e R s m args below meth c T locs cells slots) (hx : p.tables.exec = Jvm.exec) {pc : Nat} {Ls : Array Slot} {z : Int64} {rest : List Value} (hret : meth.sig.returnType = some .long) (hlk : meth.locks = false)
    (hd : decode c.code pc = .ok (.lreturn, 1)) (hq : Q (some (.long z)) T.heap locs) (hk : cells ≤ k) (hn : slots ≤ n) : own_Go p.tables e below (own_F s Q k n) (T.setTop (mkF m pc Ls (.long z :: rest))) :=
  own_end X _ (fun h => by rw [hret] at h; cases h) hlk hq hk hn fun fs hr => retOut X hx hret rfl (Or.inr (Or.inl ⟨rfl, rfl, z, rfl⟩)) hd hr
theorem own_retA (X : Stand p l e R s m args below meth c T locs cells slots) (hx : p.tables.exec = Jvm.exec) {pc : Nat} {Ls : Array Slot} {w : Value} {t : FieldType} {rest : List Value} (hret : meth.sig.returnType = some t) (ht : t.isReference = true) (hw : w.isRef = true) (hnw : narrow t w = w) (hlk : meth.locks = false)
    (hd : decode c.code pc = .ok (.areturn, 1)) (hq : Q (some w) T.heap locs) (hk : cells ≤ k) (hn : slots ≤ n) : own_Go p.tables e below (own_F s Q k n) (T.setTop (mkF m pc Ls (w :: rest))) :=
  own_end X _ (fun h => by rw [hret] at h; cases h) hlk hq hk hn fun fs hr => retOut X hx hret hnw (Or.inr (Or.inr (Or.inr (Or.inr ⟨rfl, ht, hw⟩)))) hd hr
theorem own_retV (X : Stand p l e R s m args below meth c T locs cells slots) (hx : p.tables.exec = Jvm.exec) {pc : Nat} {Ls : Array Slot} (hret : meth.sig.returnType = none) (hlk : meth.locks = false)
    (hd : decode c.code pc = .ok (.return_, 1)) (hq : Q none T.heap locs) (hk : cells ≤ k) (hn : slots ≤ n) : own_Go p.tables e below (own_F s Q k n) (T.setTop (mkF m pc Ls [])) :=
  own_end X _ (fun _ => rfl) hlk hq hk hn fun fs hr => X.returnOut hx hret hd hr
theorem own_body {y : MethodName} {cd : ByteArray} {mx : Nat} {rt : Option FieldType} {ws : List Jvm.Cond} {rm : Room} {Z : State} {h0 : Heap} {as : Array Value} (hp : plainFor y = true)
    (go : ∀ (p : Program) (e : Env) (s : State) (m : MethodId) (below : List Frame) (meth : Method) (c : Code) (s₁ : State), p.tables.exec = Jvm.exec → c.code = cd → c.maxLocals = mx → s.vm.findClass y.cls = some m.cls → meth.name = y.name → meth.sig.returnType = rt → meth.locks = false → Z.Warmed39 s.vm →
      Stand p l e rm s m as below meth c s₁ [] 0 0 → s₁.heap = h0 → own_Go p.tables e below (own_F s Q rm.cells rm.slots) (s₁.setTop (entryFrame m as mx))) :
    MetFree l y (head1 (Jvm.Cond.code y cd mx rt :: ws) rm) (fun a U => a = as ∧ Z.Warmed39 U.vm ∧ U.heap = h0) (fun _ _ _ _ _ => True) (fun _ U o U' => ∃ v L, o = .returned v ∧ Q v U'.heap L ∧ FrameEnd U o U' L rm.cells rm.slots) := by
  refine MetFree.of_bodySF hp hisR ?_
  intro p e s m args below meth c s₁ Bd hml0 hP hK
  obtain ⟨rfl, hZ, hh⟩ := hP
  exact go p e s m below meth c s₁ Bd.exec Bd.bytes hml0 (findClass_of_methodNamed Bd.named) (name_of_methodNamed Bd.named Bd.method).1 Bd.returns Bd.notSynchronized hZ (Stand.of_body Bd) (by rw [← hh, Bd.state]; rfl)
end Own
theorem own_narb {P : Prop} [Decidable P] : nar .boolean (if P then (1 : Int32) else (0 : Int32)) = if P then (1 : Int32) else (0 : Int32) := by split <;> rfl
/-- an array by its length and what each place holds -/
def own_A (Z : State) (h : Heap) (a : Addr) (ty : FieldType) (n : Nat) (f : Nat → Value) : Prop := ∃ c : Cell, Arr Z h a c ty ∧ c.slots.size = n ∧ n < 2 ^ 31 ∧ ∀ j, j < n → c.slots[j]? = some (f j)
def own_up (f : Nat → Value) (i : Nat) (v : Value) : Nat → Value := fun j => if j = i then v else f j
def own_Ix (j : Int32) (i n : Nat) : Prop := ¬ j < 0 ∧ j.toNatClampNeg = i ∧ i < n
section Arrs
variable {Z : State} {h h' : Heap} {a b : Addr} {ty : FieldType} {n i : Nat} {f : Nat → Value} {v : Value} {sl : Nat} {ws : List Addr} {c : Cell} {j z : Int32}
theorem own_A.lt (F : own_A Z h a ty n f) : a < h.size := by obtain ⟨c, A, -⟩ := F; exact A.lt
theorem own_A.ext (F : own_A Z h a ty n f) (E : Ext h h') : own_A Z h' a ty n f := by obtain ⟨c, A, r⟩ := F; exact ⟨c, A.ext E, r⟩
theorem own_A.other (F : own_A Z h b ty n f) (W : Wr h h' a sl v) (q : b ≠ a) : own_A Z h' b ty n f := by obtain ⟨c, A, r⟩ := F; exact ⟨c, A.other W q, r⟩
theorem own_A.keep (F : own_A Z h a ty n f) (K : Keep h h' ws) (q : a ∉ ws) : own_A Z h' a ty n f := by obtain ⟨c, A, r⟩ := F; exact ⟨c, ⟨K.2.1 a c A.1 q, A.2⟩, r⟩
theorem own_clamp (z : Int32) : z.toNatClampNeg < 2 ^ 31 := by
  have := Int32.toInt_lt z
  simp only [Int32.toNatClampNeg]; omega
theorem own_A.new {k : ClassId} (A : Arr Z h a (newA k ty z) ty) (hz : z.toNatClampNeg = n) : own_A Z h a ty n (fun _ => defaultValue ty) := by
  refine ⟨_, A, by rw [sz_new, hz], by rw [← hz]; exact own_clamp z, fun j hj => ?_⟩
  simp [newA, hz, hj]
theorem own_ix (h1 : ¬ j < 0) (h2 : j.toNatClampNeg = i) (h3 : i < n) : own_Ix j i n := ⟨h1, h2, h3⟩
theorem own_in (S : c.slots.size = n) (h : own_Ix j i n) : ¬ (j < 0 ∨ c.slots.size ≤ j.toNatClampNeg) := by
  obtain ⟨h1, h2, h3⟩ := h
  rw [S, h2]
  exact fun q => q.elim h1 (fun r => absurd h3 (Nat.not_lt.mpr r))
theorem own_at (S : c.slots.size = n) (V : ∀ j, j < n → c.slots[j]? = some (f j)) (h : own_Ix j i n) (hv : f i = v) : c.slots[j.toNatClampNeg]? = some v := by
  obtain ⟨h1, h2, h3⟩ := h
  rw [h2, V i h3, hv]
theorem own_A.set (F : own_A Z h a ty n f) (hj : own_Ix j i n) (W : Wr h h' a j.toNatClampNeg v) : own_A Z h' a ty n (own_up f i v) := by
  obtain ⟨c, A, S, M, V⟩ := F
  obtain ⟨h1, h2, h3⟩ := hj
  rw [h2] at W
  refine ⟨c.setSlot i v, A.same W, by rw [sz_set]; exact S, M, fun j' hj' => ?_⟩
  show (c.slots.setIfInBounds i v)[j']? = _
  unfold own_up
  by_cases e : j' = i
  · subst e; rw [if_pos rfl]; simp [S, hj']
  · rw [if_neg e, Array.getElem?_setIfInBounds_ne (Ne.symm e)]; exact V j' hj'
theorem own_A.cong {g : Nat → Value} (F : own_A Z h a ty n f) (q : ∀ j, j < n → f j = g j) : own_A Z h a ty n g := by
  obtain ⟨c, A, S, M, V⟩ := F
  exact ⟨c, A, S, M, fun j hj => by rw [V j hj, q j hj]⟩
end Arrs
/-- a short array's values by a list -/
def own_V (vs : List Value) : Nat → Value := fun j => vs.getD j .null
theorem own_selP {Z s : State} {a0 args : Array Value} {y : MethodName} {n : Nat} (hZ : Z.Warmed39 s.vm) (wi : (Jvm.Cond.instantiable y.cls n).before a0 Z = true) (wp : (Jvm.Cond.privateMethod y).before a0 Z = true) (wm : (Jvm.Cond.instanceMethod y).before a0 Z = true)
    (hy : y.cls ≠ "java/lang/invoke/MethodHandle" ∧ y.cls ≠ "java/lang/invoke/VarHandle") : (Jvm.Cond.selects y.cls y y).before args s = true := by
  have w : (Jvm.Cond.instantiable y.cls n).before args s = true := mvT hZ wi
  obtain ⟨c, k, h1, h2, -, h4, -⟩ := Cond.instantiable_spec w
  exact selects_self_of_private h1 h2 (Bool.or_eq_false_iff.mp h4).1 (Cond.privateMethod_at (mvP hZ wp (args := #[]))) (mvT hZ wm) hy
section OwnW
variable {p : Program} {l : Launch} {e : Env} {R : Room} {s : State} {vm0 : Vm} {k0 : Nat} {m : MethodId} {args : Array Value} {below : List Frame} {meth : Method} {c : Code} {T : State} {locs : List Loc} {cells slots : Nat} {Q : Option Value → Heap → List Loc → Prop} {k n : Nat}
/-- as own_F, of a body that may load String constants -/
def own_FW (s : State) (Q : Option Value → Heap → List Loc → Prop) (k n : Nat) (o : Outcome) (U : State) : Prop := ∃ v L, o = .returned v ∧ Q v U.heap L ∧ ReturnedEndW s o U L k n
theorem own_endW (X : Stand p l e R (s.setVm vm0) m args below meth c T locs cells slots) (hS : s.Since vm0 k0) (hk0 : k0 ≤ T.heap.size) (v : Option Value) (hv : meth.sig.returnType = none → v = none) (hlk : meth.locks = false) (hq : Q v T.heap locs) (hk : cells ≤ k) (hn : slots ≤ n) {S : State}
    (hs : ∀ fs, (∀ (f : JFrame) (acts : List Action), f.method = m → f.locked = none → f.entered = [] → (doReturn e (T.setTop f) acts v).1 = T.setFrames fs) → Steps p.tables e below S (T.setFrames fs)) : own_Go p.tables e below (own_FW s Q k n) S := by
  obtain ⟨fs, hr, hrun, hended, hW, hsame⟩ := X.leave (v := v) hv hlk
  obtain ⟨h1, h2, h3⟩ := hS.ended (U := T.setFrames fs) hW hk0 hsame
  exact ⟨_, _, hs fs hr, hrun, hended, v, locs, rfl, hq, ⟨_, rfl⟩, h1, h2, h3.mono hk hn⟩
theorem own_retNW (X : Stand p l e R (s.setVm vm0) m args below meth c T locs cells slots) (hS : s.Since vm0 k0) (hk0 : k0 ≤ T.heap.size) (hx : p.tables.exec = Jvm.exec) {pc : Nat} {Ls : Array Slot} {z : Int32} {t : FieldType} {rest : List Value} (hret : meth.sig.returnType = some t) (ht : t = .boolean ∨ t = .byte ∨ t = .char ∨ t = .short) (hlk : meth.locks = false)
    (hd : decode c.code pc = .ok (.ireturn, 1)) (hq : Q (some (.int (nar t z))) T.heap locs) (hk : cells ≤ k) (hn : slots ≤ n) : own_Go p.tables e below (own_FW s Q k n) (T.setTop (mkF m pc Ls (.int z :: rest))) :=
  own_endW X hS hk0 _ (fun h => by rw [hret] at h; cases h) hlk hq hk hn fun fs hr => retN X hx hret ht hd hr
theorem own_retVW (X : Stand p l e R (s.setVm vm0) m args below meth c T locs cells slots) (hS : s.Since vm0 k0) (hk0 : k0 ≤ T.heap.size) (hx : p.tables.exec = Jvm.exec) {pc : Nat} {Ls : Array Slot} (hret : meth.sig.returnType = none) (hlk : meth.locks = false)
    (hd : decode c.code pc = .ok (.return_, 1)) (hq : Q none T.heap locs) (hk : cells ≤ k) (hn : slots ≤ n) : own_Go p.tables e below (own_FW s Q k n) (T.setTop (mkF m pc Ls [])) :=
  own_endW X hS hk0 _ (fun _ => rfl) hlk hq hk hn fun fs hr => X.returnOut hx hret hd hr
theorem own_bodyW {y : MethodName} {cd : ByteArray} {mx : Nat} {rt : Option FieldType} {ws : List Jvm.Cond} {rm : Room} {Z : State} {h0 : Heap} {as : Array Value} (hp : plainFor y = true)
    (go : ∀ (p : Program) (e : Env) (s : State) (m : MethodId) (below : List Frame) (meth : Method) (c : Code) (s₁ : State), p.tables.exec = Jvm.exec → c.code = cd → c.maxLocals = mx → s.vm.findClass y.cls = some m.cls → meth.name = y.name → meth.sig.returnType = rt → meth.locks = false → Z.Warmed39 s.vm →
      Stand p l e rm s m as below meth c s₁ [] 0 0 → s₁.heap = h0 → own_Go p.tables e below (own_FW s Q rm.cells rm.slots) (s₁.setTop (entryFrame m as mx))) :
    MetFree l y (head1 (Jvm.Cond.code y cd mx rt :: ws) rm) (fun a U => a = as ∧ Z.Warmed39 U.vm ∧ U.heap = h0) (fun _ _ _ _ _ => True) (fun _ U o U' => ∃ v L, o = .returned v ∧ Q v U'.heap L ∧ ReturnedEndW U o U' L rm.cells rm.slots) := by
  refine MetFree.of_bodySF hp hisR ?_
  intro p e s m args below meth c s₁ Bd hml0 hP hK
  obtain ⟨rfl, hZ, hh⟩ := hP
  exact go p e s m below meth c s₁ Bd.exec Bd.bytes hml0 (findClass_of_methodNamed Bd.named) (name_of_methodNamed Bd.named Bd.method).1 Bd.returns Bd.notSynchronized hZ (Stand.of_body Bd) (by rw [← hh, Bd.state]; rfl)
end OwnW

def own_d (t : Int64) : Int64 := if (0 : Int64) < t then (t - (1 : Int64)) else t
theorem own_dI (t : Int64) (h : 0 ≤ t.toInt) : (own_d t).toInt = if 0 < t.toInt then t.toInt - 1 else t.toInt := by
  unfold own_d
  have e : ((0 : Int64) < t) ↔ 0 < t.toInt := by rw [Int64.lt_iff_toInt_lt]; rfl
  by_cases c : 0 < t.toInt
  · rw [if_pos (e.mpr c), if_pos c]
    have b := rng64 t
    have q := c_lsub t (1 : Int64)
    have b2 := rng64 (t - (1 : Int64))
    have o : (1 : Int64).toInt = 1 := rfl
    rw [o] at q
    omega
  · rw [if_neg (mt e.mp c), if_neg c]
theorem own_d0 (t : Int64) (h : 0 ≤ t.toInt) : 0 ≤ (own_d t).toInt := by
  rw [own_dI t h]; split <;> omega
theorem own_b1 {P Q : Prop} [Decidable P] [Decidable Q] (h : P ↔ ¬ Q) : (if P then (1 : Int32) else (0 : Int32)) = if Q then (0 : Int32) else (1 : Int32) := by
  by_cases q : Q
  · rw [if_pos q, if_neg (fun p => h.mp p q)]
  · rw [if_neg q, if_pos (h.mpr q)]
theorem own_lt (x y : Int64) : x < y ↔ x.toInt < y.toInt := Int64.lt_iff_toInt_lt
theorem own_eq (x y : Int64) : x = y ↔ x.toInt = y.toInt := Int64.toInt_inj.symm
theorem own_n0 : (0 : Int64).toInt = 0 := rfl
theorem own_n1 : (1 : Int64).toInt = 1 := rfl
theorem own_n2 : (2 : Int64).toInt = 2 := rfl
theorem own_n3 : (3 : Int64).toInt = 3 := rfl
theorem own_k1 (t : Int64) (h : 0 ≤ t.toInt) : (0 : Int64) < t ↔ ¬ t < (1 : Int64) := by
  rw [own_lt, own_lt, own_n0, own_n1]; omega
theorem own_k2 (t : Int64) (h : 0 ≤ t.toInt) : own_d t = (0 : Int64) ↔ ¬ (1 : Int64) < t := by
  have e := own_dI t h
  rw [own_eq, own_lt, own_n0, own_n1, e]; split <;> omega
theorem own_k3 (t : Int64) (h : 0 ≤ t.toInt) : (0 : Int64) < own_d t ↔ ¬ t < (2 : Int64) := by
  have e := own_dI t h
  rw [own_lt, own_lt, own_n0, own_n2, e]; split <;> omega
theorem own_k4 (t : Int64) (h : 0 ≤ t.toInt) : own_d (own_d t) = (0 : Int64) ↔ ¬ (2 : Int64) < t := by
  have e := own_dI t h
  have e2 := own_dI _ (own_d0 t h)
  rw [own_eq, own_lt, own_n0, own_n2, e2]
  generalize (own_d t).toInt = x at e e2
  split at e <;> split <;> omega
theorem own_k5 (t : Int64) (h : 0 ≤ t.toInt) : (0 : Int64) < own_d (own_d t) ↔ ¬ t < (3 : Int64) := by
  have e := own_dI t h
  have e2 := own_dI _ (own_d0 t h)
  rw [own_lt, own_lt, own_n0, own_n3, e2]
  generalize (own_d t).toInt = x at e e2
  split at e <;> split <;> omega
theorem own_k6 (t : Int64) (h : 0 ≤ t.toInt) : own_d (own_d (own_d t)) = (0 : Int64) ↔ ¬ (3 : Int64) < t := by
  have e := own_dI t h
  have e2 := own_dI _ (own_d0 t h)
  have e3 := own_dI _ (own_d0 _ (own_d0 t h))
  rw [own_eq, own_lt, own_n0, own_n3, e3]
  generalize (own_d (own_d t)).toInt = y at e2 e3
  generalize (own_d t).toInt = x at e e2
  split at e <;> split at e2 <;> split <;> omega
theorem own_t0 {x t : Int64} {P : Prop} [Decidable P] (q : t = if P then (x &&& (9223372036854775807 : Int64)) else (x &&& (3 : Int64))) : 0 ≤ t.toInt := by
  rw [q]
  split
  · rw [c_maskL x _ 63 (by decide) (by decide)]; omega
  · rw [c_maskL x _ 2 (by decide) (by decide)]; omega
theorem d1_0 : decode prog_14_method_1_code 0 = .ok (.aload_n 0, 1) := by decide +kernel
theorem d1_1 : decode prog_14_method_1_code 1 = .ok (.invokespecial 1, 3) := by decide +kernel
theorem d1_4 : decode prog_14_method_1_code 4 = .ok (.aload_n 0, 1) := by decide +kernel
theorem d1_5 : decode prog_14_method_1_code 5 = .ok (.lload_n 1, 1) := by decide +kernel
theorem d1_6 : decode prog_14_method_1_code 6 = .ok (.putfield 7, 3) := by decide +kernel
theorem d1_9 : decode prog_14_method_1_code 9 = .ok (.return_, 1) := by decide +kernel
theorem pn1 : plainName "com/example/deliberation/deliberation/agent/Budget" = true := by first | (simp [plainName, overriddenIn]; done) | decide +kernel
theorem ef1 (m : MethodId) (a : Addr) (q1 : Int64) : entryFrame m #[(.ref a), (.long q1)] 3 = mkF m 0 #[.val (.ref a), .val (.long q1), .second] [] := by first | (simp [entryFrame, mkF, argsToLocals, Value.category]; done) | rfl
def Q1 (Z : State) (a : Addr) (q1 : Int64) (w : Int64) (h0 : Heap) (n0 : Nat) (v : Option Value) (h : Heap) (L : List Loc) : Prop := v = none ∧ Fr n0 L ∧ Keep h0 h [a] ∧ Exa Z h a "com/example/deliberation/deliberation/agent/Budget" ∧ Fld Z h a "com/example/deliberation/deliberation/agent/Budget" "left" "J" (.long q1)
set_option maxRecDepth 65536 in
set_option maxHeartbeats 40000000 in
theorem rm1 (l : Launch) (Z : State) (a0 : Array Value) (hw : ∀ d ∈ tables_1, d.before a0 Z = true) (ws : List Jvm.Cond) (a : Addr) (q1 : Int64) (w : Int64) (h0 : Heap) (n0 : Nat) (Z0 : n0 ≤ h0.size) (E_a : Exa Z h0 a "com/example/deliberation/deliberation/agent/Budget") (F_a_left : Fld Z h0 a "com/example/deliberation/deliberation/agent/Budget" "left" "J" (.long w)) (G_a : n0 ≤ a) :
    MetFree l (⟨"com/example/deliberation/deliberation/agent/Budget", "<init>", "(J)V"⟩ : MethodName) (head1 (Jvm.Cond.code (⟨"com/example/deliberation/deliberation/agent/Budget", "<init>", "(J)V"⟩ : MethodName) prog_14_method_1_code 3 none :: ws) ({ frames := 1, cells := 0, slots := 0, locals := 12 } : Room)) (fun as' U => as' = #[(.ref a), (.long q1)] ∧ Z.Warmed39 U.vm ∧ U.heap = h0) (fun _ _ _ _ _ => True) (fun _ U o U' => ∃ v L, o = .returned v ∧ Q1 Z a q1 w h0 n0 v U'.heap L ∧ FrameEnd U o U' L ({ frames := 1, cells := 0, slots := 0, locals := 12 } : Room).cells ({ frames := 1, cells := 0, slots := 0, locals := 12 } : Room).slots) := by
  refine own_body (plainFor_of_name pn1) ?_
  intro p e s m below meth c s₁ hx hby hml hown0 hnm hret hlk hZ X0 e0
  have hown : s.vm.findClass "com/example/deliberation/deliberation/agent/Budget" = some m.cls := hown0
  have N0 := Fr.nil n0
  rw [ef1]
  have K0 : Keep h0 h0 [a] := Keep.refl h0 [a]
  show own_Go p.tables e below _ (s₁.setTop (mkF m 0 #[.val (.ref a), .val (.long q1), .second] []))
  refine own_st (S' := s₁.setTop (mkF m 1 #[.val (.ref a), .val (.long q1), .second] [(.ref a)])) (fun t k => XS.aloadN X0.here hx rfl (hb hby d1_0) rfl rfl k) ?_
  obtain ⟨T1, X1, e1, st1⟩ := initO X0 hx hZ hown (hw _ (List.mem_of_getElem? (i := 7) rfl)) (hw _ (List.mem_of_getElem? (i := 8) rfl)) (hw _ (List.mem_of_getElem? (i := 9) rfl)) e0 (g := (mkF m 1 #[.val (.ref a), .val (.long q1), .second] [(.ref a)])) rfl (by rw [hml]; rfl) rfl (hb hby d1_1) (by decide) (W := 0) (by show 2 * 0 + _ ≤ _; exact Nat.le_of_eq rfl) (by decide)
  refine own_st st1 ?_
  show own_Go p.tables e below _ (T1.setTop (mkF m 4 #[.val (.ref a), .val (.long q1), .second] []))
  refine own_st (S' := T1.setTop (mkF m 5 #[.val (.ref a), .val (.long q1), .second] [(.ref a)])) (fun t k => XS.aloadN X1.here hx rfl (hb hby d1_4) rfl rfl k) ?_
  refine own_st (S' := T1.setTop (mkF m 6 #[.val (.ref a), .val (.long q1), .second] [(.long q1), (.ref a)])) (fun t k => XS.lloadN X1.here hx rfl (hb hby d1_5) rfl k) ?_
  obtain ⟨T2, h2, X2, e2, W2, st2⟩ := putF X1 hx hZ hown (host := "") (Or.inl (hw _ (List.mem_of_getElem? (i := 10) rfl))) Via.refl e1 F_a_left E_a (Or.inl (hw _ (List.mem_of_getElem? (i := 11) rfl))) (hw _ (List.mem_of_getElem? (i := 2) rfl)) (ty := .long) (by decide) rfl rfl (g := (mkF m 6 #[.val (.ref a), .val (.long q1), .second] [(.long q1), (.ref a)])) rfl rfl (hb hby d1_6)
  refine own_st st2 ?_
  have f3 : Exa Z h2 a "com/example/deliberation/deliberation/agent/Budget" := E_a.wr W2
  have Z2 : n0 ≤ h2.size := Nat.le_trans Z0 (Keep.of_wr W2).1
  have N2 := Fr.snoc X2 N0 G_a
  have K2 : Keep h0 h2 [a] := K0.wr W2 (Or.inl (List.mem_of_getElem? (i := 0) rfl))
  have f4 : Fld Z h2 a "com/example/deliberation/deliberation/agent/Budget" "left" "J" (.long q1) := F_a_left.same W2
  show own_Go p.tables e below _ (T2.setTop (mkF m 9 #[.val (.ref a), .val (.long q1), .second] []))
  refine own_retV X2 hx hret hlk (hb hby d1_9) ?_ (by decide) (by decide)
  rw [e2]
  exact ⟨rfl, N2, K2, f3, f4⟩
theorem d2_0 : decode prog_14_method_3_code 0 = .ok (.aload_n 0, 1) := by decide +kernel
theorem d2_1 : decode prog_14_method_3_code 1 = .ok (.getfield 7, 3) := by decide +kernel
theorem d2_4 : decode prog_14_method_3_code 4 = .ok (.lconst 0, 1) := by decide +kernel
theorem d2_5 : decode prog_14_method_3_code 5 = .ok (.lcmp, 1) := by decide +kernel
theorem d2_6 : decode prog_14_method_3_code 6 = .ok (.ifCond .ne 7, 3) := by decide +kernel
theorem d2_9 : decode prog_14_method_3_code 9 = .ok (.iconst 1, 1) := by decide +kernel
theorem d2_10 : decode prog_14_method_3_code 10 = .ok (.goto 4, 3) := by decide +kernel
theorem d2_13 : decode prog_14_method_3_code 13 = .ok (.iconst 0, 1) := by decide +kernel
theorem d2_14 : decode prog_14_method_3_code 14 = .ok (.ireturn, 1) := by decide +kernel
theorem pn2 : plainName "com/example/deliberation/deliberation/agent/Budget" = true := by first | (simp [plainName, overriddenIn]; done) | decide +kernel
theorem ef2 (m : MethodId) (a : Addr) : entryFrame m #[(.ref a)] 1 = mkF m 0 #[.val (.ref a)] [] := by first | (simp [entryFrame, mkF, argsToLocals, Value.category]; done) | rfl
def Q2 (Z : State) (a : Addr) (w : Int64) (h0 : Heap) (n0 : Nat) (v : Option Value) (h : Heap) (L : List Loc) : Prop := v = some (.int (if w = (0 : Int64) then (1 : Int32) else (0 : Int32))) ∧ Fr n0 L ∧ h = h0
set_option maxRecDepth 65536 in
set_option maxHeartbeats 40000000 in
theorem rm2 (l : Launch) (Z : State) (a0 : Array Value) (hw : ∀ d ∈ tables_1, d.before a0 Z = true) (ws : List Jvm.Cond) (a : Addr) (w : Int64) (h0 : Heap) (n0 : Nat) (Z0 : n0 ≤ h0.size) (F_a_left : Fld Z h0 a "com/example/deliberation/deliberation/agent/Budget" "left" "J" (.long w)) :
    MetFree l (⟨"com/example/deliberation/deliberation/agent/Budget", "isSpent", "()Z"⟩ : MethodName) (head1 (Jvm.Cond.code (⟨"com/example/deliberation/deliberation/agent/Budget", "isSpent", "()Z"⟩ : MethodName) prog_14_method_3_code 1 (some .boolean) :: ws) ({ frames := 0, cells := 0, slots := 0, locals := 0 } : Room)) (fun as' U => as' = #[(.ref a)] ∧ Z.Warmed39 U.vm ∧ U.heap = h0) (fun _ _ _ _ _ => True) (fun _ U o U' => ∃ v L, o = .returned v ∧ Q2 Z a w h0 n0 v U'.heap L ∧ FrameEnd U o U' L ({ frames := 0, cells := 0, slots := 0, locals := 0 } : Room).cells ({ frames := 0, cells := 0, slots := 0, locals := 0 } : Room).slots) := by
  refine own_body (plainFor_of_name pn2) ?_
  intro p e s m below meth c s₁ hx hby hml hown0 hnm hret hlk hZ X0 e0
  have hown : s.vm.findClass "com/example/deliberation/deliberation/agent/Budget" = some m.cls := hown0
  have N0 := Fr.nil n0
  rw [ef2]
  show own_Go p.tables e below _ (s₁.setTop (mkF m 0 #[.val (.ref a)] []))
  refine own_st (S' := s₁.setTop (mkF m 1 #[.val (.ref a)] [(.ref a)])) (fun t k => XS.aloadN X0.here hx rfl (hb hby d2_0) rfl rfl k) ?_
  obtain ⟨T1, X1, e1, st1⟩ := getF X0 hx hZ hown (host := "") (Or.inl (hw _ (List.mem_of_getElem? (i := 10) rfl))) Via.refl e0 F_a_left (g := (mkF m 1 #[.val (.ref a)] [(.ref a)])) rfl rfl (hb hby d2_1)
  refine own_st st1 ?_
  show own_Go p.tables e below _ (T1.setTop (mkF m 4 #[.val (.ref a)] [(.long w)]))
  refine own_st (S' := T1.setTop (mkF m 5 #[.val (.ref a)] [(.long (0 : Int64)), (.long w)])) (fun t k => XS.lconst X1.here hx rfl (hb hby d2_4) k) ?_
  refine own_st (S' := T1.setTop (mkF m 6 #[.val (.ref a)] [(.int (lcmpW w (0 : Int64)))])) (fun t k => XS.lcmp X1.here hx rfl (hb hby d2_5) rfl k) ?_
  obtain ⟨v2, qv2⟩ : ∃ z : Int32, z = (if w = (0 : Int64) then (1 : Int32) else (0 : Int32)) := ⟨_, rfl⟩
  refine own_st (S' := T1.setTop (mkF m 14 #[.val (.ref a)] [(.int v2)])) (fun t k => ?_) ?_
  · show Steps p.tables e below (T1.setTop (mkF m 6 #[.val (.ref a)] [(.int (lcmpW w (0 : Int64)))])) _
    by_cases hc3 : w = (0 : Int64)
    · rw [if_pos hc3] at qv2
      replace qv2 := Eq.symm qv2
      subst qv2
      refine XS.ifNo X1.here hx rfl (hb hby d2_6) rfl ((if0 _ _).trans (teq ((lw_eq _ _).mpr hc3)).2) ?_
      show Steps p.tables e below (T1.setTop (mkF m 9 #[.val (.ref a)] [])) _
      refine XS.iconst X1.here hx rfl (hb hby d2_9) ?_
      show Steps p.tables e below (T1.setTop (mkF m 10 #[.val (.ref a)] [(.int (1 : Int32))])) _
      refine XS.goto X1.here hx rfl (pc0 := 10) (pc' := 14) rfl (hb hby d2_10) (by decide) (by decide) ?_
      show Steps p.tables e below (T1.setTop (mkF m 14 #[.val (.ref a)] [(.int (1 : Int32))])) _
      exact k
    · rw [if_neg hc3] at qv2
      replace qv2 := Eq.symm qv2
      subst qv2
      refine XS.ifYes X1.here hx rfl (pc0 := 6) (pc' := 13) rfl (hb hby d2_6) rfl ((if0 _ _).trans (feq (mt (lw_eq _ _).mp hc3)).2) (by decide) (by decide) ?_
      show Steps p.tables e below (T1.setTop (mkF m 13 #[.val (.ref a)] [])) _
      refine XS.iconst X1.here hx rfl (hb hby d2_13) ?_
      show Steps p.tables e below (T1.setTop (mkF m 14 #[.val (.ref a)] [(.int (0 : Int32))])) _
      exact k
  show own_Go p.tables e below _ (T1.setTop (mkF m 14 #[.val (.ref a)] [(.int v2)]))
  refine own_retN X1 hx (t := .boolean) hret (by simp) hlk (hb hby d2_14) ?_ (by decide) (by decide)
  rw [e1]
  exact ⟨(by rw [qv2, own_narb]), N0, rfl⟩
theorem d3_0 : decode prog_14_method_2_code 0 = .ok (.aload_n 0, 1) := by decide +kernel
theorem d3_1 : decode prog_14_method_2_code 1 = .ok (.getfield 7, 3) := by decide +kernel
theorem d3_4 : decode prog_14_method_2_code 4 = .ok (.lconst 0, 1) := by decide +kernel
theorem d3_5 : decode prog_14_method_2_code 5 = .ok (.lcmp, 1) := by decide +kernel
theorem d3_6 : decode prog_14_method_2_code 6 = .ok (.ifCond .le 7, 3) := by decide +kernel
theorem d3_9 : decode prog_14_method_2_code 9 = .ok (.iconst 1, 1) := by decide +kernel
theorem d3_10 : decode prog_14_method_2_code 10 = .ok (.goto 4, 3) := by decide +kernel
theorem d3_13 : decode prog_14_method_2_code 13 = .ok (.iconst 0, 1) := by decide +kernel
theorem d3_14 : decode prog_14_method_2_code 14 = .ok (.istore_n 1, 1) := by decide +kernel
theorem d3_15 : decode prog_14_method_2_code 15 = .ok (.iload_n 1, 1) := by decide +kernel
theorem d3_16 : decode prog_14_method_2_code 16 = .ok (.ifCond .eq 13, 3) := by decide +kernel
theorem d3_19 : decode prog_14_method_2_code 19 = .ok (.aload_n 0, 1) := by decide +kernel
theorem d3_20 : decode prog_14_method_2_code 20 = .ok (.dup, 1) := by decide +kernel
theorem d3_21 : decode prog_14_method_2_code 21 = .ok (.getfield 7, 3) := by decide +kernel
theorem d3_24 : decode prog_14_method_2_code 24 = .ok (.lconst 1, 1) := by decide +kernel
theorem d3_25 : decode prog_14_method_2_code 25 = .ok (.lsub, 1) := by decide +kernel
theorem d3_26 : decode prog_14_method_2_code 26 = .ok (.putfield 7, 3) := by decide +kernel
theorem d3_29 : decode prog_14_method_2_code 29 = .ok (.iload_n 1, 1) := by decide +kernel
theorem d3_30 : decode prog_14_method_2_code 30 = .ok (.ireturn, 1) := by decide +kernel
theorem pn3 : plainName "com/example/deliberation/deliberation/agent/Budget" = true := by first | (simp [plainName, overriddenIn]; done) | decide +kernel
theorem ef3 (m : MethodId) (a : Addr) : entryFrame m #[(.ref a)] 2 = mkF m 0 #[.val (.ref a), .unset] [] := by first | (simp [entryFrame, mkF, argsToLocals, Value.category]; done) | rfl
def Q3 (Z : State) (a : Addr) (w : Int64) (h0 : Heap) (n0 : Nat) (v : Option Value) (h : Heap) (L : List Loc) : Prop := v = some (.int (if (0 : Int64) < w then (1 : Int32) else (0 : Int32))) ∧ Fr n0 L ∧ Keep h0 h [a] ∧ Exa Z h a "com/example/deliberation/deliberation/agent/Budget" ∧ Fld Z h a "com/example/deliberation/deliberation/agent/Budget" "left" "J" (.long (own_d w))
set_option maxRecDepth 65536 in
set_option maxHeartbeats 40000000 in
theorem rm3 (l : Launch) (Z : State) (a0 : Array Value) (hw : ∀ d ∈ tables_1, d.before a0 Z = true) (ws : List Jvm.Cond) (a : Addr) (w : Int64) (h0 : Heap) (n0 : Nat) (Z0 : n0 ≤ h0.size) (E_a : Exa Z h0 a "com/example/deliberation/deliberation/agent/Budget") (F_a_left : Fld Z h0 a "com/example/deliberation/deliberation/agent/Budget" "left" "J" (.long w)) (G_a : n0 ≤ a) :
    MetFree l (⟨"com/example/deliberation/deliberation/agent/Budget", "take", "()Z"⟩ : MethodName) (head1 (Jvm.Cond.code (⟨"com/example/deliberation/deliberation/agent/Budget", "take", "()Z"⟩ : MethodName) prog_14_method_2_code 2 (some .boolean) :: ws) ({ frames := 0, cells := 0, slots := 0, locals := 0 } : Room)) (fun as' U => as' = #[(.ref a)] ∧ Z.Warmed39 U.vm ∧ U.heap = h0) (fun _ _ _ _ _ => True) (fun _ U o U' => ∃ v L, o = .returned v ∧ Q3 Z a w h0 n0 v U'.heap L ∧ FrameEnd U o U' L ({ frames := 0, cells := 0, slots := 0, locals := 0 } : Room).cells ({ frames := 0, cells := 0, slots := 0, locals := 0 } : Room).slots) := by
  refine own_body (plainFor_of_name pn3) ?_
  intro p e s m below meth c s₁ hx hby hml hown0 hnm hret hlk hZ X0 e0
  have hown : s.vm.findClass "com/example/deliberation/deliberation/agent/Budget" = some m.cls := hown0
  have N0 := Fr.nil n0
  rw [ef3]
  have K0 : Keep h0 h0 [a] := Keep.refl h0 [a]
  show own_Go p.tables e below _ (s₁.setTop (mkF m 0 #[.val (.ref a), .unset] []))
  refine own_st (S' := s₁.setTop (mkF m 1 #[.val (.ref a), .unset] [(.ref a)])) (fun t k => XS.aloadN X0.here hx rfl (hb hby d3_0) rfl rfl k) ?_
  obtain ⟨T1, X1, e1, st1⟩ := getF X0 hx hZ hown (host := "") (Or.inl (hw _ (List.mem_of_getElem? (i := 10) rfl))) Via.refl e0 F_a_left (g := (mkF m 1 #[.val (.ref a), .unset] [(.ref a)])) rfl rfl (hb hby d3_1)
  refine own_st st1 ?_
  show own_Go p.tables e below _ (T1.setTop (mkF m 4 #[.val (.ref a), .unset] [(.long w)]))
  refine own_st (S' := T1.setTop (mkF m 5 #[.val (.ref a), .unset] [(.long (0 : Int64)), (.long w)])) (fun t k => XS.lconst X1.here hx rfl (hb hby d3_4) k) ?_
  refine own_st (S' := T1.setTop (mkF m 6 #[.val (.ref a), .unset] [(.int (lcmpW w (0 : Int64)))])) (fun t k => XS.lcmp X1.here hx rfl (hb hby d3_5) rfl k) ?_
  obtain ⟨v2, qv2⟩ : ∃ z : Int32, z = (if (0 : Int64) < w then (1 : Int32) else (0 : Int32)) := ⟨_, rfl⟩
  refine own_st (S' := T1.setTop (mkF m 14 #[.val (.ref a), .unset] [(.int v2)])) (fun t k => ?_) ?_
  · show Steps p.tables e below (T1.setTop (mkF m 6 #[.val (.ref a), .unset] [(.int (lcmpW w (0 : Int64)))])) _
    by_cases hc3 : (0 : Int64) < w
    · rw [if_pos hc3] at qv2
      replace qv2 := Eq.symm qv2
      subst qv2
      refine XS.ifNo X1.here hx rfl (hb hby d3_6) rfl ((if0 _ _).trans (tlt ((lw_gt _ _).mpr hc3)).2.2.2) ?_
      show Steps p.tables e below (T1.setTop (mkF m 9 #[.val (.ref a), .unset] [])) _
      refine XS.iconst X1.here hx rfl (hb hby d3_9) ?_
      show Steps p.tables e below (T1.setTop (mkF m 10 #[.val (.ref a), .unset] [(.int (1 : Int32))])) _
      refine XS.goto X1.here hx rfl (pc0 := 10) (pc' := 14) rfl (hb hby d3_10) (by decide) (by decide) ?_
      show Steps p.tables e below (T1.setTop (mkF m 14 #[.val (.ref a), .unset] [(.int (1 : Int32))])) _
      exact k
    · rw [if_neg hc3] at qv2
      replace qv2 := Eq.symm qv2
      subst qv2
      refine XS.ifYes X1.here hx rfl (pc0 := 6) (pc' := 13) rfl (hb hby d3_6) rfl ((if0 _ _).trans (flt (mt (lw_gt _ _).mp hc3)).2.2.2) (by decide) (by decide) ?_
      show Steps p.tables e below (T1.setTop (mkF m 13 #[.val (.ref a), .unset] [])) _
      refine XS.iconst X1.here hx rfl (hb hby d3_13) ?_
      show Steps p.tables e below (T1.setTop (mkF m 14 #[.val (.ref a), .unset] [(.int (0 : Int32))])) _
      exact k
  show own_Go p.tables e below _ (T1.setTop (mkF m 14 #[.val (.ref a), .unset] [(.int v2)]))
  refine own_st (S' := T1.setTop (mkF m 15 #[.val (.ref a), .val (.int v2)] [])) (fun t k => XS.istoreN X1.here hx rfl (hb hby d3_14) rfl (l' := #[.val (.ref a), .val (.int v2)]) rfl k) ?_
  refine own_st (S' := T1.setTop (mkF m 16 #[.val (.ref a), .val (.int v2)] [(.int v2)])) (fun t k => XS.iloadN X1.here hx rfl (hb hby d3_15) rfl k) ?_
  by_cases hc4 : (0 : Int64) < w
  · refine own_st (S' := T1.setTop (mkF m 19 #[.val (.ref a), .val (.int v2)] [])) (fun t k => XS.ifNo X1.here hx rfl (hb hby d3_16) rfl ((if0 _ _).trans (feq ((by rw [qv2, if_pos hc4] <;> decide) : ¬ (v2 = (0 : Int32)))).1) k) ?_
    show own_Go p.tables e below _ (T1.setTop (mkF m 19 #[.val (.ref a), .val (.int v2)] []))
    refine own_st (S' := T1.setTop (mkF m 20 #[.val (.ref a), .val (.int v2)] [(.ref a)])) (fun t k => XS.aloadN X1.here hx rfl (hb hby d3_19) rfl rfl k) ?_
    refine own_st (S' := T1.setTop (mkF m 21 #[.val (.ref a), .val (.int v2)] [(.ref a), (.ref a)])) (fun t k => XS.dup X1.here hx rfl (hb hby d3_20) rfl rfl k) ?_
    obtain ⟨T5, X5, e5, st5⟩ := getF X1 hx hZ hown (host := "") (Or.inl (hw _ (List.mem_of_getElem? (i := 10) rfl))) Via.refl e1 F_a_left (g := (mkF m 21 #[.val (.ref a), .val (.int v2)] [(.ref a), (.ref a)])) rfl rfl (hb hby d3_21)
    refine own_st st5 ?_
    show own_Go p.tables e below _ (T5.setTop (mkF m 24 #[.val (.ref a), .val (.int v2)] [(.long w), (.ref a)]))
    refine own_st (S' := T5.setTop (mkF m 25 #[.val (.ref a), .val (.int v2)] [(.long (1 : Int64)), (.long w), (.ref a)])) (fun t k => XS.lconst X5.here hx rfl (hb hby d3_24) k) ?_
    refine own_st (S' := T5.setTop (mkF m 26 #[.val (.ref a), .val (.int v2)] [(.long (w - (1 : Int64))), (.ref a)])) (fun t k => XS.lsub X5.here hx rfl (hb hby d3_25) rfl k) ?_
    obtain ⟨T6, h6, X6, e6, W6, st6⟩ := putF X5 hx hZ hown (host := "") (Or.inl (hw _ (List.mem_of_getElem? (i := 10) rfl))) Via.refl e5 F_a_left E_a (Or.inl (hw _ (List.mem_of_getElem? (i := 11) rfl))) (hw _ (List.mem_of_getElem? (i := 2) rfl)) (ty := .long) (by decide) rfl rfl (g := (mkF m 26 #[.val (.ref a), .val (.int v2)] [(.long (w - (1 : Int64))), (.ref a)])) rfl rfl (hb hby d3_26)
    refine own_st st6 ?_
    have f7 : Exa Z h6 a "com/example/deliberation/deliberation/agent/Budget" := E_a.wr W6
    have Z6 : n0 ≤ h6.size := Nat.le_trans Z0 (Keep.of_wr W6).1
    have N6 := Fr.snoc X6 N0 G_a
    have K6 : Keep h0 h6 [a] := K0.wr W6 (Or.inl (List.mem_of_getElem? (i := 0) rfl))
    have f8 : Fld Z h6 a "com/example/deliberation/deliberation/agent/Budget" "left" "J" (.long (w - (1 : Int64))) := F_a_left.same W6
    show own_Go p.tables e below _ (T6.setTop (mkF m 29 #[.val (.ref a), .val (.int v2)] []))
    refine own_st (S' := T6.setTop (mkF m 30 #[.val (.ref a), .val (.int v2)] [(.int v2)])) (fun t k => XS.iloadN X6.here hx rfl (hb hby d3_29) rfl k) ?_
    refine own_retN X6 hx (t := .boolean) hret (by simp) hlk (hb hby d3_30) ?_ (by decide) (by decide)
    rw [e6]
    refine ⟨(by rw [qv2, own_narb]), N6, K6, f7, ?_⟩
    unfold own_d
    rw [if_pos hc4]
    exact f8
  · refine own_st (S' := T1.setTop (mkF m 29 #[.val (.ref a), .val (.int v2)] [])) (fun t k => XS.ifYes X1.here hx rfl (pc0 := 16) (pc' := 29) rfl (hb hby d3_16) rfl ((if0 _ _).trans (teq ((by rw [qv2, if_neg hc4] <;> decide) : v2 = (0 : Int32))).1) (by decide) (by decide) k) ?_
    show own_Go p.tables e below _ (T1.setTop (mkF m 29 #[.val (.ref a), .val (.int v2)] []))
    refine own_st (S' := T1.setTop (mkF m 30 #[.val (.ref a), .val (.int v2)] [(.int v2)])) (fun t k => XS.iloadN X1.here hx rfl (hb hby d3_29) rfl k) ?_
    refine own_retN X1 hx (t := .boolean) hret (by simp) hlk (hb hby d3_30) ?_ (by decide) (by decide)
    rw [e1]
    refine ⟨(by rw [qv2, own_narb]), N0, K0, E_a, ?_⟩
    unfold own_d
    rw [if_neg hc4]
    exact F_a_left
theorem pd0_0 : parseMethodDescriptor "(J)V" = some ⟨[.long], none⟩ := by decide +kernel
theorem pd0_1 : parseMethodDescriptor "()Z" = some ⟨[], some .boolean⟩ := by decide +kernel
theorem pn0 : plainName "com/example/deliberation/deliberation/agent/BudgetTakePinLaw" = true := by first | (simp [plainName, overriddenIn]; done) | decide +kernel
theorem ef0 (m : MethodId) (p0 : Int64) (p1 : Int32) : entryFrame m #[(.long p0), (.int p1)] maxLocals = mkF m 0 #[.val (.long p0), .second, .val (.int p1), .unset, .unset, .unset, .unset, .unset, .unset, .unset] [] := by first | (simp [entryFrame, mkF, argsToLocals, Value.category, maxLocals]; done) | rfl
def Q0 (n0 : Nat) (v : Option Value) (h : Heap) (L : List Loc) : Prop := v = some (.int 1) ∧ Fr n0 L
set_option maxRecDepth 65536 in
set_option maxHeartbeats 40000000 in
theorem rm0 (l : Launch) (Z : State) (a0 : Array Value) (hw : ∀ d ∈ tables_1, d.before a0 Z = true) (ws : List Jvm.Cond) (p0 : Int64) (p1 : Int32) (h0 : Heap) (n0 : Nat) (Z0 : n0 ≤ h0.size)  :
    MetFree l x (head1 (Jvm.Cond.code x code maxLocals ret :: ws) room_1) (fun as' U => as' = #[(.long p0), (.int p1)] ∧ Z.Warmed39 U.vm ∧ U.heap = h0) (fun _ _ _ _ _ => True) (fun _ U o U' => ∃ v L, o = .returned v ∧ Q0 n0 v U'.heap L ∧ FrameEnd U o U' L room_1.cells room_1.slots) := by
  refine own_body (plainFor_of_name pn0) ?_
  intro p e s m below meth c s₁ hx hby hml hown0 hnm hret hlk hZ X0 e0
  have hown : s.vm.findClass "com/example/deliberation/deliberation/agent/BudgetTakePinLaw" = some m.cls := hown0
  have N0 := Fr.nil n0
  rw [ef0]
  show own_Go p.tables e below _ (s₁.setTop (mkF m 0 #[.val (.long p0), .second, .val (.int p1), .unset, .unset, .unset, .unset, .unset, .unset, .unset] []))
  refine own_st (S' := s₁.setTop (mkF m 1 #[.val (.long p0), .second, .val (.int p1), .unset, .unset, .unset, .unset, .unset, .unset, .unset] [(.int p1)])) (fun t k => XS.iloadN X0.here hx rfl (hb hby at_0) rfl k) ?_
  refine own_st (S' := s₁.setTop (mkF m 2 #[.val (.long p0), .second, .val (.int p1), .unset, .unset, .unset, .unset, .unset, .unset, .unset] [(.int (1 : Int32)), (.int p1)])) (fun t k => XS.iconst X0.here hx rfl (hb hby at_1) k) ?_
  refine own_st (S' := s₁.setTop (mkF m 3 #[.val (.long p0), .second, .val (.int p1), .unset, .unset, .unset, .unset, .unset, .unset, .unset] [(.int (p1 &&& (1 : Int32)))])) (fun t k => XS.iand X0.here hx rfl (hb hby at_2) rfl k) ?_
  obtain ⟨v1, qv1⟩ : ∃ z : Int64, z = (if (p1 &&& (1 : Int32)) = (0 : Int32) then (p0 &&& (9223372036854775807 : Int64)) else (p0 &&& (3 : Int64))) := ⟨_, rfl⟩
  refine own_st (S' := s₁.setTop (mkF m 19 #[.val (.long p0), .second, .val (.int p1), .unset, .unset, .unset, .unset, .unset, .unset, .unset] [(.long v1)])) (fun t k => ?_) ?_
  · show Steps p.tables e below (s₁.setTop (mkF m 3 #[.val (.long p0), .second, .val (.int p1), .unset, .unset, .unset, .unset, .unset, .unset, .unset] [(.int (p1 &&& (1 : Int32)))])) _
    by_cases hc2 : (p1 &&& (1 : Int32)) = (0 : Int32)
    · rw [if_pos hc2] at qv1
      replace qv1 := Eq.symm qv1
      subst qv1
      refine XS.ifYes X0.here hx rfl (pc0 := 3) (pc' := 14) rfl (hb hby at_3) rfl ((if0 _ _).trans (teq hc2).1) (by decide) (by decide) ?_
      show Steps p.tables e below (s₁.setTop (mkF m 14 #[.val (.long p0), .second, .val (.int p1), .unset, .unset, .unset, .unset, .unset, .unset, .unset] [])) _
      refine XS.lloadN X0.here hx rfl (hb hby at_14) rfl ?_
      show Steps p.tables e below (s₁.setTop (mkF m 15 #[.val (.long p0), .second, .val (.int p1), .unset, .unset, .unset, .unset, .unset, .unset, .unset] [(.long p0)])) _
      refine X0.ldc2Long hx hown (mvT hZ (hw _ (List.mem_of_getElem? (i := 0) rfl))) (g := (mkF m 15 #[.val (.long p0), .second, .val (.int p1), .unset, .unset, .unset, .unset, .unset, .unset, .unset] [(.long p0)])) rfl (hb hby at_15) _ ?_
      show Steps p.tables e below (s₁.setTop (mkF m 18 #[.val (.long p0), .second, .val (.int p1), .unset, .unset, .unset, .unset, .unset, .unset, .unset] [(.long (9223372036854775807 : Int64)), (.long p0)])) _
      refine XS.land X0.here hx rfl (hb hby at_18) rfl ?_
      show Steps p.tables e below (s₁.setTop (mkF m 19 #[.val (.long p0), .second, .val (.int p1), .unset, .unset, .unset, .unset, .unset, .unset, .unset] [(.long (p0 &&& (9223372036854775807 : Int64)))])) _
      exact k
    · rw [if_neg hc2] at qv1
      replace qv1 := Eq.symm qv1
      subst qv1
      refine XS.ifNo X0.here hx rfl (hb hby at_3) rfl ((if0 _ _).trans (feq hc2).1) ?_
      show Steps p.tables e below (s₁.setTop (mkF m 6 #[.val (.long p0), .second, .val (.int p1), .unset, .unset, .unset, .unset, .unset, .unset, .unset] [])) _
      refine XS.lloadN X0.here hx rfl (hb hby at_6) rfl ?_
      show Steps p.tables e below (s₁.setTop (mkF m 7 #[.val (.long p0), .second, .val (.int p1), .unset, .unset, .unset, .unset, .unset, .unset, .unset] [(.long p0)])) _
      refine X0.ldc2Long hx hown (mvT hZ (hw _ (List.mem_of_getElem? (i := 23) rfl))) (g := (mkF m 7 #[.val (.long p0), .second, .val (.int p1), .unset, .unset, .unset, .unset, .unset, .unset, .unset] [(.long p0)])) rfl (hb hby at_7) _ ?_
      show Steps p.tables e below (s₁.setTop (mkF m 10 #[.val (.long p0), .second, .val (.int p1), .unset, .unset, .unset, .unset, .unset, .unset, .unset] [(.long (3 : Int64)), (.long p0)])) _
      refine XS.land X0.here hx rfl (hb hby at_10) rfl ?_
      show Steps p.tables e below (s₁.setTop (mkF m 11 #[.val (.long p0), .second, .val (.int p1), .unset, .unset, .unset, .unset, .unset, .unset, .unset] [(.long (p0 &&& (3 : Int64)))])) _
      refine XS.goto X0.here hx rfl (pc0 := 11) (pc' := 19) rfl (hb hby at_11) (by decide) (by decide) ?_
      show Steps p.tables e below (s₁.setTop (mkF m 19 #[.val (.long p0), .second, .val (.int p1), .unset, .unset, .unset, .unset, .unset, .unset, .unset] [(.long (p0 &&& (3 : Int64)))])) _
      exact k
  show own_Go p.tables e below _ (s₁.setTop (mkF m 19 #[.val (.long p0), .second, .val (.int p1), .unset, .unset, .unset, .unset, .unset, .unset, .unset] [(.long v1)]))
  refine own_st (S' := s₁.setTop (mkF m 20 #[.val (.long p0), .second, .val (.int p1), .val (.long v1), .second, .unset, .unset, .unset, .unset, .unset] [])) (fun t k => XS.lstoreN X0.here hx rfl (hb hby at_19) rfl (l' := #[.val (.long p0), .second, .val (.int p1), .val (.long v1), .second, .unset, .unset, .unset, .unset, .unset]) rfl k) ?_
  obtain ⟨T3, h3, X3, e3, E3, A3, D3, -, st3⟩ := newO X0 hx hZ hown (hw _ (List.mem_of_getElem? (i := 1) rfl)) (hw _ (List.mem_of_getElem? (i := 2) rfl)) (hw _ (List.mem_of_getElem? (i := 3) rfl)) e0 (g := (mkF m 20 #[.val (.long p0), .second, .val (.int p1), .val (.long v1), .second, .unset, .unset, .unset, .unset, .unset] [])) rfl (hb hby at_20) (by decide) (by decide)
  obtain ⟨b3, g3⟩ : ∃ z, z = h0.size := ⟨_, rfl⟩
  rw [← g3] at A3 D3 st3
  have G_b3 : n0 ≤ b3 := Nat.le_trans Z0 (Nat.le_of_eq g3.symm)
  have Z3 : n0 ≤ h3.size := Nat.le_trans Z0 E3.1
  have f4 : Fld Z h3 b3 "com/example/deliberation/deliberation/agent/Budget" "left" "J" (.long (0 : Int64)) := D3 (Or.inl (hw _ (List.mem_of_getElem? (i := 11) rfl))) (ty := .long) (by decide)
  refine own_st st3 ?_
  show own_Go p.tables e below _ (T3.setTop (mkF m 23 #[.val (.long p0), .second, .val (.int p1), .val (.long v1), .second, .unset, .unset, .unset, .unset, .unset] [(.ref b3)]))
  refine own_st (S' := T3.setTop (mkF m 24 #[.val (.long p0), .second, .val (.int p1), .val (.long v1), .second, .unset, .unset, .unset, .unset, .unset] [(.ref b3), (.ref b3)])) (fun t k => XS.dup X3.here hx rfl (hb hby at_23) rfl rfl k) ?_
  refine own_st (S' := T3.setTop (mkF m 25 #[.val (.long p0), .second, .val (.int p1), .val (.long v1), .second, .unset, .unset, .unset, .unset, .unset] [(.long v1), (.ref b3), (.ref b3)])) (fun t k => XS.lloadN X3.here hx rfl (hb hby at_24) rfl k) ?_
  obtain ⟨_, _, ⟨T5, L5, k5, n5⟩, -, X5, ⟨Lc5, hQ5, l5, y5, z5⟩, st5⟩ := X3.specialBack hx (y := (⟨"com/example/deliberation/deliberation/agent/Budget", "<init>", "(J)V"⟩ : MethodName)) rfl hown (mvT hZ (hw _ (List.mem_of_getElem? (i := 4) rfl))) (mvT hZ (hw _ (List.mem_of_getElem? (i := 5) rfl))) (mvT hZ (hw _ (List.mem_of_getElem? (i := 6) rfl))) (by decide) (backOf (W := 1) (rm1 l Z a0 hw [] b3 v1 (0 : Int64) h3 n0 Z3 A3 f4 G_b3) hZ (hw _ (List.mem_of_getElem? (i := 6) rfl)) (hw _ (List.mem_of_getElem? (i := 3) rfl)) (by decide) (by decide)) (g := (mkF m 25 #[.val (.long p0), .second, .val (.int p1), .val (.long v1), .second, .unset, .unset, .unset, .unset, .unset] [(.long v1), (.ref b3), (.ref b3)])) rfl (by rw [hml]; rfl) (Steps.refl _) (a := b3) (argsL := [(.long v1)]) (rest := [(.ref b3)]) (lenOf pd0_0 rfl) rfl (by show 2 * 0 + _ ≤ _; exact Nat.le_of_eq rfl) (hb hby at_25) (fun _ _ => ⟨rfl, e3, (by decide : 1 + 0 ≤ _), (by decide : 1 + 0 ≤ _)⟩)
  dsimp only [Pt.U, Pt.locs, Pt.cells, Pt.slots] at X5 l5 y5 z5 st5 hQ5
  subst l5 y5 z5
  obtain ⟨rfl, N5q, Kq5, g0_5, g1_5⟩ := hQ5
  have f6 : Exa Z T5.heap b3 "com/example/deliberation/deliberation/agent/Budget" := A3.keep Kq5
  have Z5 : n0 ≤ T5.heap.size := Nat.le_trans Z3 Kq5.1
  have N5 := Fr.app N0 N5q
  refine own_tr st5 ?_
  show own_Go p.tables e below _ (T5.setTop (mkF m 28 #[.val (.long p0), .second, .val (.int p1), .val (.long v1), .second, .unset, .unset, .unset, .unset, .unset] [(.ref b3)]))
  refine own_st (S' := T5.setTop (mkF m 30 #[.val (.long p0), .second, .val (.int p1), .val (.long v1), .second, .val (.ref b3), .unset, .unset, .unset, .unset] [])) (fun t k => XS.astore X5.here hx rfl (hb hby at_28) rfl rfl (l' := #[.val (.long p0), .second, .val (.int p1), .val (.long v1), .second, .val (.ref b3), .unset, .unset, .unset, .unset]) rfl k) ?_
  refine own_st (S' := T5.setTop (mkF m 32 #[.val (.long p0), .second, .val (.int p1), .val (.long v1), .second, .val (.ref b3), .unset, .unset, .unset, .unset] [(.ref b3)])) (fun t k => XS.aload X5.here hx rfl (hb hby at_30) rfl rfl k) ?_
  obtain ⟨cq7, kq7, q7a, q7b, q7c⟩ := isOf hZ rfl g0_5
  obtain ⟨_, _, ⟨T7, L7, k7, n7⟩, -, X7, ⟨Lc7, hQ7, l7, y7, z7⟩, st7⟩ := X5.virtualBack hx (y := (⟨"com/example/deliberation/deliberation/agent/Budget", "isSpent", "()Z"⟩ : MethodName)) (z := (⟨"com/example/deliberation/deliberation/agent/Budget", "isSpent", "()Z"⟩ : MethodName)) hown (mvT hZ (hw _ (List.mem_of_getElem? (i := 12) rfl))) (mvT hZ (hw _ (List.mem_of_getElem? (i := 13) rfl))) (notFace_of_selects (args := #[]) (mvT hZ (hw _ (List.mem_of_getElem? (i := 15) rfl)))) (mvT hZ (hw _ (List.mem_of_getElem? (i := 15) rfl))) (mvT hZ (hw _ (List.mem_of_getElem? (i := 14) rfl))) (by decide) (backOf (W := 0) (rm2 l Z a0 hw [] b3 v1 T5.heap n0 Z5 g1_5) hZ (hw _ (List.mem_of_getElem? (i := 16) rfl)) (hw _ (List.mem_of_getElem? (i := 3) rfl)) (by decide) (by decide)) q7a q7c (g := (mkF m 32 #[.val (.long p0), .second, .val (.int p1), .val (.long v1), .second, .val (.ref b3), .unset, .unset, .unset, .unset] [(.ref b3)])) rfl (by rw [hml]; rfl) (Steps.refl _) (argsL := []) (rest := []) (lenOf pd0_1 rfl) rfl (by show 2 * 0 + _ ≤ _; exact Nat.le_of_eq rfl) (hb hby at_32) (fun _ _ => ⟨rfl, rfl, (by decide : 1 + 0 ≤ _), (by decide : 1 + 0 ≤ _)⟩)
  dsimp only [Pt.U, Pt.locs, Pt.cells, Pt.slots] at X7 l7 y7 z7 st7 hQ7
  subst l7 y7 z7
  obtain ⟨rfl, N7q, hh7⟩ := hQ7
  have N7 := Fr.app N5 N7q
  refine own_tr st7 ?_
  show own_Go p.tables e below _ (T7.setTop (mkF m 35 #[.val (.long p0), .second, .val (.int p1), .val (.long v1), .second, .val (.ref b3), .unset, .unset, .unset, .unset] [(.int (if v1 = (0 : Int64) then (1 : Int32) else (0 : Int32)))]))
  obtain ⟨v8, qv8⟩ : ∃ z : Int32, z = (if v1 = (0 : Int64) then (1 : Int32) else (0 : Int32)) := ⟨_, rfl⟩
  rw [← qv8]
  refine own_st (S' := T7.setTop (mkF m 36 #[.val (.long p0), .second, .val (.int p1), .val (.long v1), .second, .val (.ref b3), .unset, .unset, .unset, .unset] [(.long v1), (.int v8)])) (fun t k => XS.lloadN X7.here hx rfl (hb hby at_35) rfl k) ?_
  refine own_st (S' := T7.setTop (mkF m 37 #[.val (.long p0), .second, .val (.int p1), .val (.long v1), .second, .val (.ref b3), .unset, .unset, .unset, .unset] [(.long (0 : Int64)), (.long v1), (.int v8)])) (fun t k => XS.lconst X7.here hx rfl (hb hby at_36) k) ?_
  refine own_st (S' := T7.setTop (mkF m 38 #[.val (.long p0), .second, .val (.int p1), .val (.long v1), .second, .val (.ref b3), .unset, .unset, .unset, .unset] [(.int (lcmpW v1 (0 : Int64))), (.int v8)])) (fun t k => XS.lcmp X7.here hx rfl (hb hby at_37) rfl k) ?_
  obtain ⟨v9, qv9⟩ : ∃ z : Int32, z = (if v1 = (0 : Int64) then (1 : Int32) else (0 : Int32)) := ⟨_, rfl⟩
  refine own_st (S' := T7.setTop (mkF m 46 #[.val (.long p0), .second, .val (.int p1), .val (.long v1), .second, .val (.ref b3), .unset, .unset, .unset, .unset] [(.int v9), (.int v8)])) (fun t k => ?_) ?_
  · show Steps p.tables e below (T7.setTop (mkF m 38 #[.val (.long p0), .second, .val (.int p1), .val (.long v1), .second, .val (.ref b3), .unset, .unset, .unset, .unset] [(.int (lcmpW v1 (0 : Int64))), (.int v8)])) _
    by_cases hc10 : v1 = (0 : Int64)
    · rw [if_pos hc10] at qv9
      replace qv9 := Eq.symm qv9
      subst qv9
      refine XS.ifNo X7.here hx rfl (hb hby at_38) rfl ((if0 _ _).trans (teq ((lw_eq _ _).mpr hc10)).2) ?_
      show Steps p.tables e below (T7.setTop (mkF m 41 #[.val (.long p0), .second, .val (.int p1), .val (.long v1), .second, .val (.ref b3), .unset, .unset, .unset, .unset] [(.int v8)])) _
      refine XS.iconst X7.here hx rfl (hb hby at_41) ?_
      show Steps p.tables e below (T7.setTop (mkF m 42 #[.val (.long p0), .second, .val (.int p1), .val (.long v1), .second, .val (.ref b3), .unset, .unset, .unset, .unset] [(.int (1 : Int32)), (.int v8)])) _
      refine XS.goto X7.here hx rfl (pc0 := 42) (pc' := 46) rfl (hb hby at_42) (by decide) (by decide) ?_
      show Steps p.tables e below (T7.setTop (mkF m 46 #[.val (.long p0), .second, .val (.int p1), .val (.long v1), .second, .val (.ref b3), .unset, .unset, .unset, .unset] [(.int (1 : Int32)), (.int v8)])) _
      exact k
    · rw [if_neg hc10] at qv9
      replace qv9 := Eq.symm qv9
      subst qv9
      refine XS.ifYes X7.here hx rfl (pc0 := 38) (pc' := 45) rfl (hb hby at_38) rfl ((if0 _ _).trans (feq (mt (lw_eq _ _).mp hc10)).2) (by decide) (by decide) ?_
      show Steps p.tables e below (T7.setTop (mkF m 45 #[.val (.long p0), .second, .val (.int p1), .val (.long v1), .second, .val (.ref b3), .unset, .unset, .unset, .unset] [(.int v8)])) _
      refine XS.iconst X7.here hx rfl (hb hby at_45) ?_
      show Steps p.tables e below (T7.setTop (mkF m 46 #[.val (.long p0), .second, .val (.int p1), .val (.long v1), .second, .val (.ref b3), .unset, .unset, .unset, .unset] [(.int (0 : Int32)), (.int v8)])) _
      exact k
  show own_Go p.tables e below _ (T7.setTop (mkF m 46 #[.val (.long p0), .second, .val (.int p1), .val (.long v1), .second, .val (.ref b3), .unset, .unset, .unset, .unset] [(.int v9), (.int v8)]))
  have hc11 : v8 = v9 := by rw [qv8, qv9]
  refine own_st (S' := T7.setTop (mkF m 49 #[.val (.long p0), .second, .val (.int p1), .val (.long v1), .second, .val (.ref b3), .unset, .unset, .unset, .unset] [])) (fun t k => XS.icmpNo X7.here hx rfl (hb hby at_46) rfl (teq hc11).2 k) ?_
  show own_Go p.tables e below _ (T7.setTop (mkF m 49 #[.val (.long p0), .second, .val (.int p1), .val (.long v1), .second, .val (.ref b3), .unset, .unset, .unset, .unset] []))
  refine own_st (S' := T7.setTop (mkF m 50 #[.val (.long p0), .second, .val (.int p1), .val (.long v1), .second, .val (.ref b3), .unset, .unset, .unset, .unset] [(.int (1 : Int32))])) (fun t k => XS.iconst X7.here hx rfl (hb hby at_49) k) ?_
  refine own_st (S' := T7.setTop (mkF m 54 #[.val (.long p0), .second, .val (.int p1), .val (.long v1), .second, .val (.ref b3), .unset, .unset, .unset, .unset] [(.int (1 : Int32))])) (fun t k => XS.goto X7.here hx rfl (pc0 := 50) (pc' := 54) rfl (hb hby at_50) (by decide) (by decide) k) ?_
  refine own_st (S' := T7.setTop (mkF m 56 #[.val (.long p0), .second, .val (.int p1), .val (.long v1), .second, .val (.ref b3), .val (.int (1 : Int32)), .unset, .unset, .unset] [])) (fun t k => XS.istore X7.here hx rfl (hb hby at_54) rfl (l' := #[.val (.long p0), .second, .val (.int p1), .val (.long v1), .second, .val (.ref b3), .val (.int (1 : Int32)), .unset, .unset, .unset]) rfl k) ?_
  refine own_st (S' := T7.setTop (mkF m 58 #[.val (.long p0), .second, .val (.int p1), .val (.long v1), .second, .val (.ref b3), .val (.int (1 : Int32)), .unset, .unset, .unset] [(.ref b3)])) (fun t k => XS.aload X7.here hx rfl (hb hby at_56) rfl rfl k) ?_
  obtain ⟨cq12, kq12, q12a, q12b, q12c⟩ := isOf hZ hh7 g0_5
  obtain ⟨_, _, ⟨T12, L12, k12, n12⟩, -, X12, ⟨Lc12, hQ12, l12, y12, z12⟩, st12⟩ := X7.virtualBack hx (y := (⟨"com/example/deliberation/deliberation/agent/Budget", "take", "()Z"⟩ : MethodName)) (z := (⟨"com/example/deliberation/deliberation/agent/Budget", "take", "()Z"⟩ : MethodName)) hown (mvT hZ (hw _ (List.mem_of_getElem? (i := 17) rfl))) (mvT hZ (hw _ (List.mem_of_getElem? (i := 18) rfl))) (notFace_of_selects (args := #[]) (mvT hZ (hw _ (List.mem_of_getElem? (i := 20) rfl)))) (mvT hZ (hw _ (List.mem_of_getElem? (i := 20) rfl))) (mvT hZ (hw _ (List.mem_of_getElem? (i := 19) rfl))) (by decide) (backOf (W := 0) (rm3 l Z a0 hw [] b3 v1 T5.heap n0 Z5 g0_5 g1_5 G_b3) hZ (hw _ (List.mem_of_getElem? (i := 21) rfl)) (hw _ (List.mem_of_getElem? (i := 3) rfl)) (by decide) (by decide)) q12a q12c (g := (mkF m 58 #[.val (.long p0), .second, .val (.int p1), .val (.long v1), .second, .val (.ref b3), .val (.int (1 : Int32)), .unset, .unset, .unset] [(.ref b3)])) rfl (by rw [hml]; rfl) (Steps.refl _) (argsL := []) (rest := []) (lenOf pd0_1 rfl) rfl (by show 2 * 0 + _ ≤ _; exact Nat.le_of_eq rfl) (hb hby at_58) (fun _ _ => ⟨rfl, hh7, (by decide : 1 + 0 ≤ _), (by decide : 1 + 0 ≤ _)⟩)
  dsimp only [Pt.U, Pt.locs, Pt.cells, Pt.slots] at X12 l12 y12 z12 st12 hQ12
  subst l12 y12 z12
  obtain ⟨rfl, N12q, Kq12, g0_12, g1_12⟩ := hQ12
  have f13 : Exa Z T12.heap b3 "com/example/deliberation/deliberation/agent/Budget" := g0_5.keep Kq12
  have Z12 : n0 ≤ T12.heap.size := Nat.le_trans Z5 Kq12.1
  have N12 := Fr.app N7 N12q
  refine own_tr st12 ?_
  show own_Go p.tables e below _ (T12.setTop (mkF m 61 #[.val (.long p0), .second, .val (.int p1), .val (.long v1), .second, .val (.ref b3), .val (.int (1 : Int32)), .unset, .unset, .unset] [(.int (if (0 : Int64) < v1 then (1 : Int32) else (0 : Int32)))]))
  obtain ⟨v14, qv14⟩ : ∃ z : Int32, z = (if (0 : Int64) < v1 then (1 : Int32) else (0 : Int32)) := ⟨_, rfl⟩
  rw [← qv14]
  refine own_st (S' := T12.setTop (mkF m 63 #[.val (.long p0), .second, .val (.int p1), .val (.long v1), .second, .val (.ref b3), .val (.int (1 : Int32)), .val (.int v14), .unset, .unset] [])) (fun t k => XS.istore X12.here hx rfl (hb hby at_61) rfl (l' := #[.val (.long p0), .second, .val (.int p1), .val (.long v1), .second, .val (.ref b3), .val (.int (1 : Int32)), .val (.int v14), .unset, .unset]) rfl k) ?_
  refine own_st (S' := T12.setTop (mkF m 65 #[.val (.long p0), .second, .val (.int p1), .val (.long v1), .second, .val (.ref b3), .val (.int (1 : Int32)), .val (.int v14), .unset, .unset] [(.int (1 : Int32))])) (fun t k => XS.iload X12.here hx rfl (hb hby at_63) rfl k) ?_
  refine own_st (S' := T12.setTop (mkF m 68 #[.val (.long p0), .second, .val (.int p1), .val (.long v1), .second, .val (.ref b3), .val (.int (1 : Int32)), .val (.int v14), .unset, .unset] [])) (fun t k => XS.ifNo X12.here hx rfl (hb hby at_65) rfl ((if0 _ _).trans (feq (by decide)).1) k) ?_
  show own_Go p.tables e below _ (T12.setTop (mkF m 68 #[.val (.long p0), .second, .val (.int p1), .val (.long v1), .second, .val (.ref b3), .val (.int (1 : Int32)), .val (.int v14), .unset, .unset] []))
  refine own_st (S' := T12.setTop (mkF m 70 #[.val (.long p0), .second, .val (.int p1), .val (.long v1), .second, .val (.ref b3), .val (.int (1 : Int32)), .val (.int v14), .unset, .unset] [(.int v14)])) (fun t k => XS.iload X12.here hx rfl (hb hby at_68) rfl k) ?_
  refine own_st (S' := T12.setTop (mkF m 71 #[.val (.long p0), .second, .val (.int p1), .val (.long v1), .second, .val (.ref b3), .val (.int (1 : Int32)), .val (.int v14), .unset, .unset] [(.long v1), (.int v14)])) (fun t k => XS.lloadN X12.here hx rfl (hb hby at_70) rfl k) ?_
  refine own_st (S' := T12.setTop (mkF m 72 #[.val (.long p0), .second, .val (.int p1), .val (.long v1), .second, .val (.ref b3), .val (.int (1 : Int32)), .val (.int v14), .unset, .unset] [(.long (1 : Int64)), (.long v1), (.int v14)])) (fun t k => XS.lconst X12.here hx rfl (hb hby at_71) k) ?_
  refine own_st (S' := T12.setTop (mkF m 73 #[.val (.long p0), .second, .val (.int p1), .val (.long v1), .second, .val (.ref b3), .val (.int (1 : Int32)), .val (.int v14), .unset, .unset] [(.int (lcmpW v1 (1 : Int64))), (.int v14)])) (fun t k => XS.lcmp X12.here hx rfl (hb hby at_72) rfl k) ?_
  obtain ⟨v15, qv15⟩ : ∃ z : Int32, z = (if v1 < (1 : Int64) then (0 : Int32) else (1 : Int32)) := ⟨_, rfl⟩
  refine own_st (S' := T12.setTop (mkF m 81 #[.val (.long p0), .second, .val (.int p1), .val (.long v1), .second, .val (.ref b3), .val (.int (1 : Int32)), .val (.int v14), .unset, .unset] [(.int v15), (.int v14)])) (fun t k => ?_) ?_
  · show Steps p.tables e below (T12.setTop (mkF m 73 #[.val (.long p0), .second, .val (.int p1), .val (.long v1), .second, .val (.ref b3), .val (.int (1 : Int32)), .val (.int v14), .unset, .unset] [(.int (lcmpW v1 (1 : Int64))), (.int v14)])) _
    by_cases hc16 : v1 < (1 : Int64)
    · rw [if_pos hc16] at qv15
      replace qv15 := Eq.symm qv15
      subst qv15
      refine XS.ifYes X12.here hx rfl (pc0 := 73) (pc' := 80) rfl (hb hby at_73) rfl ((if0 _ _).trans (tlt ((lw_lt _ _).mpr hc16)).1) (by decide) (by decide) ?_
      show Steps p.tables e below (T12.setTop (mkF m 80 #[.val (.long p0), .second, .val (.int p1), .val (.long v1), .second, .val (.ref b3), .val (.int (1 : Int32)), .val (.int v14), .unset, .unset] [(.int v14)])) _
      refine XS.iconst X12.here hx rfl (hb hby at_80) ?_
      show Steps p.tables e below (T12.setTop (mkF m 81 #[.val (.long p0), .second, .val (.int p1), .val (.long v1), .second, .val (.ref b3), .val (.int (1 : Int32)), .val (.int v14), .unset, .unset] [(.int (0 : Int32)), (.int v14)])) _
      exact k
    · rw [if_neg hc16] at qv15
      replace qv15 := Eq.symm qv15
      subst qv15
      refine XS.ifNo X12.here hx rfl (hb hby at_73) rfl ((if0 _ _).trans (flt (mt (lw_lt _ _).mp hc16)).1) ?_
      show Steps p.tables e below (T12.setTop (mkF m 76 #[.val (.long p0), .second, .val (.int p1), .val (.long v1), .second, .val (.ref b3), .val (.int (1 : Int32)), .val (.int v14), .unset, .unset] [(.int v14)])) _
      refine XS.iconst X12.here hx rfl (hb hby at_76) ?_
      show Steps p.tables e below (T12.setTop (mkF m 77 #[.val (.long p0), .second, .val (.int p1), .val (.long v1), .second, .val (.ref b3), .val (.int (1 : Int32)), .val (.int v14), .unset, .unset] [(.int (1 : Int32)), (.int v14)])) _
      refine XS.goto X12.here hx rfl (pc0 := 77) (pc' := 81) rfl (hb hby at_77) (by decide) (by decide) ?_
      show Steps p.tables e below (T12.setTop (mkF m 81 #[.val (.long p0), .second, .val (.int p1), .val (.long v1), .second, .val (.ref b3), .val (.int (1 : Int32)), .val (.int v14), .unset, .unset] [(.int (1 : Int32)), (.int v14)])) _
      exact k
  show own_Go p.tables e below _ (T12.setTop (mkF m 81 #[.val (.long p0), .second, .val (.int p1), .val (.long v1), .second, .val (.ref b3), .val (.int (1 : Int32)), .val (.int v14), .unset, .unset] [(.int v15), (.int v14)]))
  have hc17 : v14 = v15 := by rw [qv14, qv15]; exact own_b1 (own_k1 _ (own_t0 qv1))
  refine own_st (S' := T12.setTop (mkF m 84 #[.val (.long p0), .second, .val (.int p1), .val (.long v1), .second, .val (.ref b3), .val (.int (1 : Int32)), .val (.int v14), .unset, .unset] [])) (fun t k => XS.icmpNo X12.here hx rfl (hb hby at_81) rfl (teq hc17).2 k) ?_
  show own_Go p.tables e below _ (T12.setTop (mkF m 84 #[.val (.long p0), .second, .val (.int p1), .val (.long v1), .second, .val (.ref b3), .val (.int (1 : Int32)), .val (.int v14), .unset, .unset] []))
  refine own_st (S' := T12.setTop (mkF m 85 #[.val (.long p0), .second, .val (.int p1), .val (.long v1), .second, .val (.ref b3), .val (.int (1 : Int32)), .val (.int v14), .unset, .unset] [(.int (1 : Int32))])) (fun t k => XS.iconst X12.here hx rfl (hb hby at_84) k) ?_
  refine own_st (S' := T12.setTop (mkF m 89 #[.val (.long p0), .second, .val (.int p1), .val (.long v1), .second, .val (.ref b3), .val (.int (1 : Int32)), .val (.int v14), .unset, .unset] [(.int (1 : Int32))])) (fun t k => XS.goto X12.here hx rfl (pc0 := 85) (pc' := 89) rfl (hb hby at_85) (by decide) (by decide) k) ?_
  refine own_st (S' := T12.setTop (mkF m 91 #[.val (.long p0), .second, .val (.int p1), .val (.long v1), .second, .val (.ref b3), .val (.int (1 : Int32)), .val (.int v14), .unset, .unset] [])) (fun t k => XS.istore X12.here hx rfl (hb hby at_89) rfl (l' := #[.val (.long p0), .second, .val (.int p1), .val (.long v1), .second, .val (.ref b3), .val (.int (1 : Int32)), .val (.int v14), .unset, .unset]) rfl k) ?_
  refine own_st (S' := T12.setTop (mkF m 93 #[.val (.long p0), .second, .val (.int p1), .val (.long v1), .second, .val (.ref b3), .val (.int (1 : Int32)), .val (.int v14), .unset, .unset] [(.int (1 : Int32))])) (fun t k => XS.iload X12.here hx rfl (hb hby at_91) rfl k) ?_
  refine own_st (S' := T12.setTop (mkF m 96 #[.val (.long p0), .second, .val (.int p1), .val (.long v1), .second, .val (.ref b3), .val (.int (1 : Int32)), .val (.int v14), .unset, .unset] [])) (fun t k => XS.ifNo X12.here hx rfl (hb hby at_93) rfl ((if0 _ _).trans (feq (by decide)).1) k) ?_
  show own_Go p.tables e below _ (T12.setTop (mkF m 96 #[.val (.long p0), .second, .val (.int p1), .val (.long v1), .second, .val (.ref b3), .val (.int (1 : Int32)), .val (.int v14), .unset, .unset] []))
  refine own_st (S' := T12.setTop (mkF m 98 #[.val (.long p0), .second, .val (.int p1), .val (.long v1), .second, .val (.ref b3), .val (.int (1 : Int32)), .val (.int v14), .unset, .unset] [(.ref b3)])) (fun t k => XS.aload X12.here hx rfl (hb hby at_96) rfl rfl k) ?_
  obtain ⟨cq18, kq18, q18a, q18b, q18c⟩ := isOf hZ rfl g0_12
  obtain ⟨_, _, ⟨T18, L18, k18, n18⟩, -, X18, ⟨Lc18, hQ18, l18, y18, z18⟩, st18⟩ := X12.virtualBack hx (y := (⟨"com/example/deliberation/deliberation/agent/Budget", "isSpent", "()Z"⟩ : MethodName)) (z := (⟨"com/example/deliberation/deliberation/agent/Budget", "isSpent", "()Z"⟩ : MethodName)) hown (mvT hZ (hw _ (List.mem_of_getElem? (i := 12) rfl))) (mvT hZ (hw _ (List.mem_of_getElem? (i := 13) rfl))) (notFace_of_selects (args := #[]) (mvT hZ (hw _ (List.mem_of_getElem? (i := 15) rfl)))) (mvT hZ (hw _ (List.mem_of_getElem? (i := 15) rfl))) (mvT hZ (hw _ (List.mem_of_getElem? (i := 14) rfl))) (by decide) (backOf (W := 0) (rm2 l Z a0 hw [] b3 (own_d v1) T12.heap n0 Z12 g1_12) hZ (hw _ (List.mem_of_getElem? (i := 16) rfl)) (hw _ (List.mem_of_getElem? (i := 3) rfl)) (by decide) (by decide)) q18a q18c (g := (mkF m 98 #[.val (.long p0), .second, .val (.int p1), .val (.long v1), .second, .val (.ref b3), .val (.int (1 : Int32)), .val (.int v14), .unset, .unset] [(.ref b3)])) rfl (by rw [hml]; rfl) (Steps.refl _) (argsL := []) (rest := []) (lenOf pd0_1 rfl) rfl (by show 2 * 0 + _ ≤ _; exact Nat.le_of_eq rfl) (hb hby at_98) (fun _ _ => ⟨rfl, rfl, (by decide : 1 + 0 ≤ _), (by decide : 1 + 0 ≤ _)⟩)
  dsimp only [Pt.U, Pt.locs, Pt.cells, Pt.slots] at X18 l18 y18 z18 st18 hQ18
  subst l18 y18 z18
  obtain ⟨rfl, N18q, hh18⟩ := hQ18
  have N18 := Fr.app N12 N18q
  refine own_tr st18 ?_
  show own_Go p.tables e below _ (T18.setTop (mkF m 101 #[.val (.long p0), .second, .val (.int p1), .val (.long v1), .second, .val (.ref b3), .val (.int (1 : Int32)), .val (.int v14), .unset, .unset] [(.int (if (own_d v1) = (0 : Int64) then (1 : Int32) else (0 : Int32)))]))
  obtain ⟨v19, qv19⟩ : ∃ z : Int32, z = (if (own_d v1) = (0 : Int64) then (1 : Int32) else (0 : Int32)) := ⟨_, rfl⟩
  rw [← qv19]
  refine own_st (S' := T18.setTop (mkF m 102 #[.val (.long p0), .second, .val (.int p1), .val (.long v1), .second, .val (.ref b3), .val (.int (1 : Int32)), .val (.int v14), .unset, .unset] [(.long v1), (.int v19)])) (fun t k => XS.lloadN X18.here hx rfl (hb hby at_101) rfl k) ?_
  refine own_st (S' := T18.setTop (mkF m 103 #[.val (.long p0), .second, .val (.int p1), .val (.long v1), .second, .val (.ref b3), .val (.int (1 : Int32)), .val (.int v14), .unset, .unset] [(.long (1 : Int64)), (.long v1), (.int v19)])) (fun t k => XS.lconst X18.here hx rfl (hb hby at_102) k) ?_
  refine own_st (S' := T18.setTop (mkF m 104 #[.val (.long p0), .second, .val (.int p1), .val (.long v1), .second, .val (.ref b3), .val (.int (1 : Int32)), .val (.int v14), .unset, .unset] [(.int (lcmpW v1 (1 : Int64))), (.int v19)])) (fun t k => XS.lcmp X18.here hx rfl (hb hby at_103) rfl k) ?_
  obtain ⟨v20, qv20⟩ : ∃ z : Int32, z = (if (1 : Int64) < v1 then (0 : Int32) else (1 : Int32)) := ⟨_, rfl⟩
  refine own_st (S' := T18.setTop (mkF m 112 #[.val (.long p0), .second, .val (.int p1), .val (.long v1), .second, .val (.ref b3), .val (.int (1 : Int32)), .val (.int v14), .unset, .unset] [(.int v20), (.int v19)])) (fun t k => ?_) ?_
  · show Steps p.tables e below (T18.setTop (mkF m 104 #[.val (.long p0), .second, .val (.int p1), .val (.long v1), .second, .val (.ref b3), .val (.int (1 : Int32)), .val (.int v14), .unset, .unset] [(.int (lcmpW v1 (1 : Int64))), (.int v19)])) _
    by_cases hc21 : (1 : Int64) < v1
    · rw [if_pos hc21] at qv20
      replace qv20 := Eq.symm qv20
      subst qv20
      refine XS.ifYes X18.here hx rfl (pc0 := 104) (pc' := 111) rfl (hb hby at_104) rfl ((if0 _ _).trans (tlt ((lw_gt _ _).mpr hc21)).2.2.1) (by decide) (by decide) ?_
      show Steps p.tables e below (T18.setTop (mkF m 111 #[.val (.long p0), .second, .val (.int p1), .val (.long v1), .second, .val (.ref b3), .val (.int (1 : Int32)), .val (.int v14), .unset, .unset] [(.int v19)])) _
      refine XS.iconst X18.here hx rfl (hb hby at_111) ?_
      show Steps p.tables e below (T18.setTop (mkF m 112 #[.val (.long p0), .second, .val (.int p1), .val (.long v1), .second, .val (.ref b3), .val (.int (1 : Int32)), .val (.int v14), .unset, .unset] [(.int (0 : Int32)), (.int v19)])) _
      exact k
    · rw [if_neg hc21] at qv20
      replace qv20 := Eq.symm qv20
      subst qv20
      refine XS.ifNo X18.here hx rfl (hb hby at_104) rfl ((if0 _ _).trans (flt (mt (lw_gt _ _).mp hc21)).2.2.1) ?_
      show Steps p.tables e below (T18.setTop (mkF m 107 #[.val (.long p0), .second, .val (.int p1), .val (.long v1), .second, .val (.ref b3), .val (.int (1 : Int32)), .val (.int v14), .unset, .unset] [(.int v19)])) _
      refine XS.iconst X18.here hx rfl (hb hby at_107) ?_
      show Steps p.tables e below (T18.setTop (mkF m 108 #[.val (.long p0), .second, .val (.int p1), .val (.long v1), .second, .val (.ref b3), .val (.int (1 : Int32)), .val (.int v14), .unset, .unset] [(.int (1 : Int32)), (.int v19)])) _
      refine XS.goto X18.here hx rfl (pc0 := 108) (pc' := 112) rfl (hb hby at_108) (by decide) (by decide) ?_
      show Steps p.tables e below (T18.setTop (mkF m 112 #[.val (.long p0), .second, .val (.int p1), .val (.long v1), .second, .val (.ref b3), .val (.int (1 : Int32)), .val (.int v14), .unset, .unset] [(.int (1 : Int32)), (.int v19)])) _
      exact k
  show own_Go p.tables e below _ (T18.setTop (mkF m 112 #[.val (.long p0), .second, .val (.int p1), .val (.long v1), .second, .val (.ref b3), .val (.int (1 : Int32)), .val (.int v14), .unset, .unset] [(.int v20), (.int v19)]))
  have hc22 : v19 = v20 := by rw [qv19, qv20]; exact own_b1 (own_k2 _ (own_t0 qv1))
  refine own_st (S' := T18.setTop (mkF m 115 #[.val (.long p0), .second, .val (.int p1), .val (.long v1), .second, .val (.ref b3), .val (.int (1 : Int32)), .val (.int v14), .unset, .unset] [])) (fun t k => XS.icmpNo X18.here hx rfl (hb hby at_112) rfl (teq hc22).2 k) ?_
  show own_Go p.tables e below _ (T18.setTop (mkF m 115 #[.val (.long p0), .second, .val (.int p1), .val (.long v1), .second, .val (.ref b3), .val (.int (1 : Int32)), .val (.int v14), .unset, .unset] []))
  refine own_st (S' := T18.setTop (mkF m 116 #[.val (.long p0), .second, .val (.int p1), .val (.long v1), .second, .val (.ref b3), .val (.int (1 : Int32)), .val (.int v14), .unset, .unset] [(.int (1 : Int32))])) (fun t k => XS.iconst X18.here hx rfl (hb hby at_115) k) ?_
  refine own_st (S' := T18.setTop (mkF m 120 #[.val (.long p0), .second, .val (.int p1), .val (.long v1), .second, .val (.ref b3), .val (.int (1 : Int32)), .val (.int v14), .unset, .unset] [(.int (1 : Int32))])) (fun t k => XS.goto X18.here hx rfl (pc0 := 116) (pc' := 120) rfl (hb hby at_116) (by decide) (by decide) k) ?_
  refine own_st (S' := T18.setTop (mkF m 122 #[.val (.long p0), .second, .val (.int p1), .val (.long v1), .second, .val (.ref b3), .val (.int (1 : Int32)), .val (.int v14), .unset, .unset] [])) (fun t k => XS.istore X18.here hx rfl (hb hby at_120) rfl (l' := #[.val (.long p0), .second, .val (.int p1), .val (.long v1), .second, .val (.ref b3), .val (.int (1 : Int32)), .val (.int v14), .unset, .unset]) rfl k) ?_
  refine own_st (S' := T18.setTop (mkF m 124 #[.val (.long p0), .second, .val (.int p1), .val (.long v1), .second, .val (.ref b3), .val (.int (1 : Int32)), .val (.int v14), .unset, .unset] [(.ref b3)])) (fun t k => XS.aload X18.here hx rfl (hb hby at_122) rfl rfl k) ?_
  obtain ⟨cq23, kq23, q23a, q23b, q23c⟩ := isOf hZ hh18 g0_12
  obtain ⟨_, _, ⟨T23, L23, k23, n23⟩, -, X23, ⟨Lc23, hQ23, l23, y23, z23⟩, st23⟩ := X18.virtualBack hx (y := (⟨"com/example/deliberation/deliberation/agent/Budget", "take", "()Z"⟩ : MethodName)) (z := (⟨"com/example/deliberation/deliberation/agent/Budget", "take", "()Z"⟩ : MethodName)) hown (mvT hZ (hw _ (List.mem_of_getElem? (i := 17) rfl))) (mvT hZ (hw _ (List.mem_of_getElem? (i := 18) rfl))) (notFace_of_selects (args := #[]) (mvT hZ (hw _ (List.mem_of_getElem? (i := 20) rfl)))) (mvT hZ (hw _ (List.mem_of_getElem? (i := 20) rfl))) (mvT hZ (hw _ (List.mem_of_getElem? (i := 19) rfl))) (by decide) (backOf (W := 0) (rm3 l Z a0 hw [] b3 (own_d v1) T12.heap n0 Z12 g0_12 g1_12 G_b3) hZ (hw _ (List.mem_of_getElem? (i := 21) rfl)) (hw _ (List.mem_of_getElem? (i := 3) rfl)) (by decide) (by decide)) q23a q23c (g := (mkF m 124 #[.val (.long p0), .second, .val (.int p1), .val (.long v1), .second, .val (.ref b3), .val (.int (1 : Int32)), .val (.int v14), .unset, .unset] [(.ref b3)])) rfl (by rw [hml]; rfl) (Steps.refl _) (argsL := []) (rest := []) (lenOf pd0_1 rfl) rfl (by show 2 * 0 + _ ≤ _; exact Nat.le_of_eq rfl) (hb hby at_124) (fun _ _ => ⟨rfl, hh18, (by decide : 1 + 0 ≤ _), (by decide : 1 + 0 ≤ _)⟩)
  dsimp only [Pt.U, Pt.locs, Pt.cells, Pt.slots] at X23 l23 y23 z23 st23 hQ23
  subst l23 y23 z23
  obtain ⟨rfl, N23q, Kq23, g0_23, g1_23⟩ := hQ23
  have f24 : Exa Z T23.heap b3 "com/example/deliberation/deliberation/agent/Budget" := g0_12.keep Kq23
  have Z23 : n0 ≤ T23.heap.size := Nat.le_trans Z12 Kq23.1
  have N23 := Fr.app N18 N23q
  refine own_tr st23 ?_
  show own_Go p.tables e below _ (T23.setTop (mkF m 127 #[.val (.long p0), .second, .val (.int p1), .val (.long v1), .second, .val (.ref b3), .val (.int (1 : Int32)), .val (.int v14), .unset, .unset] [(.int (if (0 : Int64) < (own_d v1) then (1 : Int32) else (0 : Int32)))]))
  obtain ⟨v25, qv25⟩ : ∃ z : Int32, z = (if (0 : Int64) < (own_d v1) then (1 : Int32) else (0 : Int32)) := ⟨_, rfl⟩
  rw [← qv25]
  refine own_st (S' := T23.setTop (mkF m 129 #[.val (.long p0), .second, .val (.int p1), .val (.long v1), .second, .val (.ref b3), .val (.int (1 : Int32)), .val (.int v14), .val (.int v25), .unset] [])) (fun t k => XS.istore X23.here hx rfl (hb hby at_127) rfl (l' := #[.val (.long p0), .second, .val (.int p1), .val (.long v1), .second, .val (.ref b3), .val (.int (1 : Int32)), .val (.int v14), .val (.int v25), .unset]) rfl k) ?_
  refine own_st (S' := T23.setTop (mkF m 131 #[.val (.long p0), .second, .val (.int p1), .val (.long v1), .second, .val (.ref b3), .val (.int (1 : Int32)), .val (.int v14), .val (.int v25), .unset] [(.int (1 : Int32))])) (fun t k => XS.iload X23.here hx rfl (hb hby at_129) rfl k) ?_
  refine own_st (S' := T23.setTop (mkF m 134 #[.val (.long p0), .second, .val (.int p1), .val (.long v1), .second, .val (.ref b3), .val (.int (1 : Int32)), .val (.int v14), .val (.int v25), .unset] [])) (fun t k => XS.ifNo X23.here hx rfl (hb hby at_131) rfl ((if0 _ _).trans (feq (by decide)).1) k) ?_
  show own_Go p.tables e below _ (T23.setTop (mkF m 134 #[.val (.long p0), .second, .val (.int p1), .val (.long v1), .second, .val (.ref b3), .val (.int (1 : Int32)), .val (.int v14), .val (.int v25), .unset] []))
  refine own_st (S' := T23.setTop (mkF m 136 #[.val (.long p0), .second, .val (.int p1), .val (.long v1), .second, .val (.ref b3), .val (.int (1 : Int32)), .val (.int v14), .val (.int v25), .unset] [(.int v25)])) (fun t k => XS.iload X23.here hx rfl (hb hby at_134) rfl k) ?_
  refine own_st (S' := T23.setTop (mkF m 137 #[.val (.long p0), .second, .val (.int p1), .val (.long v1), .second, .val (.ref b3), .val (.int (1 : Int32)), .val (.int v14), .val (.int v25), .unset] [(.long v1), (.int v25)])) (fun t k => XS.lloadN X23.here hx rfl (hb hby at_136) rfl k) ?_
  refine own_st (S' := T23.setTop (mkF m 140 #[.val (.long p0), .second, .val (.int p1), .val (.long v1), .second, .val (.ref b3), .val (.int (1 : Int32)), .val (.int v14), .val (.int v25), .unset] [(.long (2 : Int64)), (.long v1), (.int v25)])) (fun t k => X23.ldc2Long hx hown (mvT hZ (hw _ (List.mem_of_getElem? (i := 22) rfl))) (g := (mkF m 137 #[.val (.long p0), .second, .val (.int p1), .val (.long v1), .second, .val (.ref b3), .val (.int (1 : Int32)), .val (.int v14), .val (.int v25), .unset] [(.long v1), (.int v25)])) rfl (hb hby at_137) _ k) ?_
  refine own_st (S' := T23.setTop (mkF m 141 #[.val (.long p0), .second, .val (.int p1), .val (.long v1), .second, .val (.ref b3), .val (.int (1 : Int32)), .val (.int v14), .val (.int v25), .unset] [(.int (lcmpW v1 (2 : Int64))), (.int v25)])) (fun t k => XS.lcmp X23.here hx rfl (hb hby at_140) rfl k) ?_
  obtain ⟨v26, qv26⟩ : ∃ z : Int32, z = (if v1 < (2 : Int64) then (0 : Int32) else (1 : Int32)) := ⟨_, rfl⟩
  refine own_st (S' := T23.setTop (mkF m 149 #[.val (.long p0), .second, .val (.int p1), .val (.long v1), .second, .val (.ref b3), .val (.int (1 : Int32)), .val (.int v14), .val (.int v25), .unset] [(.int v26), (.int v25)])) (fun t k => ?_) ?_
  · show Steps p.tables e below (T23.setTop (mkF m 141 #[.val (.long p0), .second, .val (.int p1), .val (.long v1), .second, .val (.ref b3), .val (.int (1 : Int32)), .val (.int v14), .val (.int v25), .unset] [(.int (lcmpW v1 (2 : Int64))), (.int v25)])) _
    by_cases hc27 : v1 < (2 : Int64)
    · rw [if_pos hc27] at qv26
      replace qv26 := Eq.symm qv26
      subst qv26
      refine XS.ifYes X23.here hx rfl (pc0 := 141) (pc' := 148) rfl (hb hby at_141) rfl ((if0 _ _).trans (tlt ((lw_lt _ _).mpr hc27)).1) (by decide) (by decide) ?_
      show Steps p.tables e below (T23.setTop (mkF m 148 #[.val (.long p0), .second, .val (.int p1), .val (.long v1), .second, .val (.ref b3), .val (.int (1 : Int32)), .val (.int v14), .val (.int v25), .unset] [(.int v25)])) _
      refine XS.iconst X23.here hx rfl (hb hby at_148) ?_
      show Steps p.tables e below (T23.setTop (mkF m 149 #[.val (.long p0), .second, .val (.int p1), .val (.long v1), .second, .val (.ref b3), .val (.int (1 : Int32)), .val (.int v14), .val (.int v25), .unset] [(.int (0 : Int32)), (.int v25)])) _
      exact k
    · rw [if_neg hc27] at qv26
      replace qv26 := Eq.symm qv26
      subst qv26
      refine XS.ifNo X23.here hx rfl (hb hby at_141) rfl ((if0 _ _).trans (flt (mt (lw_lt _ _).mp hc27)).1) ?_
      show Steps p.tables e below (T23.setTop (mkF m 144 #[.val (.long p0), .second, .val (.int p1), .val (.long v1), .second, .val (.ref b3), .val (.int (1 : Int32)), .val (.int v14), .val (.int v25), .unset] [(.int v25)])) _
      refine XS.iconst X23.here hx rfl (hb hby at_144) ?_
      show Steps p.tables e below (T23.setTop (mkF m 145 #[.val (.long p0), .second, .val (.int p1), .val (.long v1), .second, .val (.ref b3), .val (.int (1 : Int32)), .val (.int v14), .val (.int v25), .unset] [(.int (1 : Int32)), (.int v25)])) _
      refine XS.goto X23.here hx rfl (pc0 := 145) (pc' := 149) rfl (hb hby at_145) (by decide) (by decide) ?_
      show Steps p.tables e below (T23.setTop (mkF m 149 #[.val (.long p0), .second, .val (.int p1), .val (.long v1), .second, .val (.ref b3), .val (.int (1 : Int32)), .val (.int v14), .val (.int v25), .unset] [(.int (1 : Int32)), (.int v25)])) _
      exact k
  show own_Go p.tables e below _ (T23.setTop (mkF m 149 #[.val (.long p0), .second, .val (.int p1), .val (.long v1), .second, .val (.ref b3), .val (.int (1 : Int32)), .val (.int v14), .val (.int v25), .unset] [(.int v26), (.int v25)]))
  have hc28 : v25 = v26 := by rw [qv25, qv26]; exact own_b1 (own_k3 _ (own_t0 qv1))
  refine own_st (S' := T23.setTop (mkF m 152 #[.val (.long p0), .second, .val (.int p1), .val (.long v1), .second, .val (.ref b3), .val (.int (1 : Int32)), .val (.int v14), .val (.int v25), .unset] [])) (fun t k => XS.icmpNo X23.here hx rfl (hb hby at_149) rfl (teq hc28).2 k) ?_
  show own_Go p.tables e below _ (T23.setTop (mkF m 152 #[.val (.long p0), .second, .val (.int p1), .val (.long v1), .second, .val (.ref b3), .val (.int (1 : Int32)), .val (.int v14), .val (.int v25), .unset] []))
  refine own_st (S' := T23.setTop (mkF m 153 #[.val (.long p0), .second, .val (.int p1), .val (.long v1), .second, .val (.ref b3), .val (.int (1 : Int32)), .val (.int v14), .val (.int v25), .unset] [(.int (1 : Int32))])) (fun t k => XS.iconst X23.here hx rfl (hb hby at_152) k) ?_
  refine own_st (S' := T23.setTop (mkF m 157 #[.val (.long p0), .second, .val (.int p1), .val (.long v1), .second, .val (.ref b3), .val (.int (1 : Int32)), .val (.int v14), .val (.int v25), .unset] [(.int (1 : Int32))])) (fun t k => XS.goto X23.here hx rfl (pc0 := 153) (pc' := 157) rfl (hb hby at_153) (by decide) (by decide) k) ?_
  refine own_st (S' := T23.setTop (mkF m 159 #[.val (.long p0), .second, .val (.int p1), .val (.long v1), .second, .val (.ref b3), .val (.int (1 : Int32)), .val (.int v14), .val (.int v25), .unset] [])) (fun t k => XS.istore X23.here hx rfl (hb hby at_157) rfl (l' := #[.val (.long p0), .second, .val (.int p1), .val (.long v1), .second, .val (.ref b3), .val (.int (1 : Int32)), .val (.int v14), .val (.int v25), .unset]) rfl k) ?_
  refine own_st (S' := T23.setTop (mkF m 161 #[.val (.long p0), .second, .val (.int p1), .val (.long v1), .second, .val (.ref b3), .val (.int (1 : Int32)), .val (.int v14), .val (.int v25), .unset] [(.int (1 : Int32))])) (fun t k => XS.iload X23.here hx rfl (hb hby at_159) rfl k) ?_
  refine own_st (S' := T23.setTop (mkF m 164 #[.val (.long p0), .second, .val (.int p1), .val (.long v1), .second, .val (.ref b3), .val (.int (1 : Int32)), .val (.int v14), .val (.int v25), .unset] [])) (fun t k => XS.ifNo X23.here hx rfl (hb hby at_161) rfl ((if0 _ _).trans (feq (by decide)).1) k) ?_
  show own_Go p.tables e below _ (T23.setTop (mkF m 164 #[.val (.long p0), .second, .val (.int p1), .val (.long v1), .second, .val (.ref b3), .val (.int (1 : Int32)), .val (.int v14), .val (.int v25), .unset] []))
  refine own_st (S' := T23.setTop (mkF m 166 #[.val (.long p0), .second, .val (.int p1), .val (.long v1), .second, .val (.ref b3), .val (.int (1 : Int32)), .val (.int v14), .val (.int v25), .unset] [(.ref b3)])) (fun t k => XS.aload X23.here hx rfl (hb hby at_164) rfl rfl k) ?_
  obtain ⟨cq29, kq29, q29a, q29b, q29c⟩ := isOf hZ rfl g0_23
  obtain ⟨_, _, ⟨T29, L29, k29, n29⟩, -, X29, ⟨Lc29, hQ29, l29, y29, z29⟩, st29⟩ := X23.virtualBack hx (y := (⟨"com/example/deliberation/deliberation/agent/Budget", "isSpent", "()Z"⟩ : MethodName)) (z := (⟨"com/example/deliberation/deliberation/agent/Budget", "isSpent", "()Z"⟩ : MethodName)) hown (mvT hZ (hw _ (List.mem_of_getElem? (i := 12) rfl))) (mvT hZ (hw _ (List.mem_of_getElem? (i := 13) rfl))) (notFace_of_selects (args := #[]) (mvT hZ (hw _ (List.mem_of_getElem? (i := 15) rfl)))) (mvT hZ (hw _ (List.mem_of_getElem? (i := 15) rfl))) (mvT hZ (hw _ (List.mem_of_getElem? (i := 14) rfl))) (by decide) (backOf (W := 0) (rm2 l Z a0 hw [] b3 (own_d (own_d v1)) T23.heap n0 Z23 g1_23) hZ (hw _ (List.mem_of_getElem? (i := 16) rfl)) (hw _ (List.mem_of_getElem? (i := 3) rfl)) (by decide) (by decide)) q29a q29c (g := (mkF m 166 #[.val (.long p0), .second, .val (.int p1), .val (.long v1), .second, .val (.ref b3), .val (.int (1 : Int32)), .val (.int v14), .val (.int v25), .unset] [(.ref b3)])) rfl (by rw [hml]; rfl) (Steps.refl _) (argsL := []) (rest := []) (lenOf pd0_1 rfl) rfl (by show 2 * 0 + _ ≤ _; exact Nat.le_of_eq rfl) (hb hby at_166) (fun _ _ => ⟨rfl, rfl, (by decide : 1 + 0 ≤ _), (by decide : 1 + 0 ≤ _)⟩)
  dsimp only [Pt.U, Pt.locs, Pt.cells, Pt.slots] at X29 l29 y29 z29 st29 hQ29
  subst l29 y29 z29
  obtain ⟨rfl, N29q, hh29⟩ := hQ29
  have N29 := Fr.app N23 N29q
  refine own_tr st29 ?_
  show own_Go p.tables e below _ (T29.setTop (mkF m 169 #[.val (.long p0), .second, .val (.int p1), .val (.long v1), .second, .val (.ref b3), .val (.int (1 : Int32)), .val (.int v14), .val (.int v25), .unset] [(.int (if (own_d (own_d v1)) = (0 : Int64) then (1 : Int32) else (0 : Int32)))]))
  obtain ⟨v30, qv30⟩ : ∃ z : Int32, z = (if (own_d (own_d v1)) = (0 : Int64) then (1 : Int32) else (0 : Int32)) := ⟨_, rfl⟩
  rw [← qv30]
  refine own_st (S' := T29.setTop (mkF m 170 #[.val (.long p0), .second, .val (.int p1), .val (.long v1), .second, .val (.ref b3), .val (.int (1 : Int32)), .val (.int v14), .val (.int v25), .unset] [(.long v1), (.int v30)])) (fun t k => XS.lloadN X29.here hx rfl (hb hby at_169) rfl k) ?_
  refine own_st (S' := T29.setTop (mkF m 173 #[.val (.long p0), .second, .val (.int p1), .val (.long v1), .second, .val (.ref b3), .val (.int (1 : Int32)), .val (.int v14), .val (.int v25), .unset] [(.long (2 : Int64)), (.long v1), (.int v30)])) (fun t k => X29.ldc2Long hx hown (mvT hZ (hw _ (List.mem_of_getElem? (i := 22) rfl))) (g := (mkF m 170 #[.val (.long p0), .second, .val (.int p1), .val (.long v1), .second, .val (.ref b3), .val (.int (1 : Int32)), .val (.int v14), .val (.int v25), .unset] [(.long v1), (.int v30)])) rfl (hb hby at_170) _ k) ?_
  refine own_st (S' := T29.setTop (mkF m 174 #[.val (.long p0), .second, .val (.int p1), .val (.long v1), .second, .val (.ref b3), .val (.int (1 : Int32)), .val (.int v14), .val (.int v25), .unset] [(.int (lcmpW v1 (2 : Int64))), (.int v30)])) (fun t k => XS.lcmp X29.here hx rfl (hb hby at_173) rfl k) ?_
  obtain ⟨v31, qv31⟩ : ∃ z : Int32, z = (if (2 : Int64) < v1 then (0 : Int32) else (1 : Int32)) := ⟨_, rfl⟩
  refine own_st (S' := T29.setTop (mkF m 182 #[.val (.long p0), .second, .val (.int p1), .val (.long v1), .second, .val (.ref b3), .val (.int (1 : Int32)), .val (.int v14), .val (.int v25), .unset] [(.int v31), (.int v30)])) (fun t k => ?_) ?_
  · show Steps p.tables e below (T29.setTop (mkF m 174 #[.val (.long p0), .second, .val (.int p1), .val (.long v1), .second, .val (.ref b3), .val (.int (1 : Int32)), .val (.int v14), .val (.int v25), .unset] [(.int (lcmpW v1 (2 : Int64))), (.int v30)])) _
    by_cases hc32 : (2 : Int64) < v1
    · rw [if_pos hc32] at qv31
      replace qv31 := Eq.symm qv31
      subst qv31
      refine XS.ifYes X29.here hx rfl (pc0 := 174) (pc' := 181) rfl (hb hby at_174) rfl ((if0 _ _).trans (tlt ((lw_gt _ _).mpr hc32)).2.2.1) (by decide) (by decide) ?_
      show Steps p.tables e below (T29.setTop (mkF m 181 #[.val (.long p0), .second, .val (.int p1), .val (.long v1), .second, .val (.ref b3), .val (.int (1 : Int32)), .val (.int v14), .val (.int v25), .unset] [(.int v30)])) _
      refine XS.iconst X29.here hx rfl (hb hby at_181) ?_
      show Steps p.tables e below (T29.setTop (mkF m 182 #[.val (.long p0), .second, .val (.int p1), .val (.long v1), .second, .val (.ref b3), .val (.int (1 : Int32)), .val (.int v14), .val (.int v25), .unset] [(.int (0 : Int32)), (.int v30)])) _
      exact k
    · rw [if_neg hc32] at qv31
      replace qv31 := Eq.symm qv31
      subst qv31
      refine XS.ifNo X29.here hx rfl (hb hby at_174) rfl ((if0 _ _).trans (flt (mt (lw_gt _ _).mp hc32)).2.2.1) ?_
      show Steps p.tables e below (T29.setTop (mkF m 177 #[.val (.long p0), .second, .val (.int p1), .val (.long v1), .second, .val (.ref b3), .val (.int (1 : Int32)), .val (.int v14), .val (.int v25), .unset] [(.int v30)])) _
      refine XS.iconst X29.here hx rfl (hb hby at_177) ?_
      show Steps p.tables e below (T29.setTop (mkF m 178 #[.val (.long p0), .second, .val (.int p1), .val (.long v1), .second, .val (.ref b3), .val (.int (1 : Int32)), .val (.int v14), .val (.int v25), .unset] [(.int (1 : Int32)), (.int v30)])) _
      refine XS.goto X29.here hx rfl (pc0 := 178) (pc' := 182) rfl (hb hby at_178) (by decide) (by decide) ?_
      show Steps p.tables e below (T29.setTop (mkF m 182 #[.val (.long p0), .second, .val (.int p1), .val (.long v1), .second, .val (.ref b3), .val (.int (1 : Int32)), .val (.int v14), .val (.int v25), .unset] [(.int (1 : Int32)), (.int v30)])) _
      exact k
  show own_Go p.tables e below _ (T29.setTop (mkF m 182 #[.val (.long p0), .second, .val (.int p1), .val (.long v1), .second, .val (.ref b3), .val (.int (1 : Int32)), .val (.int v14), .val (.int v25), .unset] [(.int v31), (.int v30)]))
  have hc33 : v30 = v31 := by rw [qv30, qv31]; exact own_b1 (own_k4 _ (own_t0 qv1))
  refine own_st (S' := T29.setTop (mkF m 185 #[.val (.long p0), .second, .val (.int p1), .val (.long v1), .second, .val (.ref b3), .val (.int (1 : Int32)), .val (.int v14), .val (.int v25), .unset] [])) (fun t k => XS.icmpNo X29.here hx rfl (hb hby at_182) rfl (teq hc33).2 k) ?_
  show own_Go p.tables e below _ (T29.setTop (mkF m 185 #[.val (.long p0), .second, .val (.int p1), .val (.long v1), .second, .val (.ref b3), .val (.int (1 : Int32)), .val (.int v14), .val (.int v25), .unset] []))
  refine own_st (S' := T29.setTop (mkF m 186 #[.val (.long p0), .second, .val (.int p1), .val (.long v1), .second, .val (.ref b3), .val (.int (1 : Int32)), .val (.int v14), .val (.int v25), .unset] [(.int (1 : Int32))])) (fun t k => XS.iconst X29.here hx rfl (hb hby at_185) k) ?_
  refine own_st (S' := T29.setTop (mkF m 190 #[.val (.long p0), .second, .val (.int p1), .val (.long v1), .second, .val (.ref b3), .val (.int (1 : Int32)), .val (.int v14), .val (.int v25), .unset] [(.int (1 : Int32))])) (fun t k => XS.goto X29.here hx rfl (pc0 := 186) (pc' := 190) rfl (hb hby at_186) (by decide) (by decide) k) ?_
  refine own_st (S' := T29.setTop (mkF m 192 #[.val (.long p0), .second, .val (.int p1), .val (.long v1), .second, .val (.ref b3), .val (.int (1 : Int32)), .val (.int v14), .val (.int v25), .unset] [])) (fun t k => XS.istore X29.here hx rfl (hb hby at_190) rfl (l' := #[.val (.long p0), .second, .val (.int p1), .val (.long v1), .second, .val (.ref b3), .val (.int (1 : Int32)), .val (.int v14), .val (.int v25), .unset]) rfl k) ?_
  refine own_st (S' := T29.setTop (mkF m 194 #[.val (.long p0), .second, .val (.int p1), .val (.long v1), .second, .val (.ref b3), .val (.int (1 : Int32)), .val (.int v14), .val (.int v25), .unset] [(.ref b3)])) (fun t k => XS.aload X29.here hx rfl (hb hby at_192) rfl rfl k) ?_
  obtain ⟨cq34, kq34, q34a, q34b, q34c⟩ := isOf hZ hh29 g0_23
  obtain ⟨_, _, ⟨T34, L34, k34, n34⟩, -, X34, ⟨Lc34, hQ34, l34, y34, z34⟩, st34⟩ := X29.virtualBack hx (y := (⟨"com/example/deliberation/deliberation/agent/Budget", "take", "()Z"⟩ : MethodName)) (z := (⟨"com/example/deliberation/deliberation/agent/Budget", "take", "()Z"⟩ : MethodName)) hown (mvT hZ (hw _ (List.mem_of_getElem? (i := 17) rfl))) (mvT hZ (hw _ (List.mem_of_getElem? (i := 18) rfl))) (notFace_of_selects (args := #[]) (mvT hZ (hw _ (List.mem_of_getElem? (i := 20) rfl)))) (mvT hZ (hw _ (List.mem_of_getElem? (i := 20) rfl))) (mvT hZ (hw _ (List.mem_of_getElem? (i := 19) rfl))) (by decide) (backOf (W := 0) (rm3 l Z a0 hw [] b3 (own_d (own_d v1)) T23.heap n0 Z23 g0_23 g1_23 G_b3) hZ (hw _ (List.mem_of_getElem? (i := 21) rfl)) (hw _ (List.mem_of_getElem? (i := 3) rfl)) (by decide) (by decide)) q34a q34c (g := (mkF m 194 #[.val (.long p0), .second, .val (.int p1), .val (.long v1), .second, .val (.ref b3), .val (.int (1 : Int32)), .val (.int v14), .val (.int v25), .unset] [(.ref b3)])) rfl (by rw [hml]; rfl) (Steps.refl _) (argsL := []) (rest := []) (lenOf pd0_1 rfl) rfl (by show 2 * 0 + _ ≤ _; exact Nat.le_of_eq rfl) (hb hby at_194) (fun _ _ => ⟨rfl, hh29, (by decide : 1 + 0 ≤ _), (by decide : 1 + 0 ≤ _)⟩)
  dsimp only [Pt.U, Pt.locs, Pt.cells, Pt.slots] at X34 l34 y34 z34 st34 hQ34
  subst l34 y34 z34
  obtain ⟨rfl, N34q, Kq34, g0_34, g1_34⟩ := hQ34
  have f35 : Exa Z T34.heap b3 "com/example/deliberation/deliberation/agent/Budget" := g0_23.keep Kq34
  have Z34 : n0 ≤ T34.heap.size := Nat.le_trans Z23 Kq34.1
  have N34 := Fr.app N29 N34q
  refine own_tr st34 ?_
  show own_Go p.tables e below _ (T34.setTop (mkF m 197 #[.val (.long p0), .second, .val (.int p1), .val (.long v1), .second, .val (.ref b3), .val (.int (1 : Int32)), .val (.int v14), .val (.int v25), .unset] [(.int (if (0 : Int64) < (own_d (own_d v1)) then (1 : Int32) else (0 : Int32)))]))
  obtain ⟨v36, qv36⟩ : ∃ z : Int32, z = (if (0 : Int64) < (own_d (own_d v1)) then (1 : Int32) else (0 : Int32)) := ⟨_, rfl⟩
  rw [← qv36]
  refine own_st (S' := T34.setTop (mkF m 199 #[.val (.long p0), .second, .val (.int p1), .val (.long v1), .second, .val (.ref b3), .val (.int (1 : Int32)), .val (.int v14), .val (.int v25), .val (.int v36)] [])) (fun t k => XS.istore X34.here hx rfl (hb hby at_197) rfl (l' := #[.val (.long p0), .second, .val (.int p1), .val (.long v1), .second, .val (.ref b3), .val (.int (1 : Int32)), .val (.int v14), .val (.int v25), .val (.int v36)]) rfl k) ?_
  refine own_st (S' := T34.setTop (mkF m 201 #[.val (.long p0), .second, .val (.int p1), .val (.long v1), .second, .val (.ref b3), .val (.int (1 : Int32)), .val (.int v14), .val (.int v25), .val (.int v36)] [(.int (1 : Int32))])) (fun t k => XS.iload X34.here hx rfl (hb hby at_199) rfl k) ?_
  refine own_st (S' := T34.setTop (mkF m 204 #[.val (.long p0), .second, .val (.int p1), .val (.long v1), .second, .val (.ref b3), .val (.int (1 : Int32)), .val (.int v14), .val (.int v25), .val (.int v36)] [])) (fun t k => XS.ifNo X34.here hx rfl (hb hby at_201) rfl ((if0 _ _).trans (feq (by decide)).1) k) ?_
  show own_Go p.tables e below _ (T34.setTop (mkF m 204 #[.val (.long p0), .second, .val (.int p1), .val (.long v1), .second, .val (.ref b3), .val (.int (1 : Int32)), .val (.int v14), .val (.int v25), .val (.int v36)] []))
  refine own_st (S' := T34.setTop (mkF m 206 #[.val (.long p0), .second, .val (.int p1), .val (.long v1), .second, .val (.ref b3), .val (.int (1 : Int32)), .val (.int v14), .val (.int v25), .val (.int v36)] [(.int v36)])) (fun t k => XS.iload X34.here hx rfl (hb hby at_204) rfl k) ?_
  refine own_st (S' := T34.setTop (mkF m 207 #[.val (.long p0), .second, .val (.int p1), .val (.long v1), .second, .val (.ref b3), .val (.int (1 : Int32)), .val (.int v14), .val (.int v25), .val (.int v36)] [(.long v1), (.int v36)])) (fun t k => XS.lloadN X34.here hx rfl (hb hby at_206) rfl k) ?_
  refine own_st (S' := T34.setTop (mkF m 210 #[.val (.long p0), .second, .val (.int p1), .val (.long v1), .second, .val (.ref b3), .val (.int (1 : Int32)), .val (.int v14), .val (.int v25), .val (.int v36)] [(.long (3 : Int64)), (.long v1), (.int v36)])) (fun t k => X34.ldc2Long hx hown (mvT hZ (hw _ (List.mem_of_getElem? (i := 23) rfl))) (g := (mkF m 207 #[.val (.long p0), .second, .val (.int p1), .val (.long v1), .second, .val (.ref b3), .val (.int (1 : Int32)), .val (.int v14), .val (.int v25), .val (.int v36)] [(.long v1), (.int v36)])) rfl (hb hby at_207) _ k) ?_
  refine own_st (S' := T34.setTop (mkF m 211 #[.val (.long p0), .second, .val (.int p1), .val (.long v1), .second, .val (.ref b3), .val (.int (1 : Int32)), .val (.int v14), .val (.int v25), .val (.int v36)] [(.int (lcmpW v1 (3 : Int64))), (.int v36)])) (fun t k => XS.lcmp X34.here hx rfl (hb hby at_210) rfl k) ?_
  obtain ⟨v37, qv37⟩ : ∃ z : Int32, z = (if v1 < (3 : Int64) then (0 : Int32) else (1 : Int32)) := ⟨_, rfl⟩
  refine own_st (S' := T34.setTop (mkF m 219 #[.val (.long p0), .second, .val (.int p1), .val (.long v1), .second, .val (.ref b3), .val (.int (1 : Int32)), .val (.int v14), .val (.int v25), .val (.int v36)] [(.int v37), (.int v36)])) (fun t k => ?_) ?_
  · show Steps p.tables e below (T34.setTop (mkF m 211 #[.val (.long p0), .second, .val (.int p1), .val (.long v1), .second, .val (.ref b3), .val (.int (1 : Int32)), .val (.int v14), .val (.int v25), .val (.int v36)] [(.int (lcmpW v1 (3 : Int64))), (.int v36)])) _
    by_cases hc38 : v1 < (3 : Int64)
    · rw [if_pos hc38] at qv37
      replace qv37 := Eq.symm qv37
      subst qv37
      refine XS.ifYes X34.here hx rfl (pc0 := 211) (pc' := 218) rfl (hb hby at_211) rfl ((if0 _ _).trans (tlt ((lw_lt _ _).mpr hc38)).1) (by decide) (by decide) ?_
      show Steps p.tables e below (T34.setTop (mkF m 218 #[.val (.long p0), .second, .val (.int p1), .val (.long v1), .second, .val (.ref b3), .val (.int (1 : Int32)), .val (.int v14), .val (.int v25), .val (.int v36)] [(.int v36)])) _
      refine XS.iconst X34.here hx rfl (hb hby at_218) ?_
      show Steps p.tables e below (T34.setTop (mkF m 219 #[.val (.long p0), .second, .val (.int p1), .val (.long v1), .second, .val (.ref b3), .val (.int (1 : Int32)), .val (.int v14), .val (.int v25), .val (.int v36)] [(.int (0 : Int32)), (.int v36)])) _
      exact k
    · rw [if_neg hc38] at qv37
      replace qv37 := Eq.symm qv37
      subst qv37
      refine XS.ifNo X34.here hx rfl (hb hby at_211) rfl ((if0 _ _).trans (flt (mt (lw_lt _ _).mp hc38)).1) ?_
      show Steps p.tables e below (T34.setTop (mkF m 214 #[.val (.long p0), .second, .val (.int p1), .val (.long v1), .second, .val (.ref b3), .val (.int (1 : Int32)), .val (.int v14), .val (.int v25), .val (.int v36)] [(.int v36)])) _
      refine XS.iconst X34.here hx rfl (hb hby at_214) ?_
      show Steps p.tables e below (T34.setTop (mkF m 215 #[.val (.long p0), .second, .val (.int p1), .val (.long v1), .second, .val (.ref b3), .val (.int (1 : Int32)), .val (.int v14), .val (.int v25), .val (.int v36)] [(.int (1 : Int32)), (.int v36)])) _
      refine XS.goto X34.here hx rfl (pc0 := 215) (pc' := 219) rfl (hb hby at_215) (by decide) (by decide) ?_
      show Steps p.tables e below (T34.setTop (mkF m 219 #[.val (.long p0), .second, .val (.int p1), .val (.long v1), .second, .val (.ref b3), .val (.int (1 : Int32)), .val (.int v14), .val (.int v25), .val (.int v36)] [(.int (1 : Int32)), (.int v36)])) _
      exact k
  show own_Go p.tables e below _ (T34.setTop (mkF m 219 #[.val (.long p0), .second, .val (.int p1), .val (.long v1), .second, .val (.ref b3), .val (.int (1 : Int32)), .val (.int v14), .val (.int v25), .val (.int v36)] [(.int v37), (.int v36)]))
  have hc39 : v36 = v37 := by rw [qv36, qv37]; exact own_b1 (own_k5 _ (own_t0 qv1))
  refine own_st (S' := T34.setTop (mkF m 222 #[.val (.long p0), .second, .val (.int p1), .val (.long v1), .second, .val (.ref b3), .val (.int (1 : Int32)), .val (.int v14), .val (.int v25), .val (.int v36)] [])) (fun t k => XS.icmpNo X34.here hx rfl (hb hby at_219) rfl (teq hc39).2 k) ?_
  show own_Go p.tables e below _ (T34.setTop (mkF m 222 #[.val (.long p0), .second, .val (.int p1), .val (.long v1), .second, .val (.ref b3), .val (.int (1 : Int32)), .val (.int v14), .val (.int v25), .val (.int v36)] []))
  refine own_st (S' := T34.setTop (mkF m 223 #[.val (.long p0), .second, .val (.int p1), .val (.long v1), .second, .val (.ref b3), .val (.int (1 : Int32)), .val (.int v14), .val (.int v25), .val (.int v36)] [(.int (1 : Int32))])) (fun t k => XS.iconst X34.here hx rfl (hb hby at_222) k) ?_
  refine own_st (S' := T34.setTop (mkF m 227 #[.val (.long p0), .second, .val (.int p1), .val (.long v1), .second, .val (.ref b3), .val (.int (1 : Int32)), .val (.int v14), .val (.int v25), .val (.int v36)] [(.int (1 : Int32))])) (fun t k => XS.goto X34.here hx rfl (pc0 := 223) (pc' := 227) rfl (hb hby at_223) (by decide) (by decide) k) ?_
  refine own_st (S' := T34.setTop (mkF m 229 #[.val (.long p0), .second, .val (.int p1), .val (.long v1), .second, .val (.ref b3), .val (.int (1 : Int32)), .val (.int v14), .val (.int v25), .val (.int v36)] [])) (fun t k => XS.istore X34.here hx rfl (hb hby at_227) rfl (l' := #[.val (.long p0), .second, .val (.int p1), .val (.long v1), .second, .val (.ref b3), .val (.int (1 : Int32)), .val (.int v14), .val (.int v25), .val (.int v36)]) rfl k) ?_
  refine own_st (S' := T34.setTop (mkF m 231 #[.val (.long p0), .second, .val (.int p1), .val (.long v1), .second, .val (.ref b3), .val (.int (1 : Int32)), .val (.int v14), .val (.int v25), .val (.int v36)] [(.int (1 : Int32))])) (fun t k => XS.iload X34.here hx rfl (hb hby at_229) rfl k) ?_
  refine own_st (S' := T34.setTop (mkF m 234 #[.val (.long p0), .second, .val (.int p1), .val (.long v1), .second, .val (.ref b3), .val (.int (1 : Int32)), .val (.int v14), .val (.int v25), .val (.int v36)] [])) (fun t k => XS.ifNo X34.here hx rfl (hb hby at_231) rfl ((if0 _ _).trans (feq (by decide)).1) k) ?_
  show own_Go p.tables e below _ (T34.setTop (mkF m 234 #[.val (.long p0), .second, .val (.int p1), .val (.long v1), .second, .val (.ref b3), .val (.int (1 : Int32)), .val (.int v14), .val (.int v25), .val (.int v36)] []))
  refine own_st (S' := T34.setTop (mkF m 236 #[.val (.long p0), .second, .val (.int p1), .val (.long v1), .second, .val (.ref b3), .val (.int (1 : Int32)), .val (.int v14), .val (.int v25), .val (.int v36)] [(.ref b3)])) (fun t k => XS.aload X34.here hx rfl (hb hby at_234) rfl rfl k) ?_
  obtain ⟨cq40, kq40, q40a, q40b, q40c⟩ := isOf hZ rfl g0_34
  obtain ⟨_, _, ⟨T40, L40, k40, n40⟩, -, X40, ⟨Lc40, hQ40, l40, y40, z40⟩, st40⟩ := X34.virtualBack hx (y := (⟨"com/example/deliberation/deliberation/agent/Budget", "isSpent", "()Z"⟩ : MethodName)) (z := (⟨"com/example/deliberation/deliberation/agent/Budget", "isSpent", "()Z"⟩ : MethodName)) hown (mvT hZ (hw _ (List.mem_of_getElem? (i := 12) rfl))) (mvT hZ (hw _ (List.mem_of_getElem? (i := 13) rfl))) (notFace_of_selects (args := #[]) (mvT hZ (hw _ (List.mem_of_getElem? (i := 15) rfl)))) (mvT hZ (hw _ (List.mem_of_getElem? (i := 15) rfl))) (mvT hZ (hw _ (List.mem_of_getElem? (i := 14) rfl))) (by decide) (backOf (W := 0) (rm2 l Z a0 hw [] b3 (own_d (own_d (own_d v1))) T34.heap n0 Z34 g1_34) hZ (hw _ (List.mem_of_getElem? (i := 16) rfl)) (hw _ (List.mem_of_getElem? (i := 3) rfl)) (by decide) (by decide)) q40a q40c (g := (mkF m 236 #[.val (.long p0), .second, .val (.int p1), .val (.long v1), .second, .val (.ref b3), .val (.int (1 : Int32)), .val (.int v14), .val (.int v25), .val (.int v36)] [(.ref b3)])) rfl (by rw [hml]; rfl) (Steps.refl _) (argsL := []) (rest := []) (lenOf pd0_1 rfl) rfl (by show 2 * 0 + _ ≤ _; exact Nat.le_of_eq rfl) (hb hby at_236) (fun _ _ => ⟨rfl, rfl, (by decide : 1 + 0 ≤ _), (by decide : 1 + 0 ≤ _)⟩)
  dsimp only [Pt.U, Pt.locs, Pt.cells, Pt.slots] at X40 l40 y40 z40 st40 hQ40
  subst l40 y40 z40
  obtain ⟨rfl, N40q, hh40⟩ := hQ40
  have N40 := Fr.app N34 N40q
  refine own_tr st40 ?_
  show own_Go p.tables e below _ (T40.setTop (mkF m 239 #[.val (.long p0), .second, .val (.int p1), .val (.long v1), .second, .val (.ref b3), .val (.int (1 : Int32)), .val (.int v14), .val (.int v25), .val (.int v36)] [(.int (if (own_d (own_d (own_d v1))) = (0 : Int64) then (1 : Int32) else (0 : Int32)))]))
  obtain ⟨v41, qv41⟩ : ∃ z : Int32, z = (if (own_d (own_d (own_d v1))) = (0 : Int64) then (1 : Int32) else (0 : Int32)) := ⟨_, rfl⟩
  rw [← qv41]
  refine own_st (S' := T40.setTop (mkF m 240 #[.val (.long p0), .second, .val (.int p1), .val (.long v1), .second, .val (.ref b3), .val (.int (1 : Int32)), .val (.int v14), .val (.int v25), .val (.int v36)] [(.long v1), (.int v41)])) (fun t k => XS.lloadN X40.here hx rfl (hb hby at_239) rfl k) ?_
  refine own_st (S' := T40.setTop (mkF m 243 #[.val (.long p0), .second, .val (.int p1), .val (.long v1), .second, .val (.ref b3), .val (.int (1 : Int32)), .val (.int v14), .val (.int v25), .val (.int v36)] [(.long (3 : Int64)), (.long v1), (.int v41)])) (fun t k => X40.ldc2Long hx hown (mvT hZ (hw _ (List.mem_of_getElem? (i := 23) rfl))) (g := (mkF m 240 #[.val (.long p0), .second, .val (.int p1), .val (.long v1), .second, .val (.ref b3), .val (.int (1 : Int32)), .val (.int v14), .val (.int v25), .val (.int v36)] [(.long v1), (.int v41)])) rfl (hb hby at_240) _ k) ?_
  refine own_st (S' := T40.setTop (mkF m 244 #[.val (.long p0), .second, .val (.int p1), .val (.long v1), .second, .val (.ref b3), .val (.int (1 : Int32)), .val (.int v14), .val (.int v25), .val (.int v36)] [(.int (lcmpW v1 (3 : Int64))), (.int v41)])) (fun t k => XS.lcmp X40.here hx rfl (hb hby at_243) rfl k) ?_
  obtain ⟨v42, qv42⟩ : ∃ z : Int32, z = (if (3 : Int64) < v1 then (0 : Int32) else (1 : Int32)) := ⟨_, rfl⟩
  refine own_st (S' := T40.setTop (mkF m 252 #[.val (.long p0), .second, .val (.int p1), .val (.long v1), .second, .val (.ref b3), .val (.int (1 : Int32)), .val (.int v14), .val (.int v25), .val (.int v36)] [(.int v42), (.int v41)])) (fun t k => ?_) ?_
  · show Steps p.tables e below (T40.setTop (mkF m 244 #[.val (.long p0), .second, .val (.int p1), .val (.long v1), .second, .val (.ref b3), .val (.int (1 : Int32)), .val (.int v14), .val (.int v25), .val (.int v36)] [(.int (lcmpW v1 (3 : Int64))), (.int v41)])) _
    by_cases hc43 : (3 : Int64) < v1
    · rw [if_pos hc43] at qv42
      replace qv42 := Eq.symm qv42
      subst qv42
      refine XS.ifYes X40.here hx rfl (pc0 := 244) (pc' := 251) rfl (hb hby at_244) rfl ((if0 _ _).trans (tlt ((lw_gt _ _).mpr hc43)).2.2.1) (by decide) (by decide) ?_
      show Steps p.tables e below (T40.setTop (mkF m 251 #[.val (.long p0), .second, .val (.int p1), .val (.long v1), .second, .val (.ref b3), .val (.int (1 : Int32)), .val (.int v14), .val (.int v25), .val (.int v36)] [(.int v41)])) _
      refine XS.iconst X40.here hx rfl (hb hby at_251) ?_
      show Steps p.tables e below (T40.setTop (mkF m 252 #[.val (.long p0), .second, .val (.int p1), .val (.long v1), .second, .val (.ref b3), .val (.int (1 : Int32)), .val (.int v14), .val (.int v25), .val (.int v36)] [(.int (0 : Int32)), (.int v41)])) _
      exact k
    · rw [if_neg hc43] at qv42
      replace qv42 := Eq.symm qv42
      subst qv42
      refine XS.ifNo X40.here hx rfl (hb hby at_244) rfl ((if0 _ _).trans (flt (mt (lw_gt _ _).mp hc43)).2.2.1) ?_
      show Steps p.tables e below (T40.setTop (mkF m 247 #[.val (.long p0), .second, .val (.int p1), .val (.long v1), .second, .val (.ref b3), .val (.int (1 : Int32)), .val (.int v14), .val (.int v25), .val (.int v36)] [(.int v41)])) _
      refine XS.iconst X40.here hx rfl (hb hby at_247) ?_
      show Steps p.tables e below (T40.setTop (mkF m 248 #[.val (.long p0), .second, .val (.int p1), .val (.long v1), .second, .val (.ref b3), .val (.int (1 : Int32)), .val (.int v14), .val (.int v25), .val (.int v36)] [(.int (1 : Int32)), (.int v41)])) _
      refine XS.goto X40.here hx rfl (pc0 := 248) (pc' := 252) rfl (hb hby at_248) (by decide) (by decide) ?_
      show Steps p.tables e below (T40.setTop (mkF m 252 #[.val (.long p0), .second, .val (.int p1), .val (.long v1), .second, .val (.ref b3), .val (.int (1 : Int32)), .val (.int v14), .val (.int v25), .val (.int v36)] [(.int (1 : Int32)), (.int v41)])) _
      exact k
  show own_Go p.tables e below _ (T40.setTop (mkF m 252 #[.val (.long p0), .second, .val (.int p1), .val (.long v1), .second, .val (.ref b3), .val (.int (1 : Int32)), .val (.int v14), .val (.int v25), .val (.int v36)] [(.int v42), (.int v41)]))
  have hc44 : v41 = v42 := by rw [qv41, qv42]; exact own_b1 (own_k6 _ (own_t0 qv1))
  refine own_st (S' := T40.setTop (mkF m 255 #[.val (.long p0), .second, .val (.int p1), .val (.long v1), .second, .val (.ref b3), .val (.int (1 : Int32)), .val (.int v14), .val (.int v25), .val (.int v36)] [])) (fun t k => XS.icmpNo X40.here hx rfl (hb hby at_252) rfl (teq hc44).2 k) ?_
  show own_Go p.tables e below _ (T40.setTop (mkF m 255 #[.val (.long p0), .second, .val (.int p1), .val (.long v1), .second, .val (.ref b3), .val (.int (1 : Int32)), .val (.int v14), .val (.int v25), .val (.int v36)] []))
  refine own_st (S' := T40.setTop (mkF m 256 #[.val (.long p0), .second, .val (.int p1), .val (.long v1), .second, .val (.ref b3), .val (.int (1 : Int32)), .val (.int v14), .val (.int v25), .val (.int v36)] [(.int (1 : Int32))])) (fun t k => XS.iconst X40.here hx rfl (hb hby at_255) k) ?_
  refine own_st (S' := T40.setTop (mkF m 260 #[.val (.long p0), .second, .val (.int p1), .val (.long v1), .second, .val (.ref b3), .val (.int (1 : Int32)), .val (.int v14), .val (.int v25), .val (.int v36)] [(.int (1 : Int32))])) (fun t k => XS.goto X40.here hx rfl (pc0 := 256) (pc' := 260) rfl (hb hby at_256) (by decide) (by decide) k) ?_
  refine own_st (S' := T40.setTop (mkF m 262 #[.val (.long p0), .second, .val (.int p1), .val (.long v1), .second, .val (.ref b3), .val (.int (1 : Int32)), .val (.int v14), .val (.int v25), .val (.int v36)] [])) (fun t k => XS.istore X40.here hx rfl (hb hby at_260) rfl (l' := #[.val (.long p0), .second, .val (.int p1), .val (.long v1), .second, .val (.ref b3), .val (.int (1 : Int32)), .val (.int v14), .val (.int v25), .val (.int v36)]) rfl k) ?_
  refine own_st (S' := T40.setTop (mkF m 264 #[.val (.long p0), .second, .val (.int p1), .val (.long v1), .second, .val (.ref b3), .val (.int (1 : Int32)), .val (.int v14), .val (.int v25), .val (.int v36)] [(.int (1 : Int32))])) (fun t k => XS.iload X40.here hx rfl (hb hby at_262) rfl k) ?_
  refine own_retN X40 hx (t := .boolean) hret (by simp) hlk (hb hby at_264) ?_ (by decide) (by decide)
  rw [hh40]
  exact ⟨rfl, N40⟩
set_option maxRecDepth 65536 in
set_option maxHeartbeats 40000000 in
theorem comes_1 {Post : Tables → Env → Array Value → State → Outcome → State → Prop} (hpost : ∀ tb e args s v u, (limb_1_1.after args s (.returned v) u = true ∧ limb_1_2.after args s (.returned v) u = true ∧ True) → FrameEnd s (.returned v) u (Jvm.fieldLocs frame_1_writes args s ++ Jvm.arrayLocs frame_1_arrays args s ++ Jvm.staticLocs frame_1_statics s) 16 128 → Post tb e args s (.returned v) u) :
    ArmFor flags0 classFile x code maxLocals ret World_1 tables_1 room_1 Calls_1 rest_1 Pre_1 Post := by
  intro l hfl _ _ p e ha hc hk s m args below hf hA hF happ hP
  obtain ⟨hcalls, hrest, hpre⟩ := hP
  obtain ⟨-, -, -, hnamed, -, -, -, hat⟩ := (Spec.applies_iff hf).mp happ
  obtain ⟨hg, hn⟩ := and_e (Cond.before_iff.mp (show (Jvm.Cond.and given_1 narrow_1).before args s = true from hpre))
  obtain ⟨c0, d0⟩ := and_e hg
  obtain ⟨c1, d1⟩ := and_e d0
  obtain ⟨w0, w1, rfl⟩ : ∃ w0 w1 : Value, args = #[w0, w1] := by
    have hs : args.size = 2 := by simpa [Cond.value, given_1] using c0
    obtain ⟨L⟩ := args
    match L, hs with
    | [w0, w1], _ => exact ⟨w0, w1, rfl⟩
  have hw := fun d (hd : d ∈ tables_1) => atoms_spec (ws := Jvm.Cond.code x code maxLocals ret :: tables_1) hat d (List.mem_cons_of_mem _ hd)
  have hfit : Fit s := fun {y c} hc i hi => by
    obtain ⟨ha, rfl⟩ := Array.getElem?_eq_some_iff.mp hc
    have q := List.all_eq_true.mp ((Array.all_eq_true_iff_forall_mem.mp hF) _ (Array.getElem_mem ha)) i (List.mem_range.mpr hi)
    simpa [Array.getElem?_eq_getElem hi] using q
  obtain ⟨i0, ei0⟩ := isL_v c1
  obtain rfl : w0 = (.long i0) := Option.some.inj ei0
  obtain ⟨i1, ei1⟩ := is_v d1
  obtain rfl : w1 = (.int i1) := Option.some.inj ei1
  obtain ⟨n, o, h1, h2, h3, _, L, rfl, ⟨rfl, N⟩, hq⟩ := rm0 l s _ hw tables_1 i0 i1  s.heap s.heap.size (Nat.le_refl _)  p e ha hc hk s m _ below hf ((Spec.applies_iff_loose hf).mp happ).1 ⟨rfl, State.Warmed39.refl s, rfl⟩ trivial
  refine ⟨n, _, h1, h2, h3, hpost _ _ _ _ _ _ ⟨Cond.after_iff.mpr rfl, Cond.after_iff.mpr (eq_i res_at (Term.int_eval (1)) rfl), trivial⟩ ⟨hq.1, hq.2.1, (hq.2.2.sift fun y hy => Or.inr (N y hy)).mono (by decide) (by decide)⟩⟩
theorem main_1_1 : Claimed_1_1 := comes_1 fun _ _ _ _ _ _ h hF => ⟨h.1, hF⟩
theorem main_1_2 : Claimed_1_2 := comes_1 fun _ _ _ _ _ _ h hF => ⟨h.2.1, hF⟩
end Jvm.Pilot.@@N@@
namespace Jvm.Pilot.@@N@@
open Jvm Jvm.ClassFile Sem Op Lib Jvm.Free Jvm.Stand Jvm.Pilot.@@N@@.Jvm.D
/-! MADE BY PROGRAM (witnessworld.py) out of the Statement's table words and the real class files: 9 classes; the members and pool entries that the words name. The judged class is class 1, her method 1. -/
namespace start1
open Jvm.ClassFile
def u (s : String) : CpInfo := .utf8 (stringToUtf16 s)
/-- a pool by its gaps: so many unusable entries, then the entry; so many at the end -/
def gap : Nat → List CpInfo → List CpInfo
  | 0, r => r
  | n + 1, r => .unusable :: gap n r
def poolList (es : List (Nat × CpInfo)) (last : Nat) : List CpInfo := es.foldr (fun e r => gap e.1 (e.2 :: r)) (gap last [])
def pool (es : List (Nat × CpInfo)) (last : Nat) : Array CpInfo := ⟨poolList es last⟩
def fileOf (pool : Array CpInfo) (this : Nat) (attrs : Array Attribute := #[]) (ms : Array MethodInfo := #[]) (fl : Nat := 33) (sup : Nat := 0) (ifs : Array Nat := #[]) (fds : Array FieldInfo := #[]) : ClassFile where
  minorVersion := 0
  majorVersion := 65
  constantPool := pool
  accessFlags := fl
  thisClass := this
  superClass := sup
  interfaces := ifs
  fields := fds
  methods := ms
  attributes := attrs
def plain (name : String) (sup : Option ClassId) : Class where
  name := name
  kind := .ordinary
  loader := none
  accessFlags := 33
  super := sup
  interfaces := #[]
  cf := none
  fields := #[]
  methods := #[]
  instanceTypes := #[]
  staticTypes := #[]
  resolved := #[]
  callSites := []
  init := .initialized
  statics := none
  mirror := none

def pool0 : Array CpInfo := pool [(5, u "<init>"), (0, u "()V"), (1, .class_ 10), (1, u "java/lang/Object")] 113

def k0c0 : Code := { maxStack := 0, maxLocals := 1, code := object_method_1_code, exceptionTable := #[], attributes := #[] }
def k0m0 : Method := { name := "<init>", desc := "()V", sig := { parameters := [], returnType := none }, accessFlags := 1, code := some k0c0 }
/-- java/lang/Object -/
def k0 : Class := { plain "java/lang/Object" none with
  accessFlags := 33
  interfaces := #[]
  cf := some (fileOf pool0 8 #[] #[{ accessFlags := 1, nameIndex := 5, descriptorIndex := 6, attributes := #[] }] 33 0 #[] #[])
  fields := #[]
  methods := #[k0m0]
  instanceTypes := #[]
  staticTypes := #[]
  resolved := Array.replicate 124 none
  statics := none }

def pool1 : Array CpInfo := pool [(2, .class_ 4), (1, u "java/lang/Object"), (0, u "<init>"), (0, u "()V"), (0, .long 3), (3, .long 9223372036854775807), (1, .class_ 14), (0, u "com/example/deliberation/deliberation/agent/Budget"), (0, .methodref 13 16), (0, .nameAndType 5 17), (0, u "(J)V"), (0, .methodref 13 19), (0, .nameAndType 20 21), (0, u "isSpent"), (0, u "()Z"), (0, .methodref 13 23), (0, .nameAndType 24 21), (0, u "take"), (0, .long 2), (1, .class_ 28), (0, u "com/example/deliberation/deliberation/agent/BudgetTakePinLaw"), (2, u "law"), (0, u "(JI)Z")] 3

def k1m0 : Method := { name := "<init>", desc := "()V", sig := { parameters := [], returnType := none }, accessFlags := 1, code := none }
def k1c1 : Code := { maxStack := 5, maxLocals := 10, code := code, exceptionTable := #[], attributes := #[] }
def k1m1 : Method := { name := "law", desc := "(JI)Z", sig := { parameters := [.long, .int], returnType := some .boolean }, accessFlags := 9, code := some k1c1 }
/-- com/example/deliberation/deliberation/agent/BudgetTakePinLaw -/
def k1 : Class := { plain "com/example/deliberation/deliberation/agent/BudgetTakePinLaw" (some 0) with
  accessFlags := 49
  interfaces := #[]
  cf := some (fileOf pool1 27 #[] #[{ accessFlags := 1, nameIndex := 5, descriptorIndex := 6, attributes := #[] }, { accessFlags := 9, nameIndex := 31, descriptorIndex := 32, attributes := #[] }] 49 2 #[] #[])
  fields := #[]
  methods := #[k1m0, k1m1]
  instanceTypes := #[]
  staticTypes := #[]
  resolved := Array.replicate 36 none
  statics := none }

def pool2 : Array CpInfo := pool [(1, .methodref 2 3), (0, .class_ 4), (0, .nameAndType 5 6), (0, u "java/lang/Object"), (0, u "<init>"), (0, u "()V"), (0, .fieldref 8 9), (0, .class_ 10), (0, .nameAndType 11 12), (0, u "com/example/deliberation/deliberation/agent/Budget"), (0, u "left"), (0, u "J"), (0, u "(J)V"), (2, u "take"), (0, u "()Z"), (1, u "isSpent")] 2

def k2c0 : Code := { maxStack := 3, maxLocals := 3, code := prog_14_method_1_code, exceptionTable := #[], attributes := #[] }
def k2m0 : Method := { name := "<init>", desc := "(J)V", sig := { parameters := [.long], returnType := none }, accessFlags := 0, code := some k2c0 }
def k2c1 : Code := { maxStack := 5, maxLocals := 2, code := prog_14_method_2_code, exceptionTable := #[], attributes := #[] }
def k2m1 : Method := { name := "take", desc := "()Z", sig := { parameters := [], returnType := some .boolean }, accessFlags := 0, code := some k2c1 }
def k2c2 : Code := { maxStack := 4, maxLocals := 1, code := prog_14_method_3_code, exceptionTable := #[], attributes := #[] }
def k2m2 : Method := { name := "isSpent", desc := "()Z", sig := { parameters := [], returnType := some .boolean }, accessFlags := 0, code := some k2c2 }
/-- com/example/deliberation/deliberation/agent/Budget -/
def k2 : Class := { plain "com/example/deliberation/deliberation/agent/Budget" (some 0) with
  accessFlags := 48
  interfaces := #[]
  cf := some (fileOf pool2 8 #[] #[{ accessFlags := 0, nameIndex := 5, descriptorIndex := 13, attributes := #[] }, { accessFlags := 0, nameIndex := 16, descriptorIndex := 17, attributes := #[] }, { accessFlags := 0, nameIndex := 19, descriptorIndex := 17, attributes := #[] }] 48 2 #[] #[{ accessFlags := 2, nameIndex := 11, descriptorIndex := 12, attributes := #[] }])
  fields := #[{ name := "left", type := .long, accessFlags := 2, slot := 0, constantValue := 0 }]
  methods := #[k2m0, k2m1, k2m2]
  instanceTypes := #[.long]
  staticTypes := #[]
  resolved := Array.replicate 22 none
  statics := none }

def pool3 : Array CpInfo := pool [(1, u "java/lang/Cloneable"), (0, .class_ 1), (0, u "java/lang/Object"), (0, .class_ 3)] 3

/-- java/lang/Cloneable -/
def k3 : Class := { plain "java/lang/Cloneable" (some 0) with
  accessFlags := 1537
  interfaces := #[]
  cf := some (fileOf pool3 2 #[] #[] 1537 4 #[] #[])
  fields := #[]
  methods := #[]
  instanceTypes := #[]
  staticTypes := #[]
  resolved := Array.replicate 8 none
  statics := none }

def pool4 : Array CpInfo := pool [(1, u "java/io/Serializable"), (0, .class_ 1), (0, u "java/lang/Object"), (0, .class_ 3)] 3

/-- java/io/Serializable -/
def k4 : Class := { plain "java/io/Serializable" (some 0) with
  accessFlags := 1537
  interfaces := #[]
  cf := some (fileOf pool4 2 #[] #[] 1537 4 #[] #[])
  fields := #[]
  methods := #[]
  instanceTypes := #[]
  staticTypes := #[]
  resolved := Array.replicate 8 none
  statics := none }

/-- the primitive byte -/
def k5 : Class := { plain "byte" none with kind := .primitive 'B', accessFlags := 0x411 }
/-- [B -/
def k6 : Class := { plain "[B" (some 0) with kind := .array 5 .byte, interfaces := #[3, 4], accessFlags := 1041 }

/-- the primitive int -/
def k7 : Class := { plain "int" none with kind := .primitive 'I', accessFlags := 0x411 }
/-- [I -/
def k8 : Class := { plain "[I" (some 0) with kind := .array 7 .int, interfaces := #[3, 4], accessFlags := 1041 }

def heap : Heap := #[]
def classes : Array Class := #[k0, k1, k2, k3, k4, k5, k6, k7, k8]
def interned : List (Array UInt16 × Addr) := []
def slotsUsed : Nat := 0
def theMethod : MethodId := ⟨1, 1⟩
def args0 : Array Value := #[.long 5, .int 3]
def aboutOver (below : List Frame) : State where
  vm := { classes := classes, interned := interned.toArray }
  heap := heap
  slotsUsed := slotsUsed
  threads := #[{ frames := .invoking theMethod args0 :: below }]
def below0 : List Frame := [.native { method := ⟨0, 0⟩, args := #[] }]
def about1 : State := aboutOver below0
def p0 : Program := .bare "" "" ""
def e0 : Env := launch0.env 0 0 0
theorem w_frames : about1.frames = Frame.invoking theMethod args0 :: below0 := rfl
set_option maxRecDepth 65536 in
theorem w_args : argsFit about1.vm theMethod args0 = true := by decide +kernel
set_option maxRecDepth 65536 in
theorem w_heap : heapFits about1 = true := by decide +kernel
set_option maxRecDepth 65536 in
theorem w_runnable : about1.curStatus? = some .runnable := by decide +kernel
set_option maxRecDepth 65536 in
theorem w_alone : about1.alone = true := by decide +kernel
set_option maxRecDepth 65536 in
theorem w_named : about1.methodNamed? x = some theMethod := by decide +kernel
set_option maxRecDepth 65536 in
theorem w_hears : about1.hears theMethod below0 = true := by decide +kernel
set_option maxRecDepth 65536 in
theorem w_ripe : about1.ripe theMethod args0 below0 = true := by decide +kernel
theorem w_running : about1.status = .running := rfl
set_option maxRecDepth 65536 in
theorem w_room : about1.hasRoom e0.platform room_1 = true :=
  launch0.hasRoom_least _ room_1 (by decide +kernel) (by decide +kernel) (by decide +kernel) (by decide +kernel) (by decide +kernel) (by decide +kernel)
theorem allAtoms_all (ts : List Jvm.Cond) (a : Array Jvm.Value) (st : Jvm.State) : (allAtoms ts).before a st = ts.all (fun c => c.before a st) := by
  induction ts with
  | nil => rfl
  | cons c t ih =>
    show (Jvm.Cond.and c (allAtoms t)).before a st = _
    rw [Jvm.Cond.before_and, ih, List.all_cons]
def words1 : List Jvm.Cond := Jvm.Cond.code x code maxLocals ret :: tables_1
/-- a 'code' word, met by the world's own term for the bytes: nothing is compared byte by byte -/
theorem code_word {y : MethodName} {bytes : ByteArray} {mx : Nat} {rt : Option FieldType} {a : Array Value} {s : State} {m : MethodId} {meth : Method} {c : Code} (h1 : s.methodNamed? y = some m) (h2 : s.vm.method? m = some meth) (h3 : meth.code = some c) (h4 : c.code = bytes)
    (h5 : (c.maxLocals == mx && c.exceptionTable.isEmpty && decide (c.maxStack ≤ mostOperands) && decide (meth.sig.returnType = rt) && !meth.locks && decide (parseMethodDescriptor y.desc = some meth.sig)) = true) : (Jvm.Cond.code y bytes mx rt).before a s = true := by
  simp only [Bool.and_eq_true, beq_iff_eq, Bool.not_eq_true', decide_eq_true_eq] at h5
  obtain ⟨⟨⟨⟨⟨g1, g2⟩, g3⟩, g4⟩, g5⟩, g6⟩ := h5
  simp [Cond.before, Cond.holds, Cond.value, h1, h2, h3, h4, g1, g2, g3, g4, g5, g6]
def isCode : Jvm.Cond → Bool
  | .code _ _ _ _ => true
  | _ => false
theorem all_split {L : List Jvm.Cond} {P : Jvm.Cond → Bool} (h1 : L.all (fun c => isCode c || P c) = true) (h2 : ∀ c ∈ L.filter isCode, P c = true) : L.all P = true := by
  refine List.all_eq_true.mpr fun c hc => ?_
  have h := List.all_eq_true.mp h1 c hc
  rcases Bool.eq_false_or_eq_true (isCode c) with hi | hi
  · exact h2 c (List.mem_filter.mpr ⟨hc, hi⟩)
  · simpa [hi] using h
set_option maxRecDepth 65536 in
theorem w_c0 : (Jvm.Cond.code x code maxLocals ret).before args0 about1 = true := code_word (m := ⟨1, 1⟩) (meth := k1m1) (c := k1c1) (by decide +kernel) rfl rfl rfl (by decide +kernel)
set_option maxRecDepth 65536 in
theorem w_c1 : (Jvm.Cond.code ({ cls := "com/example/deliberation/deliberation/agent/Budget", name := "<init>", desc := "(J)V" } : Jvm.MethodName) prog_14_method_1_code (3 : Nat) (Option.none : Option Jvm.ClassFile.FieldType)).before args0 about1 = true := code_word (m := ⟨2, 0⟩) (meth := k2m0) (c := k2c0) (by decide +kernel) rfl rfl rfl (by decide +kernel)
set_option maxRecDepth 65536 in
theorem w_c2 : (Jvm.Cond.code ({ cls := "java/lang/Object", name := "<init>", desc := "()V" } : Jvm.MethodName) object_method_1_code (1 : Nat) (Option.none : Option Jvm.ClassFile.FieldType)).before args0 about1 = true := code_word (m := ⟨0, 0⟩) (meth := k0m0) (c := k0c0) (by decide +kernel) rfl rfl rfl (by decide +kernel)
set_option maxRecDepth 65536 in
theorem w_c3 : (Jvm.Cond.code ({ cls := "com/example/deliberation/deliberation/agent/Budget", name := "isSpent", desc := "()Z" } : Jvm.MethodName) prog_14_method_3_code (1 : Nat) (Option.some Jvm.ClassFile.FieldType.boolean)).before args0 about1 = true := code_word (m := ⟨2, 2⟩) (meth := k2m2) (c := k2c2) (by decide +kernel) rfl rfl rfl (by decide +kernel)
set_option maxRecDepth 65536 in
theorem w_c4 : (Jvm.Cond.code ({ cls := "com/example/deliberation/deliberation/agent/Budget", name := "take", desc := "()Z" } : Jvm.MethodName) prog_14_method_2_code (2 : Nat) (Option.some Jvm.ClassFile.FieldType.boolean)).before args0 about1 = true := code_word (m := ⟨2, 1⟩) (meth := k2m1) (c := k2c1) (by decide +kernel) rfl rfl rfl (by decide +kernel)
def codes1 : List Jvm.Cond := [Jvm.Cond.code x code maxLocals ret, Jvm.Cond.code ({ cls := "com/example/deliberation/deliberation/agent/Budget", name := "<init>", desc := "(J)V" } : Jvm.MethodName) prog_14_method_1_code (3 : Nat) (Option.none : Option Jvm.ClassFile.FieldType), Jvm.Cond.code ({ cls := "java/lang/Object", name := "<init>", desc := "()V" } : Jvm.MethodName) object_method_1_code (1 : Nat) (Option.none : Option Jvm.ClassFile.FieldType), Jvm.Cond.code ({ cls := "com/example/deliberation/deliberation/agent/Budget", name := "isSpent", desc := "()Z" } : Jvm.MethodName) prog_14_method_3_code (1 : Nat) (Option.some Jvm.ClassFile.FieldType.boolean), Jvm.Cond.code ({ cls := "com/example/deliberation/deliberation/agent/Budget", name := "take", desc := "()Z" } : Jvm.MethodName) prog_14_method_2_code (2 : Nat) (Option.some Jvm.ClassFile.FieldType.boolean)]
set_option maxRecDepth 65536 in
theorem codes_eq : words1.filter isCode = codes1 := rfl
theorem w_codes : ∀ c ∈ words1.filter isCode, c.before args0 about1 = true := by
  rw [codes_eq]
  intro c hc
  simp only [codes1, List.mem_cons, List.not_mem_nil, or_false] at hc
  rcases hc with rfl | rfl | rfl | rfl | rfl
  · exact w_c0
  · exact w_c1
  · exact w_c2
  · exact w_c3
  · exact w_c4
set_option maxRecDepth 65536 in
theorem w_t1 : (words1.take 24).all (fun c => isCode c || c.before args0 about1) = true := by decide +kernel
set_option maxRecDepth 65536 in
theorem w_t2 : (words1.drop 24).all (fun c => isCode c || c.before args0 about1) = true := by decide +kernel
theorem w_tables : (allAtoms (Jvm.Cond.code x code maxLocals ret :: tables_1)).before args0 about1 = true := by
  rw [allAtoms_all]
  show words1.all (fun c => c.before args0 about1) = true
  refine all_split ?_ w_codes
  rw [← List.take_append_drop 24 words1, List.all_append, w_t1, w_t2]
  rfl
set_option maxRecDepth 65536 in
theorem w_case : (Jvm.Cond.and given_1 narrow_1).before args0 about1 = true := by decide +kernel
theorem w_applies : (headSpec (Jvm.Cond.code x code maxLocals ret :: tables_1) room_1).applies x e0.platform about1 = true :=
  (Spec.applies_iff w_frames).mpr ⟨w_running, w_runnable, w_alone, w_named, w_hears, w_ripe, w_room, w_tables⟩
theorem atStart : AtStart classFile x code maxLocals ret World_1 tables_1 room_1 Calls_1 rest_1 Pre_1 launch0 p0 e0 about1 theMethod args0 below0 :=
  ⟨lists_1, trivial, launch0.admits_env _ _ _, launch0.least_env, fairChoices_fair.cas, fairChoices_fair.clock, w_frames, w_args, w_heap, w_applies, trivial, trivial, w_case⟩
end start1
theorem witness_1 : WitnessClaimed_1 := ⟨start1.p0, start1.e0, start1.about1, start1.theMethod, start1.args0, start1.below0, start1.atStart⟩
end Jvm.Pilot.@@N@@
