import JvmDerived
import JvmDerived.Pilot.@@N@@Statement
import JvmDerived.Pilot.@@N@@Code
set_option linter.unusedVariables false
set_option linter.unusedSimpArgs false
namespace Jvm.Pilot.@@N@@
open Jvm Jvm.ClassFile Sem Op Lib Jvm.Free Jvm.Stand Jvm.LawKit Jvm.RoadKit Bundle Jvm.Pilot.@@N@@.Jvm.D
section Own
variable {p : Program} {l : Launch} {e : Env} {R : Room} {s : State} {m : MethodId} {args : Array Value} {below : List Frame} {meth : Method} {c : Code} {T : State} {locs : List Loc} {cells slots : Nat} {Q : Option Value → Heap → List Loc → Prop} {k n : Nat}
/-- from this state the body comes to an end that meets Φ -/
def own_Go (tb : Tables) (e : Env) (below : List Frame) (Φ : Outcome → State → Prop) (S : State) : Prop :=
  ∃ U o, Steps tb e below S U ∧ U.status = .running ∧ Ended U below o ∧ Φ o U
/-- it returned; what it leaves meets Q; nothing else moved -/
def own_F (s : State) (Q : Option Value → Heap → List Loc → Prop) (k n : Nat) (o : Outcome) (U : State) : Prop := ∃ v L, o = .returned v ∧ Q v U.heap L ∧ FrameEnd s o U L k n
theorem own_st {tb : Tables} {Φ : Outcome → State → Prop} {S S' : State} (h : ∀ t, Steps tb e below S' t → Steps tb e below S t) (g : own_Go tb e below Φ S') : own_Go tb e below Φ S := by
  obtain ⟨U, o, h1, r⟩ := g
  exact ⟨U, o, h _ h1, r⟩
theorem own_tr {tb : Tables} {Φ : Outcome → State → Prop} {S S' : State} (h : Steps tb e below S S') (g : own_Go tb e below Φ S') : own_Go tb e below Φ S := by
  obtain ⟨U, o, h1, r⟩ := g
  exact ⟨U, o, h.trans h1, r⟩
theorem own_end (X : Stand p l e R s m args below meth c T locs cells slots) (v : Option Value) (hv : meth.sig.returnType = none → v = none) (hlk : meth.locks = false) (hq : Q v T.heap locs) (hk : cells ≤ k) (hn : slots ≤ n) {S : State}
    (hs : ∀ fs, (∀ (f : JFrame) (acts : List Action), f.method = m → f.locked = none → f.entered = [] → (doReturn e (T.setTop f) acts v).1 = T.setFrames fs) → Steps p.tables e below S (T.setFrames fs)) : own_Go p.tables e below (own_F s Q k n) S := by
  obtain ⟨fs, hr, hrun, hended, hW, hsame⟩ := X.leave (v := v) hv hlk
  exact ⟨_, _, hs fs hr, hrun, hended, v, locs, rfl, hq, ⟨_, rfl⟩, hW, hsame.mono hk hn⟩
theorem own_retN (X : Stand p l e R s m args below meth c T locs cells slots) (hx : p.tables.exec = Jvm.exec) {pc : Nat} {Ls : Array Slot} {z : Int32} {t : FieldType} {rest : List Value} (hret : meth.sig.returnType = some t) (ht : t = .boolean ∨ t = .byte ∨ t = .char ∨ t = .short) (hlk : meth.locks = false)
    (hd : decode c.code pc = .ok (.ireturn, 1)) (hq : Q (some (.int (nar t z))) T.heap locs) (hk : cells ≤ k) (hn : slots ≤ n) : own_Go p.tables e below (own_F s Q k n) (T.setTop (mkF m pc Ls (.int z :: rest))) :=
  own_end X _ (fun h => by rw [hret] at h; cases h) hlk hq hk hn fun fs hr => retN X hx hret ht hd hr
theorem own_retI (X : Stand p l e R s m args below meth c T locs cells slots) (hx : p.tables.exec = Jvm.exec) {pc : Nat} {Ls : Array Slot} {z : Int32} {rest : List Value} (hret : meth.sig.returnType = some .int) (hlk : meth.locks = false)
    (hd : decode c.code pc = .ok (.ireturn, 1)) (hq : Q (some (.int z)) T.heap locs) (hk : cells ≤ k) (hn : slots ≤ n) : own_Go p.tables e below (own_F s Q k n) (T.setTop (mkF m pc Ls (.int z :: rest))) :=
  own_end X _ (fun h => by rw [hret] at h; cases h) hlk hq hk hn fun fs hr => retOut X hx hret rfl (Or.inl ⟨rfl, Or.inl rfl, z, rfl⟩) hd hr
theorem own_retL (X : Stand p l e R s m args below meth c T locs cells slots) (hx : p.tables.exec = Jvm.exec) {pc : Nat} {Ls : Array Slot} {z : Int64} {rest : List Value} (hret : meth.sig.returnType = some .long) (hlk : meth.locks = false)
    (hd : decode c.code pc = .ok (.lreturn, 1)) (hq : Q (some (.long z)) T.heap locs) (hk : cells ≤ k) (hn : slots ≤ n) : own_Go p.tables e below (own_F s Q k n) (T.setTop (mkF m pc Ls (.long z :: rest))) :=
  own_end X _ (fun h => by rw [hret] at h; cases h) hlk hq hk hn fun fs hr => retOut X hx hret rfl (Or.inr (Or.inl ⟨rfl, rfl, z, rfl⟩)) hd hr
theorem own_retA (X : Stand p l e R s m args below meth c T locs cells slots) (hx : p.tables.exec = Jvm.exec) {pc : Nat} {Ls : Array Slot} {w : Value} {t : FieldType} {rest : List Value} (hret : meth.sig.returnType = some t) (ht : t.isReference = true) (hw : w.isRef = true) (hnw : narrow t w = w) (hlk : meth.locks = false)
    (hd : decode c.code pc = .ok (.areturn, 1)) (hq : Q (some w) T.heap locs) (hk : cells ≤ k) (hn : slots ≤ n) : own_Go p.tables e below (own_F s Q k n) (T.setTop (mkF m pc Ls (w :: rest))) :=
  own_end X _ (fun h => by rw [hret] at h; cases h) hlk hq hk hn fun fs hr => retOut X hx hret hnw (Or.inr (Or.inr (Or.inr (Or.inr ⟨rfl, ht, hw⟩)))) hd hr
theorem own_retV (X : Stand p l e R s m args below meth c T locs cells slots) (hx : p.tables.exec = Jvm.exec) {pc : Nat} {Ls : Array Slot} (hret : meth.sig.returnType = none) (hlk : meth.locks = false)
    (hd : decode c.code pc = .ok (.return_, 1)) (hq : Q none T.heap locs) (hk : cells ≤ k) (hn : slots ≤ n) : own_Go p.tables e below (own_F s Q k n) (T.setTop (mkF m pc Ls [])) :=
  own_end X _ (fun _ => rfl) hlk hq hk hn fun fs hr => X.returnOut hx hret hd hr
theorem own_body {y : MethodName} {cd : ByteArray} {mx : Nat} {rt : Option FieldType} {ws : List Jvm.Cond} {rm : Room} {Z : State} {h0 : Heap} {as : Array Value} (hp : plainFor y = true)
    (go : ∀ (p : Program) (e : Env) (s : State) (m : MethodId) (below : List Frame) (meth : Method) (c : Code) (s₁ : State), p.tables.exec = Jvm.exec → c.code = cd → c.maxLocals = mx → s.vm.findClass y.cls = some m.cls → meth.name = y.name → meth.sig.returnType = rt → meth.locks = false → Z.Warmed39 s.vm →
      Stand p l e rm s m as below meth c s₁ [] 0 0 → s₁.heap = h0 → own_Go p.tables e below (own_F s Q rm.cells rm.slots) (s₁.setTop (entryFrame m as mx))) :
    MetFree l y (head1 (Jvm.Cond.code y cd mx rt :: ws) rm) (fun a U => a = as ∧ Z.Warmed39 U.vm ∧ U.heap = h0) (fun _ _ _ _ _ => True) (fun _ U o U' => ∃ v L, o = .returned v ∧ Q v U'.heap L ∧ FrameEnd U o U' L rm.cells rm.slots) := by
  refine MetFree.of_bodySF hp hisR ?_
  intro p e s m args below meth c s₁ Bd hml0 hP hK
  obtain ⟨rfl, hZ, hh⟩ := hP
  exact go p e s m below meth c s₁ Bd.exec Bd.bytes hml0 (findClass_of_methodNamed Bd.named) (name_of_methodNamed Bd.named Bd.method).1 Bd.returns Bd.notSynchronized hZ (Stand.of_body Bd) (by rw [← hh, Bd.state]; rfl)
end Own
theorem own_narb {P : Prop} [Decidable P] : nar .boolean (if P then (1 : Int32) else (0 : Int32)) = if P then (1 : Int32) else (0 : Int32) := by split <;> rfl
/-- an array by its length and what each place holds -/
def own_A (Z : State) (h : Heap) (a : Addr) (ty : FieldType) (n : Nat) (f : Nat → Value) : Prop := ∃ c : Cell, Arr Z h a c ty ∧ c.slots.size = n ∧ n < 2 ^ 31 ∧ ∀ j, j < n → c.slots[j]? = some (f j)
def own_up (f : Nat → Value) (i : Nat) (v : Value) : Nat → Value := fun j => if j = i then v else f j
def own_Ix (j : Int32) (i n : Nat) : Prop := ¬ j < 0 ∧ j.toNatClampNeg = i ∧ i < n
section Arrs
variable {Z : State} {h h' : Heap} {a b : Addr} {ty : FieldType} {n i : Nat} {f : Nat → Value} {v : Value} {sl : Nat} {ws : List Addr} {c : Cell} {j z : Int32}
theorem own_A.lt (F : own_A Z h a ty n f) : a < h.size := by obtain ⟨c, A, -⟩ := F; exact A.lt
theorem own_A.ext (F : own_A Z h a ty n f) (E : Ext h h') : own_A Z h' a ty n f := by obtain ⟨c, A, r⟩ := F; exact ⟨c, A.ext E, r⟩
theorem own_A.other (F : own_A Z h b ty n f) (W : Wr h h' a sl v) (q : b ≠ a) : own_A Z h' b ty n f := by obtain ⟨c, A, r⟩ := F; exact ⟨c, A.other W q, r⟩
theorem own_A.keep (F : own_A Z h a ty n f) (K : Keep h h' ws) (q : a ∉ ws) : own_A Z h' a ty n f := by obtain ⟨c, A, r⟩ := F; exact ⟨c, ⟨K.2.1 a c A.1 q, A.2⟩, r⟩
theorem own_clamp (z : Int32) : z.toNatClampNeg < 2 ^ 31 := by
  have := Int32.toInt_lt z
  simp only [Int32.toNatClampNeg]; omega
theorem own_A.new {k : ClassId} (A : Arr Z h a (newA k ty z) ty) (hz : z.toNatClampNeg = n) : own_A Z h a ty n (fun _ => defaultValue ty) := by
  refine ⟨_, A, by rw [sz_new, hz], by rw [← hz]; exact own_clamp z, fun j hj => ?_⟩
  simp [newA, hz, hj]
theorem own_ix (h1 : ¬ j < 0) (h2 : j.toNatClampNeg = i) (h3 : i < n) : own_Ix j i n := ⟨h1, h2, h3⟩
theorem own_in (S : c.slots.size = n) (h : own_Ix j i n) : ¬ (j < 0 ∨ c.slots.size ≤ j.toNatClampNeg) := by
  obtain ⟨h1, h2, h3⟩ := h
  rw [S, h2]
  exact fun q => q.elim h1 (fun r => absurd h3 (Nat.not_lt.mpr r))
theorem own_at (S : c.slots.size = n) (V : ∀ j, j < n → c.slots[j]? = some (f j)) (h : own_Ix j i n) (hv : f i = v) : c.slots[j.toNatClampNeg]? = some v := by
  obtain ⟨h1, h2, h3⟩ := h
  rw [h2, V i h3, hv]
theorem own_A.set (F : own_A Z h a ty n f) (hj : own_Ix j i n) (W : Wr h h' a j.toNatClampNeg v) : own_A Z h' a ty n (own_up f i v) := by
  obtain ⟨c, A, S, M, V⟩ := F
  obtain ⟨h1, h2, h3⟩ := hj
  rw [h2] at W
  refine ⟨c.setSlot i v, A.same W, by rw [sz_set]; exact S, M, fun j' hj' => ?_⟩
  show (c.slots.setIfInBounds i v)[j']? = _
  unfold own_up
  by_cases e : j' = i
  · subst e; rw [if_pos rfl]; simp [S, hj']
  · rw [if_neg e, Array.getElem?_setIfInBounds_ne (Ne.symm e)]; exact V j' hj'
theorem own_A.cong {g : Nat → Value} (F : own_A Z h a ty n f) (q : ∀ j, j < n → f j = g j) : own_A Z h a ty n g := by
  obtain ⟨c, A, S, M, V⟩ := F
  exact ⟨c, A, S, M, fun j hj => by rw [V j hj, q j hj]⟩
end Arrs
/-- a short array's values by a list -/
def own_V (vs : List Value) : Nat → Value := fun j => vs.getD j .null
theorem own_selP {Z s : State} {a0 args : Array Value} {y : MethodName} {n : Nat} (hZ : Z.Warmed39 s.vm) (wi : (Jvm.Cond.instantiable y.cls n).before a0 Z = true) (wp : (Jvm.Cond.privateMethod y).before a0 Z = true) (wm : (Jvm.Cond.instanceMethod y).before a0 Z = true)
    (hy : y.cls ≠ "java/lang/invoke/MethodHandle" ∧ y.cls ≠ "java/lang/invoke/VarHandle") : (Jvm.Cond.selects y.cls y y).before args s = true := by
  have w : (Jvm.Cond.instantiable y.cls n).before args s = true := mvT hZ wi
  obtain ⟨c, k, h1, h2, -, h4, -⟩ := Cond.instantiable_spec w
  exact selects_self_of_private h1 h2 (Bool.or_eq_false_iff.mp h4).1 (Cond.privateMethod_at (mvP hZ wp (args := #[]))) (mvT hZ wm) hy
section OwnW
variable {p : Program} {l : Launch} {e : Env} {R : Room} {s : State} {vm0 : Vm} {k0 : Nat} {m : MethodId} {args : Array Value} {below : List Frame} {meth : Method} {c : Code} {T : State} {locs : List Loc} {cells slots : Nat} {Q : Option Value → Heap → List Loc → Prop} {k n : Nat}
/-- as own_F, of a body that may load String constants -/
def own_FW (s : State) (Q : Option Value → Heap → List Loc → Prop) (k n : Nat) (o : Outcome) (U : State) : Prop := ∃ v L, o = .returned v ∧ Q v U.heap L ∧ ReturnedEndW s o U L k n
theorem own_endW (X : Stand p l e R (s.setVm vm0) m args below meth c T locs cells slots) (hS : s.Since vm0 k0) (hk0 : k0 ≤ T.heap.size) (v : Option Value) (hv : meth.sig.returnType = none → v = none) (hlk : meth.locks = false) (hq : Q v T.heap locs) (hk : cells ≤ k) (hn : slots ≤ n) {S : State}
    (hs : ∀ fs, (∀ (f : JFrame) (acts : List Action), f.method = m → f.locked = none → f.entered = [] → (doReturn e (T.setTop f) acts v).1 = T.setFrames fs) → Steps p.tables e below S (T.setFrames fs)) : own_Go p.tables e below (own_FW s Q k n) S := by
  obtain ⟨fs, hr, hrun, hended, hW, hsame⟩ := X.leave (v := v) hv hlk
  obtain ⟨h1, h2, h3⟩ := hS.ended (U := T.setFrames fs) hW hk0 hsame
  exact ⟨_, _, hs fs hr, hrun, hended, v, locs, rfl, hq, ⟨_, rfl⟩, h1, h2, h3.mono hk hn⟩
theorem own_retNW (X : Stand p l e R (s.setVm vm0) m args below meth c T locs cells slots) (hS : s.Since vm0 k0) (hk0 : k0 ≤ T.heap.size) (hx : p.tables.exec = Jvm.exec) {pc : Nat} {Ls : Array Slot} {z : Int32} {t : FieldType} {rest : List Value} (hret : meth.sig.returnType = some t) (ht : t = .boolean ∨ t = .byte ∨ t = .char ∨ t = .short) (hlk : meth.locks = false)
    (hd : decode c.code pc = .ok (.ireturn, 1)) (hq : Q (some (.int (nar t z))) T.heap locs) (hk : cells ≤ k) (hn : slots ≤ n) : own_Go p.tables e below (own_FW s Q k n) (T.setTop (mkF m pc Ls (.int z :: rest))) :=
  own_endW X hS hk0 _ (fun h => by rw [hret] at h; cases h) hlk hq hk hn fun fs hr => retN X hx hret ht hd hr
theorem own_retVW (X : Stand p l e R (s.setVm vm0) m args below meth c T locs cells slots) (hS : s.Since vm0 k0) (hk0 : k0 ≤ T.heap.size) (hx : p.tables.exec = Jvm.exec) {pc : Nat} {Ls : Array Slot} (hret : meth.sig.returnType = none) (hlk : meth.locks = false)
    (hd : decode c.code pc = .ok (.return_, 1)) (hq : Q none T.heap locs) (hk : cells ≤ k) (hn : slots ≤ n) : own_Go p.tables e below (own_FW s Q k n) (T.setTop (mkF m pc Ls [])) :=
  own_endW X hS hk0 _ (fun _ => rfl) hlk hq hk hn fun fs hr => X.returnOut hx hret hd hr
theorem own_bodyW {y : MethodName} {cd : ByteArray} {mx : Nat} {rt : Option FieldType} {ws : List Jvm.Cond} {rm : Room} {Z : State} {h0 : Heap} {as : Array Value} (hp : plainFor y = true)
    (go : ∀ (p : Program) (e : Env) (s : State) (m : MethodId) (below : List Frame) (meth : Method) (c : Code) (s₁ : State), p.tables.exec = Jvm.exec → c.code = cd → c.maxLocals = mx → s.vm.findClass y.cls = some m.cls → meth.name = y.name → meth.sig.returnType = rt → meth.locks = false → Z.Warmed39 s.vm →
      Stand p l e rm s m as below meth c s₁ [] 0 0 → s₁.heap = h0 → own_Go p.tables e below (own_FW s Q rm.cells rm.slots) (s₁.setTop (entryFrame m as mx))) :
    MetFree l y (head1 (Jvm.Cond.code y cd mx rt :: ws) rm) (fun a U => a = as ∧ Z.Warmed39 U.vm ∧ U.heap = h0) (fun _ _ _ _ _ => True) (fun _ U o U' => ∃ v L, o = .returned v ∧ Q v U'.heap L ∧ ReturnedEndW U o U' L rm.cells rm.slots) := by
  refine MetFree.of_bodySF hp hisR ?_
  intro p e s m args below meth c s₁ Bd hml0 hP hK
  obtain ⟨rfl, hZ, hh⟩ := hP
  exact go p e s m below meth c s₁ Bd.exec Bd.bytes hml0 (findClass_of_methodNamed Bd.named) (name_of_methodNamed Bd.named Bd.method).1 Bd.returns Bd.notSynchronized hZ (Stand.of_body Bd) (by rw [← hh, Bd.state]; rfl)
end OwnW

theorem own_wS {Z : State} {a0 : Array Value} (hw : ∀ d ∈ tables_1, d.before a0 Z = true) : ∀ a ∈ Bundle.stringAtoms, a.before a0 Z = true := by
  intro d hd
  simp only [Bundle.stringAtoms, List.mem_cons, List.not_mem_nil, or_false] at hd
  rcases hd with rfl | rfl | rfl | rfl | rfl | rfl | rfl
  · exact (hw _ (List.mem_of_getElem? (i := 8) rfl))
  · exact (hw _ (List.mem_of_getElem? (i := 9) rfl))
  · exact (hw _ (List.mem_of_getElem? (i := 10) rfl))
  · exact (hw _ (List.mem_of_getElem? (i := 11) rfl))
  · exact (hw _ (List.mem_of_getElem? (i := 12) rfl))
  · exact (hw _ (List.mem_of_getElem? (i := 13) rfl))
  · exact (hw _ (List.mem_of_getElem? (i := 14) rfl))
def own_probe (e n p : Int64) (sel : Int32) : Int64 :=
  if (sel &&& (7 : Int32)) = (1 : Int32) then e else if (sel &&& (7 : Int32)) = (2 : Int32) then (e + (1 : Int64)) else if (sel &&& (7 : Int32)) = (3 : Int32) then n else if (sel &&& (7 : Int32)) = (4 : Int32) then (n + (1 : Int64))
  else if (sel &&& (7 : Int32)) = (5 : Int32) then (e - (1 : Int64)) else if (sel &&& (7 : Int32)) = (6 : Int32) then (-9223372036854775808 : Int64) else if (sel &&& (7 : Int32)) = (7 : Int32) then (9223372036854775807 : Int64) else p
theorem own_lt (x y : Int64) : x < y ↔ x.toInt < y.toInt := Int64.lt_iff_toInt_lt
theorem own_eq (x y : Int64) : x = y ↔ x.toInt = y.toInt := Int64.toInt_inj.symm
theorem own_main {e n q m1 m2 : Int64} {g v11 v12 v13 v14 : Int32} (hg : g = (if e < q then (if n < q then (0 : Int32) else (1 : Int32)) else (0 : Int32))) (h1 : m1 = (if q < e then e else q)) (h2 : m2 = (if n < q then n else q))
    (q11 : v11 = (if m1 = q then (1 : Int32) else (0 : Int32))) (q12 : v12 = (if m1 = q then (if q = e then (0 : Int32) else (1 : Int32)) else (0 : Int32))) (q13 : v13 = (if m2 = q then (1 : Int32) else (0 : Int32)))
    (q14 : v14 = (if v12 = (0 : Int32) then (0 : Int32) else v13)) : g = v14 := by
  have a : m1 = q ↔ ¬ q < e := by
    rw [h1]
    split
    · rename_i c
      rw [own_lt] at c
      rw [own_eq, own_lt]
      omega
    · rename_i c
      exact ⟨fun _ => c, fun _ => rfl⟩
  have b : m2 = q ↔ ¬ n < q := by
    rw [h2]
    split
    · rename_i c
      rw [own_lt] at c
      rw [own_eq, own_lt]
      omega
    · rename_i c
      exact ⟨fun _ => c, fun _ => rfl⟩
  by_cases c1 : e < q
  · have c2 : ¬ q < e := by rw [own_lt] at c1 ⊢; omega
    have c3 : ¬ q = e := by rw [own_lt] at c1; rw [own_eq]; omega
    rw [if_pos (a.mpr c2), if_neg c3] at q12
    rw [hg, q14, q12, if_pos c1, if_neg (show ¬ (1 : Int32) = 0 by decide), q13]
    by_cases c4 : n < q
    · rw [if_pos c4, if_neg (fun z => b.mp z c4)]
    · rw [if_neg c4, if_pos (b.mpr c4)]
  · rw [hg, if_neg c1, q14]
    have c5 : v12 = 0 := by
      rw [q12]
      by_cases c6 : q < e
      · rw [if_neg (fun z => a.mp z c6)]
      · rw [if_pos (a.mpr c6), if_pos (by rw [own_lt] at c1 c6; rw [own_eq]; omega)]
    rw [if_pos c5]
theorem d1_0 : decode method_2_code 0 = .ok (.iload 6, 2) := by decide +kernel
theorem d1_2 : decode method_2_code 2 = .ok (.bipush 7, 2) := by decide +kernel
theorem d1_4 : decode method_2_code 4 = .ok (.iand, 1) := by decide +kernel
theorem d1_5 : decode method_2_code 5 = .ok (.istore 7, 2) := by decide +kernel
theorem d1_7 : decode method_2_code 7 = .ok (.iload 7, 2) := by decide +kernel
theorem d1_9 : decode method_2_code 9 = .ok (.iconst 1, 1) := by decide +kernel
theorem d1_10 : decode method_2_code 10 = .ok (.if_icmp .ne 5, 3) := by decide +kernel
theorem d1_13 : decode method_2_code 13 = .ok (.lload_n 0, 1) := by decide +kernel
theorem d1_14 : decode method_2_code 14 = .ok (.lreturn, 1) := by decide +kernel
theorem d1_15 : decode method_2_code 15 = .ok (.iload 7, 2) := by decide +kernel
theorem d1_17 : decode method_2_code 17 = .ok (.iconst 2, 1) := by decide +kernel
theorem d1_18 : decode method_2_code 18 = .ok (.if_icmp .ne 7, 3) := by decide +kernel
theorem d1_21 : decode method_2_code 21 = .ok (.lload_n 0, 1) := by decide +kernel
theorem d1_22 : decode method_2_code 22 = .ok (.lconst 1, 1) := by decide +kernel
theorem d1_23 : decode method_2_code 23 = .ok (.ladd, 1) := by decide +kernel
theorem d1_24 : decode method_2_code 24 = .ok (.lreturn, 1) := by decide +kernel
theorem d1_25 : decode method_2_code 25 = .ok (.iload 7, 2) := by decide +kernel
theorem d1_27 : decode method_2_code 27 = .ok (.iconst 3, 1) := by decide +kernel
theorem d1_28 : decode method_2_code 28 = .ok (.if_icmp .ne 5, 3) := by decide +kernel
theorem d1_31 : decode method_2_code 31 = .ok (.lload_n 2, 1) := by decide +kernel
theorem d1_32 : decode method_2_code 32 = .ok (.lreturn, 1) := by decide +kernel
theorem d1_33 : decode method_2_code 33 = .ok (.iload 7, 2) := by decide +kernel
theorem d1_35 : decode method_2_code 35 = .ok (.iconst 4, 1) := by decide +kernel
theorem d1_36 : decode method_2_code 36 = .ok (.if_icmp .ne 7, 3) := by decide +kernel
theorem d1_39 : decode method_2_code 39 = .ok (.lload_n 2, 1) := by decide +kernel
theorem d1_40 : decode method_2_code 40 = .ok (.lconst 1, 1) := by decide +kernel
theorem d1_41 : decode method_2_code 41 = .ok (.ladd, 1) := by decide +kernel
theorem d1_42 : decode method_2_code 42 = .ok (.lreturn, 1) := by decide +kernel
theorem d1_43 : decode method_2_code 43 = .ok (.iload 7, 2) := by decide +kernel
theorem d1_45 : decode method_2_code 45 = .ok (.iconst 5, 1) := by decide +kernel
theorem d1_46 : decode method_2_code 46 = .ok (.if_icmp .ne 7, 3) := by decide +kernel
theorem d1_49 : decode method_2_code 49 = .ok (.lload_n 0, 1) := by decide +kernel
theorem d1_50 : decode method_2_code 50 = .ok (.lconst 1, 1) := by decide +kernel
theorem d1_51 : decode method_2_code 51 = .ok (.lsub, 1) := by decide +kernel
theorem d1_52 : decode method_2_code 52 = .ok (.lreturn, 1) := by decide +kernel
theorem d1_53 : decode method_2_code 53 = .ok (.iload 7, 2) := by decide +kernel
theorem d1_55 : decode method_2_code 55 = .ok (.bipush 6, 2) := by decide +kernel
theorem d1_57 : decode method_2_code 57 = .ok (.if_icmp .ne 7, 3) := by decide +kernel
theorem d1_60 : decode method_2_code 60 = .ok (.ldc2_w 9, 3) := by decide +kernel
theorem d1_63 : decode method_2_code 63 = .ok (.lreturn, 1) := by decide +kernel
theorem d1_64 : decode method_2_code 64 = .ok (.iload 7, 2) := by decide +kernel
theorem d1_66 : decode method_2_code 66 = .ok (.bipush 7, 2) := by decide +kernel
theorem d1_68 : decode method_2_code 68 = .ok (.if_icmp .ne 7, 3) := by decide +kernel
theorem d1_71 : decode method_2_code 71 = .ok (.ldc2_w 11, 3) := by decide +kernel
theorem d1_74 : decode method_2_code 74 = .ok (.lreturn, 1) := by decide +kernel
theorem d1_75 : decode method_2_code 75 = .ok (.lload 4, 2) := by decide +kernel
theorem d1_77 : decode method_2_code 77 = .ok (.lreturn, 1) := by decide +kernel
theorem pn1 : plainName "com/example/gaithersburg/gaithersburg/TopicInWindowPinLaw" = true := by first | (simp [plainName, overriddenIn]; done) | decide +kernel
theorem ef1 (m : MethodId) (q1 : Int64) (q2 : Int64) (q3 : Int64) (p4 : Int32) : entryFrame m #[(.long q1), (.long q2), (.long q3), (.int p4)] 8 = mkF m 0 #[.val (.long q1), .second, .val (.long q2), .second, .val (.long q3), .second, .val (.int p4), .unset] [] := by first | (simp [entryFrame, mkF, argsToLocals, Value.category]; done) | rfl
def Q1 (Z : State) (q1 : Int64) (q2 : Int64) (q3 : Int64) (p4 : Int32) (h0 : Heap) (n0 : Nat) (v : Option Value) (h : Heap) (L : List Loc) : Prop := v = some (.long (own_probe q1 q2 q3 p4)) ∧ Fr n0 L ∧ h = h0
set_option maxRecDepth 65536 in
set_option maxHeartbeats 40000000 in
theorem rm1 (l : Launch) (Z : State) (a0 : Array Value) (hw : ∀ d ∈ tables_1, d.before a0 Z = true) (ws : List Jvm.Cond) (q1 : Int64) (q2 : Int64) (q3 : Int64) (p4 : Int32) (h0 : Heap) (n0 : Nat) (Z0 : n0 ≤ h0.size)  :
    MetFree l (⟨"com/example/gaithersburg/gaithersburg/TopicInWindowPinLaw", "probe", "(JJJI)J"⟩ : MethodName) (head1 (Jvm.Cond.code (⟨"com/example/gaithersburg/gaithersburg/TopicInWindowPinLaw", "probe", "(JJJI)J"⟩ : MethodName) method_2_code 8 (some .long) :: ws) ({ frames := 0, cells := 0, slots := 0, locals := 0 } : Room)) (fun as' U => as' = #[(.long q1), (.long q2), (.long q3), (.int p4)] ∧ Z.Warmed39 U.vm ∧ U.heap = h0) (fun _ _ _ _ _ => True) (fun _ U o U' => ∃ v L, o = .returned v ∧ Q1 Z q1 q2 q3 p4 h0 n0 v U'.heap L ∧ FrameEnd U o U' L ({ frames := 0, cells := 0, slots := 0, locals := 0 } : Room).cells ({ frames := 0, cells := 0, slots := 0, locals := 0 } : Room).slots) := by
  refine own_body (plainFor_of_name pn1) ?_
  intro p e s m below meth c s₁ hx hby hml hown0 hnm hret hlk hZ X0 e0
  have hown : s.vm.findClass "com/example/gaithersburg/gaithersburg/TopicInWindowPinLaw" = some m.cls := hown0
  have N0 := Fr.nil n0
  rw [ef1]
  show own_Go p.tables e below _ (s₁.setTop (mkF m 0 #[.val (.long q1), .second, .val (.long q2), .second, .val (.long q3), .second, .val (.int p4), .unset] []))
  refine own_st (S' := s₁.setTop (mkF m 2 #[.val (.long q1), .second, .val (.long q2), .second, .val (.long q3), .second, .val (.int p4), .unset] [(.int p4)])) (fun t k => XS.iload X0.here hx rfl (hb hby d1_0) rfl k) ?_
  refine own_st (S' := s₁.setTop (mkF m 4 #[.val (.long q1), .second, .val (.long q2), .second, .val (.long q3), .second, .val (.int p4), .unset] [(.int (7 : Int32)), (.int p4)])) (fun t k => XS.bipush X0.here hx rfl (hb hby d1_2) k) ?_
  refine own_st (S' := s₁.setTop (mkF m 5 #[.val (.long q1), .second, .val (.long q2), .second, .val (.long q3), .second, .val (.int p4), .unset] [(.int (p4 &&& (7 : Int32)))])) (fun t k => XS.iand X0.here hx rfl (hb hby d1_4) rfl k) ?_
  obtain ⟨v1, qv1⟩ : ∃ z : Int32, z = (p4 &&& (7 : Int32)) := ⟨_, rfl⟩
  show own_Go p.tables e below _ (s₁.setTop (mkF m 5 #[.val (.long q1), .second, .val (.long q2), .second, .val (.long q3), .second, .val (.int p4), .unset] [(.int (p4 &&& (7 : Int32)))]))
  rw [← qv1]
  refine own_st (S' := s₁.setTop (mkF m 7 #[.val (.long q1), .second, .val (.long q2), .second, .val (.long q3), .second, .val (.int p4), .val (.int v1)] [])) (fun t k => XS.istore X0.here hx rfl (hb hby d1_5) rfl (l' := #[.val (.long q1), .second, .val (.long q2), .second, .val (.long q3), .second, .val (.int p4), .val (.int v1)]) rfl k) ?_
  refine own_st (S' := s₁.setTop (mkF m 9 #[.val (.long q1), .second, .val (.long q2), .second, .val (.long q3), .second, .val (.int p4), .val (.int v1)] [(.int v1)])) (fun t k => XS.iload X0.here hx rfl (hb hby d1_7) rfl k) ?_
  refine own_st (S' := s₁.setTop (mkF m 10 #[.val (.long q1), .second, .val (.long q2), .second, .val (.long q3), .second, .val (.int p4), .val (.int v1)] [(.int (1 : Int32)), (.int v1)])) (fun t k => XS.iconst X0.here hx rfl (hb hby d1_9) k) ?_
  by_cases hc2 : v1 = (1 : Int32)
  · refine own_st (S' := s₁.setTop (mkF m 13 #[.val (.long q1), .second, .val (.long q2), .second, .val (.long q3), .second, .val (.int p4), .val (.int v1)] [])) (fun t k => XS.icmpNo X0.here hx rfl (hb hby d1_10) rfl (teq hc2).2 k) ?_
    show own_Go p.tables e below _ (s₁.setTop (mkF m 13 #[.val (.long q1), .second, .val (.long q2), .second, .val (.long q3), .second, .val (.int p4), .val (.int v1)] []))
    refine own_st (S' := s₁.setTop (mkF m 14 #[.val (.long q1), .second, .val (.long q2), .second, .val (.long q3), .second, .val (.int p4), .val (.int v1)] [(.long q1)])) (fun t k => XS.lloadN X0.here hx rfl (hb hby d1_13) rfl k) ?_
    refine own_retL X0 hx hret hlk (hb hby d1_14) ?_ (by decide) (by decide)
    rw [e0]
    refine ⟨?_, N0, rfl⟩
    unfold own_probe
    rw [← qv1, if_pos hc2]
  · refine own_st (S' := s₁.setTop (mkF m 15 #[.val (.long q1), .second, .val (.long q2), .second, .val (.long q3), .second, .val (.int p4), .val (.int v1)] [])) (fun t k => XS.icmpYes X0.here hx rfl (pc0 := 10) (pc' := 15) rfl (hb hby d1_10) rfl (feq hc2).2 (by decide) (by decide) k) ?_
    show own_Go p.tables e below _ (s₁.setTop (mkF m 15 #[.val (.long q1), .second, .val (.long q2), .second, .val (.long q3), .second, .val (.int p4), .val (.int v1)] []))
    refine own_st (S' := s₁.setTop (mkF m 17 #[.val (.long q1), .second, .val (.long q2), .second, .val (.long q3), .second, .val (.int p4), .val (.int v1)] [(.int v1)])) (fun t k => XS.iload X0.here hx rfl (hb hby d1_15) rfl k) ?_
    refine own_st (S' := s₁.setTop (mkF m 18 #[.val (.long q1), .second, .val (.long q2), .second, .val (.long q3), .second, .val (.int p4), .val (.int v1)] [(.int (2 : Int32)), (.int v1)])) (fun t k => XS.iconst X0.here hx rfl (hb hby d1_17) k) ?_
    by_cases hc3 : v1 = (2 : Int32)
    · refine own_st (S' := s₁.setTop (mkF m 21 #[.val (.long q1), .second, .val (.long q2), .second, .val (.long q3), .second, .val (.int p4), .val (.int v1)] [])) (fun t k => XS.icmpNo X0.here hx rfl (hb hby d1_18) rfl (teq hc3).2 k) ?_
      show own_Go p.tables e below _ (s₁.setTop (mkF m 21 #[.val (.long q1), .second, .val (.long q2), .second, .val (.long q3), .second, .val (.int p4), .val (.int v1)] []))
      refine own_st (S' := s₁.setTop (mkF m 22 #[.val (.long q1), .second, .val (.long q2), .second, .val (.long q3), .second, .val (.int p4), .val (.int v1)] [(.long q1)])) (fun t k => XS.lloadN X0.here hx rfl (hb hby d1_21) rfl k) ?_
      refine own_st (S' := s₁.setTop (mkF m 23 #[.val (.long q1), .second, .val (.long q2), .second, .val (.long q3), .second, .val (.int p4), .val (.int v1)] [(.long (1 : Int64)), (.long q1)])) (fun t k => XS.lconst X0.here hx rfl (hb hby d1_22) k) ?_
      refine own_st (S' := s₁.setTop (mkF m 24 #[.val (.long q1), .second, .val (.long q2), .second, .val (.long q3), .second, .val (.int p4), .val (.int v1)] [(.long (q1 + (1 : Int64)))])) (fun t k => XS.ladd X0.here hx rfl (hb hby d1_23) rfl k) ?_
      refine own_retL X0 hx hret hlk (hb hby d1_24) ?_ (by decide) (by decide)
      rw [e0]
      refine ⟨?_, N0, rfl⟩
      unfold own_probe
      rw [← qv1, if_neg hc2, if_pos hc3]
    · refine own_st (S' := s₁.setTop (mkF m 25 #[.val (.long q1), .second, .val (.long q2), .second, .val (.long q3), .second, .val (.int p4), .val (.int v1)] [])) (fun t k => XS.icmpYes X0.here hx rfl (pc0 := 18) (pc' := 25) rfl (hb hby d1_18) rfl (feq hc3).2 (by decide) (by decide) k) ?_
      show own_Go p.tables e below _ (s₁.setTop (mkF m 25 #[.val (.long q1), .second, .val (.long q2), .second, .val (.long q3), .second, .val (.int p4), .val (.int v1)] []))
      refine own_st (S' := s₁.setTop (mkF m 27 #[.val (.long q1), .second, .val (.long q2), .second, .val (.long q3), .second, .val (.int p4), .val (.int v1)] [(.int v1)])) (fun t k => XS.iload X0.here hx rfl (hb hby d1_25) rfl k) ?_
      refine own_st (S' := s₁.setTop (mkF m 28 #[.val (.long q1), .second, .val (.long q2), .second, .val (.long q3), .second, .val (.int p4), .val (.int v1)] [(.int (3 : Int32)), (.int v1)])) (fun t k => XS.iconst X0.here hx rfl (hb hby d1_27) k) ?_
      by_cases hc4 : v1 = (3 : Int32)
      · refine own_st (S' := s₁.setTop (mkF m 31 #[.val (.long q1), .second, .val (.long q2), .second, .val (.long q3), .second, .val (.int p4), .val (.int v1)] [])) (fun t k => XS.icmpNo X0.here hx rfl (hb hby d1_28) rfl (teq hc4).2 k) ?_
        show own_Go p.tables e below _ (s₁.setTop (mkF m 31 #[.val (.long q1), .second, .val (.long q2), .second, .val (.long q3), .second, .val (.int p4), .val (.int v1)] []))
        refine own_st (S' := s₁.setTop (mkF m 32 #[.val (.long q1), .second, .val (.long q2), .second, .val (.long q3), .second, .val (.int p4), .val (.int v1)] [(.long q2)])) (fun t k => XS.lloadN X0.here hx rfl (hb hby d1_31) rfl k) ?_
        refine own_retL X0 hx hret hlk (hb hby d1_32) ?_ (by decide) (by decide)
        rw [e0]
        refine ⟨?_, N0, rfl⟩
        unfold own_probe
        rw [← qv1, if_neg hc2, if_neg hc3, if_pos hc4]
      · refine own_st (S' := s₁.setTop (mkF m 33 #[.val (.long q1), .second, .val (.long q2), .second, .val (.long q3), .second, .val (.int p4), .val (.int v1)] [])) (fun t k => XS.icmpYes X0.here hx rfl (pc0 := 28) (pc' := 33) rfl (hb hby d1_28) rfl (feq hc4).2 (by decide) (by decide) k) ?_
        show own_Go p.tables e below _ (s₁.setTop (mkF m 33 #[.val (.long q1), .second, .val (.long q2), .second, .val (.long q3), .second, .val (.int p4), .val (.int v1)] []))
        refine own_st (S' := s₁.setTop (mkF m 35 #[.val (.long q1), .second, .val (.long q2), .second, .val (.long q3), .second, .val (.int p4), .val (.int v1)] [(.int v1)])) (fun t k => XS.iload X0.here hx rfl (hb hby d1_33) rfl k) ?_
        refine own_st (S' := s₁.setTop (mkF m 36 #[.val (.long q1), .second, .val (.long q2), .second, .val (.long q3), .second, .val (.int p4), .val (.int v1)] [(.int (4 : Int32)), (.int v1)])) (fun t k => XS.iconst X0.here hx rfl (hb hby d1_35) k) ?_
        by_cases hc5 : v1 = (4 : Int32)
        · refine own_st (S' := s₁.setTop (mkF m 39 #[.val (.long q1), .second, .val (.long q2), .second, .val (.long q3), .second, .val (.int p4), .val (.int v1)] [])) (fun t k => XS.icmpNo X0.here hx rfl (hb hby d1_36) rfl (teq hc5).2 k) ?_
          show own_Go p.tables e below _ (s₁.setTop (mkF m 39 #[.val (.long q1), .second, .val (.long q2), .second, .val (.long q3), .second, .val (.int p4), .val (.int v1)] []))
          refine own_st (S' := s₁.setTop (mkF m 40 #[.val (.long q1), .second, .val (.long q2), .second, .val (.long q3), .second, .val (.int p4), .val (.int v1)] [(.long q2)])) (fun t k => XS.lloadN X0.here hx rfl (hb hby d1_39) rfl k) ?_
          refine own_st (S' := s₁.setTop (mkF m 41 #[.val (.long q1), .second, .val (.long q2), .second, .val (.long q3), .second, .val (.int p4), .val (.int v1)] [(.long (1 : Int64)), (.long q2)])) (fun t k => XS.lconst X0.here hx rfl (hb hby d1_40) k) ?_
          refine own_st (S' := s₁.setTop (mkF m 42 #[.val (.long q1), .second, .val (.long q2), .second, .val (.long q3), .second, .val (.int p4), .val (.int v1)] [(.long (q2 + (1 : Int64)))])) (fun t k => XS.ladd X0.here hx rfl (hb hby d1_41) rfl k) ?_
          refine own_retL X0 hx hret hlk (hb hby d1_42) ?_ (by decide) (by decide)
          rw [e0]
          refine ⟨?_, N0, rfl⟩
          unfold own_probe
          rw [← qv1, if_neg hc2, if_neg hc3, if_neg hc4, if_pos hc5]
        · refine own_st (S' := s₁.setTop (mkF m 43 #[.val (.long q1), .second, .val (.long q2), .second, .val (.long q3), .second, .val (.int p4), .val (.int v1)] [])) (fun t k => XS.icmpYes X0.here hx rfl (pc0 := 36) (pc' := 43) rfl (hb hby d1_36) rfl (feq hc5).2 (by decide) (by decide) k) ?_
          show own_Go p.tables e below _ (s₁.setTop (mkF m 43 #[.val (.long q1), .second, .val (.long q2), .second, .val (.long q3), .second, .val (.int p4), .val (.int v1)] []))
          refine own_st (S' := s₁.setTop (mkF m 45 #[.val (.long q1), .second, .val (.long q2), .second, .val (.long q3), .second, .val (.int p4), .val (.int v1)] [(.int v1)])) (fun t k => XS.iload X0.here hx rfl (hb hby d1_43) rfl k) ?_
          refine own_st (S' := s₁.setTop (mkF m 46 #[.val (.long q1), .second, .val (.long q2), .second, .val (.long q3), .second, .val (.int p4), .val (.int v1)] [(.int (5 : Int32)), (.int v1)])) (fun t k => XS.iconst X0.here hx rfl (hb hby d1_45) k) ?_
          by_cases hc6 : v1 = (5 : Int32)
          · refine own_st (S' := s₁.setTop (mkF m 49 #[.val (.long q1), .second, .val (.long q2), .second, .val (.long q3), .second, .val (.int p4), .val (.int v1)] [])) (fun t k => XS.icmpNo X0.here hx rfl (hb hby d1_46) rfl (teq hc6).2 k) ?_
            show own_Go p.tables e below _ (s₁.setTop (mkF m 49 #[.val (.long q1), .second, .val (.long q2), .second, .val (.long q3), .second, .val (.int p4), .val (.int v1)] []))
            refine own_st (S' := s₁.setTop (mkF m 50 #[.val (.long q1), .second, .val (.long q2), .second, .val (.long q3), .second, .val (.int p4), .val (.int v1)] [(.long q1)])) (fun t k => XS.lloadN X0.here hx rfl (hb hby d1_49) rfl k) ?_
            refine own_st (S' := s₁.setTop (mkF m 51 #[.val (.long q1), .second, .val (.long q2), .second, .val (.long q3), .second, .val (.int p4), .val (.int v1)] [(.long (1 : Int64)), (.long q1)])) (fun t k => XS.lconst X0.here hx rfl (hb hby d1_50) k) ?_
            refine own_st (S' := s₁.setTop (mkF m 52 #[.val (.long q1), .second, .val (.long q2), .second, .val (.long q3), .second, .val (.int p4), .val (.int v1)] [(.long (q1 - (1 : Int64)))])) (fun t k => XS.lsub X0.here hx rfl (hb hby d1_51) rfl k) ?_
            refine own_retL X0 hx hret hlk (hb hby d1_52) ?_ (by decide) (by decide)
            rw [e0]
            refine ⟨?_, N0, rfl⟩
            unfold own_probe
            rw [← qv1, if_neg hc2, if_neg hc3, if_neg hc4, if_neg hc5, if_pos hc6]
          · refine own_st (S' := s₁.setTop (mkF m 53 #[.val (.long q1), .second, .val (.long q2), .second, .val (.long q3), .second, .val (.int p4), .val (.int v1)] [])) (fun t k => XS.icmpYes X0.here hx rfl (pc0 := 46) (pc' := 53) rfl (hb hby d1_46) rfl (feq hc6).2 (by decide) (by decide) k) ?_
            show own_Go p.tables e below _ (s₁.setTop (mkF m 53 #[.val (.long q1), .second, .val (.long q2), .second, .val (.long q3), .second, .val (.int p4), .val (.int v1)] []))
            refine own_st (S' := s₁.setTop (mkF m 55 #[.val (.long q1), .second, .val (.long q2), .second, .val (.long q3), .second, .val (.int p4), .val (.int v1)] [(.int v1)])) (fun t k => XS.iload X0.here hx rfl (hb hby d1_53) rfl k) ?_
            refine own_st (S' := s₁.setTop (mkF m 57 #[.val (.long q1), .second, .val (.long q2), .second, .val (.long q3), .second, .val (.int p4), .val (.int v1)] [(.int (6 : Int32)), (.int v1)])) (fun t k => XS.bipush X0.here hx rfl (hb hby d1_55) k) ?_
            by_cases hc7 : v1 = (6 : Int32)
            · refine own_st (S' := s₁.setTop (mkF m 60 #[.val (.long q1), .second, .val (.long q2), .second, .val (.long q3), .second, .val (.int p4), .val (.int v1)] [])) (fun t k => XS.icmpNo X0.here hx rfl (hb hby d1_57) rfl (teq hc7).2 k) ?_
              show own_Go p.tables e below _ (s₁.setTop (mkF m 60 #[.val (.long q1), .second, .val (.long q2), .second, .val (.long q3), .second, .val (.int p4), .val (.int v1)] []))
              refine own_st (S' := s₁.setTop (mkF m 63 #[.val (.long q1), .second, .val (.long q2), .second, .val (.long q3), .second, .val (.int p4), .val (.int v1)] [(.long (-9223372036854775808 : Int64))])) (fun t k => X0.ldc2Long hx hown (mvT hZ (hw _ (List.mem_of_getElem? (i := 54) rfl))) (g := (mkF m 60 #[.val (.long q1), .second, .val (.long q2), .second, .val (.long q3), .second, .val (.int p4), .val (.int v1)] [])) rfl (hb hby d1_60) _ k) ?_
              refine own_retL X0 hx hret hlk (hb hby d1_63) ?_ (by decide) (by decide)
              rw [e0]
              refine ⟨?_, N0, rfl⟩
              unfold own_probe
              rw [← qv1, if_neg hc2, if_neg hc3, if_neg hc4, if_neg hc5, if_neg hc6, if_pos hc7]
            · refine own_st (S' := s₁.setTop (mkF m 64 #[.val (.long q1), .second, .val (.long q2), .second, .val (.long q3), .second, .val (.int p4), .val (.int v1)] [])) (fun t k => XS.icmpYes X0.here hx rfl (pc0 := 57) (pc' := 64) rfl (hb hby d1_57) rfl (feq hc7).2 (by decide) (by decide) k) ?_
              show own_Go p.tables e below _ (s₁.setTop (mkF m 64 #[.val (.long q1), .second, .val (.long q2), .second, .val (.long q3), .second, .val (.int p4), .val (.int v1)] []))
              refine own_st (S' := s₁.setTop (mkF m 66 #[.val (.long q1), .second, .val (.long q2), .second, .val (.long q3), .second, .val (.int p4), .val (.int v1)] [(.int v1)])) (fun t k => XS.iload X0.here hx rfl (hb hby d1_64) rfl k) ?_
              refine own_st (S' := s₁.setTop (mkF m 68 #[.val (.long q1), .second, .val (.long q2), .second, .val (.long q3), .second, .val (.int p4), .val (.int v1)] [(.int (7 : Int32)), (.int v1)])) (fun t k => XS.bipush X0.here hx rfl (hb hby d1_66) k) ?_
              by_cases hc8 : v1 = (7 : Int32)
              · refine own_st (S' := s₁.setTop (mkF m 71 #[.val (.long q1), .second, .val (.long q2), .second, .val (.long q3), .second, .val (.int p4), .val (.int v1)] [])) (fun t k => XS.icmpNo X0.here hx rfl (hb hby d1_68) rfl (teq hc8).2 k) ?_
                show own_Go p.tables e below _ (s₁.setTop (mkF m 71 #[.val (.long q1), .second, .val (.long q2), .second, .val (.long q3), .second, .val (.int p4), .val (.int v1)] []))
                refine own_st (S' := s₁.setTop (mkF m 74 #[.val (.long q1), .second, .val (.long q2), .second, .val (.long q3), .second, .val (.int p4), .val (.int v1)] [(.long (9223372036854775807 : Int64))])) (fun t k => X0.ldc2Long hx hown (mvT hZ (hw _ (List.mem_of_getElem? (i := 53) rfl))) (g := (mkF m 71 #[.val (.long q1), .second, .val (.long q2), .second, .val (.long q3), .second, .val (.int p4), .val (.int v1)] [])) rfl (hb hby d1_71) _ k) ?_
                refine own_retL X0 hx hret hlk (hb hby d1_74) ?_ (by decide) (by decide)
                rw [e0]
                refine ⟨?_, N0, rfl⟩
                unfold own_probe
                rw [← qv1, if_neg hc2, if_neg hc3, if_neg hc4, if_neg hc5, if_neg hc6, if_neg hc7, if_pos hc8]
              · refine own_st (S' := s₁.setTop (mkF m 75 #[.val (.long q1), .second, .val (.long q2), .second, .val (.long q3), .second, .val (.int p4), .val (.int v1)] [])) (fun t k => XS.icmpYes X0.here hx rfl (pc0 := 68) (pc' := 75) rfl (hb hby d1_68) rfl (feq hc8).2 (by decide) (by decide) k) ?_
                show own_Go p.tables e below _ (s₁.setTop (mkF m 75 #[.val (.long q1), .second, .val (.long q2), .second, .val (.long q3), .second, .val (.int p4), .val (.int v1)] []))
                refine own_st (S' := s₁.setTop (mkF m 77 #[.val (.long q1), .second, .val (.long q2), .second, .val (.long q3), .second, .val (.int p4), .val (.int v1)] [(.long q3)])) (fun t k => XS.lload X0.here hx rfl (hb hby d1_75) rfl k) ?_
                refine own_retL X0 hx hret hlk (hb hby d1_77) ?_ (by decide) (by decide)
                rw [e0]
                refine ⟨?_, N0, rfl⟩
                unfold own_probe
                rw [← qv1, if_neg hc2, if_neg hc3, if_neg hc4, if_neg hc5, if_neg hc6, if_neg hc7, if_neg hc8]
theorem d2_0 : decode jdk_30_method_1_code 0 = .ok (.aload_n 0, 1) := by decide +kernel
theorem d2_1 : decode jdk_30_method_1_code 1 = .ok (.invokespecial 1, 3) := by decide +kernel
theorem d2_4 : decode jdk_30_method_1_code 4 = .ok (.return_, 1) := by decide +kernel
theorem pn2 : plainName "java/lang/Record" = true := by first | (simp [plainName, overriddenIn]; done) | decide +kernel
theorem ef2 (m : MethodId) (a : Addr) : entryFrame m #[(.ref a)] 1 = mkF m 0 #[.val (.ref a)] [] := by first | (simp [entryFrame, mkF, argsToLocals, Value.category]; done) | rfl
def Q2 (Z : State) (a : Addr) (h0 : Heap) (n0 : Nat) (v : Option Value) (h : Heap) (L : List Loc) : Prop := v = none ∧ Fr n0 L ∧ h = h0
set_option maxRecDepth 65536 in
set_option maxHeartbeats 40000000 in
theorem rm2 (l : Launch) (Z : State) (a0 : Array Value) (hw : ∀ d ∈ tables_1, d.before a0 Z = true) (ws : List Jvm.Cond) (a : Addr) (h0 : Heap) (n0 : Nat) (Z0 : n0 ≤ h0.size)  :
    MetFree l (⟨"java/lang/Record", "<init>", "()V"⟩ : MethodName) (head1 (Jvm.Cond.code (⟨"java/lang/Record", "<init>", "()V"⟩ : MethodName) jdk_30_method_1_code 1 none :: ws) ({ frames := 1, cells := 0, slots := 0, locals := 12 } : Room)) (fun as' U => as' = #[(.ref a)] ∧ Z.Warmed39 U.vm ∧ U.heap = h0) (fun _ _ _ _ _ => True) (fun _ U o U' => ∃ v L, o = .returned v ∧ Q2 Z a h0 n0 v U'.heap L ∧ FrameEnd U o U' L ({ frames := 1, cells := 0, slots := 0, locals := 12 } : Room).cells ({ frames := 1, cells := 0, slots := 0, locals := 12 } : Room).slots) := by
  refine own_body (plainFor_of_name pn2) ?_
  intro p e s m below meth c s₁ hx hby hml hown0 hnm hret hlk hZ X0 e0
  have hown : s.vm.findClass "java/lang/Record" = some m.cls := hown0
  have N0 := Fr.nil n0
  rw [ef2]
  show own_Go p.tables e below _ (s₁.setTop (mkF m 0 #[.val (.ref a)] []))
  refine own_st (S' := s₁.setTop (mkF m 1 #[.val (.ref a)] [(.ref a)])) (fun t k => XS.aloadN X0.here hx rfl (hb hby d2_0) rfl rfl k) ?_
  obtain ⟨T1, X1, e1, st1⟩ := initO X0 hx hZ hown (hw _ (List.mem_of_getElem? (i := 24) rfl)) (hw _ (List.mem_of_getElem? (i := 25) rfl)) (hw _ (List.mem_of_getElem? (i := 26) rfl)) e0 (g := (mkF m 1 #[.val (.ref a)] [(.ref a)])) rfl (by rw [hml]; rfl) rfl (hb hby d2_1) (by decide) (W := 0) (by show 2 * 0 + _ ≤ _; exact Nat.le_of_eq rfl) (by decide)
  refine own_st st1 ?_
  show own_Go p.tables e below _ (T1.setTop (mkF m 4 #[.val (.ref a)] []))
  refine own_retV X1 hx hret hlk (hb hby d2_4) ?_ (by decide) (by decide)
  rw [e1]
  exact ⟨rfl, N0, rfl⟩
theorem d3_0 : decode jdk_31_method_11_code 0 = .ok (.aload_n 0, 1) := by decide +kernel
theorem d3_1 : decode jdk_31_method_11_code 1 = .ok (.ifnonnull 12, 3) := by decide +kernel
theorem d3_13 : decode jdk_31_method_11_code 13 = .ok (.aload_n 0, 1) := by decide +kernel
theorem d3_14 : decode jdk_31_method_11_code 14 = .ok (.areturn, 1) := by decide +kernel
theorem pn3 : plainName "java/util/Objects" = true := by first | (simp [plainName, overriddenIn]; done) | decide +kernel
theorem ef3 (m : MethodId) (r1 : Addr) (r2 : Addr) : entryFrame m #[(.ref r1), (.ref r2)] 2 = mkF m 0 #[.val (.ref r1), .val (.ref r2)] [] := by first | (simp [entryFrame, mkF, argsToLocals, Value.category]; done) | rfl
def Q3 (Z : State) (r1 : Addr) (r2 : Addr) (h0 : Heap) (n0 : Nat) (v : Option Value) (h : Heap) (L : List Loc) : Prop := v = some (.ref r1) ∧ Fr n0 L ∧ h = h0
set_option maxRecDepth 65536 in
set_option maxHeartbeats 40000000 in
theorem rm3 (l : Launch) (Z : State) (a0 : Array Value) (hw : ∀ d ∈ tables_1, d.before a0 Z = true) (ws : List Jvm.Cond) (r1 : Addr) (r2 : Addr) (h0 : Heap) (n0 : Nat) (Z0 : n0 ≤ h0.size)  :
    MetFree l (⟨"java/util/Objects", "requireNonNull", "(Ljava/lang/Object;Ljava/lang/String;)Ljava/lang/Object;"⟩ : MethodName) (head1 (Jvm.Cond.code (⟨"java/util/Objects", "requireNonNull", "(Ljava/lang/Object;Ljava/lang/String;)Ljava/lang/Object;"⟩ : MethodName) jdk_31_method_11_code 2 (some (.object "java/lang/Object")) :: ws) ({ frames := 0, cells := 0, slots := 0, locals := 0 } : Room)) (fun as' U => as' = #[(.ref r1), (.ref r2)] ∧ Z.Warmed39 U.vm ∧ U.heap = h0) (fun _ _ _ _ _ => True) (fun _ U o U' => ∃ v L, o = .returned v ∧ Q3 Z r1 r2 h0 n0 v U'.heap L ∧ FrameEnd U o U' L ({ frames := 0, cells := 0, slots := 0, locals := 0 } : Room).cells ({ frames := 0, cells := 0, slots := 0, locals := 0 } : Room).slots) := by
  refine own_body (plainFor_of_name pn3) ?_
  intro p e s m below meth c s₁ hx hby hml hown0 hnm hret hlk hZ X0 e0
  have hown : s.vm.findClass "java/util/Objects" = some m.cls := hown0
  have N0 := Fr.nil n0
  rw [ef3]
  show own_Go p.tables e below _ (s₁.setTop (mkF m 0 #[.val (.ref r1), .val (.ref r2)] []))
  refine own_st (S' := s₁.setTop (mkF m 1 #[.val (.ref r1), .val (.ref r2)] [(.ref r1)])) (fun t k => XS.aloadN X0.here hx rfl (hb hby d3_0) rfl rfl k) ?_
  refine own_st (S' := s₁.setTop (mkF m 13 #[.val (.ref r1), .val (.ref r2)] [])) (fun t k => XS.ifnonnullYes X0.here hx rfl (pc0 := 1) (pc' := 13) rfl (hb hby d3_1) rfl (by decide) (by decide) k) ?_
  show own_Go p.tables e below _ (s₁.setTop (mkF m 13 #[.val (.ref r1), .val (.ref r2)] []))
  refine own_st (S' := s₁.setTop (mkF m 14 #[.val (.ref r1), .val (.ref r2)] [(.ref r1)])) (fun t k => XS.aloadN X0.here hx rfl (hb hby d3_13) rfl rfl k) ?_
  refine own_retA X0 hx hret rfl rfl rfl hlk (hb hby d3_14) ?_ (by decide) (by decide)
  rw [e0]
  exact ⟨rfl, N0, rfl⟩
theorem d4_0 : decode prog_49_method_1_code 0 = .ok (.aload_n 0, 1) := by decide +kernel
theorem d4_1 : decode prog_49_method_1_code 1 = .ok (.invokespecial 1, 3) := by decide +kernel
theorem d4_4 : decode prog_49_method_1_code 4 = .ok (.aload_n 1, 1) := by decide +kernel
theorem d4_5 : decode prog_49_method_1_code 5 = .ok (.ldc 7, 2) := by decide +kernel
theorem d4_7 : decode prog_49_method_1_code 7 = .ok (.invokestatic 9, 3) := by decide +kernel
theorem d4_10 : decode prog_49_method_1_code 10 = .ok (.pop, 1) := by decide +kernel
theorem d4_11 : decode prog_49_method_1_code 11 = .ok (.aload_n 2, 1) := by decide +kernel
theorem d4_12 : decode prog_49_method_1_code 12 = .ok (.ldc 15, 2) := by decide +kernel
theorem d4_14 : decode prog_49_method_1_code 14 = .ok (.invokestatic 9, 3) := by decide +kernel
theorem d4_17 : decode prog_49_method_1_code 17 = .ok (.pop, 1) := by decide +kernel
theorem d4_18 : decode prog_49_method_1_code 18 = .ok (.aload_n 0, 1) := by decide +kernel
theorem d4_19 : decode prog_49_method_1_code 19 = .ok (.aload_n 1, 1) := by decide +kernel
theorem d4_20 : decode prog_49_method_1_code 20 = .ok (.putfield 17, 3) := by decide +kernel
theorem d4_23 : decode prog_49_method_1_code 23 = .ok (.aload_n 0, 1) := by decide +kernel
theorem d4_24 : decode prog_49_method_1_code 24 = .ok (.aload_n 2, 1) := by decide +kernel
theorem d4_25 : decode prog_49_method_1_code 25 = .ok (.putfield 22, 3) := by decide +kernel
theorem d4_28 : decode prog_49_method_1_code 28 = .ok (.aload_n 0, 1) := by decide +kernel
theorem d4_29 : decode prog_49_method_1_code 29 = .ok (.lload_n 3, 1) := by decide +kernel
theorem d4_30 : decode prog_49_method_1_code 30 = .ok (.putfield 24, 3) := by decide +kernel
theorem d4_33 : decode prog_49_method_1_code 33 = .ok (.aload_n 0, 1) := by decide +kernel
theorem d4_34 : decode prog_49_method_1_code 34 = .ok (.lload 5, 2) := by decide +kernel
theorem d4_36 : decode prog_49_method_1_code 36 = .ok (.putfield 28, 3) := by decide +kernel
theorem d4_39 : decode prog_49_method_1_code 39 = .ok (.return_, 1) := by decide +kernel
theorem pd4_0 : parseMethodDescriptor "()V" = some ⟨[], none⟩ := by decide +kernel
theorem pd4_1 : parseMethodDescriptor "(Ljava/lang/Object;Ljava/lang/String;)Ljava/lang/Object;" = some ⟨[(.object "java/lang/Object"), (.object "java/lang/String")], some (.object "java/lang/Object")⟩ := by decide +kernel
theorem pn4 : plainName "com/example/gaithersburg/gaithersburg/Topic" = true := by first | (simp [plainName, overriddenIn]; done) | decide +kernel
theorem ef4 (m : MethodId) (a : Addr) (r1 : Addr) (r2 : Addr) (q1 : Int64) (q2 : Int64) : entryFrame m #[(.ref a), (.ref r1), (.ref r2), (.long q1), (.long q2)] 7 = mkF m 0 #[.val (.ref a), .val (.ref r1), .val (.ref r2), .val (.long q1), .second, .val (.long q2), .second] [] := by first | (simp [entryFrame, mkF, argsToLocals, Value.category]; done) | rfl
def Q4 (Z : State) (a : Addr) (r1 : Addr) (r2 : Addr) (q1 : Int64) (q2 : Int64) (u1 : Int64) (u2 : Int64) (h0 : Heap) (n0 : Nat) (v : Option Value) (h : Heap) (L : List Loc) : Prop := v = none ∧ Fr n0 L ∧ Keep h0 h [a] ∧ Exa Z h a "com/example/gaithersburg/gaithersburg/Topic" ∧ Fld Z h a "com/example/gaithersburg/gaithersburg/Topic" "exampleId" "J" (.long q1) ∧ Fld Z h a "com/example/gaithersburg/gaithersburg/Topic" "newestId" "J" (.long q2)
set_option maxRecDepth 65536 in
set_option maxHeartbeats 40000000 in
theorem rm4 (l : Launch) (Z : State) (a0 : Array Value) (hw : ∀ d ∈ tables_1, d.before a0 Z = true) (ws : List Jvm.Cond) (a : Addr) (r1 : Addr) (r2 : Addr) (q1 : Int64) (q2 : Int64) (u1 : Int64) (u2 : Int64) (h0 : Heap) (n0 : Nat) (Z0 : n0 ≤ h0.size) (E_a : Exa Z h0 a "com/example/gaithersburg/gaithersburg/Topic") (F_a_id : Fld Z h0 a "com/example/gaithersburg/gaithersburg/Topic" "id" "Ljava/lang/String;" .null) (F_a_title : Fld Z h0 a "com/example/gaithersburg/gaithersburg/Topic" "title" "Ljava/lang/String;" .null) (F_a_exampleId : Fld Z h0 a "com/example/gaithersburg/gaithersburg/Topic" "exampleId" "J" (.long u1)) (F_a_newestId : Fld Z h0 a "com/example/gaithersburg/gaithersburg/Topic" "newestId" "J" (.long u2)) (G_a : n0 ≤ a) :
    MetFree l (⟨"com/example/gaithersburg/gaithersburg/Topic", "<init>", "(Ljava/lang/String;Ljava/lang/String;JJ)V"⟩ : MethodName) (head1 (Jvm.Cond.code (⟨"com/example/gaithersburg/gaithersburg/Topic", "<init>", "(Ljava/lang/String;Ljava/lang/String;JJ)V"⟩ : MethodName) prog_49_method_1_code 7 none :: ws) ({ frames := 2, cells := 4, slots := 36, locals := 24 } : Room)) (fun as' U => as' = #[(.ref a), (.ref r1), (.ref r2), (.long q1), (.long q2)] ∧ Z.Warmed39 U.vm ∧ U.heap = h0) (fun _ _ _ _ _ => True) (fun _ U o U' => ∃ v L, o = .returned v ∧ Q4 Z a r1 r2 q1 q2 u1 u2 h0 n0 v U'.heap L ∧ ReturnedEndW U o U' L ({ frames := 2, cells := 4, slots := 36, locals := 24 } : Room).cells ({ frames := 2, cells := 4, slots := 36, locals := 24 } : Room).slots) := by
  refine own_bodyW (plainFor_of_name pn4) ?_
  intro p e s m below meth c s₁ hx hby hml hown0 hnm hret hlk hZ X0 e0
  have hown : s.vm.findClass "com/example/gaithersburg/gaithersburg/Topic" = some m.cls := hown0
  have N0 := Fr.nil n0
  rw [ef4]
  have hS : s.Since s.vm 0 := (State.WarmedH.refl s).since 0
  have hk : 0 ≤ h0.size := Nat.zero_le _
  have X0 : Stand p l e ({ frames := 2, cells := 4, slots := 36, locals := 24 } : Room) (s.setVm s.vm) m #[(.ref a), (.ref r1), (.ref r2), (.long q1), (.long q2)] below meth c s₁ [] 0 0 := X0
  have hZ : Z.Warmed39 (s.setVm s.vm).vm := hZ
  have hown : (s.setVm s.vm).vm.findClass "com/example/gaithersburg/gaithersburg/Topic" = some m.cls := hown
  have K0 : Keep h0 h0 [a] := Keep.refl h0 [a]
  show own_Go p.tables e below _ (s₁.setTop (mkF m 0 #[.val (.ref a), .val (.ref r1), .val (.ref r2), .val (.long q1), .second, .val (.long q2), .second] []))
  refine own_st (S' := s₁.setTop (mkF m 1 #[.val (.ref a), .val (.ref r1), .val (.ref r2), .val (.long q1), .second, .val (.long q2), .second] [(.ref a)])) (fun t k => XS.aloadN X0.here hx rfl (hb hby d4_0) rfl rfl k) ?_
  obtain ⟨_, _, ⟨T1, L1, k1, n1⟩, -, X1, ⟨Lc1, hQ1, l1, y1, z1⟩, st1⟩ := X0.specialBack hx (y := (⟨"java/lang/Record", "<init>", "()V"⟩ : MethodName)) rfl hown (mvT hZ (hw _ (List.mem_of_getElem? (i := 19) rfl))) (mvT hZ (hw _ (List.mem_of_getElem? (i := 20) rfl))) (mvT hZ (hw _ (List.mem_of_getElem? (i := 23) rfl))) (by decide) (backOf (W := 0) (rm2 l Z a0 hw [] a h0 n0 Z0 ) hZ (hw _ (List.mem_of_getElem? (i := 23) rfl)) (hw _ (List.mem_of_getElem? (i := 22) rfl)) (by decide) (by decide)) (g := (mkF m 1 #[.val (.ref a), .val (.ref r1), .val (.ref r2), .val (.long q1), .second, .val (.long q2), .second] [(.ref a)])) rfl (by rw [hml]; rfl) (Steps.refl _) (a := a) (argsL := []) (rest := []) (lenOf pd4_0 rfl) rfl (by show 2 * 0 + _ ≤ _; exact Nat.le_of_eq rfl) (hb hby d4_1) (fun _ _ => ⟨rfl, e0, (by decide : 0 + 0 ≤ _), (by decide : 0 + 0 ≤ _)⟩)
  dsimp only [Pt.U, Pt.locs, Pt.cells, Pt.slots] at X1 l1 y1 z1 st1 hQ1
  rw [l1, y1, z1] at X1
  obtain ⟨rfl, N1q, hh1⟩ := hQ1
  have N1 := Fr.app N0 N1q
  refine own_tr st1 ?_
  show own_Go p.tables e below _ (T1.setTop (mkF m 4 #[.val (.ref a), .val (.ref r1), .val (.ref r2), .val (.long q1), .second, .val (.long q2), .second] []))
  refine own_st (S' := T1.setTop (mkF m 5 #[.val (.ref a), .val (.ref r1), .val (.ref r2), .val (.long q1), .second, .val (.long q2), .second] [(.ref r1)])) (fun t k => XS.aloadN X1.here hx rfl (hb hby d4_4) rfl rfl k) ?_
  obtain ⟨b2, T2, h2, k2, X2, e2, E2, hS, hk, hZ, hown, st2⟩ := ldcS X1 hx hZ hown (hw _ (List.mem_of_getElem? (i := 27) rfl)) (own_wS hw) hh1 hS hk (g := (mkF m 5 #[.val (.ref a), .val (.ref r1), .val (.ref r2), .val (.long q1), .second, .val (.long q2), .second] [(.ref r1)])) rfl (hb hby d4_5) (n := 8) (by decide) (by decide) (by decide) (by decide)
  have f3 : Exa Z h2 a "com/example/gaithersburg/gaithersburg/Topic" := E_a.ext E2
  have f4 : Fld Z h2 a "com/example/gaithersburg/gaithersburg/Topic" "id" "Ljava/lang/String;" .null := F_a_id.ext E2
  have f5 : Fld Z h2 a "com/example/gaithersburg/gaithersburg/Topic" "title" "Ljava/lang/String;" .null := F_a_title.ext E2
  have f6 : Fld Z h2 a "com/example/gaithersburg/gaithersburg/Topic" "exampleId" "J" (.long u1) := F_a_exampleId.ext E2
  have f7 : Fld Z h2 a "com/example/gaithersburg/gaithersburg/Topic" "newestId" "J" (.long u2) := F_a_newestId.ext E2
  have Z2 : n0 ≤ h2.size := Nat.le_trans Z0 E2.1
  have K2 : Keep h0 h2 [a] := K0.ext E2
  refine own_st st2 ?_
  show own_Go p.tables e below _ (T2.setTop (mkF m 7 #[.val (.ref a), .val (.ref r1), .val (.ref r2), .val (.long q1), .second, .val (.long q2), .second] [(.ref b2), (.ref r1)]))
  obtain ⟨_, _, ⟨T8, L8, k8, n8⟩, -, X8, ⟨Lc8, hQ8, l8, y8, z8⟩, st8⟩ := Jvm.LawKit.callS X2 hx (y := (⟨"java/util/Objects", "requireNonNull", "(Ljava/lang/Object;Ljava/lang/String;)Ljava/lang/Object;"⟩ : MethodName)) hown (mvT hZ (hw _ (List.mem_of_getElem? (i := 28) rfl))) (mvT hZ (hw _ (List.mem_of_getElem? (i := 29) rfl))) (mvT hZ (hw _ (List.mem_of_getElem? (i := 30) rfl))) (mvT hZ (hw _ (List.mem_of_getElem? (i := 31) rfl))) (by decide) (backOf (W := 0) (rm3 l Z a0 hw [] r1 b2 h2 n0 Z2 ) hZ (hw _ (List.mem_of_getElem? (i := 31) rfl)) (hw _ (List.mem_of_getElem? (i := 30) rfl)) (by decide) (by decide)) (g := (mkF m 7 #[.val (.ref a), .val (.ref r1), .val (.ref r2), .val (.long q1), .second, .val (.long q2), .second] [(.ref b2), (.ref r1)])) rfl (by rw [hml]; rfl) (argsL := [(.ref r1), (.ref b2)]) (rest := []) (lenOf pd4_1 rfl) rfl (by show 2 * 0 + _ ≤ _; exact Nat.le_of_eq rfl) (hb hby d4_7) (fun _ _ => ⟨rfl, e2, (by decide : 2 + 0 ≤ _), (by decide : 12 + 0 ≤ _)⟩)
  dsimp only [Pt.U, Pt.locs, Pt.cells, Pt.slots] at X8 l8 y8 z8 st8 hQ8
  rw [l8, y8, z8] at X8
  obtain ⟨rfl, N8q, hh8⟩ := hQ8
  have N8 := Fr.app N1 N8q
  refine own_st st8 ?_
  show own_Go p.tables e below _ (T8.setTop (mkF m 10 #[.val (.ref a), .val (.ref r1), .val (.ref r2), .val (.long q1), .second, .val (.long q2), .second] [(.ref r1)]))
  refine own_st (S' := T8.setTop (mkF m 11 #[.val (.ref a), .val (.ref r1), .val (.ref r2), .val (.long q1), .second, .val (.long q2), .second] [])) (fun t k => XS.pop X8.here hx rfl (hb hby d4_10) rfl rfl k) ?_
  refine own_st (S' := T8.setTop (mkF m 12 #[.val (.ref a), .val (.ref r1), .val (.ref r2), .val (.long q1), .second, .val (.long q2), .second] [(.ref r2)])) (fun t k => XS.aloadN X8.here hx rfl (hb hby d4_11) rfl rfl k) ?_
  obtain ⟨b9, T9, h9, k9, X9, e9, E9, hS, hk, hZ, hown, st9⟩ := ldcS X8 hx hZ hown (hw _ (List.mem_of_getElem? (i := 32) rfl)) (own_wS hw) hh8 hS hk (g := (mkF m 12 #[.val (.ref a), .val (.ref r1), .val (.ref r2), .val (.long q1), .second, .val (.long q2), .second] [(.ref r2)])) rfl (hb hby d4_12) (n := 20) (by decide) (by decide) (by decide) (by decide)
  have f10 : Exa Z h9 a "com/example/gaithersburg/gaithersburg/Topic" := f3.ext E9
  have f11 : Fld Z h9 a "com/example/gaithersburg/gaithersburg/Topic" "id" "Ljava/lang/String;" .null := f4.ext E9
  have f12 : Fld Z h9 a "com/example/gaithersburg/gaithersburg/Topic" "title" "Ljava/lang/String;" .null := f5.ext E9
  have f13 : Fld Z h9 a "com/example/gaithersburg/gaithersburg/Topic" "exampleId" "J" (.long u1) := f6.ext E9
  have f14 : Fld Z h9 a "com/example/gaithersburg/gaithersburg/Topic" "newestId" "J" (.long u2) := f7.ext E9
  have Z9 : n0 ≤ h9.size := Nat.le_trans Z2 E9.1
  have K9 : Keep h0 h9 [a] := K2.ext E9
  refine own_st st9 ?_
  show own_Go p.tables e below _ (T9.setTop (mkF m 14 #[.val (.ref a), .val (.ref r1), .val (.ref r2), .val (.long q1), .second, .val (.long q2), .second] [(.ref b9), (.ref r2)]))
  obtain ⟨_, _, ⟨T15, L15, k15, n15⟩, -, X15, ⟨Lc15, hQ15, l15, y15, z15⟩, st15⟩ := Jvm.LawKit.callS X9 hx (y := (⟨"java/util/Objects", "requireNonNull", "(Ljava/lang/Object;Ljava/lang/String;)Ljava/lang/Object;"⟩ : MethodName)) hown (mvT hZ (hw _ (List.mem_of_getElem? (i := 28) rfl))) (mvT hZ (hw _ (List.mem_of_getElem? (i := 29) rfl))) (mvT hZ (hw _ (List.mem_of_getElem? (i := 30) rfl))) (mvT hZ (hw _ (List.mem_of_getElem? (i := 31) rfl))) (by decide) (backOf (W := 0) (rm3 l Z a0 hw [] r2 b9 h9 n0 Z9 ) hZ (hw _ (List.mem_of_getElem? (i := 31) rfl)) (hw _ (List.mem_of_getElem? (i := 30) rfl)) (by decide) (by decide)) (g := (mkF m 14 #[.val (.ref a), .val (.ref r1), .val (.ref r2), .val (.long q1), .second, .val (.long q2), .second] [(.ref b9), (.ref r2)])) rfl (by rw [hml]; rfl) (argsL := [(.ref r2), (.ref b9)]) (rest := []) (lenOf pd4_1 rfl) rfl (by show 2 * 0 + _ ≤ _; exact Nat.le_of_eq rfl) (hb hby d4_14) (fun _ _ => ⟨rfl, e9, (by decide : 4 + 0 ≤ _), (by decide : 36 + 0 ≤ _)⟩)
  dsimp only [Pt.U, Pt.locs, Pt.cells, Pt.slots] at X15 l15 y15 z15 st15 hQ15
  rw [l15, y15, z15] at X15
  obtain ⟨rfl, N15q, hh15⟩ := hQ15
  have N15 := Fr.app N8 N15q
  refine own_st st15 ?_
  show own_Go p.tables e below _ (T15.setTop (mkF m 17 #[.val (.ref a), .val (.ref r1), .val (.ref r2), .val (.long q1), .second, .val (.long q2), .second] [(.ref r2)]))
  refine own_st (S' := T15.setTop (mkF m 18 #[.val (.ref a), .val (.ref r1), .val (.ref r2), .val (.long q1), .second, .val (.long q2), .second] [])) (fun t k => XS.pop X15.here hx rfl (hb hby d4_17) rfl rfl k) ?_
  refine own_st (S' := T15.setTop (mkF m 19 #[.val (.ref a), .val (.ref r1), .val (.ref r2), .val (.long q1), .second, .val (.long q2), .second] [(.ref a)])) (fun t k => XS.aloadN X15.here hx rfl (hb hby d4_18) rfl rfl k) ?_
  refine own_st (S' := T15.setTop (mkF m 20 #[.val (.ref a), .val (.ref r1), .val (.ref r2), .val (.long q1), .second, .val (.long q2), .second] [(.ref r1), (.ref a)])) (fun t k => XS.aloadN X15.here hx rfl (hb hby d4_19) rfl rfl k) ?_
  obtain ⟨T16, h16, X16, e16, W16, st16⟩ := putF X15 hx hZ hown (host := "") (Or.inl (hw _ (List.mem_of_getElem? (i := 33) rfl))) Via.refl hh15 f11 f10 (Or.inr ⟨(hw _ (List.mem_of_getElem? (i := 34) rfl)), rfl, hnm⟩) (hw _ (List.mem_of_getElem? (i := 5) rfl)) (ty := (.object "java/lang/String")) (by decide) rfl rfl (g := (mkF m 20 #[.val (.ref a), .val (.ref r1), .val (.ref r2), .val (.long q1), .second, .val (.long q2), .second] [(.ref r1), (.ref a)])) rfl rfl (hb hby d4_20)
  refine own_st st16 ?_
  have f17 : Exa Z h16 a "com/example/gaithersburg/gaithersburg/Topic" := f10.wr W16
  have f18 : Fld Z h16 a "com/example/gaithersburg/gaithersburg/Topic" "title" "Ljava/lang/String;" .null := f12.other W16 (Or.inr (slot_ne (Or.inr (hw _ (List.mem_of_getElem? (i := 36) rfl))) (Or.inr (hw _ (List.mem_of_getElem? (i := 34) rfl))) (by decide) (t := (.object "java/lang/String")) (t' := (.object "java/lang/String")) (by decide) (by decide)))
  have f19 : Fld Z h16 a "com/example/gaithersburg/gaithersburg/Topic" "exampleId" "J" (.long u1) := f13.other W16 (Or.inr (slot_ne (Or.inr (hw _ (List.mem_of_getElem? (i := 38) rfl))) (Or.inr (hw _ (List.mem_of_getElem? (i := 34) rfl))) (by decide) (t := .long) (t' := (.object "java/lang/String")) (by decide) (by decide)))
  have f20 : Fld Z h16 a "com/example/gaithersburg/gaithersburg/Topic" "newestId" "J" (.long u2) := f14.other W16 (Or.inr (slot_ne (Or.inr (hw _ (List.mem_of_getElem? (i := 40) rfl))) (Or.inr (hw _ (List.mem_of_getElem? (i := 34) rfl))) (by decide) (t := .long) (t' := (.object "java/lang/String")) (by decide) (by decide)))
  have Z16 : n0 ≤ h16.size := Nat.le_trans Z9 (Keep.of_wr W16).1
  have hk := Nat.le_trans hk (Keep.of_wr W16).1
  have N16 := Fr.snoc X16 N15 G_a
  have K16 : Keep h0 h16 [a] := K9.wr W16 (Or.inl (List.mem_of_getElem? (i := 0) rfl))
  have f21 : Fld Z h16 a "com/example/gaithersburg/gaithersburg/Topic" "id" "Ljava/lang/String;" (.ref r1) := f11.same W16
  show own_Go p.tables e below _ (T16.setTop (mkF m 23 #[.val (.ref a), .val (.ref r1), .val (.ref r2), .val (.long q1), .second, .val (.long q2), .second] []))
  refine own_st (S' := T16.setTop (mkF m 24 #[.val (.ref a), .val (.ref r1), .val (.ref r2), .val (.long q1), .second, .val (.long q2), .second] [(.ref a)])) (fun t k => XS.aloadN X16.here hx rfl (hb hby d4_23) rfl rfl k) ?_
  refine own_st (S' := T16.setTop (mkF m 25 #[.val (.ref a), .val (.ref r1), .val (.ref r2), .val (.long q1), .second, .val (.long q2), .second] [(.ref r2), (.ref a)])) (fun t k => XS.aloadN X16.here hx rfl (hb hby d4_24) rfl rfl k) ?_
  obtain ⟨T22, h22, X22, e22, W22, st22⟩ := putF X16 hx hZ hown (host := "") (Or.inl (hw _ (List.mem_of_getElem? (i := 35) rfl))) Via.refl e16 f18 f17 (Or.inr ⟨(hw _ (List.mem_of_getElem? (i := 36) rfl)), rfl, hnm⟩) (hw _ (List.mem_of_getElem? (i := 5) rfl)) (ty := (.object "java/lang/String")) (by decide) rfl rfl (g := (mkF m 25 #[.val (.ref a), .val (.ref r1), .val (.ref r2), .val (.long q1), .second, .val (.long q2), .second] [(.ref r2), (.ref a)])) rfl rfl (hb hby d4_25)
  refine own_st st22 ?_
  have f23 : Exa Z h22 a "com/example/gaithersburg/gaithersburg/Topic" := f17.wr W22
  have f24 : Fld Z h22 a "com/example/gaithersburg/gaithersburg/Topic" "id" "Ljava/lang/String;" (.ref r1) := f21.other W22 (Or.inr (slot_ne (Or.inr (hw _ (List.mem_of_getElem? (i := 34) rfl))) (Or.inr (hw _ (List.mem_of_getElem? (i := 36) rfl))) (by decide) (t := (.object "java/lang/String")) (t' := (.object "java/lang/String")) (by decide) (by decide)))
  have f25 : Fld Z h22 a "com/example/gaithersburg/gaithersburg/Topic" "exampleId" "J" (.long u1) := f19.other W22 (Or.inr (slot_ne (Or.inr (hw _ (List.mem_of_getElem? (i := 38) rfl))) (Or.inr (hw _ (List.mem_of_getElem? (i := 36) rfl))) (by decide) (t := .long) (t' := (.object "java/lang/String")) (by decide) (by decide)))
  have f26 : Fld Z h22 a "com/example/gaithersburg/gaithersburg/Topic" "newestId" "J" (.long u2) := f20.other W22 (Or.inr (slot_ne (Or.inr (hw _ (List.mem_of_getElem? (i := 40) rfl))) (Or.inr (hw _ (List.mem_of_getElem? (i := 36) rfl))) (by decide) (t := .long) (t' := (.object "java/lang/String")) (by decide) (by decide)))
  have Z22 : n0 ≤ h22.size := Nat.le_trans Z16 (Keep.of_wr W22).1
  have hk := Nat.le_trans hk (Keep.of_wr W22).1
  have N22 := Fr.snoc X22 N16 G_a
  have K22 : Keep h0 h22 [a] := K16.wr W22 (Or.inl (List.mem_of_getElem? (i := 0) rfl))
  have f27 : Fld Z h22 a "com/example/gaithersburg/gaithersburg/Topic" "title" "Ljava/lang/String;" (.ref r2) := f18.same W22
  show own_Go p.tables e below _ (T22.setTop (mkF m 28 #[.val (.ref a), .val (.ref r1), .val (.ref r2), .val (.long q1), .second, .val (.long q2), .second] []))
  refine own_st (S' := T22.setTop (mkF m 29 #[.val (.ref a), .val (.ref r1), .val (.ref r2), .val (.long q1), .second, .val (.long q2), .second] [(.ref a)])) (fun t k => XS.aloadN X22.here hx rfl (hb hby d4_28) rfl rfl k) ?_
  refine own_st (S' := T22.setTop (mkF m 30 #[.val (.ref a), .val (.ref r1), .val (.ref r2), .val (.long q1), .second, .val (.long q2), .second] [(.long q1), (.ref a)])) (fun t k => XS.lloadN X22.here hx rfl (hb hby d4_29) rfl k) ?_
  obtain ⟨T28, h28, X28, e28, W28, st28⟩ := putF X22 hx hZ hown (host := "") (Or.inl (hw _ (List.mem_of_getElem? (i := 37) rfl))) Via.refl e22 f25 f23 (Or.inr ⟨(hw _ (List.mem_of_getElem? (i := 38) rfl)), rfl, hnm⟩) (hw _ (List.mem_of_getElem? (i := 5) rfl)) (ty := .long) (by decide) rfl rfl (g := (mkF m 30 #[.val (.ref a), .val (.ref r1), .val (.ref r2), .val (.long q1), .second, .val (.long q2), .second] [(.long q1), (.ref a)])) rfl rfl (hb hby d4_30)
  refine own_st st28 ?_
  have f29 : Exa Z h28 a "com/example/gaithersburg/gaithersburg/Topic" := f23.wr W28
  have f30 : Fld Z h28 a "com/example/gaithersburg/gaithersburg/Topic" "id" "Ljava/lang/String;" (.ref r1) := f24.other W28 (Or.inr (slot_ne (Or.inr (hw _ (List.mem_of_getElem? (i := 34) rfl))) (Or.inr (hw _ (List.mem_of_getElem? (i := 38) rfl))) (by decide) (t := (.object "java/lang/String")) (t' := .long) (by decide) (by decide)))
  have f31 : Fld Z h28 a "com/example/gaithersburg/gaithersburg/Topic" "title" "Ljava/lang/String;" (.ref r2) := f27.other W28 (Or.inr (slot_ne (Or.inr (hw _ (List.mem_of_getElem? (i := 36) rfl))) (Or.inr (hw _ (List.mem_of_getElem? (i := 38) rfl))) (by decide) (t := (.object "java/lang/String")) (t' := .long) (by decide) (by decide)))
  have f32 : Fld Z h28 a "com/example/gaithersburg/gaithersburg/Topic" "newestId" "J" (.long u2) := f26.other W28 (Or.inr (slot_ne (Or.inr (hw _ (List.mem_of_getElem? (i := 40) rfl))) (Or.inr (hw _ (List.mem_of_getElem? (i := 38) rfl))) (by decide) (t := .long) (t' := .long) (by decide) (by decide)))
  have Z28 : n0 ≤ h28.size := Nat.le_trans Z22 (Keep.of_wr W28).1
  have hk := Nat.le_trans hk (Keep.of_wr W28).1
  have N28 := Fr.snoc X28 N22 G_a
  have K28 : Keep h0 h28 [a] := K22.wr W28 (Or.inl (List.mem_of_getElem? (i := 0) rfl))
  have f33 : Fld Z h28 a "com/example/gaithersburg/gaithersburg/Topic" "exampleId" "J" (.long q1) := f25.same W28
  show own_Go p.tables e below _ (T28.setTop (mkF m 33 #[.val (.ref a), .val (.ref r1), .val (.ref r2), .val (.long q1), .second, .val (.long q2), .second] []))
  refine own_st (S' := T28.setTop (mkF m 34 #[.val (.ref a), .val (.ref r1), .val (.ref r2), .val (.long q1), .second, .val (.long q2), .second] [(.ref a)])) (fun t k => XS.aloadN X28.here hx rfl (hb hby d4_33) rfl rfl k) ?_
  refine own_st (S' := T28.setTop (mkF m 36 #[.val (.ref a), .val (.ref r1), .val (.ref r2), .val (.long q1), .second, .val (.long q2), .second] [(.long q2), (.ref a)])) (fun t k => XS.lload X28.here hx rfl (hb hby d4_34) rfl k) ?_
  obtain ⟨T34, h34, X34, e34, W34, st34⟩ := putF X28 hx hZ hown (host := "") (Or.inl (hw _ (List.mem_of_getElem? (i := 39) rfl))) Via.refl e28 f32 f29 (Or.inr ⟨(hw _ (List.mem_of_getElem? (i := 40) rfl)), rfl, hnm⟩) (hw _ (List.mem_of_getElem? (i := 5) rfl)) (ty := .long) (by decide) rfl rfl (g := (mkF m 36 #[.val (.ref a), .val (.ref r1), .val (.ref r2), .val (.long q1), .second, .val (.long q2), .second] [(.long q2), (.ref a)])) rfl rfl (hb hby d4_36)
  refine own_st st34 ?_
  have f35 : Exa Z h34 a "com/example/gaithersburg/gaithersburg/Topic" := f29.wr W34
  have f36 : Fld Z h34 a "com/example/gaithersburg/gaithersburg/Topic" "id" "Ljava/lang/String;" (.ref r1) := f30.other W34 (Or.inr (slot_ne (Or.inr (hw _ (List.mem_of_getElem? (i := 34) rfl))) (Or.inr (hw _ (List.mem_of_getElem? (i := 40) rfl))) (by decide) (t := (.object "java/lang/String")) (t' := .long) (by decide) (by decide)))
  have f37 : Fld Z h34 a "com/example/gaithersburg/gaithersburg/Topic" "title" "Ljava/lang/String;" (.ref r2) := f31.other W34 (Or.inr (slot_ne (Or.inr (hw _ (List.mem_of_getElem? (i := 36) rfl))) (Or.inr (hw _ (List.mem_of_getElem? (i := 40) rfl))) (by decide) (t := (.object "java/lang/String")) (t' := .long) (by decide) (by decide)))
  have f38 : Fld Z h34 a "com/example/gaithersburg/gaithersburg/Topic" "exampleId" "J" (.long q1) := f33.other W34 (Or.inr (slot_ne (Or.inr (hw _ (List.mem_of_getElem? (i := 38) rfl))) (Or.inr (hw _ (List.mem_of_getElem? (i := 40) rfl))) (by decide) (t := .long) (t' := .long) (by decide) (by decide)))
  have Z34 : n0 ≤ h34.size := Nat.le_trans Z28 (Keep.of_wr W34).1
  have hk := Nat.le_trans hk (Keep.of_wr W34).1
  have N34 := Fr.snoc X34 N28 G_a
  have K34 : Keep h0 h34 [a] := K28.wr W34 (Or.inl (List.mem_of_getElem? (i := 0) rfl))
  have f39 : Fld Z h34 a "com/example/gaithersburg/gaithersburg/Topic" "newestId" "J" (.long q2) := f32.same W34
  show own_Go p.tables e below _ (T34.setTop (mkF m 39 #[.val (.ref a), .val (.ref r1), .val (.ref r2), .val (.long q1), .second, .val (.long q2), .second] []))
  refine own_retVW X34 hS (by rw [e34]; exact hk) hx hret hlk (hb hby d4_39) ?_ (by decide) (by decide)
  rw [e34]
  exact ⟨rfl, N34, K34, f35, f38, f39⟩
theorem d5_0 : decode prog_49_method_2_code 0 = .ok (.lload_n 1, 1) := by decide +kernel
theorem d5_1 : decode prog_49_method_2_code 1 = .ok (.aload_n 0, 1) := by decide +kernel
theorem d5_2 : decode prog_49_method_2_code 2 = .ok (.getfield 24, 3) := by decide +kernel
theorem d5_5 : decode prog_49_method_2_code 5 = .ok (.lcmp, 1) := by decide +kernel
theorem d5_6 : decode prog_49_method_2_code 6 = .ok (.ifCond .le 16, 3) := by decide +kernel
theorem d5_9 : decode prog_49_method_2_code 9 = .ok (.lload_n 1, 1) := by decide +kernel
theorem d5_10 : decode prog_49_method_2_code 10 = .ok (.aload_n 0, 1) := by decide +kernel
theorem d5_11 : decode prog_49_method_2_code 11 = .ok (.getfield 28, 3) := by decide +kernel
theorem d5_14 : decode prog_49_method_2_code 14 = .ok (.lcmp, 1) := by decide +kernel
theorem d5_15 : decode prog_49_method_2_code 15 = .ok (.ifCond .gt 7, 3) := by decide +kernel
theorem d5_18 : decode prog_49_method_2_code 18 = .ok (.iconst 1, 1) := by decide +kernel
theorem d5_19 : decode prog_49_method_2_code 19 = .ok (.goto 4, 3) := by decide +kernel
theorem d5_22 : decode prog_49_method_2_code 22 = .ok (.iconst 0, 1) := by decide +kernel
theorem d5_23 : decode prog_49_method_2_code 23 = .ok (.ireturn, 1) := by decide +kernel
theorem pn5 : plainName "com/example/gaithersburg/gaithersburg/Topic" = true := by first | (simp [plainName, overriddenIn]; done) | decide +kernel
theorem ef5 (m : MethodId) (a : Addr) (q1 : Int64) : entryFrame m #[(.ref a), (.long q1)] 3 = mkF m 0 #[.val (.ref a), .val (.long q1), .second] [] := by first | (simp [entryFrame, mkF, argsToLocals, Value.category]; done) | rfl
def Q5 (Z : State) (a : Addr) (q1 : Int64) (w1 : Int64) (w2 : Int64) (h0 : Heap) (n0 : Nat) (v : Option Value) (h : Heap) (L : List Loc) : Prop := v = some (.int (if w1 < q1 then (if w2 < q1 then (0 : Int32) else (1 : Int32)) else (0 : Int32))) ∧ Fr n0 L ∧ h = h0
set_option maxRecDepth 65536 in
set_option maxHeartbeats 40000000 in
theorem rm5 (l : Launch) (Z : State) (a0 : Array Value) (hw : ∀ d ∈ tables_1, d.before a0 Z = true) (ws : List Jvm.Cond) (a : Addr) (q1 : Int64) (w1 : Int64) (w2 : Int64) (h0 : Heap) (n0 : Nat) (Z0 : n0 ≤ h0.size) (F_a_exampleId : Fld Z h0 a "com/example/gaithersburg/gaithersburg/Topic" "exampleId" "J" (.long w1)) (F_a_newestId : Fld Z h0 a "com/example/gaithersburg/gaithersburg/Topic" "newestId" "J" (.long w2)) :
    MetFree l (⟨"com/example/gaithersburg/gaithersburg/Topic", "inWindow", "(J)Z"⟩ : MethodName) (head1 (Jvm.Cond.code (⟨"com/example/gaithersburg/gaithersburg/Topic", "inWindow", "(J)Z"⟩ : MethodName) prog_49_method_2_code 3 (some .boolean) :: ws) ({ frames := 0, cells := 0, slots := 0, locals := 0 } : Room)) (fun as' U => as' = #[(.ref a), (.long q1)] ∧ Z.Warmed39 U.vm ∧ U.heap = h0) (fun _ _ _ _ _ => True) (fun _ U o U' => ∃ v L, o = .returned v ∧ Q5 Z a q1 w1 w2 h0 n0 v U'.heap L ∧ FrameEnd U o U' L ({ frames := 0, cells := 0, slots := 0, locals := 0 } : Room).cells ({ frames := 0, cells := 0, slots := 0, locals := 0 } : Room).slots) := by
  refine own_body (plainFor_of_name pn5) ?_
  intro p e s m below meth c s₁ hx hby hml hown0 hnm hret hlk hZ X0 e0
  have hown : s.vm.findClass "com/example/gaithersburg/gaithersburg/Topic" = some m.cls := hown0
  have N0 := Fr.nil n0
  rw [ef5]
  show own_Go p.tables e below _ (s₁.setTop (mkF m 0 #[.val (.ref a), .val (.long q1), .second] []))
  refine own_st (S' := s₁.setTop (mkF m 1 #[.val (.ref a), .val (.long q1), .second] [(.long q1)])) (fun t k => XS.lloadN X0.here hx rfl (hb hby d5_0) rfl k) ?_
  refine own_st (S' := s₁.setTop (mkF m 2 #[.val (.ref a), .val (.long q1), .second] [(.ref a), (.long q1)])) (fun t k => XS.aloadN X0.here hx rfl (hb hby d5_1) rfl rfl k) ?_
  obtain ⟨T1, X1, e1, st1⟩ := getF X0 hx hZ hown (host := "") (Or.inl (hw _ (List.mem_of_getElem? (i := 37) rfl))) Via.refl e0 F_a_exampleId (g := (mkF m 2 #[.val (.ref a), .val (.long q1), .second] [(.ref a), (.long q1)])) rfl rfl (hb hby d5_2)
  refine own_st st1 ?_
  show own_Go p.tables e below _ (T1.setTop (mkF m 5 #[.val (.ref a), .val (.long q1), .second] [(.long w1), (.long q1)]))
  refine own_st (S' := T1.setTop (mkF m 6 #[.val (.ref a), .val (.long q1), .second] [(.int (lcmpW q1 w1))])) (fun t k => XS.lcmp X1.here hx rfl (hb hby d5_5) rfl k) ?_
  by_cases hc2 : w1 < q1
  · refine own_st (S' := T1.setTop (mkF m 9 #[.val (.ref a), .val (.long q1), .second] [])) (fun t k => XS.ifNo X1.here hx rfl (hb hby d5_6) rfl ((if0 _ _).trans (tlt ((lw_gt _ _).mpr hc2)).2.2.2) k) ?_
    show own_Go p.tables e below _ (T1.setTop (mkF m 9 #[.val (.ref a), .val (.long q1), .second] []))
    refine own_st (S' := T1.setTop (mkF m 10 #[.val (.ref a), .val (.long q1), .second] [(.long q1)])) (fun t k => XS.lloadN X1.here hx rfl (hb hby d5_9) rfl k) ?_
    refine own_st (S' := T1.setTop (mkF m 11 #[.val (.ref a), .val (.long q1), .second] [(.ref a), (.long q1)])) (fun t k => XS.aloadN X1.here hx rfl (hb hby d5_10) rfl rfl k) ?_
    obtain ⟨T3, X3, e3, st3⟩ := getF X1 hx hZ hown (host := "") (Or.inl (hw _ (List.mem_of_getElem? (i := 39) rfl))) Via.refl e1 F_a_newestId (g := (mkF m 11 #[.val (.ref a), .val (.long q1), .second] [(.ref a), (.long q1)])) rfl rfl (hb hby d5_11)
    refine own_st st3 ?_
    show own_Go p.tables e below _ (T3.setTop (mkF m 14 #[.val (.ref a), .val (.long q1), .second] [(.long w2), (.long q1)]))
    refine own_st (S' := T3.setTop (mkF m 15 #[.val (.ref a), .val (.long q1), .second] [(.int (lcmpW q1 w2))])) (fun t k => XS.lcmp X3.here hx rfl (hb hby d5_14) rfl k) ?_
    obtain ⟨v4, qv4⟩ : ∃ z : Int32, z = (if w2 < q1 then (0 : Int32) else (1 : Int32)) := ⟨_, rfl⟩
    refine own_st (S' := T3.setTop (mkF m 23 #[.val (.ref a), .val (.long q1), .second] [(.int v4)])) (fun t k => ?_) ?_
    · show Steps p.tables e below (T3.setTop (mkF m 15 #[.val (.ref a), .val (.long q1), .second] [(.int (lcmpW q1 w2))])) _
      by_cases hc5 : w2 < q1
      · rw [if_pos hc5] at qv4
        replace qv4 := Eq.symm qv4
        subst qv4
        refine XS.ifYes X3.here hx rfl (pc0 := 15) (pc' := 22) rfl (hb hby d5_15) rfl ((if0 _ _).trans (tlt ((lw_gt _ _).mpr hc5)).2.2.1) (by decide) (by decide) ?_
        show Steps p.tables e below (T3.setTop (mkF m 22 #[.val (.ref a), .val (.long q1), .second] [])) _
        refine XS.iconst X3.here hx rfl (hb hby d5_22) ?_
        show Steps p.tables e below (T3.setTop (mkF m 23 #[.val (.ref a), .val (.long q1), .second] [(.int (0 : Int32))])) _
        exact k
      · rw [if_neg hc5] at qv4
        replace qv4 := Eq.symm qv4
        subst qv4
        refine XS.ifNo X3.here hx rfl (hb hby d5_15) rfl ((if0 _ _).trans (flt (mt (lw_gt _ _).mp hc5)).2.2.1) ?_
        show Steps p.tables e below (T3.setTop (mkF m 18 #[.val (.ref a), .val (.long q1), .second] [])) _
        refine XS.iconst X3.here hx rfl (hb hby d5_18) ?_
        show Steps p.tables e below (T3.setTop (mkF m 19 #[.val (.ref a), .val (.long q1), .second] [(.int (1 : Int32))])) _
        refine XS.goto X3.here hx rfl (pc0 := 19) (pc' := 23) rfl (hb hby d5_19) (by decide) (by decide) ?_
        show Steps p.tables e below (T3.setTop (mkF m 23 #[.val (.ref a), .val (.long q1), .second] [(.int (1 : Int32))])) _
        exact k
    show own_Go p.tables e below _ (T3.setTop (mkF m 23 #[.val (.ref a), .val (.long q1), .second] [(.int v4)]))
    refine own_retN X3 hx (t := .boolean) hret (by simp) hlk (hb hby d5_23) ?_ (by decide) (by decide)
    rw [e3]
    exact ⟨by rw [if_pos hc2, qv4]; split <;> rfl, N0, rfl⟩
  · refine own_st (S' := T1.setTop (mkF m 22 #[.val (.ref a), .val (.long q1), .second] [])) (fun t k => XS.ifYes X1.here hx rfl (pc0 := 6) (pc' := 22) rfl (hb hby d5_6) rfl ((if0 _ _).trans (flt (mt (lw_gt _ _).mp hc2)).2.2.2) (by decide) (by decide) k) ?_
    show own_Go p.tables e below _ (T1.setTop (mkF m 22 #[.val (.ref a), .val (.long q1), .second] []))
    refine own_st (S' := T1.setTop (mkF m 23 #[.val (.ref a), .val (.long q1), .second] [(.int (0 : Int32))])) (fun t k => XS.iconst X1.here hx rfl (hb hby d5_22) k) ?_
    refine own_retN X1 hx (t := .boolean) hret (by simp) hlk (hb hby d5_23) ?_ (by decide) (by decide)
    rw [e1]
    exact ⟨by rw [if_neg hc2]; rfl, N0, rfl⟩
theorem d6_0 : decode jdk_29_method_66_code 0 = .ok (.lload_n 0, 1) := by decide +kernel
theorem d6_1 : decode jdk_29_method_66_code 1 = .ok (.lload_n 2, 1) := by decide +kernel
theorem d6_2 : decode jdk_29_method_66_code 2 = .ok (.lcmp, 1) := by decide +kernel
theorem d6_3 : decode jdk_29_method_66_code 3 = .ok (.ifCond .lt 7, 3) := by decide +kernel
theorem d6_6 : decode jdk_29_method_66_code 6 = .ok (.lload_n 0, 1) := by decide +kernel
theorem d6_7 : decode jdk_29_method_66_code 7 = .ok (.goto 4, 3) := by decide +kernel
theorem d6_10 : decode jdk_29_method_66_code 10 = .ok (.lload_n 2, 1) := by decide +kernel
theorem d6_11 : decode jdk_29_method_66_code 11 = .ok (.lreturn, 1) := by decide +kernel
theorem ef6 (m : MethodId) (q1 : Int64) (q2 : Int64) : entryFrame m #[(.long q1), (.long q2)] 4 = mkF m 0 #[.val (.long q1), .second, .val (.long q2), .second] [] := by first | (simp [entryFrame, mkF, argsToLocals, Value.category]; done) | rfl
def Q6 (Z : State) (q1 : Int64) (q2 : Int64) (h0 : Heap) (n0 : Nat) (v : Option Value) (h : Heap) (L : List Loc) : Prop := v = some (.long (if q1 < q2 then q2 else q1)) ∧ Fr n0 L ∧ h = h0
set_option maxRecDepth 65536 in
set_option maxHeartbeats 40000000 in
theorem rm6 (l : Launch) (Z : State) (a0 : Array Value) (hw : ∀ d ∈ tables_1, d.before a0 Z = true) (ws : List Jvm.Cond) (q1 : Int64) (q2 : Int64) (h0 : Heap) (n0 : Nat) (Z0 : n0 ≤ h0.size)  :
    MetFree l (⟨"java/lang/Math", "max", "(JJ)J"⟩ : MethodName) (head1 (Jvm.Cond.code (⟨"java/lang/Math", "max", "(JJ)J"⟩ : MethodName) jdk_29_method_66_code 4 (some .long) :: ws) ({ frames := 0, cells := 0, slots := 0, locals := 0 } : Room)) (fun as' U => as' = #[(.long q1), (.long q2)] ∧ Z.Warmed39 U.vm ∧ U.heap = h0) (fun _ _ _ _ _ => True) (fun _ U o U' => ∃ v L, o = .returned v ∧ Q6 Z q1 q2 h0 n0 v U'.heap L ∧ FrameEnd U o U' L ({ frames := 0, cells := 0, slots := 0, locals := 0 } : Room).cells ({ frames := 0, cells := 0, slots := 0, locals := 0 } : Room).slots) := by
  refine own_body (Jvm.Free.JP.mathPlain rfl (by decide +kernel)) ?_
  intro p e s m below meth c s₁ hx hby hml hown0 hnm hret hlk hZ X0 e0
  have hown : s.vm.findClass "java/lang/Math" = some m.cls := hown0
  have N0 := Fr.nil n0
  rw [ef6]
  show own_Go p.tables e below _ (s₁.setTop (mkF m 0 #[.val (.long q1), .second, .val (.long q2), .second] []))
  refine own_st (S' := s₁.setTop (mkF m 1 #[.val (.long q1), .second, .val (.long q2), .second] [(.long q1)])) (fun t k => XS.lloadN X0.here hx rfl (hb hby d6_0) rfl k) ?_
  refine own_st (S' := s₁.setTop (mkF m 2 #[.val (.long q1), .second, .val (.long q2), .second] [(.long q2), (.long q1)])) (fun t k => XS.lloadN X0.here hx rfl (hb hby d6_1) rfl k) ?_
  refine own_st (S' := s₁.setTop (mkF m 3 #[.val (.long q1), .second, .val (.long q2), .second] [(.int (lcmpW q1 q2))])) (fun t k => XS.lcmp X0.here hx rfl (hb hby d6_2) rfl k) ?_
  obtain ⟨v1, qv1⟩ : ∃ z : Int64, z = (if q1 < q2 then q2 else q1) := ⟨_, rfl⟩
  refine own_st (S' := s₁.setTop (mkF m 11 #[.val (.long q1), .second, .val (.long q2), .second] [(.long v1)])) (fun t k => ?_) ?_
  · show Steps p.tables e below (s₁.setTop (mkF m 3 #[.val (.long q1), .second, .val (.long q2), .second] [(.int (lcmpW q1 q2))])) _
    by_cases hc2 : q1 < q2
    · rw [if_pos hc2] at qv1
      replace qv1 := Eq.symm qv1
      subst qv1
      refine XS.ifYes X0.here hx rfl (pc0 := 3) (pc' := 10) rfl (hb hby d6_3) rfl ((if0 _ _).trans (tlt ((lw_lt _ _).mpr hc2)).1) (by decide) (by decide) ?_
      show Steps p.tables e below (s₁.setTop (mkF m 10 #[.val (.long q1), .second, .val (.long q2), .second] [])) _
      refine XS.lloadN X0.here hx rfl (hb hby d6_10) rfl ?_
      show Steps p.tables e below (s₁.setTop (mkF m 11 #[.val (.long q1), .second, .val (.long q2), .second] [(.long q2)])) _
      exact k
    · rw [if_neg hc2] at qv1
      replace qv1 := Eq.symm qv1
      subst qv1
      refine XS.ifNo X0.here hx rfl (hb hby d6_3) rfl ((if0 _ _).trans (flt (mt (lw_lt _ _).mp hc2)).1) ?_
      show Steps p.tables e below (s₁.setTop (mkF m 6 #[.val (.long q1), .second, .val (.long q2), .second] [])) _
      refine XS.lloadN X0.here hx rfl (hb hby d6_6) rfl ?_
      show Steps p.tables e below (s₁.setTop (mkF m 7 #[.val (.long q1), .second, .val (.long q2), .second] [(.long q1)])) _
      refine XS.goto X0.here hx rfl (pc0 := 7) (pc' := 11) rfl (hb hby d6_7) (by decide) (by decide) ?_
      show Steps p.tables e below (s₁.setTop (mkF m 11 #[.val (.long q1), .second, .val (.long q2), .second] [(.long q1)])) _
      exact k
  show own_Go p.tables e below _ (s₁.setTop (mkF m 11 #[.val (.long q1), .second, .val (.long q2), .second] [(.long v1)]))
  refine own_retL X0 hx hret hlk (hb hby d6_11) ?_ (by decide) (by decide)
  rw [e0]
  refine ⟨?_, N0, rfl⟩
  subst_vars
  rfl
theorem d7_0 : decode jdk_29_method_70_code 0 = .ok (.lload_n 0, 1) := by decide +kernel
theorem d7_1 : decode jdk_29_method_70_code 1 = .ok (.lload_n 2, 1) := by decide +kernel
theorem d7_2 : decode jdk_29_method_70_code 2 = .ok (.lcmp, 1) := by decide +kernel
theorem d7_3 : decode jdk_29_method_70_code 3 = .ok (.ifCond .gt 7, 3) := by decide +kernel
theorem d7_6 : decode jdk_29_method_70_code 6 = .ok (.lload_n 0, 1) := by decide +kernel
theorem d7_7 : decode jdk_29_method_70_code 7 = .ok (.goto 4, 3) := by decide +kernel
theorem d7_10 : decode jdk_29_method_70_code 10 = .ok (.lload_n 2, 1) := by decide +kernel
theorem d7_11 : decode jdk_29_method_70_code 11 = .ok (.lreturn, 1) := by decide +kernel
theorem ef7 (m : MethodId) (q1 : Int64) (q2 : Int64) : entryFrame m #[(.long q1), (.long q2)] 4 = mkF m 0 #[.val (.long q1), .second, .val (.long q2), .second] [] := by first | (simp [entryFrame, mkF, argsToLocals, Value.category]; done) | rfl
def Q7 (Z : State) (q1 : Int64) (q2 : Int64) (h0 : Heap) (n0 : Nat) (v : Option Value) (h : Heap) (L : List Loc) : Prop := v = some (.long (if q2 < q1 then q2 else q1)) ∧ Fr n0 L ∧ h = h0
set_option maxRecDepth 65536 in
set_option maxHeartbeats 40000000 in
theorem rm7 (l : Launch) (Z : State) (a0 : Array Value) (hw : ∀ d ∈ tables_1, d.before a0 Z = true) (ws : List Jvm.Cond) (q1 : Int64) (q2 : Int64) (h0 : Heap) (n0 : Nat) (Z0 : n0 ≤ h0.size)  :
    MetFree l (⟨"java/lang/Math", "min", "(JJ)J"⟩ : MethodName) (head1 (Jvm.Cond.code (⟨"java/lang/Math", "min", "(JJ)J"⟩ : MethodName) jdk_29_method_70_code 4 (some .long) :: ws) ({ frames := 0, cells := 0, slots := 0, locals := 0 } : Room)) (fun as' U => as' = #[(.long q1), (.long q2)] ∧ Z.Warmed39 U.vm ∧ U.heap = h0) (fun _ _ _ _ _ => True) (fun _ U o U' => ∃ v L, o = .returned v ∧ Q7 Z q1 q2 h0 n0 v U'.heap L ∧ FrameEnd U o U' L ({ frames := 0, cells := 0, slots := 0, locals := 0 } : Room).cells ({ frames := 0, cells := 0, slots := 0, locals := 0 } : Room).slots) := by
  refine own_body (Jvm.Free.JP.mathPlain rfl (by decide +kernel)) ?_
  intro p e s m below meth c s₁ hx hby hml hown0 hnm hret hlk hZ X0 e0
  have hown : s.vm.findClass "java/lang/Math" = some m.cls := hown0
  have N0 := Fr.nil n0
  rw [ef7]
  show own_Go p.tables e below _ (s₁.setTop (mkF m 0 #[.val (.long q1), .second, .val (.long q2), .second] []))
  refine own_st (S' := s₁.setTop (mkF m 1 #[.val (.long q1), .second, .val (.long q2), .second] [(.long q1)])) (fun t k => XS.lloadN X0.here hx rfl (hb hby d7_0) rfl k) ?_
  refine own_st (S' := s₁.setTop (mkF m 2 #[.val (.long q1), .second, .val (.long q2), .second] [(.long q2), (.long q1)])) (fun t k => XS.lloadN X0.here hx rfl (hb hby d7_1) rfl k) ?_
  refine own_st (S' := s₁.setTop (mkF m 3 #[.val (.long q1), .second, .val (.long q2), .second] [(.int (lcmpW q1 q2))])) (fun t k => XS.lcmp X0.here hx rfl (hb hby d7_2) rfl k) ?_
  obtain ⟨v1, qv1⟩ : ∃ z : Int64, z = (if q2 < q1 then q2 else q1) := ⟨_, rfl⟩
  refine own_st (S' := s₁.setTop (mkF m 11 #[.val (.long q1), .second, .val (.long q2), .second] [(.long v1)])) (fun t k => ?_) ?_
  · show Steps p.tables e below (s₁.setTop (mkF m 3 #[.val (.long q1), .second, .val (.long q2), .second] [(.int (lcmpW q1 q2))])) _
    by_cases hc2 : q2 < q1
    · rw [if_pos hc2] at qv1
      replace qv1 := Eq.symm qv1
      subst qv1
      refine XS.ifYes X0.here hx rfl (pc0 := 3) (pc' := 10) rfl (hb hby d7_3) rfl ((if0 _ _).trans (tlt ((lw_gt _ _).mpr hc2)).2.2.1) (by decide) (by decide) ?_
      show Steps p.tables e below (s₁.setTop (mkF m 10 #[.val (.long q1), .second, .val (.long q2), .second] [])) _
      refine XS.lloadN X0.here hx rfl (hb hby d7_10) rfl ?_
      show Steps p.tables e below (s₁.setTop (mkF m 11 #[.val (.long q1), .second, .val (.long q2), .second] [(.long q2)])) _
      exact k
    · rw [if_neg hc2] at qv1
      replace qv1 := Eq.symm qv1
      subst qv1
      refine XS.ifNo X0.here hx rfl (hb hby d7_3) rfl ((if0 _ _).trans (flt (mt (lw_gt _ _).mp hc2)).2.2.1) ?_
      show Steps p.tables e below (s₁.setTop (mkF m 6 #[.val (.long q1), .second, .val (.long q2), .second] [])) _
      refine XS.lloadN X0.here hx rfl (hb hby d7_6) rfl ?_
      show Steps p.tables e below (s₁.setTop (mkF m 7 #[.val (.long q1), .second, .val (.long q2), .second] [(.long q1)])) _
      refine XS.goto X0.here hx rfl (pc0 := 7) (pc' := 11) rfl (hb hby d7_7) (by decide) (by decide) ?_
      show Steps p.tables e below (s₁.setTop (mkF m 11 #[.val (.long q1), .second, .val (.long q2), .second] [(.long q1)])) _
      exact k
  show own_Go p.tables e below _ (s₁.setTop (mkF m 11 #[.val (.long q1), .second, .val (.long q2), .second] [(.long v1)]))
  refine own_retL X0 hx hret hlk (hb hby d7_11) ?_ (by decide) (by decide)
  rw [e0]
  refine ⟨?_, N0, rfl⟩
  subst_vars
  rfl
theorem pd0_0 : parseMethodDescriptor "(JJJI)J" = some ⟨[.long, .long, .long, .int], some .long⟩ := by decide +kernel
theorem pd0_1 : parseMethodDescriptor "(Ljava/lang/String;Ljava/lang/String;JJ)V" = some ⟨[(.object "java/lang/String"), (.object "java/lang/String"), .long, .long], none⟩ := by decide +kernel
theorem pd0_2 : parseMethodDescriptor "(J)Z" = some ⟨[.long], some .boolean⟩ := by decide +kernel
theorem pd0_3 : parseMethodDescriptor "(JJ)J" = some ⟨[.long, .long], some .long⟩ := by decide +kernel
theorem pn0 : plainName "com/example/gaithersburg/gaithersburg/TopicInWindowPinLaw" = true := by first | (simp [plainName, overriddenIn]; done) | decide +kernel
theorem ef0 (m : MethodId) (p0 : Int64) (p1 : Int64) (p2 : Int64) (p3 : Int32) : entryFrame m #[(.long p0), (.long p1), (.long p2), (.int p3)] maxLocals = mkF m 0 #[.val (.long p0), .second, .val (.long p1), .second, .val (.long p2), .second, .val (.int p3), .unset, .unset, .unset, .unset, .unset, .unset, .unset, .unset] [] := by first | (simp [entryFrame, mkF, argsToLocals, Value.category, maxLocals]; done) | rfl
def Q0 (n0 : Nat) (v : Option Value) (h : Heap) (L : List Loc) : Prop := v = some (.int 1) ∧ Fr n0 L
set_option maxRecDepth 65536 in
set_option maxHeartbeats 40000000 in
theorem rm0 (l : Launch) (Z : State) (a0 : Array Value) (hw : ∀ d ∈ tables_1, d.before a0 Z = true) (ws : List Jvm.Cond) (p0 : Int64) (p1 : Int64) (p2 : Int64) (p3 : Int32) (h0 : Heap) (n0 : Nat) (Z0 : n0 ≤ h0.size)  :
    MetFree l x (head1 (Jvm.Cond.code x code maxLocals ret :: ws) room_1) (fun as' U => as' = #[(.long p0), (.long p1), (.long p2), (.int p3)] ∧ Z.Warmed39 U.vm ∧ U.heap = h0) (fun _ _ _ _ _ => True) (fun _ U o U' => ∃ v L, o = .returned v ∧ Q0 n0 v U'.heap L ∧ ReturnedEndW U o U' L room_1.cells room_1.slots) := by
  refine own_bodyW (plainFor_of_name pn0) ?_
  intro p e s m below meth c s₁ hx hby hml hown0 hnm hret hlk hZ X0 e0
  have hown : s.vm.findClass "com/example/gaithersburg/gaithersburg/TopicInWindowPinLaw" = some m.cls := hown0
  have N0 := Fr.nil n0
  rw [ef0]
  have hS : s.Since s.vm 0 := (State.WarmedH.refl s).since 0
  have hk : 0 ≤ h0.size := Nat.zero_le _
  have X0 : Stand p l e room_1 (s.setVm s.vm) m #[(.long p0), (.long p1), (.long p2), (.int p3)] below meth c s₁ [] 0 0 := X0
  have hZ : Z.Warmed39 (s.setVm s.vm).vm := hZ
  have hown : (s.setVm s.vm).vm.findClass "com/example/gaithersburg/gaithersburg/TopicInWindowPinLaw" = some m.cls := hown
  show own_Go p.tables e below _ (s₁.setTop (mkF m 0 #[.val (.long p0), .second, .val (.long p1), .second, .val (.long p2), .second, .val (.int p3), .unset, .unset, .unset, .unset, .unset, .unset, .unset, .unset] []))
  refine own_st (S' := s₁.setTop (mkF m 1 #[.val (.long p0), .second, .val (.long p1), .second, .val (.long p2), .second, .val (.int p3), .unset, .unset, .unset, .unset, .unset, .unset, .unset, .unset] [(.long p0)])) (fun t k => XS.lloadN X0.here hx rfl (hb hby at_0) rfl k) ?_
  refine own_st (S' := s₁.setTop (mkF m 2 #[.val (.long p0), .second, .val (.long p1), .second, .val (.long p2), .second, .val (.int p3), .unset, .unset, .unset, .unset, .unset, .unset, .unset, .unset] [(.long p1), (.long p0)])) (fun t k => XS.lloadN X0.here hx rfl (hb hby at_1) rfl k) ?_
  refine own_st (S' := s₁.setTop (mkF m 4 #[.val (.long p0), .second, .val (.long p1), .second, .val (.long p2), .second, .val (.int p3), .unset, .unset, .unset, .unset, .unset, .unset, .unset, .unset] [(.long p2), (.long p1), (.long p0)])) (fun t k => XS.lload X0.here hx rfl (hb hby at_2) rfl k) ?_
  refine own_st (S' := s₁.setTop (mkF m 6 #[.val (.long p0), .second, .val (.long p1), .second, .val (.long p2), .second, .val (.int p3), .unset, .unset, .unset, .unset, .unset, .unset, .unset, .unset] [(.int p3), (.long p2), (.long p1), (.long p0)])) (fun t k => XS.iload X0.here hx rfl (hb hby at_4) rfl k) ?_
  obtain ⟨_, _, ⟨T1, L1, k1, n1⟩, -, X1, ⟨Lc1, hQ1, l1, y1, z1⟩, st1⟩ := Jvm.LawKit.callS X0 hx (y := (⟨"com/example/gaithersburg/gaithersburg/TopicInWindowPinLaw", "probe", "(JJJI)J"⟩ : MethodName)) hown (mvT hZ (hw _ (List.mem_of_getElem? (i := 0) rfl))) (mvT hZ (hw _ (List.mem_of_getElem? (i := 1) rfl))) (mvT hZ (hw _ (List.mem_of_getElem? (i := 2) rfl))) (mvT hZ (hw _ (List.mem_of_getElem? (i := 3) rfl))) (by decide) (backOf (W := 0) (rm1 l Z a0 hw [] p0 p1 p2 p3 h0 n0 Z0 ) hZ (hw _ (List.mem_of_getElem? (i := 3) rfl)) (hw _ (List.mem_of_getElem? (i := 2) rfl)) (by decide) (by decide)) (g := (mkF m 6 #[.val (.long p0), .second, .val (.long p1), .second, .val (.long p2), .second, .val (.int p3), .unset, .unset, .unset, .unset, .unset, .unset, .unset, .unset] [(.int p3), (.long p2), (.long p1), (.long p0)])) rfl (by rw [hml]; rfl) (argsL := [(.long p0), (.long p1), (.long p2), (.int p3)]) (rest := []) (lenOf pd0_0 rfl) rfl (by show 2 * 0 + _ ≤ _; exact Nat.le_of_eq rfl) (hb hby at_6) (fun _ _ => ⟨rfl, e0, (by decide : 0 + 0 ≤ _), (by decide : 0 + 0 ≤ _)⟩)
  dsimp only [Pt.U, Pt.locs, Pt.cells, Pt.slots] at X1 l1 y1 z1 st1 hQ1
  rw [l1, y1, z1] at X1
  obtain ⟨rfl, N1q, hh1⟩ := hQ1
  have N1 := Fr.app N0 N1q
  refine own_st st1 ?_
  show own_Go p.tables e below _ (T1.setTop (mkF m 9 #[.val (.long p0), .second, .val (.long p1), .second, .val (.long p2), .second, .val (.int p3), .unset, .unset, .unset, .unset, .unset, .unset, .unset, .unset] [(.long (own_probe p0 p1 p2 p3))]))
  obtain ⟨v2, qv2⟩ : ∃ z : Int64, z = (own_probe p0 p1 p2 p3) := ⟨_, rfl⟩
  rw [← qv2]
  refine own_st (S' := T1.setTop (mkF m 11 #[.val (.long p0), .second, .val (.long p1), .second, .val (.long p2), .second, .val (.int p3), .val (.long v2), .second, .unset, .unset, .unset, .unset, .unset, .unset] [])) (fun t k => XS.lstore X1.here hx rfl (hb hby at_9) rfl (l' := #[.val (.long p0), .second, .val (.long p1), .second, .val (.long p2), .second, .val (.int p3), .val (.long v2), .second, .unset, .unset, .unset, .unset, .unset, .unset]) rfl k) ?_
  obtain ⟨T3, h3, X3, e3, E3, A3, D3, -, st3⟩ := newO X1 hx hZ hown (hw _ (List.mem_of_getElem? (i := 4) rfl)) (hw _ (List.mem_of_getElem? (i := 5) rfl)) (hw _ (List.mem_of_getElem? (i := 6) rfl)) hh1 (g := (mkF m 11 #[.val (.long p0), .second, .val (.long p1), .second, .val (.long p2), .second, .val (.int p3), .val (.long v2), .second, .unset, .unset, .unset, .unset, .unset, .unset] [])) rfl (hb hby at_11) (by decide) (by decide)
  obtain ⟨b3, g3⟩ : ∃ z, z = h0.size := ⟨_, rfl⟩
  rw [← g3] at A3 D3 st3
  have G_b3 : n0 ≤ b3 := Nat.le_trans Z0 (Nat.le_of_eq g3.symm)
  have Z3 : n0 ≤ h3.size := Nat.le_trans Z0 E3.1
  have hk := Nat.le_trans hk E3.1
  have f4 : Fld Z h3 b3 "com/example/gaithersburg/gaithersburg/Topic" "id" "Ljava/lang/String;" .null := D3 (Or.inr (hw _ (List.mem_of_getElem? (i := 34) rfl))) (ty := (.object "java/lang/String")) (by decide)
  have f5 : Fld Z h3 b3 "com/example/gaithersburg/gaithersburg/Topic" "title" "Ljava/lang/String;" .null := D3 (Or.inr (hw _ (List.mem_of_getElem? (i := 36) rfl))) (ty := (.object "java/lang/String")) (by decide)
  have f6 : Fld Z h3 b3 "com/example/gaithersburg/gaithersburg/Topic" "exampleId" "J" (.long (0 : Int64)) := D3 (Or.inr (hw _ (List.mem_of_getElem? (i := 38) rfl))) (ty := .long) (by decide)
  have f7 : Fld Z h3 b3 "com/example/gaithersburg/gaithersburg/Topic" "newestId" "J" (.long (0 : Int64)) := D3 (Or.inr (hw _ (List.mem_of_getElem? (i := 40) rfl))) (ty := .long) (by decide)
  refine own_st st3 ?_
  show own_Go p.tables e below _ (T3.setTop (mkF m 14 #[.val (.long p0), .second, .val (.long p1), .second, .val (.long p2), .second, .val (.int p3), .val (.long v2), .second, .unset, .unset, .unset, .unset, .unset, .unset] [(.ref b3)]))
  refine own_st (S' := T3.setTop (mkF m 15 #[.val (.long p0), .second, .val (.long p1), .second, .val (.long p2), .second, .val (.int p3), .val (.long v2), .second, .unset, .unset, .unset, .unset, .unset, .unset] [(.ref b3), (.ref b3)])) (fun t k => XS.dup X3.here hx rfl (hb hby at_14) rfl rfl k) ?_
  obtain ⟨b8, T8, h8, k8, X8, e8, E8, hS, hk, hZ, hown, st8⟩ := ldcS X3 hx hZ hown (hw _ (List.mem_of_getElem? (i := 7) rfl)) (own_wS hw) e3 hS hk (g := (mkF m 15 #[.val (.long p0), .second, .val (.long p1), .second, .val (.long p2), .second, .val (.int p3), .val (.long v2), .second, .unset, .unset, .unset, .unset, .unset, .unset] [(.ref b3), (.ref b3)])) rfl (hb hby at_15) (n := 4) (by decide) (by decide) (by decide) (by decide)
  have f9 : Exa Z h8 b3 "com/example/gaithersburg/gaithersburg/Topic" := A3.ext E8
  have f10 : Fld Z h8 b3 "com/example/gaithersburg/gaithersburg/Topic" "id" "Ljava/lang/String;" .null := f4.ext E8
  have f11 : Fld Z h8 b3 "com/example/gaithersburg/gaithersburg/Topic" "title" "Ljava/lang/String;" .null := f5.ext E8
  have f12 : Fld Z h8 b3 "com/example/gaithersburg/gaithersburg/Topic" "exampleId" "J" (.long (0 : Int64)) := f6.ext E8
  have f13 : Fld Z h8 b3 "com/example/gaithersburg/gaithersburg/Topic" "newestId" "J" (.long (0 : Int64)) := f7.ext E8
  have Z8 : n0 ≤ h8.size := Nat.le_trans Z3 E8.1
  refine own_st st8 ?_
  show own_Go p.tables e below _ (T8.setTop (mkF m 17 #[.val (.long p0), .second, .val (.long p1), .second, .val (.long p2), .second, .val (.int p3), .val (.long v2), .second, .unset, .unset, .unset, .unset, .unset, .unset] [(.ref b8), (.ref b3), (.ref b3)]))
  obtain ⟨b14, T14, h14, k14, X14, e14, E14, hS, hk, hZ, hown, st14⟩ := ldcS X8 hx hZ hown (hw _ (List.mem_of_getElem? (i := 15) rfl)) (own_wS hw) e8 hS hk (g := (mkF m 17 #[.val (.long p0), .second, .val (.long p1), .second, .val (.long p2), .second, .val (.int p3), .val (.long v2), .second, .unset, .unset, .unset, .unset, .unset, .unset] [(.ref b8), (.ref b3), (.ref b3)])) rfl (hb hby at_17) (n := 4) (by decide) (by decide) (by decide) (by decide)
  have f15 : Exa Z h14 b3 "com/example/gaithersburg/gaithersburg/Topic" := f9.ext E14
  have f16 : Fld Z h14 b3 "com/example/gaithersburg/gaithersburg/Topic" "id" "Ljava/lang/String;" .null := f10.ext E14
  have f17 : Fld Z h14 b3 "com/example/gaithersburg/gaithersburg/Topic" "title" "Ljava/lang/String;" .null := f11.ext E14
  have f18 : Fld Z h14 b3 "com/example/gaithersburg/gaithersburg/Topic" "exampleId" "J" (.long (0 : Int64)) := f12.ext E14
  have f19 : Fld Z h14 b3 "com/example/gaithersburg/gaithersburg/Topic" "newestId" "J" (.long (0 : Int64)) := f13.ext E14
  have Z14 : n0 ≤ h14.size := Nat.le_trans Z8 E14.1
  refine own_st st14 ?_
  show own_Go p.tables e below _ (T14.setTop (mkF m 19 #[.val (.long p0), .second, .val (.long p1), .second, .val (.long p2), .second, .val (.int p3), .val (.long v2), .second, .unset, .unset, .unset, .unset, .unset, .unset] [(.ref b14), (.ref b8), (.ref b3), (.ref b3)]))
  refine own_st (S' := T14.setTop (mkF m 20 #[.val (.long p0), .second, .val (.long p1), .second, .val (.long p2), .second, .val (.int p3), .val (.long v2), .second, .unset, .unset, .unset, .unset, .unset, .unset] [(.long p0), (.ref b14), (.ref b8), (.ref b3), (.ref b3)])) (fun t k => XS.lloadN X14.here hx rfl (hb hby at_19) rfl k) ?_
  refine own_st (S' := T14.setTop (mkF m 21 #[.val (.long p0), .second, .val (.long p1), .second, .val (.long p2), .second, .val (.int p3), .val (.long v2), .second, .unset, .unset, .unset, .unset, .unset, .unset] [(.long p1), (.long p0), (.ref b14), (.ref b8), (.ref b3), (.ref b3)])) (fun t k => XS.lloadN X14.here hx rfl (hb hby at_20) rfl k) ?_
  obtain ⟨_, _, ⟨T20, L20, k20, n20⟩, -, X20, h220, gr20, ⟨Lc20, hQ20, l20, y20, z20⟩, st20⟩ := X14.specialBackS hx (y := (⟨"com/example/gaithersburg/gaithersburg/Topic", "<init>", "(Ljava/lang/String;Ljava/lang/String;JJ)V"⟩ : MethodName)) rfl hown (mvT hZ (hw _ (List.mem_of_getElem? (i := 16) rfl))) (mvT hZ (hw _ (List.mem_of_getElem? (i := 17) rfl))) (mvT hZ (hw _ (List.mem_of_getElem? (i := 18) rfl))) (by decide) (backOfS (W := 1) (rm4 l Z a0 hw [] b3 b8 b14 p0 p1 (0 : Int64) (0 : Int64) h14 n0 Z14 f15 f16 f17 f18 f19 G_b3) hZ (hw _ (List.mem_of_getElem? (i := 18) rfl)) (hw _ (List.mem_of_getElem? (i := 6) rfl)) (by decide) (by decide)) (g := (mkF m 21 #[.val (.long p0), .second, .val (.long p1), .second, .val (.long p2), .second, .val (.int p3), .val (.long v2), .second, .unset, .unset, .unset, .unset, .unset, .unset] [(.long p1), (.long p0), (.ref b14), (.ref b8), (.ref b3), (.ref b3)])) rfl (by rw [hml]; rfl) (Steps.refl _) (a := b3) (argsL := [(.ref b8), (.ref b14), (.long p0), (.long p1)]) (rest := [(.ref b3)]) (lenOf pd0_1 rfl) rfl (by show 2 * 0 + _ ≤ _; exact Nat.le_of_eq rfl) (hb hby at_21) (fun _ _ => ⟨rfl, e14, (by decide : 5 + 4 ≤ _), (by decide : 20 + 36 ≤ _)⟩)
  dsimp only [Pt.U, Pt.locs, Pt.cells, Pt.slots] at X20 l20 y20 z20 st20 hQ20 h220 gr20
  obtain ⟨X20, hS, hZ, hown⟩ := rebS hS (show _ ≤ T14.heap.size by rw [e14]; exact hk) X20 h220 gr20 hZ hown
  have hk := Nat.le_refl T20.heap.size
  rw [l20, y20, z20] at X20
  obtain ⟨rfl, N20q, Kq20, g0_20, g1_20, g2_20⟩ := hQ20
  have f21 : Exa Z T20.heap b3 "com/example/gaithersburg/gaithersburg/Topic" := f15.keep Kq20
  have Z20 : n0 ≤ T20.heap.size := Nat.le_trans Z14 Kq20.1
  have N20 := Fr.app N1 N20q
  refine own_tr st20 ?_
  show own_Go p.tables e below _ (T20.setTop (mkF m 24 #[.val (.long p0), .second, .val (.long p1), .second, .val (.long p2), .second, .val (.int p3), .val (.long v2), .second, .unset, .unset, .unset, .unset, .unset, .unset] [(.ref b3)]))
  refine own_st (S' := T20.setTop (mkF m 26 #[.val (.long p0), .second, .val (.long p1), .second, .val (.long p2), .second, .val (.int p3), .val (.long v2), .second, .val (.ref b3), .unset, .unset, .unset, .unset, .unset] [])) (fun t k => XS.astore X20.here hx rfl (hb hby at_24) rfl rfl (l' := #[.val (.long p0), .second, .val (.long p1), .second, .val (.long p2), .second, .val (.int p3), .val (.long v2), .second, .val (.ref b3), .unset, .unset, .unset, .unset, .unset]) rfl k) ?_
  refine own_st (S' := T20.setTop (mkF m 28 #[.val (.long p0), .second, .val (.long p1), .second, .val (.long p2), .second, .val (.int p3), .val (.long v2), .second, .val (.ref b3), .unset, .unset, .unset, .unset, .unset] [(.ref b3)])) (fun t k => XS.aload X20.here hx rfl (hb hby at_26) rfl rfl k) ?_
  refine own_st (S' := T20.setTop (mkF m 30 #[.val (.long p0), .second, .val (.long p1), .second, .val (.long p2), .second, .val (.int p3), .val (.long v2), .second, .val (.ref b3), .unset, .unset, .unset, .unset, .unset] [(.long v2), (.ref b3)])) (fun t k => XS.lload X20.here hx rfl (hb hby at_28) rfl k) ?_
  obtain ⟨cq22, kq22, q22a, q22b, q22c⟩ := isOf hZ rfl g0_20
  obtain ⟨_, _, ⟨T22, L22, k22, n22⟩, -, X22, ⟨Lc22, hQ22, l22, y22, z22⟩, st22⟩ := X20.virtualBack hx (y := (⟨"com/example/gaithersburg/gaithersburg/Topic", "inWindow", "(J)Z"⟩ : MethodName)) (z := (⟨"com/example/gaithersburg/gaithersburg/Topic", "inWindow", "(J)Z"⟩ : MethodName)) hown (mvT hZ (hw _ (List.mem_of_getElem? (i := 41) rfl))) (mvT hZ (hw _ (List.mem_of_getElem? (i := 42) rfl))) (notFace_of_selects (args := #[]) (mvT hZ (hw _ (List.mem_of_getElem? (i := 44) rfl)))) (mvT hZ (hw _ (List.mem_of_getElem? (i := 44) rfl))) (mvT hZ (hw _ (List.mem_of_getElem? (i := 43) rfl))) (by decide) (backOf (W := 0) (rm5 l Z a0 hw [] b3 v2 p0 p1 T20.heap n0 Z20 g1_20 g2_20) hZ (hw _ (List.mem_of_getElem? (i := 45) rfl)) (hw _ (List.mem_of_getElem? (i := 6) rfl)) (by decide) (by decide)) q22a q22c (g := (mkF m 30 #[.val (.long p0), .second, .val (.long p1), .second, .val (.long p2), .second, .val (.int p3), .val (.long v2), .second, .val (.ref b3), .unset, .unset, .unset, .unset, .unset] [(.long v2), (.ref b3)])) rfl (by rw [hml]; rfl) (Steps.refl _) (argsL := [(.long v2)]) (rest := []) (lenOf pd0_2 rfl) rfl (by show 2 * 0 + _ ≤ _; exact Nat.le_of_eq rfl) (hb hby at_30) (fun _ _ => ⟨rfl, rfl, (by decide : 9 + 0 ≤ _), (by decide : 56 + 0 ≤ _)⟩)
  dsimp only [Pt.U, Pt.locs, Pt.cells, Pt.slots] at X22 l22 y22 z22 st22 hQ22
  rw [l22, y22, z22] at X22
  obtain ⟨rfl, N22q, hh22⟩ := hQ22
  have N22 := Fr.app N20 N22q
  refine own_tr st22 ?_
  show own_Go p.tables e below _ (T22.setTop (mkF m 33 #[.val (.long p0), .second, .val (.long p1), .second, .val (.long p2), .second, .val (.int p3), .val (.long v2), .second, .val (.ref b3), .unset, .unset, .unset, .unset, .unset] [(.int (if p0 < v2 then (if p1 < v2 then (0 : Int32) else (1 : Int32)) else (0 : Int32)))]))
  obtain ⟨v23, qv23⟩ : ∃ z : Int32, z = (if p0 < v2 then (if p1 < v2 then (0 : Int32) else (1 : Int32)) else (0 : Int32)) := ⟨_, rfl⟩
  rw [← qv23]
  refine own_st (S' := T22.setTop (mkF m 35 #[.val (.long p0), .second, .val (.long p1), .second, .val (.long p2), .second, .val (.int p3), .val (.long v2), .second, .val (.ref b3), .val (.int v23), .unset, .unset, .unset, .unset] [])) (fun t k => XS.istore X22.here hx rfl (hb hby at_33) rfl (l' := #[.val (.long p0), .second, .val (.long p1), .second, .val (.long p2), .second, .val (.int p3), .val (.long v2), .second, .val (.ref b3), .val (.int v23), .unset, .unset, .unset, .unset]) rfl k) ?_
  refine own_st (S' := T22.setTop (mkF m 37 #[.val (.long p0), .second, .val (.long p1), .second, .val (.long p2), .second, .val (.int p3), .val (.long v2), .second, .val (.ref b3), .val (.int v23), .unset, .unset, .unset, .unset] [(.long v2)])) (fun t k => XS.lload X22.here hx rfl (hb hby at_35) rfl k) ?_
  refine own_st (S' := T22.setTop (mkF m 38 #[.val (.long p0), .second, .val (.long p1), .second, .val (.long p2), .second, .val (.int p3), .val (.long v2), .second, .val (.ref b3), .val (.int v23), .unset, .unset, .unset, .unset] [(.long p0), (.long v2)])) (fun t k => XS.lloadN X22.here hx rfl (hb hby at_37) rfl k) ?_
  obtain ⟨_, _, ⟨T24, L24, k24, n24⟩, -, X24, ⟨Lc24, hQ24, l24, y24, z24⟩, st24⟩ := Jvm.LawKit.callS X22 hx (y := (⟨"java/lang/Math", "max", "(JJ)J"⟩ : MethodName)) hown (mvT hZ (hw _ (List.mem_of_getElem? (i := 46) rfl))) (mvT hZ (hw _ (List.mem_of_getElem? (i := 47) rfl))) (mvT hZ (hw _ (List.mem_of_getElem? (i := 48) rfl))) (mvT hZ (hw _ (List.mem_of_getElem? (i := 49) rfl))) (by decide) (backOf (W := 0) (rm6 l Z a0 hw [] v2 p0 T20.heap n0 Z20 ) hZ (hw _ (List.mem_of_getElem? (i := 49) rfl)) (hw _ (List.mem_of_getElem? (i := 48) rfl)) (by decide) (by decide)) (g := (mkF m 38 #[.val (.long p0), .second, .val (.long p1), .second, .val (.long p2), .second, .val (.int p3), .val (.long v2), .second, .val (.ref b3), .val (.int v23), .unset, .unset, .unset, .unset] [(.long p0), (.long v2)])) rfl (by rw [hml]; rfl) (argsL := [(.long v2), (.long p0)]) (rest := []) (lenOf pd0_3 rfl) rfl (by show 2 * 0 + _ ≤ _; exact Nat.le_of_eq rfl) (hb hby at_38) (fun _ _ => ⟨rfl, hh22, (by decide : 9 + 0 ≤ _), (by decide : 56 + 0 ≤ _)⟩)
  dsimp only [Pt.U, Pt.locs, Pt.cells, Pt.slots] at X24 l24 y24 z24 st24 hQ24
  rw [l24, y24, z24] at X24
  obtain ⟨rfl, N24q, hh24⟩ := hQ24
  have N24 := Fr.app N22 N24q
  refine own_st st24 ?_
  show own_Go p.tables e below _ (T24.setTop (mkF m 41 #[.val (.long p0), .second, .val (.long p1), .second, .val (.long p2), .second, .val (.int p3), .val (.long v2), .second, .val (.ref b3), .val (.int v23), .unset, .unset, .unset, .unset] [(.long (if v2 < p0 then p0 else v2))]))
  obtain ⟨v25, qv25⟩ : ∃ z : Int64, z = (if v2 < p0 then p0 else v2) := ⟨_, rfl⟩
  rw [← qv25]
  refine own_st (S' := T24.setTop (mkF m 43 #[.val (.long p0), .second, .val (.long p1), .second, .val (.long p2), .second, .val (.int p3), .val (.long v2), .second, .val (.ref b3), .val (.int v23), .unset, .unset, .unset, .unset] [(.long v2), (.long v25)])) (fun t k => XS.lload X24.here hx rfl (hb hby at_41) rfl k) ?_
  refine own_st (S' := T24.setTop (mkF m 44 #[.val (.long p0), .second, .val (.long p1), .second, .val (.long p2), .second, .val (.int p3), .val (.long v2), .second, .val (.ref b3), .val (.int v23), .unset, .unset, .unset, .unset] [(.int (lcmpW v25 v2))])) (fun t k => XS.lcmp X24.here hx rfl (hb hby at_43) rfl k) ?_
  obtain ⟨v26, qv26⟩ : ∃ z : Int32, z = (if v25 = v2 then (1 : Int32) else (0 : Int32)) := ⟨_, rfl⟩
  refine own_st (S' := T24.setTop (mkF m 52 #[.val (.long p0), .second, .val (.long p1), .second, .val (.long p2), .second, .val (.int p3), .val (.long v2), .second, .val (.ref b3), .val (.int v23), .unset, .unset, .unset, .unset] [(.int v26)])) (fun t k => ?_) ?_
  · show Steps p.tables e below (T24.setTop (mkF m 44 #[.val (.long p0), .second, .val (.long p1), .second, .val (.long p2), .second, .val (.int p3), .val (.long v2), .second, .val (.ref b3), .val (.int v23), .unset, .unset, .unset, .unset] [(.int (lcmpW v25 v2))])) _
    by_cases hc27 : v25 = v2
    · rw [if_pos hc27] at qv26
      replace qv26 := Eq.symm qv26
      subst qv26
      refine XS.ifNo X24.here hx rfl (hb hby at_44) rfl ((if0 _ _).trans (teq ((lw_eq _ _).mpr hc27)).2) ?_
      show Steps p.tables e below (T24.setTop (mkF m 47 #[.val (.long p0), .second, .val (.long p1), .second, .val (.long p2), .second, .val (.int p3), .val (.long v2), .second, .val (.ref b3), .val (.int v23), .unset, .unset, .unset, .unset] [])) _
      refine XS.iconst X24.here hx rfl (hb hby at_47) ?_
      show Steps p.tables e below (T24.setTop (mkF m 48 #[.val (.long p0), .second, .val (.long p1), .second, .val (.long p2), .second, .val (.int p3), .val (.long v2), .second, .val (.ref b3), .val (.int v23), .unset, .unset, .unset, .unset] [(.int (1 : Int32))])) _
      refine XS.goto X24.here hx rfl (pc0 := 48) (pc' := 52) rfl (hb hby at_48) (by decide) (by decide) ?_
      show Steps p.tables e below (T24.setTop (mkF m 52 #[.val (.long p0), .second, .val (.long p1), .second, .val (.long p2), .second, .val (.int p3), .val (.long v2), .second, .val (.ref b3), .val (.int v23), .unset, .unset, .unset, .unset] [(.int (1 : Int32))])) _
      exact k
    · rw [if_neg hc27] at qv26
      replace qv26 := Eq.symm qv26
      subst qv26
      refine XS.ifYes X24.here hx rfl (pc0 := 44) (pc' := 51) rfl (hb hby at_44) rfl ((if0 _ _).trans (feq (mt (lw_eq _ _).mp hc27)).2) (by decide) (by decide) ?_
      show Steps p.tables e below (T24.setTop (mkF m 51 #[.val (.long p0), .second, .val (.long p1), .second, .val (.long p2), .second, .val (.int p3), .val (.long v2), .second, .val (.ref b3), .val (.int v23), .unset, .unset, .unset, .unset] [])) _
      refine XS.iconst X24.here hx rfl (hb hby at_51) ?_
      show Steps p.tables e below (T24.setTop (mkF m 52 #[.val (.long p0), .second, .val (.long p1), .second, .val (.long p2), .second, .val (.int p3), .val (.long v2), .second, .val (.ref b3), .val (.int v23), .unset, .unset, .unset, .unset] [(.int (0 : Int32))])) _
      exact k
  show own_Go p.tables e below _ (T24.setTop (mkF m 52 #[.val (.long p0), .second, .val (.long p1), .second, .val (.long p2), .second, .val (.int p3), .val (.long v2), .second, .val (.ref b3), .val (.int v23), .unset, .unset, .unset, .unset] [(.int v26)]))
  refine own_st (S' := T24.setTop (mkF m 54 #[.val (.long p0), .second, .val (.long p1), .second, .val (.long p2), .second, .val (.int p3), .val (.long v2), .second, .val (.ref b3), .val (.int v23), .val (.int v26), .unset, .unset, .unset] [])) (fun t k => XS.istore X24.here hx rfl (hb hby at_52) rfl (l' := #[.val (.long p0), .second, .val (.long p1), .second, .val (.long p2), .second, .val (.int p3), .val (.long v2), .second, .val (.ref b3), .val (.int v23), .val (.int v26), .unset, .unset, .unset]) rfl k) ?_
  refine own_st (S' := T24.setTop (mkF m 56 #[.val (.long p0), .second, .val (.long p1), .second, .val (.long p2), .second, .val (.int p3), .val (.long v2), .second, .val (.ref b3), .val (.int v23), .val (.int v26), .unset, .unset, .unset] [(.int v26)])) (fun t k => XS.iload X24.here hx rfl (hb hby at_54) rfl k) ?_
  obtain ⟨v28, qv28⟩ : ∃ z : Int32, z = (if v25 = v2 then (if v2 = p0 then (0 : Int32) else (1 : Int32)) else (0 : Int32)) := ⟨_, rfl⟩
  refine own_st (S' := T24.setTop (mkF m 71 #[.val (.long p0), .second, .val (.long p1), .second, .val (.long p2), .second, .val (.int p3), .val (.long v2), .second, .val (.ref b3), .val (.int v23), .val (.int v26), .unset, .unset, .unset] [(.int v28)])) (fun t k => ?_) ?_
  · show Steps p.tables e below (T24.setTop (mkF m 56 #[.val (.long p0), .second, .val (.long p1), .second, .val (.long p2), .second, .val (.int p3), .val (.long v2), .second, .val (.ref b3), .val (.int v23), .val (.int v26), .unset, .unset, .unset] [(.int v26)])) _
    by_cases hc29 : v25 = v2
    · rw [if_pos hc29] at qv28
      refine XS.ifNo X24.here hx rfl (hb hby at_56) rfl ((if0 _ _).trans (feq ((by rw [qv26, if_pos hc29] <;> decide) : ¬ (v26 = (0 : Int32)))).1) ?_
      show Steps p.tables e below (T24.setTop (mkF m 59 #[.val (.long p0), .second, .val (.long p1), .second, .val (.long p2), .second, .val (.int p3), .val (.long v2), .second, .val (.ref b3), .val (.int v23), .val (.int v26), .unset, .unset, .unset] [])) _
      refine XS.lload X24.here hx rfl (hb hby at_59) rfl ?_
      show Steps p.tables e below (T24.setTop (mkF m 61 #[.val (.long p0), .second, .val (.long p1), .second, .val (.long p2), .second, .val (.int p3), .val (.long v2), .second, .val (.ref b3), .val (.int v23), .val (.int v26), .unset, .unset, .unset] [(.long v2)])) _
      refine XS.lloadN X24.here hx rfl (hb hby at_61) rfl ?_
      show Steps p.tables e below (T24.setTop (mkF m 62 #[.val (.long p0), .second, .val (.long p1), .second, .val (.long p2), .second, .val (.int p3), .val (.long v2), .second, .val (.ref b3), .val (.int v23), .val (.int v26), .unset, .unset, .unset] [(.long p0), (.long v2)])) _
      refine XS.lcmp X24.here hx rfl (hb hby at_62) rfl ?_
      show Steps p.tables e below (T24.setTop (mkF m 63 #[.val (.long p0), .second, .val (.long p1), .second, .val (.long p2), .second, .val (.int p3), .val (.long v2), .second, .val (.ref b3), .val (.int v23), .val (.int v26), .unset, .unset, .unset] [(.int (lcmpW v2 p0))])) _
      by_cases hc30 : v2 = p0
      · rw [if_pos hc30] at qv28
        replace qv28 := Eq.symm qv28
        subst qv28
        refine XS.ifYes X24.here hx rfl (pc0 := 63) (pc' := 70) rfl (hb hby at_63) rfl ((if0 _ _).trans (teq ((lw_eq _ _).mpr hc30)).1) (by decide) (by decide) ?_
        show Steps p.tables e below (T24.setTop (mkF m 70 #[.val (.long p0), .second, .val (.long p1), .second, .val (.long p2), .second, .val (.int p3), .val (.long v2), .second, .val (.ref b3), .val (.int v23), .val (.int v26), .unset, .unset, .unset] [])) _
        refine XS.iconst X24.here hx rfl (hb hby at_70) ?_
        show Steps p.tables e below (T24.setTop (mkF m 71 #[.val (.long p0), .second, .val (.long p1), .second, .val (.long p2), .second, .val (.int p3), .val (.long v2), .second, .val (.ref b3), .val (.int v23), .val (.int v26), .unset, .unset, .unset] [(.int (0 : Int32))])) _
        exact k
      · rw [if_neg hc30] at qv28
        replace qv28 := Eq.symm qv28
        subst qv28
        refine XS.ifNo X24.here hx rfl (hb hby at_63) rfl ((if0 _ _).trans (feq (mt (lw_eq _ _).mp hc30)).1) ?_
        show Steps p.tables e below (T24.setTop (mkF m 66 #[.val (.long p0), .second, .val (.long p1), .second, .val (.long p2), .second, .val (.int p3), .val (.long v2), .second, .val (.ref b3), .val (.int v23), .val (.int v26), .unset, .unset, .unset] [])) _
        refine XS.iconst X24.here hx rfl (hb hby at_66) ?_
        show Steps p.tables e below (T24.setTop (mkF m 67 #[.val (.long p0), .second, .val (.long p1), .second, .val (.long p2), .second, .val (.int p3), .val (.long v2), .second, .val (.ref b3), .val (.int v23), .val (.int v26), .unset, .unset, .unset] [(.int (1 : Int32))])) _
        refine XS.goto X24.here hx rfl (pc0 := 67) (pc' := 71) rfl (hb hby at_67) (by decide) (by decide) ?_
        show Steps p.tables e below (T24.setTop (mkF m 71 #[.val (.long p0), .second, .val (.long p1), .second, .val (.long p2), .second, .val (.int p3), .val (.long v2), .second, .val (.ref b3), .val (.int v23), .val (.int v26), .unset, .unset, .unset] [(.int (1 : Int32))])) _
        exact k
    · rw [if_neg hc29] at qv28
      replace qv28 := Eq.symm qv28
      subst qv28
      refine XS.ifYes X24.here hx rfl (pc0 := 56) (pc' := 70) rfl (hb hby at_56) rfl ((if0 _ _).trans (teq ((by rw [qv26, if_neg hc29] <;> decide) : v26 = (0 : Int32))).1) (by decide) (by decide) ?_
      show Steps p.tables e below (T24.setTop (mkF m 70 #[.val (.long p0), .second, .val (.long p1), .second, .val (.long p2), .second, .val (.int p3), .val (.long v2), .second, .val (.ref b3), .val (.int v23), .val (.int v26), .unset, .unset, .unset] [])) _
      refine XS.iconst X24.here hx rfl (hb hby at_70) ?_
      show Steps p.tables e below (T24.setTop (mkF m 71 #[.val (.long p0), .second, .val (.long p1), .second, .val (.long p2), .second, .val (.int p3), .val (.long v2), .second, .val (.ref b3), .val (.int v23), .val (.int v26), .unset, .unset, .unset] [(.int (0 : Int32))])) _
      exact k
  show own_Go p.tables e below _ (T24.setTop (mkF m 71 #[.val (.long p0), .second, .val (.long p1), .second, .val (.long p2), .second, .val (.int p3), .val (.long v2), .second, .val (.ref b3), .val (.int v23), .val (.int v26), .unset, .unset, .unset] [(.int v28)]))
  refine own_st (S' := T24.setTop (mkF m 73 #[.val (.long p0), .second, .val (.long p1), .second, .val (.long p2), .second, .val (.int p3), .val (.long v2), .second, .val (.ref b3), .val (.int v23), .val (.int v26), .val (.int v28), .unset, .unset] [])) (fun t k => XS.istore X24.here hx rfl (hb hby at_71) rfl (l' := #[.val (.long p0), .second, .val (.long p1), .second, .val (.long p2), .second, .val (.int p3), .val (.long v2), .second, .val (.ref b3), .val (.int v23), .val (.int v26), .val (.int v28), .unset, .unset]) rfl k) ?_
  refine own_st (S' := T24.setTop (mkF m 75 #[.val (.long p0), .second, .val (.long p1), .second, .val (.long p2), .second, .val (.int p3), .val (.long v2), .second, .val (.ref b3), .val (.int v23), .val (.int v26), .val (.int v28), .unset, .unset] [(.long v2)])) (fun t k => XS.lload X24.here hx rfl (hb hby at_73) rfl k) ?_
  refine own_st (S' := T24.setTop (mkF m 76 #[.val (.long p0), .second, .val (.long p1), .second, .val (.long p2), .second, .val (.int p3), .val (.long v2), .second, .val (.ref b3), .val (.int v23), .val (.int v26), .val (.int v28), .unset, .unset] [(.long p1), (.long v2)])) (fun t k => XS.lloadN X24.here hx rfl (hb hby at_75) rfl k) ?_
  obtain ⟨_, _, ⟨T31, L31, k31, n31⟩, -, X31, ⟨Lc31, hQ31, l31, y31, z31⟩, st31⟩ := Jvm.LawKit.callS X24 hx (y := (⟨"java/lang/Math", "min", "(JJ)J"⟩ : MethodName)) hown (mvT hZ (hw _ (List.mem_of_getElem? (i := 50) rfl))) (mvT hZ (hw _ (List.mem_of_getElem? (i := 51) rfl))) (mvT hZ (hw _ (List.mem_of_getElem? (i := 48) rfl))) (mvT hZ (hw _ (List.mem_of_getElem? (i := 52) rfl))) (by decide) (backOf (W := 0) (rm7 l Z a0 hw [] v2 p1 T20.heap n0 Z20 ) hZ (hw _ (List.mem_of_getElem? (i := 52) rfl)) (hw _ (List.mem_of_getElem? (i := 48) rfl)) (by decide) (by decide)) (g := (mkF m 76 #[.val (.long p0), .second, .val (.long p1), .second, .val (.long p2), .second, .val (.int p3), .val (.long v2), .second, .val (.ref b3), .val (.int v23), .val (.int v26), .val (.int v28), .unset, .unset] [(.long p1), (.long v2)])) rfl (by rw [hml]; rfl) (argsL := [(.long v2), (.long p1)]) (rest := []) (lenOf pd0_3 rfl) rfl (by show 2 * 0 + _ ≤ _; exact Nat.le_of_eq rfl) (hb hby at_76) (fun _ _ => ⟨rfl, hh24, (by decide : 9 + 0 ≤ _), (by decide : 56 + 0 ≤ _)⟩)
  dsimp only [Pt.U, Pt.locs, Pt.cells, Pt.slots] at X31 l31 y31 z31 st31 hQ31
  rw [l31, y31, z31] at X31
  obtain ⟨rfl, N31q, hh31⟩ := hQ31
  have N31 := Fr.app N24 N31q
  refine own_st st31 ?_
  show own_Go p.tables e below _ (T31.setTop (mkF m 79 #[.val (.long p0), .second, .val (.long p1), .second, .val (.long p2), .second, .val (.int p3), .val (.long v2), .second, .val (.ref b3), .val (.int v23), .val (.int v26), .val (.int v28), .unset, .unset] [(.long (if p1 < v2 then p1 else v2))]))
  obtain ⟨v32, qv32⟩ : ∃ z : Int64, z = (if p1 < v2 then p1 else v2) := ⟨_, rfl⟩
  rw [← qv32]
  refine own_st (S' := T31.setTop (mkF m 81 #[.val (.long p0), .second, .val (.long p1), .second, .val (.long p2), .second, .val (.int p3), .val (.long v2), .second, .val (.ref b3), .val (.int v23), .val (.int v26), .val (.int v28), .unset, .unset] [(.long v2), (.long v32)])) (fun t k => XS.lload X31.here hx rfl (hb hby at_79) rfl k) ?_
  refine own_st (S' := T31.setTop (mkF m 82 #[.val (.long p0), .second, .val (.long p1), .second, .val (.long p2), .second, .val (.int p3), .val (.long v2), .second, .val (.ref b3), .val (.int v23), .val (.int v26), .val (.int v28), .unset, .unset] [(.int (lcmpW v32 v2))])) (fun t k => XS.lcmp X31.here hx rfl (hb hby at_81) rfl k) ?_
  obtain ⟨v33, qv33⟩ : ∃ z : Int32, z = (if v32 = v2 then (1 : Int32) else (0 : Int32)) := ⟨_, rfl⟩
  refine own_st (S' := T31.setTop (mkF m 90 #[.val (.long p0), .second, .val (.long p1), .second, .val (.long p2), .second, .val (.int p3), .val (.long v2), .second, .val (.ref b3), .val (.int v23), .val (.int v26), .val (.int v28), .unset, .unset] [(.int v33)])) (fun t k => ?_) ?_
  · show Steps p.tables e below (T31.setTop (mkF m 82 #[.val (.long p0), .second, .val (.long p1), .second, .val (.long p2), .second, .val (.int p3), .val (.long v2), .second, .val (.ref b3), .val (.int v23), .val (.int v26), .val (.int v28), .unset, .unset] [(.int (lcmpW v32 v2))])) _
    by_cases hc34 : v32 = v2
    · rw [if_pos hc34] at qv33
      replace qv33 := Eq.symm qv33
      subst qv33
      refine XS.ifNo X31.here hx rfl (hb hby at_82) rfl ((if0 _ _).trans (teq ((lw_eq _ _).mpr hc34)).2) ?_
      show Steps p.tables e below (T31.setTop (mkF m 85 #[.val (.long p0), .second, .val (.long p1), .second, .val (.long p2), .second, .val (.int p3), .val (.long v2), .second, .val (.ref b3), .val (.int v23), .val (.int v26), .val (.int v28), .unset, .unset] [])) _
      refine XS.iconst X31.here hx rfl (hb hby at_85) ?_
      show Steps p.tables e below (T31.setTop (mkF m 86 #[.val (.long p0), .second, .val (.long p1), .second, .val (.long p2), .second, .val (.int p3), .val (.long v2), .second, .val (.ref b3), .val (.int v23), .val (.int v26), .val (.int v28), .unset, .unset] [(.int (1 : Int32))])) _
      refine XS.goto X31.here hx rfl (pc0 := 86) (pc' := 90) rfl (hb hby at_86) (by decide) (by decide) ?_
      show Steps p.tables e below (T31.setTop (mkF m 90 #[.val (.long p0), .second, .val (.long p1), .second, .val (.long p2), .second, .val (.int p3), .val (.long v2), .second, .val (.ref b3), .val (.int v23), .val (.int v26), .val (.int v28), .unset, .unset] [(.int (1 : Int32))])) _
      exact k
    · rw [if_neg hc34] at qv33
      replace qv33 := Eq.symm qv33
      subst qv33
      refine XS.ifYes X31.here hx rfl (pc0 := 82) (pc' := 89) rfl (hb hby at_82) rfl ((if0 _ _).trans (feq (mt (lw_eq _ _).mp hc34)).2) (by decide) (by decide) ?_
      show Steps p.tables e below (T31.setTop (mkF m 89 #[.val (.long p0), .second, .val (.long p1), .second, .val (.long p2), .second, .val (.int p3), .val (.long v2), .second, .val (.ref b3), .val (.int v23), .val (.int v26), .val (.int v28), .unset, .unset] [])) _
      refine XS.iconst X31.here hx rfl (hb hby at_89) ?_
      show Steps p.tables e below (T31.setTop (mkF m 90 #[.val (.long p0), .second, .val (.long p1), .second, .val (.long p2), .second, .val (.int p3), .val (.long v2), .second, .val (.ref b3), .val (.int v23), .val (.int v26), .val (.int v28), .unset, .unset] [(.int (0 : Int32))])) _
      exact k
  show own_Go p.tables e below _ (T31.setTop (mkF m 90 #[.val (.long p0), .second, .val (.long p1), .second, .val (.long p2), .second, .val (.int p3), .val (.long v2), .second, .val (.ref b3), .val (.int v23), .val (.int v26), .val (.int v28), .unset, .unset] [(.int v33)]))
  refine own_st (S' := T31.setTop (mkF m 92 #[.val (.long p0), .second, .val (.long p1), .second, .val (.long p2), .second, .val (.int p3), .val (.long v2), .second, .val (.ref b3), .val (.int v23), .val (.int v26), .val (.int v28), .val (.int v33), .unset] [])) (fun t k => XS.istore X31.here hx rfl (hb hby at_90) rfl (l' := #[.val (.long p0), .second, .val (.long p1), .second, .val (.long p2), .second, .val (.int p3), .val (.long v2), .second, .val (.ref b3), .val (.int v23), .val (.int v26), .val (.int v28), .val (.int v33), .unset]) rfl k) ?_
  refine own_st (S' := T31.setTop (mkF m 94 #[.val (.long p0), .second, .val (.long p1), .second, .val (.long p2), .second, .val (.int p3), .val (.long v2), .second, .val (.ref b3), .val (.int v23), .val (.int v26), .val (.int v28), .val (.int v33), .unset] [(.int v28)])) (fun t k => XS.iload X31.here hx rfl (hb hby at_92) rfl k) ?_
  obtain ⟨v35, qv35⟩ : ∃ z : Int32, z = (if v28 = (0 : Int32) then (0 : Int32) else (if v32 = v2 then (1 : Int32) else (0 : Int32))) := ⟨_, rfl⟩
  refine own_st (S' := T31.setTop (mkF m 107 #[.val (.long p0), .second, .val (.long p1), .second, .val (.long p2), .second, .val (.int p3), .val (.long v2), .second, .val (.ref b3), .val (.int v23), .val (.int v26), .val (.int v28), .val (.int v33), .unset] [(.int v35)])) (fun t k => ?_) ?_
  · show Steps p.tables e below (T31.setTop (mkF m 94 #[.val (.long p0), .second, .val (.long p1), .second, .val (.long p2), .second, .val (.int p3), .val (.long v2), .second, .val (.ref b3), .val (.int v23), .val (.int v26), .val (.int v28), .val (.int v33), .unset] [(.int v28)])) _
    by_cases hc36 : v28 = (0 : Int32)
    · rw [if_pos hc36] at qv35
      replace qv35 := Eq.symm qv35
      subst qv35
      refine XS.ifYes X31.here hx rfl (pc0 := 94) (pc' := 106) rfl (hb hby at_94) rfl ((if0 _ _).trans (teq hc36).1) (by decide) (by decide) ?_
      show Steps p.tables e below (T31.setTop (mkF m 106 #[.val (.long p0), .second, .val (.long p1), .second, .val (.long p2), .second, .val (.int p3), .val (.long v2), .second, .val (.ref b3), .val (.int v23), .val (.int v26), .val (.int v28), .val (.int v33), .unset] [])) _
      refine XS.iconst X31.here hx rfl (hb hby at_106) ?_
      show Steps p.tables e below (T31.setTop (mkF m 107 #[.val (.long p0), .second, .val (.long p1), .second, .val (.long p2), .second, .val (.int p3), .val (.long v2), .second, .val (.ref b3), .val (.int v23), .val (.int v26), .val (.int v28), .val (.int v33), .unset] [(.int (0 : Int32))])) _
      exact k
    · rw [if_neg hc36] at qv35
      refine XS.ifNo X31.here hx rfl (hb hby at_94) rfl ((if0 _ _).trans (feq hc36).1) ?_
      show Steps p.tables e below (T31.setTop (mkF m 97 #[.val (.long p0), .second, .val (.long p1), .second, .val (.long p2), .second, .val (.int p3), .val (.long v2), .second, .val (.ref b3), .val (.int v23), .val (.int v26), .val (.int v28), .val (.int v33), .unset] [])) _
      refine XS.iload X31.here hx rfl (hb hby at_97) rfl ?_
      show Steps p.tables e below (T31.setTop (mkF m 99 #[.val (.long p0), .second, .val (.long p1), .second, .val (.long p2), .second, .val (.int p3), .val (.long v2), .second, .val (.ref b3), .val (.int v23), .val (.int v26), .val (.int v28), .val (.int v33), .unset] [(.int v33)])) _
      by_cases hc37 : v32 = v2
      · rw [if_pos hc37] at qv35
        replace qv35 := Eq.symm qv35
        subst qv35
        refine XS.ifNo X31.here hx rfl (hb hby at_99) rfl ((if0 _ _).trans (feq ((by rw [qv33, if_pos hc37] <;> decide) : ¬ (v33 = (0 : Int32)))).1) ?_
        show Steps p.tables e below (T31.setTop (mkF m 102 #[.val (.long p0), .second, .val (.long p1), .second, .val (.long p2), .second, .val (.int p3), .val (.long v2), .second, .val (.ref b3), .val (.int v23), .val (.int v26), .val (.int v28), .val (.int v33), .unset] [])) _
        refine XS.iconst X31.here hx rfl (hb hby at_102) ?_
        show Steps p.tables e below (T31.setTop (mkF m 103 #[.val (.long p0), .second, .val (.long p1), .second, .val (.long p2), .second, .val (.int p3), .val (.long v2), .second, .val (.ref b3), .val (.int v23), .val (.int v26), .val (.int v28), .val (.int v33), .unset] [(.int (1 : Int32))])) _
        refine XS.goto X31.here hx rfl (pc0 := 103) (pc' := 107) rfl (hb hby at_103) (by decide) (by decide) ?_
        show Steps p.tables e below (T31.setTop (mkF m 107 #[.val (.long p0), .second, .val (.long p1), .second, .val (.long p2), .second, .val (.int p3), .val (.long v2), .second, .val (.ref b3), .val (.int v23), .val (.int v26), .val (.int v28), .val (.int v33), .unset] [(.int (1 : Int32))])) _
        exact k
      · rw [if_neg hc37] at qv35
        replace qv35 := Eq.symm qv35
        subst qv35
        refine XS.ifYes X31.here hx rfl (pc0 := 99) (pc' := 106) rfl (hb hby at_99) rfl ((if0 _ _).trans (teq ((by rw [qv33, if_neg hc37] <;> decide) : v33 = (0 : Int32))).1) (by decide) (by decide) ?_
        show Steps p.tables e below (T31.setTop (mkF m 106 #[.val (.long p0), .second, .val (.long p1), .second, .val (.long p2), .second, .val (.int p3), .val (.long v2), .second, .val (.ref b3), .val (.int v23), .val (.int v26), .val (.int v28), .val (.int v33), .unset] [])) _
        refine XS.iconst X31.here hx rfl (hb hby at_106) ?_
        show Steps p.tables e below (T31.setTop (mkF m 107 #[.val (.long p0), .second, .val (.long p1), .second, .val (.long p2), .second, .val (.int p3), .val (.long v2), .second, .val (.ref b3), .val (.int v23), .val (.int v26), .val (.int v28), .val (.int v33), .unset] [(.int (0 : Int32))])) _
        exact k
  show own_Go p.tables e below _ (T31.setTop (mkF m 107 #[.val (.long p0), .second, .val (.long p1), .second, .val (.long p2), .second, .val (.int p3), .val (.long v2), .second, .val (.ref b3), .val (.int v23), .val (.int v26), .val (.int v28), .val (.int v33), .unset] [(.int v35)]))
  refine own_st (S' := T31.setTop (mkF m 109 #[.val (.long p0), .second, .val (.long p1), .second, .val (.long p2), .second, .val (.int p3), .val (.long v2), .second, .val (.ref b3), .val (.int v23), .val (.int v26), .val (.int v28), .val (.int v33), .val (.int v35)] [])) (fun t k => XS.istore X31.here hx rfl (hb hby at_107) rfl (l' := #[.val (.long p0), .second, .val (.long p1), .second, .val (.long p2), .second, .val (.int p3), .val (.long v2), .second, .val (.ref b3), .val (.int v23), .val (.int v26), .val (.int v28), .val (.int v33), .val (.int v35)]) rfl k) ?_
  refine own_st (S' := T31.setTop (mkF m 111 #[.val (.long p0), .second, .val (.long p1), .second, .val (.long p2), .second, .val (.int p3), .val (.long v2), .second, .val (.ref b3), .val (.int v23), .val (.int v26), .val (.int v28), .val (.int v33), .val (.int v35)] [(.int v23)])) (fun t k => XS.iload X31.here hx rfl (hb hby at_109) rfl k) ?_
  refine own_st (S' := T31.setTop (mkF m 113 #[.val (.long p0), .second, .val (.long p1), .second, .val (.long p2), .second, .val (.int p3), .val (.long v2), .second, .val (.ref b3), .val (.int v23), .val (.int v26), .val (.int v28), .val (.int v33), .val (.int v35)] [(.int v35), (.int v23)])) (fun t k => XS.iload X31.here hx rfl (hb hby at_111) rfl k) ?_
  obtain ⟨v38, qv38⟩ : ∃ z : Int32, z = (if v23 = v35 then (1 : Int32) else (0 : Int32)) := ⟨_, rfl⟩
  refine own_st (S' := T31.setTop (mkF m 121 #[.val (.long p0), .second, .val (.long p1), .second, .val (.long p2), .second, .val (.int p3), .val (.long v2), .second, .val (.ref b3), .val (.int v23), .val (.int v26), .val (.int v28), .val (.int v33), .val (.int v35)] [(.int v38)])) (fun t k => ?_) ?_
  · show Steps p.tables e below (T31.setTop (mkF m 113 #[.val (.long p0), .second, .val (.long p1), .second, .val (.long p2), .second, .val (.int p3), .val (.long v2), .second, .val (.ref b3), .val (.int v23), .val (.int v26), .val (.int v28), .val (.int v33), .val (.int v35)] [(.int v35), (.int v23)])) _
    by_cases hc39 : v23 = v35
    · rw [if_pos hc39] at qv38
      replace qv38 := Eq.symm qv38
      subst qv38
      refine XS.icmpNo X31.here hx rfl (hb hby at_113) rfl (teq hc39).2 ?_
      show Steps p.tables e below (T31.setTop (mkF m 116 #[.val (.long p0), .second, .val (.long p1), .second, .val (.long p2), .second, .val (.int p3), .val (.long v2), .second, .val (.ref b3), .val (.int v23), .val (.int v26), .val (.int v28), .val (.int v33), .val (.int v35)] [])) _
      refine XS.iconst X31.here hx rfl (hb hby at_116) ?_
      show Steps p.tables e below (T31.setTop (mkF m 117 #[.val (.long p0), .second, .val (.long p1), .second, .val (.long p2), .second, .val (.int p3), .val (.long v2), .second, .val (.ref b3), .val (.int v23), .val (.int v26), .val (.int v28), .val (.int v33), .val (.int v35)] [(.int (1 : Int32))])) _
      refine XS.goto X31.here hx rfl (pc0 := 117) (pc' := 121) rfl (hb hby at_117) (by decide) (by decide) ?_
      show Steps p.tables e below (T31.setTop (mkF m 121 #[.val (.long p0), .second, .val (.long p1), .second, .val (.long p2), .second, .val (.int p3), .val (.long v2), .second, .val (.ref b3), .val (.int v23), .val (.int v26), .val (.int v28), .val (.int v33), .val (.int v35)] [(.int (1 : Int32))])) _
      exact k
    · rw [if_neg hc39] at qv38
      replace qv38 := Eq.symm qv38
      subst qv38
      refine XS.icmpYes X31.here hx rfl (pc0 := 113) (pc' := 120) rfl (hb hby at_113) rfl (feq hc39).2 (by decide) (by decide) ?_
      show Steps p.tables e below (T31.setTop (mkF m 120 #[.val (.long p0), .second, .val (.long p1), .second, .val (.long p2), .second, .val (.int p3), .val (.long v2), .second, .val (.ref b3), .val (.int v23), .val (.int v26), .val (.int v28), .val (.int v33), .val (.int v35)] [])) _
      refine XS.iconst X31.here hx rfl (hb hby at_120) ?_
      show Steps p.tables e below (T31.setTop (mkF m 121 #[.val (.long p0), .second, .val (.long p1), .second, .val (.long p2), .second, .val (.int p3), .val (.long v2), .second, .val (.ref b3), .val (.int v23), .val (.int v26), .val (.int v28), .val (.int v33), .val (.int v35)] [(.int (0 : Int32))])) _
      exact k
  show own_Go p.tables e below _ (T31.setTop (mkF m 121 #[.val (.long p0), .second, .val (.long p1), .second, .val (.long p2), .second, .val (.int p3), .val (.long v2), .second, .val (.ref b3), .val (.int v23), .val (.int v26), .val (.int v28), .val (.int v33), .val (.int v35)] [(.int v38)]))
  refine own_retNW X31 hS (by rw [hh31]; exact hk) hx (t := .boolean) hret (by simp) hlk (hb hby at_121) ?_ (by decide) (by decide)
  rw [hh31]
  have hz : v23 = v35 := own_main qv23 qv25 qv32 qv26 qv28 qv33 (by rw [qv35, qv33])
  exact ⟨by rw [qv38, if_pos hz]; rfl, N31⟩
set_option maxRecDepth 65536 in
set_option maxHeartbeats 40000000 in
theorem comes_1 {Post : Tables → Env → Array Value → State → Outcome → State → Prop} (hpost : ∀ tb e args s v u, (limb_1_1.after args s (.returned v) u = true ∧ limb_1_2.after args s (.returned v) u = true ∧ True) → ReturnedEndW s (.returned v) u (Jvm.fieldLocs frame_1_writes args s ++ Jvm.arrayLocs frame_1_arrays args s ++ Jvm.staticLocs frame_1_statics s) 24 4224 → Post tb e args s (.returned v) u) :
    ArmFor flags0 classFile x code maxLocals ret World_1 tables_1 room_1 Calls_1 rest_1 Pre_1 Post := by
  intro l hfl _ _ p e ha hc hk s m args below hf hA hF happ hP
  obtain ⟨hcalls, hrest, hpre⟩ := hP
  obtain ⟨-, -, -, hnamed, -, -, -, hat⟩ := (Spec.applies_iff hf).mp happ
  obtain ⟨hg, hn⟩ := and_e (Cond.before_iff.mp (show (Jvm.Cond.and given_1 narrow_1).before args s = true from hpre))
  obtain ⟨c0, d0⟩ := and_e hg
  obtain ⟨c1, d1⟩ := and_e d0
  obtain ⟨c2, d2⟩ := and_e d1
  obtain ⟨c3, d3⟩ := and_e d2
  obtain ⟨w0, w1, w2, w3, rfl⟩ : ∃ w0 w1 w2 w3 : Value, args = #[w0, w1, w2, w3] := by
    have hs : args.size = 4 := by simpa [Cond.value, given_1] using c0
    obtain ⟨L⟩ := args
    match L, hs with
    | [w0, w1, w2, w3], _ => exact ⟨w0, w1, w2, w3, rfl⟩
  have hw := fun d (hd : d ∈ tables_1) => atoms_spec (ws := Jvm.Cond.code x code maxLocals ret :: tables_1) hat d (List.mem_cons_of_mem _ hd)
  have hfit : Fit s := fun {y c} hc i hi => by
    obtain ⟨ha, rfl⟩ := Array.getElem?_eq_some_iff.mp hc
    have q := List.all_eq_true.mp ((Array.all_eq_true_iff_forall_mem.mp hF) _ (Array.getElem_mem ha)) i (List.mem_range.mpr hi)
    simpa [Array.getElem?_eq_getElem hi] using q
  obtain ⟨i0, ei0⟩ := isL_v c1
  obtain rfl : w0 = (.long i0) := Option.some.inj ei0
  obtain ⟨i1, ei1⟩ := isL_v c2
  obtain rfl : w1 = (.long i1) := Option.some.inj ei1
  obtain ⟨i2, ei2⟩ := isL_v c3
  obtain rfl : w2 = (.long i2) := Option.some.inj ei2
  obtain ⟨i3, ei3⟩ := is_v d3
  obtain rfl : w3 = (.int i3) := Option.some.inj ei3
  obtain ⟨n, o, h1, h2, h3, _, L, rfl, ⟨rfl, N⟩, hq⟩ := rm0 l s _ hw tables_1 i0 i1 i2 i3  s.heap s.heap.size (Nat.le_refl _)  p e ha hc hk s m _ below hf ((Spec.applies_iff_loose hf).mp happ).1 ⟨rfl, State.Warmed39.refl s, rfl⟩ trivial
  refine ⟨n, _, h1, h2, h3, hpost _ _ _ _ _ _ ⟨Cond.after_iff.mpr rfl, Cond.after_iff.mpr (eq_i res_at (Term.int_eval (1)) rfl), trivial⟩ ⟨hq.1, hq.2.1, hq.2.2.1, (hq.2.2.2.sift fun y hy => Or.inr (N y hy)).mono (by decide) (by decide)⟩⟩
theorem main_1_1 : Claimed_1_1 := comes_1 fun _ _ _ _ _ _ h hF => ⟨h.1, hF⟩
theorem main_1_2 : Claimed_1_2 := comes_1 fun _ _ _ _ _ _ h hF => ⟨h.2.1, hF⟩
end Jvm.Pilot.@@N@@
namespace Jvm.Pilot.@@N@@
open Jvm Jvm.ClassFile Sem Op Lib Jvm.Free Jvm.Stand Jvm.Pilot.@@N@@.Jvm.D
/-! MADE BY PROGRAM (witnessworld.py) out of the Statement's table words and the real class files: 17 classes; the members and pool entries that the words name. The judged class is class 1, her method 2. -/
namespace start1
open Jvm.ClassFile
def u (s : String) : CpInfo := .utf8 (stringToUtf16 s)
/-- a pool by its gaps: so many unusable entries, then the entry; so many at the end -/
def gap : Nat → List CpInfo → List CpInfo
  | 0, r => r
  | n + 1, r => .unusable :: gap n r
def poolList (es : List (Nat × CpInfo)) (last : Nat) : List CpInfo := es.foldr (fun e r => gap e.1 (e.2 :: r)) (gap last [])
def pool (es : List (Nat × CpInfo)) (last : Nat) : Array CpInfo := ⟨poolList es last⟩
def fileOf (pool : Array CpInfo) (this : Nat) (attrs : Array Attribute := #[]) (ms : Array MethodInfo := #[]) (fl : Nat := 33) (sup : Nat := 0) (ifs : Array Nat := #[]) (fds : Array FieldInfo := #[]) : ClassFile where
  minorVersion := 0
  majorVersion := 65
  constantPool := pool
  accessFlags := fl
  thisClass := this
  superClass := sup
  interfaces := ifs
  fields := fds
  methods := ms
  attributes := attrs
def plain (name : String) (sup : Option ClassId) : Class where
  name := name
  kind := .ordinary
  loader := none
  accessFlags := 33
  super := sup
  interfaces := #[]
  cf := none
  fields := #[]
  methods := #[]
  instanceTypes := #[]
  staticTypes := #[]
  resolved := #[]
  callSites := []
  init := .initialized
  statics := none
  mirror := none

def pool0 : Array CpInfo := pool [(5, u "<init>"), (0, u "()V"), (1, .class_ 10), (1, u "java/lang/Object")] 113

def k0c0 : Code := { maxStack := 0, maxLocals := 1, code := object_method_1_code, exceptionTable := #[], attributes := #[] }
def k0m0 : Method := { name := "<init>", desc := "()V", sig := { parameters := [], returnType := none }, accessFlags := 1, code := some k0c0 }
/-- java/lang/Object -/
def k0 : Class := { plain "java/lang/Object" none with
  accessFlags := 33
  interfaces := #[]
  cf := some (fileOf pool0 8 #[] #[{ accessFlags := 1, nameIndex := 5, descriptorIndex := 6, attributes := #[] }] 33 0 #[] #[])
  fields := #[]
  methods := #[k0m0]
  instanceTypes := #[]
  staticTypes := #[]
  resolved := Array.replicate 124 none
  statics := none }

def pool1 : Array CpInfo := pool [(2, .class_ 4), (1, u "java/lang/Object"), (0, u "<init>"), (0, u "()V"), (2, .long 9223372036854775808), (1, .long 9223372036854775807), (1, .methodref 14 15), (0, .class_ 16), (0, .nameAndType 17 18), (0, u "com/example/gaithersburg/gaithersburg/TopicInWindowPinLaw"), (0, u "probe"), (0, u "(JJJI)J"), (0, .class_ 20), (0, u "com/example/gaithersburg/gaithersburg/Topic"), (0, .string 22), (0, u "a"), (0, .string 24), (0, u "b"), (0, .methodref 19 26), (0, .nameAndType 5 27), (0, u "(Ljava/lang/String;Ljava/lang/String;JJ)V"), (0, .methodref 19 29), (0, .nameAndType 30 31), (0, u "inWindow"), (0, u "(J)Z"), (0, .methodref 33 34), (0, .class_ 35), (0, .nameAndType 36 37), (0, u "java/lang/Math"), (0, u "max"), (0, u "(JJ)J"), (0, .methodref 33 39), (0, .nameAndType 40 37), (0, u "min"), (3, u "law"), (0, u "(JJJI)Z")] 2

def k1m0 : Method := { name := "<init>", desc := "()V", sig := { parameters := [], returnType := none }, accessFlags := 2, code := none }
def k1c1 : Code := { maxStack := 4, maxLocals := 8, code := method_2_code, exceptionTable := #[], attributes := #[] }
def k1m1 : Method := { name := "probe", desc := "(JJJI)J", sig := { parameters := [.long, .long, .long, .int], returnType := some .long }, accessFlags := 10, code := some k1c1 }
def k1c2 : Code := { maxStack := 8, maxLocals := 15, code := code, exceptionTable := #[], attributes := #[] }
def k1m2 : Method := { name := "law", desc := "(JJJI)Z", sig := { parameters := [.long, .long, .long, .int], returnType := some .boolean }, accessFlags := 9, code := some k1c2 }
/-- com/example/gaithersburg/gaithersburg/TopicInWindowPinLaw -/
def k1 : Class := { plain "com/example/gaithersburg/gaithersburg/TopicInWindowPinLaw" (some 0) with
  accessFlags := 49
  interfaces := #[]
  cf := some (fileOf pool1 14 #[] #[{ accessFlags := 2, nameIndex := 5, descriptorIndex := 6, attributes := #[] }, { accessFlags := 10, nameIndex := 17, descriptorIndex := 18, attributes := #[] }, { accessFlags := 9, nameIndex := 44, descriptorIndex := 45, attributes := #[] }] 49 2 #[] #[])
  fields := #[]
  methods := #[k1m0, k1m1, k1m2]
  instanceTypes := #[]
  staticTypes := #[]
  resolved := Array.replicate 48 none
  statics := none }

def pool2 : Array CpInfo := pool [(1, .methodref 2 3), (0, .class_ 4), (0, .nameAndType 5 6), (0, u "java/lang/Object"), (0, u "<init>"), (0, u "()V"), (0, .class_ 8), (0, u "java/lang/Record")] 13

def k2c0 : Code := { maxStack := 1, maxLocals := 1, code := jdk_30_method_1_code, exceptionTable := #[], attributes := #[] }
def k2m0 : Method := { name := "<init>", desc := "()V", sig := { parameters := [], returnType := none }, accessFlags := 4, code := some k2c0 }
/-- java/lang/Record -/
def k2 : Class := { plain "java/lang/Record" (some 0) with
  accessFlags := 1057
  interfaces := #[]
  cf := some (fileOf pool2 7 #[] #[{ accessFlags := 4, nameIndex := 5, descriptorIndex := 6, attributes := #[] }] 1057 2 #[] #[])
  fields := #[]
  methods := #[k2m0]
  instanceTypes := #[]
  staticTypes := #[]
  resolved := Array.replicate 22 none
  statics := none }

def pool3 : Array CpInfo := pool [(1, .methodref 2 3), (0, .class_ 4), (0, .nameAndType 5 6), (0, u "java/lang/Record"), (0, u "<init>"), (0, u "()V"), (0, .string 8), (0, u "id"), (0, .methodref 10 11), (0, .class_ 12), (0, .nameAndType 13 14), (0, u "java/util/Objects"), (0, u "requireNonNull"), (0, u "(Ljava/lang/Object;Ljava/lang/String;)Ljava/lang/Object;"), (0, .string 16), (0, u "title"), (0, .fieldref 18 19), (0, .class_ 20), (0, .nameAndType 8 21), (0, u "com/example/gaithersburg/gaithersburg/Topic"), (0, u "Ljava/lang/String;"), (0, .fieldref 18 23), (0, .nameAndType 16 21), (0, .fieldref 18 25), (0, .nameAndType 26 27), (0, u "exampleId"), (0, u "J"), (0, .fieldref 18 29), (0, .nameAndType 30 27), (0, u "newestId"), (12, u "(Ljava/lang/String;Ljava/lang/String;JJ)V"), (3, u "inWindow"), (0, u "(J)Z")] 28

def k3c0 : Code := { maxStack := 3, maxLocals := 7, code := prog_49_method_1_code, exceptionTable := #[], attributes := #[] }
def k3m0 : Method := { name := "<init>", desc := "(Ljava/lang/String;Ljava/lang/String;JJ)V", sig := { parameters := [(.object "java/lang/String"), (.object "java/lang/String"), .long, .long], returnType := none }, accessFlags := 1, code := some k3c0 }
def k3c1 : Code := { maxStack := 4, maxLocals := 3, code := prog_49_method_2_code, exceptionTable := #[], attributes := #[] }
def k3m1 : Method := { name := "inWindow", desc := "(J)Z", sig := { parameters := [.long], returnType := some .boolean }, accessFlags := 1, code := some k3c1 }
/-- com/example/gaithersburg/gaithersburg/Topic -/
def k3 : Class := { plain "com/example/gaithersburg/gaithersburg/Topic" (some 2) with
  accessFlags := 49
  interfaces := #[]
  cf := some (fileOf pool3 18 #[] #[{ accessFlags := 1, nameIndex := 5, descriptorIndex := 43, attributes := #[] }, { accessFlags := 1, nameIndex := 47, descriptorIndex := 48, attributes := #[] }] 49 2 #[] #[{ accessFlags := 18, nameIndex := 8, descriptorIndex := 21, attributes := #[] }, { accessFlags := 18, nameIndex := 16, descriptorIndex := 21, attributes := #[] }, { accessFlags := 18, nameIndex := 26, descriptorIndex := 27, attributes := #[] }, { accessFlags := 18, nameIndex := 30, descriptorIndex := 27, attributes := #[] }])
  fields := #[{ name := "id", type := (.object "java/lang/String"), accessFlags := 18, slot := 0, constantValue := 0 }, { name := "title", type := (.object "java/lang/String"), accessFlags := 18, slot := 1, constantValue := 0 }, { name := "exampleId", type := .long, accessFlags := 18, slot := 2, constantValue := 0 }, { name := "newestId", type := .long, accessFlags := 18, slot := 3, constantValue := 0 }]
  methods := #[k3m0, k3m1]
  instanceTypes := #[(.object "java/lang/String"), (.object "java/lang/String"), .long, .long]
  staticTypes := #[]
  resolved := Array.replicate 77 none
  statics := none }

def pool4 : Array CpInfo := pool [(1, .class_ 2), (0, u "java/io/Serializable"), (0, .class_ 4), (0, u "java/lang/Object")] 2

/-- java/io/Serializable -/
def k4 : Class := { plain "java/io/Serializable" (some 0) with
  accessFlags := 1537
  interfaces := #[]
  cf := some (fileOf pool4 1 #[] #[] 1537 3 #[] #[])
  fields := #[]
  methods := #[]
  instanceTypes := #[]
  staticTypes := #[]
  resolved := Array.replicate 7 none
  statics := none }

def pool5 : Array CpInfo := pool [(1, .class_ 2), (0, u "java/lang/Comparable"), (0, .class_ 4), (0, u "java/lang/Object")] 7

/-- java/lang/Comparable -/
def k5 : Class := { plain "java/lang/Comparable" (some 0) with
  accessFlags := 1537
  interfaces := #[]
  cf := some (fileOf pool5 1 #[] #[] 1537 3 #[] #[])
  fields := #[]
  methods := #[]
  instanceTypes := #[]
  staticTypes := #[]
  resolved := Array.replicate 12 none
  statics := none }

def pool6 : Array CpInfo := pool [(2, .class_ 4), (1, u "java/lang/CharSequence"), (42, .class_ 48), (0, u "java/lang/CharSequence$1CodePointIterator"), (10, .class_ 60), (0, u "java/lang/CharSequence$1CharIterator"), (5, .class_ 67), (0, u "java/lang/Object")] 63

/-- java/lang/CharSequence -/
def k6 : Class := { plain "java/lang/CharSequence" (some 0) with
  accessFlags := 1537
  interfaces := #[]
  cf := some (fileOf pool6 2 #[.nestMembers #[47, 59]] #[] 1537 66 #[] #[])
  fields := #[]
  methods := #[]
  instanceTypes := #[]
  staticTypes := #[]
  resolved := Array.replicate 131 none
  statics := none }

def pool7 : Array CpInfo := pool [(1, .class_ 2), (0, u "java/lang/constant/Constable"), (0, .class_ 4), (0, u "java/lang/Object")] 6

/-- java/lang/constant/Constable -/
def k7 : Class := { plain "java/lang/constant/Constable" (some 0) with
  accessFlags := 1537
  interfaces := #[]
  cf := some (fileOf pool7 1 #[] #[] 1537 3 #[] #[])
  fields := #[]
  methods := #[]
  instanceTypes := #[]
  staticTypes := #[]
  resolved := Array.replicate 11 none
  statics := none }

def pool8 : Array CpInfo := pool [(1, .class_ 2), (0, u "java/lang/constant/ConstantDesc"), (0, .class_ 4), (0, u "java/lang/Object")] 32

/-- java/lang/constant/ConstantDesc -/
def k8 : Class := { plain "java/lang/constant/ConstantDesc" (some 0) with
  accessFlags := 1537
  interfaces := #[]
  cf := some (fileOf pool8 1 #[] #[] 1537 3 #[] #[])
  fields := #[]
  methods := #[]
  instanceTypes := #[]
  staticTypes := #[]
  resolved := Array.replicate 37 none
  statics := none }

def pool9 : Array CpInfo := pool [(2, .class_ 4), (1, u "java/lang/Object"), (0, u "<init>"), (0, u "()V"), (3, .class_ 12), (1, u "java/lang/String"), (0, u "value"), (0, u "[B"), (2, u "coder"), (0, u "B"), (2, u "hash"), (0, u "I"), (2, u "hashIsZero"), (0, u "Z"), (13, u "COMPACT_STRINGS"), (534, .class_ 576), (0, u "java/lang/CharSequence"), (22, u "CASE_INSENSITIVE_ORDER"), (0, u "Ljava/util/Comparator;"), (500, u "serialPersistentFields"), (0, u "[Ljava/io/ObjectStreamField;"), (0, .class_ 1104), (0, u "java/lang/String$CaseInsensitiveComparator"), (1, .class_ 1107), (0, u "java/io/Serializable"), (0, .class_ 1109), (0, u "java/lang/Comparable"), (0, .class_ 1111), (0, u "java/lang/constant/Constable"), (0, .class_ 1113), (0, u "java/lang/constant/ConstantDesc"), (2, u "serialVersionUID"), (0, u "J"), (3, u "REPL"), (0, u "C"), (2, u "LATIN1"), (1, u "UTF16")] 323

def k9m0 : Method := { name := "<init>", desc := "()V", sig := { parameters := [], returnType := none }, accessFlags := 1, code := none }
/-- java/lang/String -/
def k9 : Class := { plain "java/lang/String" (some 0) with
  accessFlags := 49
  interfaces := #[4, 5, 6, 7, 8]
  cf := some (fileOf pool9 10 #[.nestMembers #[1103]] #[{ accessFlags := 1, nameIndex := 5, descriptorIndex := 6, attributes := #[] }] 49 2 #[1106, 1108, 575, 1110, 1112] #[{ accessFlags := 18, nameIndex := 13, descriptorIndex := 14, attributes := #[] }, { accessFlags := 18, nameIndex := 17, descriptorIndex := 18, attributes := #[] }, { accessFlags := 2, nameIndex := 21, descriptorIndex := 22, attributes := #[] }, { accessFlags := 2, nameIndex := 25, descriptorIndex := 26, attributes := #[] }, { accessFlags := 26, nameIndex := 1116, descriptorIndex := 1117, attributes := #[] }, { accessFlags := 24, nameIndex := 40, descriptorIndex := 26, attributes := #[] }, { accessFlags := 26, nameIndex := 1101, descriptorIndex := 1102, attributes := #[] }, { accessFlags := 26, nameIndex := 1121, descriptorIndex := 1122, attributes := #[] }, { accessFlags := 25, nameIndex := 599, descriptorIndex := 600, attributes := #[] }, { accessFlags := 24, nameIndex := 1125, descriptorIndex := 18, attributes := #[] }, { accessFlags := 24, nameIndex := 1127, descriptorIndex := 18, attributes := #[] }])
  fields := #[{ name := "value", type := (.array .byte), accessFlags := 18, slot := 0, constantValue := 0 }, { name := "coder", type := .byte, accessFlags := 18, slot := 1, constantValue := 0 }, { name := "hash", type := .int, accessFlags := 2, slot := 2, constantValue := 0 }, { name := "hashIsZero", type := .boolean, accessFlags := 2, slot := 3, constantValue := 0 }, { name := "serialVersionUID", type := .long, accessFlags := 26, slot := 0, constantValue := 0 }, { name := "COMPACT_STRINGS", type := .boolean, accessFlags := 24, slot := 1, constantValue := 0 }, { name := "serialPersistentFields", type := (.array (.object "java/io/ObjectStreamField")), accessFlags := 26, slot := 2, constantValue := 0 }, { name := "REPL", type := .char, accessFlags := 26, slot := 3, constantValue := 0 }, { name := "CASE_INSENSITIVE_ORDER", type := (.object "java/util/Comparator"), accessFlags := 25, slot := 4, constantValue := 0 }, { name := "LATIN1", type := .byte, accessFlags := 24, slot := 5, constantValue := 0 }, { name := "UTF16", type := .byte, accessFlags := 24, slot := 6, constantValue := 0 }]
  methods := #[k9m0]
  instanceTypes := #[(.array .byte), .byte, .int, .boolean]
  staticTypes := #[.long, .boolean, (.array (.object "java/io/ObjectStreamField")), .char, (.object "java/util/Comparator"), .byte, .byte]
  resolved := Array.replicate 1451 none
  statics := none }

def pool10 : Array CpInfo := pool [(2, .class_ 4), (1, u "java/lang/Object"), (0, u "<init>"), (0, u "()V"), (35, .class_ 44), (1, u "java/util/Objects"), (0, u "requireNonNull"), (48, u "(Ljava/lang/Object;Ljava/lang/String;)Ljava/lang/Object;")] 89

def k10m0 : Method := { name := "<init>", desc := "()V", sig := { parameters := [], returnType := none }, accessFlags := 2, code := none }
def k10c1 : Code := { maxStack := 3, maxLocals := 2, code := jdk_31_method_11_code, exceptionTable := #[], attributes := #[] }
def k10m1 : Method := { name := "requireNonNull", desc := "(Ljava/lang/Object;Ljava/lang/String;)Ljava/lang/Object;", sig := { parameters := [(.object "java/lang/Object"), (.object "java/lang/String")], returnType := some (.object "java/lang/Object") }, accessFlags := 9, code := some k10c1 }
/-- java/util/Objects -/
def k10 : Class := { plain "java/util/Objects" (some 0) with
  accessFlags := 49
  interfaces := #[]
  cf := some (fileOf pool10 42 #[] #[{ accessFlags := 2, nameIndex := 5, descriptorIndex := 6, attributes := #[] }, { accessFlags := 9, nameIndex := 45, descriptorIndex := 94, attributes := #[] }] 49 2 #[] #[])
  fields := #[]
  methods := #[k10m0, k10m1]
  instanceTypes := #[]
  staticTypes := #[]
  resolved := Array.replicate 184 none
  statics := none }

def pool11 : Array CpInfo := pool [(1, .class_ 2), (0, u "java/lang/Math"), (1, .class_ 6), (1, u "java/lang/Object"), (0, u "<init>"), (0, u "()V"), (89, .class_ 100), (1, u "java/lang/Math$RandomNumberGeneratorHolder"), (20, u "(JJ)J"), (50, u "negativeZeroFloatBits"), (0, u "J"), (2, u "negativeZeroDoubleBits"), (21, u "max"), (2, u "min"), (43, u "$assertionsDisabled"), (0, u "Z"), (91, u "twoToTheDoubleScaleDown"), (0, u "D"), (4, u "twoToTheDoubleScaleUp"), (9, u "E"), (3, u "PI"), (2, u "TAU"), (2, u "DEGREES_TO_RADIANS"), (0, u "RADIANS_TO_DEGREES")] 94

def k11m0 : Method := { name := "<init>", desc := "()V", sig := { parameters := [], returnType := none }, accessFlags := 2, code := none }
def k11c1 : Code := { maxStack := 4, maxLocals := 4, code := jdk_29_method_66_code, exceptionTable := #[], attributes := #[] }
def k11m1 : Method := { name := "max", desc := "(JJ)J", sig := { parameters := [.long, .long], returnType := some .long }, accessFlags := 9, code := some k11c1 }
def k11c2 : Code := { maxStack := 4, maxLocals := 4, code := jdk_29_method_70_code, exceptionTable := #[], attributes := #[] }
def k11m2 : Method := { name := "min", desc := "(JJ)J", sig := { parameters := [.long, .long], returnType := some .long }, accessFlags := 9, code := some k11c2 }
/-- java/lang/Math -/
def k11 : Class := { plain "java/lang/Math" (some 0) with
  accessFlags := 49
  interfaces := #[]
  cf := some (fileOf pool11 1 #[.nestMembers #[98]] #[{ accessFlags := 2, nameIndex := 7, descriptorIndex := 8, attributes := #[] }, { accessFlags := 9, nameIndex := 198, descriptorIndex := 121, attributes := #[] }, { accessFlags := 9, nameIndex := 201, descriptorIndex := 121, attributes := #[] }] 49 4 #[] #[{ accessFlags := 25, nameIndex := 354, descriptorIndex := 339, attributes := #[] }, { accessFlags := 25, nameIndex := 358, descriptorIndex := 339, attributes := #[] }, { accessFlags := 25, nameIndex := 361, descriptorIndex := 339, attributes := #[] }, { accessFlags := 26, nameIndex := 364, descriptorIndex := 339, attributes := #[] }, { accessFlags := 26, nameIndex := 365, descriptorIndex := 339, attributes := #[] }, { accessFlags := 26, nameIndex := 172, descriptorIndex := 173, attributes := #[] }, { accessFlags := 26, nameIndex := 176, descriptorIndex := 173, attributes := #[] }, { accessFlags := 8, nameIndex := 344, descriptorIndex := 339, attributes := #[] }, { accessFlags := 8, nameIndex := 338, descriptorIndex := 339, attributes := #[] }, { accessFlags := 4120, nameIndex := 245, descriptorIndex := 246, attributes := #[] }])
  fields := #[{ name := "E", type := .double, accessFlags := 25, slot := 0, constantValue := 0 }, { name := "PI", type := .double, accessFlags := 25, slot := 1, constantValue := 0 }, { name := "TAU", type := .double, accessFlags := 25, slot := 2, constantValue := 0 }, { name := "DEGREES_TO_RADIANS", type := .double, accessFlags := 26, slot := 3, constantValue := 0 }, { name := "RADIANS_TO_DEGREES", type := .double, accessFlags := 26, slot := 4, constantValue := 0 }, { name := "negativeZeroFloatBits", type := .long, accessFlags := 26, slot := 5, constantValue := 0 }, { name := "negativeZeroDoubleBits", type := .long, accessFlags := 26, slot := 6, constantValue := 0 }, { name := "twoToTheDoubleScaleUp", type := .double, accessFlags := 8, slot := 7, constantValue := 0 }, { name := "twoToTheDoubleScaleDown", type := .double, accessFlags := 8, slot := 8, constantValue := 0 }, { name := "$assertionsDisabled", type := .boolean, accessFlags := 4120, slot := 9, constantValue := 0 }]
  methods := #[k11m0, k11m1, k11m2]
  instanceTypes := #[]
  staticTypes := #[.double, .double, .double, .double, .double, .long, .long, .double, .double, .boolean]
  resolved := Array.replicate 460 none
  statics := none }

def pool12 : Array CpInfo := pool [(1, u "java/lang/Cloneable"), (0, .class_ 1), (0, u "java/lang/Object"), (0, .class_ 3)] 3

/-- java/lang/Cloneable -/
def k12 : Class := { plain "java/lang/Cloneable" (some 0) with
  accessFlags := 1537
  interfaces := #[]
  cf := some (fileOf pool12 2 #[] #[] 1537 4 #[] #[])
  fields := #[]
  methods := #[]
  instanceTypes := #[]
  staticTypes := #[]
  resolved := Array.replicate 8 none
  statics := none }

/-- the primitive byte -/
def k13 : Class := { plain "byte" none with kind := .primitive 'B', accessFlags := 0x411 }
/-- [B -/
def k14 : Class := { plain "[B" (some 0) with kind := .array 13 .byte, interfaces := #[12, 4], accessFlags := 1041 }

/-- the primitive int -/
def k15 : Class := { plain "int" none with kind := .primitive 'I', accessFlags := 0x411 }
/-- [I -/
def k16 : Class := { plain "[I" (some 0) with kind := .array 15 .int, interfaces := #[12, 4], accessFlags := 1041 }

def heap : Heap := #[]
def classes : Array Class := #[k0, k1, k2, k3, k4, k5, k6, k7, k8, k9, k10, k11, k12, k13, k14, k15, k16]
def interned : List (Array UInt16 × Addr) := []
def slotsUsed : Nat := 0
def theMethod : MethodId := ⟨1, 2⟩
def args0 : Array Value := #[.long 5, .long 6, .long 7, .int 3]
def aboutOver (below : List Frame) : State where
  vm := { classes := classes, interned := interned.toArray }
  heap := heap
  slotsUsed := slotsUsed
  threads := #[{ frames := .invoking theMethod args0 :: below }]
def below0 : List Frame := [.native { method := ⟨0, 0⟩, args := #[] }]
def about1 : State := aboutOver below0
def p0 : Program := .bare "" "" ""
def e0 : Env := launch0.env 0 0 0
theorem w_frames : about1.frames = Frame.invoking theMethod args0 :: below0 := rfl
set_option maxRecDepth 65536 in
theorem w_args : argsFit about1.vm theMethod args0 = true := by decide +kernel
set_option maxRecDepth 65536 in
theorem w_heap : heapFits about1 = true := by decide +kernel
set_option maxRecDepth 65536 in
theorem w_runnable : about1.curStatus? = some .runnable := by decide +kernel
set_option maxRecDepth 65536 in
theorem w_alone : about1.alone = true := by decide +kernel
set_option maxRecDepth 65536 in
theorem w_named : about1.methodNamed? x = some theMethod := by decide +kernel
set_option maxRecDepth 65536 in
theorem w_hears : about1.hears theMethod below0 = true := by decide +kernel
set_option maxRecDepth 65536 in
theorem w_ripe : about1.ripe theMethod args0 below0 = true := by decide +kernel
theorem w_running : about1.status = .running := rfl
set_option maxRecDepth 65536 in
theorem w_room : about1.hasRoom e0.platform room_1 = true :=
  launch0.hasRoom_least _ room_1 (by decide +kernel) (by decide +kernel) (by decide +kernel) (by decide +kernel) (by decide +kernel) (by decide +kernel)
theorem allAtoms_all (ts : List Jvm.Cond) (a : Array Jvm.Value) (st : Jvm.State) : (allAtoms ts).before a st = ts.all (fun c => c.before a st) := by
  induction ts with
  | nil => rfl
  | cons c t ih =>
    show (Jvm.Cond.and c (allAtoms t)).before a st = _
    rw [Jvm.Cond.before_and, ih, List.all_cons]
def words1 : List Jvm.Cond := Jvm.Cond.code x code maxLocals ret :: tables_1
/-- a 'code' word, met by the world's own term for the bytes: nothing is compared byte by byte -/
theorem code_word {y : MethodName} {bytes : ByteArray} {mx : Nat} {rt : Option FieldType} {a : Array Value} {s : State} {m : MethodId} {meth : Method} {c : Code} (h1 : s.methodNamed? y = some m) (h2 : s.vm.method? m = some meth) (h3 : meth.code = some c) (h4 : c.code = bytes)
    (h5 : (c.maxLocals == mx && c.exceptionTable.isEmpty && decide (c.maxStack ≤ mostOperands) && decide (meth.sig.returnType = rt) && !meth.locks && decide (parseMethodDescriptor y.desc = some meth.sig)) = true) : (Jvm.Cond.code y bytes mx rt).before a s = true := by
  simp only [Bool.and_eq_true, beq_iff_eq, Bool.not_eq_true', decide_eq_true_eq] at h5
  obtain ⟨⟨⟨⟨⟨g1, g2⟩, g3⟩, g4⟩, g5⟩, g6⟩ := h5
  simp [Cond.before, Cond.holds, Cond.value, h1, h2, h3, h4, g1, g2, g3, g4, g5, g6]
def isCode : Jvm.Cond → Bool
  | .code _ _ _ _ => true
  | _ => false
theorem all_split {L : List Jvm.Cond} {P : Jvm.Cond → Bool} (h1 : L.all (fun c => isCode c || P c) = true) (h2 : ∀ c ∈ L.filter isCode, P c = true) : L.all P = true := by
  refine List.all_eq_true.mpr fun c hc => ?_
  have h := List.all_eq_true.mp h1 c hc
  rcases Bool.eq_false_or_eq_true (isCode c) with hi | hi
  · exact h2 c (List.mem_filter.mpr ⟨hc, hi⟩)
  · simpa [hi] using h
set_option maxRecDepth 65536 in
theorem w_c0 : (Jvm.Cond.code x code maxLocals ret).before args0 about1 = true := code_word (m := ⟨1, 2⟩) (meth := k1m2) (c := k1c2) (by decide +kernel) rfl rfl rfl (by decide +kernel)
set_option maxRecDepth 65536 in
theorem w_c1 : (Jvm.Cond.code ({ cls := "com/example/gaithersburg/gaithersburg/TopicInWindowPinLaw", name := "probe", desc := "(JJJI)J" } : Jvm.MethodName) method_2_code (8 : Nat) (Option.some Jvm.ClassFile.FieldType.long)).before args0 about1 = true := code_word (m := ⟨1, 1⟩) (meth := k1m1) (c := k1c1) (by decide +kernel) rfl rfl rfl (by decide +kernel)
set_option maxRecDepth 65536 in
theorem w_c2 : (Jvm.Cond.code ({ cls := "com/example/gaithersburg/gaithersburg/Topic", name := "<init>", desc := "(Ljava/lang/String;Ljava/lang/String;JJ)V" } : Jvm.MethodName) prog_49_method_1_code (7 : Nat) (Option.none : Option Jvm.ClassFile.FieldType)).before args0 about1 = true := code_word (m := ⟨3, 0⟩) (meth := k3m0) (c := k3c0) (by decide +kernel) rfl rfl rfl (by decide +kernel)
set_option maxRecDepth 65536 in
theorem w_c3 : (Jvm.Cond.code ({ cls := "java/lang/Record", name := "<init>", desc := "()V" } : Jvm.MethodName) jdk_30_method_1_code (1 : Nat) (Option.none : Option Jvm.ClassFile.FieldType)).before args0 about1 = true := code_word (m := ⟨2, 0⟩) (meth := k2m0) (c := k2c0) (by decide +kernel) rfl rfl rfl (by decide +kernel)
set_option maxRecDepth 65536 in
theorem w_c4 : (Jvm.Cond.code ({ cls := "java/lang/Object", name := "<init>", desc := "()V" } : Jvm.MethodName) object_method_1_code (1 : Nat) (Option.none : Option Jvm.ClassFile.FieldType)).before args0 about1 = true := code_word (m := ⟨0, 0⟩) (meth := k0m0) (c := k0c0) (by decide +kernel) rfl rfl rfl (by decide +kernel)
set_option maxRecDepth 65536 in
theorem w_c5 : (Jvm.Cond.code ({ cls := "java/util/Objects", name := "requireNonNull", desc := "(Ljava/lang/Object;Ljava/lang/String;)Ljava/lang/Object;" } : Jvm.MethodName) jdk_31_method_11_code (2 : Nat) (Option.some (Jvm.ClassFile.FieldType.object "java/lang/Object"))).before args0 about1 = true := code_word (m := ⟨10, 1⟩) (meth := k10m1) (c := k10c1) (by decide +kernel) rfl rfl rfl (by decide +kernel)
set_option maxRecDepth 65536 in
theorem w_c6 : (Jvm.Cond.code ({ cls := "com/example/gaithersburg/gaithersburg/Topic", name := "inWindow", desc := "(J)Z" } : Jvm.MethodName) prog_49_method_2_code (3 : Nat) (Option.some Jvm.ClassFile.FieldType.boolean)).before args0 about1 = true := code_word (m := ⟨3, 1⟩) (meth := k3m1) (c := k3c1) (by decide +kernel) rfl rfl rfl (by decide +kernel)
set_option maxRecDepth 65536 in
theorem w_c7 : (Jvm.Cond.code ({ cls := "java/lang/Math", name := "max", desc := "(JJ)J" } : Jvm.MethodName) jdk_29_method_66_code (4 : Nat) (Option.some Jvm.ClassFile.FieldType.long)).before args0 about1 = true := code_word (m := ⟨11, 1⟩) (meth := k11m1) (c := k11c1) (by decide +kernel) rfl rfl rfl (by decide +kernel)
set_option maxRecDepth 65536 in
theorem w_c8 : (Jvm.Cond.code ({ cls := "java/lang/Math", name := "min", desc := "(JJ)J" } : Jvm.MethodName) jdk_29_method_70_code (4 : Nat) (Option.some Jvm.ClassFile.FieldType.long)).before args0 about1 = true := code_word (m := ⟨11, 2⟩) (meth := k11m2) (c := k11c2) (by decide +kernel) rfl rfl rfl (by decide +kernel)
def codes1 : List Jvm.Cond := [Jvm.Cond.code x code maxLocals ret, Jvm.Cond.code ({ cls := "com/example/gaithersburg/gaithersburg/TopicInWindowPinLaw", name := "probe", desc := "(JJJI)J" } : Jvm.MethodName) method_2_code (8 : Nat) (Option.some Jvm.ClassFile.FieldType.long), Jvm.Cond.code ({ cls := "com/example/gaithersburg/gaithersburg/Topic", name := "<init>", desc := "(Ljava/lang/String;Ljava/lang/String;JJ)V" } : Jvm.MethodName) prog_49_method_1_code (7 : Nat) (Option.none : Option Jvm.ClassFile.FieldType), Jvm.Cond.code ({ cls := "java/lang/Record", name := "<init>", desc := "()V" } : Jvm.MethodName) jdk_30_method_1_code (1 : Nat) (Option.none : Option Jvm.ClassFile.FieldType), Jvm.Cond.code ({ cls := "java/lang/Object", name := "<init>", desc := "()V" } : Jvm.MethodName) object_method_1_code (1 : Nat) (Option.none : Option Jvm.ClassFile.FieldType), Jvm.Cond.code ({ cls := "java/util/Objects", name := "requireNonNull", desc := "(Ljava/lang/Object;Ljava/lang/String;)Ljava/lang/Object;" } : Jvm.MethodName) jdk_31_method_11_code (2 : Nat) (Option.some (Jvm.ClassFile.FieldType.object "java/lang/Object")), Jvm.Cond.code ({ cls := "com/example/gaithersburg/gaithersburg/Topic", name := "inWindow", desc := "(J)Z" } : Jvm.MethodName) prog_49_method_2_code (3 : Nat) (Option.some Jvm.ClassFile.FieldType.boolean), Jvm.Cond.code ({ cls := "java/lang/Math", name := "max", desc := "(JJ)J" } : Jvm.MethodName) jdk_29_method_66_code (4 : Nat) (Option.some Jvm.ClassFile.FieldType.long), Jvm.Cond.code ({ cls := "java/lang/Math", name := "min", desc := "(JJ)J" } : Jvm.MethodName) jdk_29_method_70_code (4 : Nat) (Option.some Jvm.ClassFile.FieldType.long)]
set_option maxRecDepth 65536 in
theorem codes_eq : words1.filter isCode = codes1 := rfl
theorem w_codes : ∀ c ∈ words1.filter isCode, c.before args0 about1 = true := by
  rw [codes_eq]
  intro c hc
  simp only [codes1, List.mem_cons, List.not_mem_nil, or_false] at hc
  rcases hc with rfl | rfl | rfl | rfl | rfl | rfl | rfl | rfl | rfl
  · exact w_c0
  · exact w_c1
  · exact w_c2
  · exact w_c3
  · exact w_c4
  · exact w_c5
  · exact w_c6
  · exact w_c7
  · exact w_c8
set_option maxRecDepth 65536 in
theorem w_t1 : (words1.take 24).all (fun c => isCode c || c.before args0 about1) = true := by decide +kernel
set_option maxRecDepth 65536 in
theorem w_t2 : ((words1.drop 24).take 24).all (fun c => isCode c || c.before args0 about1) = true := by decide +kernel
set_option maxRecDepth 65536 in
theorem w_t3 : ((words1.drop 24).drop 24).all (fun c => isCode c || c.before args0 about1) = true := by decide +kernel
theorem w_tables : (allAtoms (Jvm.Cond.code x code maxLocals ret :: tables_1)).before args0 about1 = true := by
  rw [allAtoms_all]
  show words1.all (fun c => c.before args0 about1) = true
  refine all_split ?_ w_codes
  rw [← List.take_append_drop 24 words1, List.all_append, w_t1, ← List.take_append_drop 24 (words1.drop 24), List.all_append, w_t2, w_t3]
  rfl
set_option maxRecDepth 65536 in
theorem w_case : (Jvm.Cond.and given_1 narrow_1).before args0 about1 = true := by decide +kernel
theorem w_applies : (headSpec (Jvm.Cond.code x code maxLocals ret :: tables_1) room_1).applies x e0.platform about1 = true :=
  (Spec.applies_iff w_frames).mpr ⟨w_running, w_runnable, w_alone, w_named, w_hears, w_ripe, w_room, w_tables⟩
theorem atStart : AtStart classFile x code maxLocals ret World_1 tables_1 room_1 Calls_1 rest_1 Pre_1 launch0 p0 e0 about1 theMethod args0 below0 :=
  ⟨lists_1, trivial, launch0.admits_env _ _ _, launch0.least_env, fairChoices_fair.cas, fairChoices_fair.clock, w_frames, w_args, w_heap, w_applies, trivial, trivial, w_case⟩
end start1
theorem witness_1 : WitnessClaimed_1 := ⟨start1.p0, start1.e0, start1.about1, start1.theMethod, start1.args0, start1.below0, start1.atStart⟩
end Jvm.Pilot.@@N@@
