import JvmDerived
import JvmDerived.Pilot.@@N@@Statement
import JvmDerived.Pilot.@@N@@Code
set_option linter.unusedVariables false
set_option linter.unusedSimpArgs false
namespace Jvm.Pilot.@@N@@
open Jvm Jvm.ClassFile Sem Op Lib Jvm.Free Jvm.Stand Jvm.LawKit Jvm.RoadKit Bundle Jvm.Pilot.@@N@@.Jvm.D
section Own
variable {p : Program} {l : Launch} {e : Env} {R : Room} {s : State} {m : MethodId} {args : Array Value} {below : List Frame} {meth : Method} {c : Code} {T : State} {locs : List Loc} {cells slots : Nat} {Q : Option Value → Heap → List Loc → Prop} {k n : Nat}
/-- from this state the body comes to an end that meets Φ -/
def own_Go (tb : Tables) (e : Env) (below : List Frame) (Φ : Outcome → State → Prop) (S : State) : Prop :=
  ∃ U o, Steps tb e below S U ∧ U.status = .running ∧ Ended U below o ∧ Φ o U
/-- it returned; what it leaves meets Q; nothing else moved -/
def own_F (s : State) (Q : Option Value → Heap → List Loc → Prop) (k n : Nat) (o : Outcome) (U : State) : Prop := ∃ v L, o = .returned v ∧ Q v U.heap L ∧ FrameEnd s o U L k n
theorem own_st {tb : Tables} {Φ : Outcome → State → Prop} {S S' : State} (h : ∀ t, Steps tb e below S' t → Steps tb e below S t) (g : own_Go tb e below Φ S') : own_Go tb e below Φ S := by
  obtain ⟨U, o, h1, r⟩ := g
  exact ⟨U, o, h _ h1, r⟩
theorem own_tr {tb : Tables} {Φ : Outcome → State → Prop} {S S' : State} (h : Steps tb e below S S') (g : own_Go tb e below Φ S') : own_Go tb e below Φ S := by
  obtain ⟨U, o, h1, r⟩ := g
  exact ⟨U, o, h.trans h1, r⟩
theorem own_end (X : Stand p l e R s m args below meth c T locs cells slots) (v : Option Value) (hv : meth.sig.returnType = none → v = none) (hlk : meth.locks = false) (hq : Q v T.heap locs) (hk : cells ≤ k) (hn : slots ≤ n) {S : State}
    (hs : ∀ fs, (∀ (f : JFrame) (acts : List Action), f.method = m → f.locked = none → f.entered = [] → (doReturn e (T.setTop f) acts v).1 = T.setFrames fs) → Steps p.tables e below S (T.setFrames fs)) : own_Go p.tables e below (own_F s Q k n) S := by
  obtain ⟨fs, hr, hrun, hended, hW, hsame⟩ := X.leave (v := v) hv hlk
  exact ⟨_, _, hs fs hr, hrun, hended, v, locs, rfl, hq, ⟨_, rfl⟩, hW, hsame.mono hk hn⟩
theorem own_retN (X : Stand p l e R s m args below meth c T locs cells slots) (hx : p.tables.exec = Jvm.exec) {pc : Nat} {Ls : Array Slot} {z : Int32} {t : FieldType} {rest : List Value} (hret : meth.sig.returnType = some t) (ht : t = .boolean ∨ t = .byte ∨ t = .char ∨ t = .short) (hlk : meth.locks = false)
    (hd : decode c.code pc = .ok (.ireturn, 1)) (hq : Q (some (.int (nar t z))) T.heap locs) (hk : cells ≤ k) (hn : slots ≤ n) : own_Go p.tables e below (own_F s Q k n) (T.setTop (mkF m pc Ls (.int z :: rest))) :=
  own_end X _ (fun h => by rw [hret] at h; cases h) hlk hq hk hn fun fs hr => retN X hx hret ht hd hr
theorem own_retI (X : Stand p l e R s m args below meth c T locs cells slots) (hx : p.tables.exec = Jvm.exec) {pc : Nat} {Ls : Array Slot} {z : Int32} {rest : List Value} (hret : meth.sig.returnType = some .int) (hlk : meth.locks = false)
    (hd : decode c.code pc = .ok (.ireturn, 1)) (hq : Q (some (.int z)) T.heap locs) (hk : cells ≤ k) (hn : slots ≤ n) : own_Go p.tables e below (own_F s Q k n) (T.setTop (mkF m pc Ls (.int z :: rest))) :=
  own_end X _ (fun h => by rw [hret] at h; cases h) hlk hq hk hn fun fs hr => retOut X hx hret rfl (Or.inl ⟨rfl, Or.inl rfl, z, rfl⟩) hd hr
theorem own_retL (X : Stand p l e R s m args below meth c T locs cells slots) (hx : p.tables.exec = Jvm.exec) {pc : Nat} {Ls : Array Slot} {z : Int64} {rest : List Value} (hret : meth.sig.returnType = some .long) (hlk : meth.locks = false)
    (hd : decode c.code pc = .ok (.lreturn, 1)) (hq : Q (some (.long z)) T.heap locs) (hk : cells ≤ k) (hn : slots ≤ n) : own_Go p.tables e below (own_F s Q k n) (T.setTop (mkF m pc Ls (.long z :: rest))) :=
  own_end X _ (fun h => by rw [hret] at h; cases h) hlk hq hk hn fun fs hr => retOut X hx hret rfl (Or.inr (Or.inl ⟨rfl, rfl, z, rfl⟩)) hd hr
theorem own_retA (X : Stand p l e R s m args below meth c T locs cells slots) (hx : p.tables.exec = Jvm.exec) {pc : Nat} {Ls : Array Slot} {w : Value} {t : FieldType} {rest : List Value} (hret : meth.sig.returnType = some t) (ht : t.isReference = true) (hw : w.isRef = true) (hnw : narrow t w = w) (hlk : meth.locks = false)
    (hd : decode c.code pc = .ok (.areturn, 1)) (hq : Q (some w) T.heap locs) (hk : cells ≤ k) (hn : slots ≤ n) : own_Go p.tables e below (own_F s Q k n) (T.setTop (mkF m pc Ls (w :: rest))) :=
  own_end X _ (fun h => by rw [hret] at h; cases h) hlk hq hk hn fun fs hr => retOut X hx hret hnw (Or.inr (Or.inr (Or.inr (Or.inr ⟨rfl, ht, hw⟩)))) hd hr
theorem own_retV (X : Stand p l e R s m args below meth c T locs cells slots) (hx : p.tables.exec = Jvm.exec) {pc : Nat} {Ls : Array Slot} (hret : meth.sig.returnType = none) (hlk : meth.locks = false)
    (hd : decode c.code pc = .ok (.return_, 1)) (hq : Q none T.heap locs) (hk : cells ≤ k) (hn : slots ≤ n) : own_Go p.tables e below (own_F s Q k n) (T.setTop (mkF m pc Ls [])) :=
  own_end X _ (fun _ => rfl) hlk hq hk hn fun fs hr => X.returnOut hx hret hd hr
theorem own_body {y : MethodName} {cd : ByteArray} {mx : Nat} {rt : Option FieldType} {ws : List Jvm.Cond} {rm : Room} {Z : State} {h0 : Heap} {as : Array Value} (hp : plainFor y = true)
    (go : ∀ (p : Program) (e : Env) (s : State) (m : MethodId) (below : List Frame) (meth : Method) (c : Code) (s₁ : State), p.tables.exec = Jvm.exec → c.code = cd → c.maxLocals = mx → s.vm.findClass y.cls = some m.cls → meth.name = y.name → meth.sig.returnType = rt → meth.locks = false → Z.Warmed39 s.vm →
      Stand p l e rm s m as below meth c s₁ [] 0 0 → s₁.heap = h0 → own_Go p.tables e below (own_F s Q rm.cells rm.slots) (s₁.setTop (entryFrame m as mx))) :
    MetFree l y (head1 (Jvm.Cond.code y cd mx rt :: ws) rm) (fun a U => a = as ∧ Z.Warmed39 U.vm ∧ U.heap = h0) (fun _ _ _ _ _ => True) (fun _ U o U' => ∃ v L, o = .returned v ∧ Q v U'.heap L ∧ FrameEnd U o U' L rm.cells rm.slots) := by
  refine MetFree.of_bodySF hp hisR ?_
  intro p e s m args below meth c s₁ Bd hml0 hP hK
  obtain ⟨rfl, hZ, hh⟩ := hP
  exact go p e s m below meth c s₁ Bd.exec Bd.bytes hml0 (findClass_of_methodNamed Bd.named) (name_of_methodNamed Bd.named Bd.method).1 Bd.returns Bd.notSynchronized hZ (Stand.of_body Bd) (by rw [← hh, Bd.state]; rfl)
end Own
theorem own_narb {P : Prop} [Decidable P] : nar .boolean (if P then (1 : Int32) else (0 : Int32)) = if P then (1 : Int32) else (0 : Int32) := by split <;> rfl
/-- an array by its length and what each place holds -/
def own_A (Z : State) (h : Heap) (a : Addr) (ty : FieldType) (n : Nat) (f : Nat → Value) : Prop := ∃ c : Cell, Arr Z h a c ty ∧ c.slots.size = n ∧ n < 2 ^ 31 ∧ ∀ j, j < n → c.slots[j]? = some (f j)
def own_up (f : Nat → Value) (i : Nat) (v : Value) : Nat → Value := fun j => if j = i then v else f j
def own_Ix (j : Int32) (i n : Nat) : Prop := ¬ j < 0 ∧ j.toNatClampNeg = i ∧ i < n
section Arrs
variable {Z : State} {h h' : Heap} {a b : Addr} {ty : FieldType} {n i : Nat} {f : Nat → Value} {v : Value} {sl : Nat} {ws : List Addr} {c : Cell} {j z : Int32}
theorem own_A.lt (F : own_A Z h a ty n f) : a < h.size := by obtain ⟨c, A, -⟩ := F; exact A.lt
theorem own_A.ext (F : own_A Z h a ty n f) (E : Ext h h') : own_A Z h' a ty n f := by obtain ⟨c, A, r⟩ := F; exact ⟨c, A.ext E, r⟩
theorem own_A.other (F : own_A Z h b ty n f) (W : Wr h h' a sl v) (q : b ≠ a) : own_A Z h' b ty n f := by obtain ⟨c, A, r⟩ := F; exact ⟨c, A.other W q, r⟩
theorem own_A.keep (F : own_A Z h a ty n f) (K : Keep h h' ws) (q : a ∉ ws) : own_A Z h' a ty n f := by obtain ⟨c, A, r⟩ := F; exact ⟨c, ⟨K.2.1 a c A.1 q, A.2⟩, r⟩
theorem own_clamp (z : Int32) : z.toNatClampNeg < 2 ^ 31 := by
  have := Int32.toInt_lt z
  simp only [Int32.toNatClampNeg]; omega
theorem own_A.new {k : ClassId} (A : Arr Z h a (newA k ty z) ty) (hz : z.toNatClampNeg = n) : own_A Z h a ty n (fun _ => defaultValue ty) := by
  refine ⟨_, A, by rw [sz_new, hz], by rw [← hz]; exact own_clamp z, fun j hj => ?_⟩
  simp [newA, hz, hj]
theorem own_ix (h1 : ¬ j < 0) (h2 : j.toNatClampNeg = i) (h3 : i < n) : own_Ix j i n := ⟨h1, h2, h3⟩
theorem own_in (S : c.slots.size = n) (h : own_Ix j i n) : ¬ (j < 0 ∨ c.slots.size ≤ j.toNatClampNeg) := by
  obtain ⟨h1, h2, h3⟩ := h
  rw [S, h2]
  exact fun q => q.elim h1 (fun r => absurd h3 (Nat.not_lt.mpr r))
theorem own_at (S : c.slots.size = n) (V : ∀ j, j < n → c.slots[j]? = some (f j)) (h : own_Ix j i n) (hv : f i = v) : c.slots[j.toNatClampNeg]? = some v := by
  obtain ⟨h1, h2, h3⟩ := h
  rw [h2, V i h3, hv]
theorem own_A.set (F : own_A Z h a ty n f) (hj : own_Ix j i n) (W : Wr h h' a j.toNatClampNeg v) : own_A Z h' a ty n (own_up f i v) := by
  obtain ⟨c, A, S, M, V⟩ := F
  obtain ⟨h1, h2, h3⟩ := hj
  rw [h2] at W
  refine ⟨c.setSlot i v, A.same W, by rw [sz_set]; exact S, M, fun j' hj' => ?_⟩
  show (c.slots.setIfInBounds i v)[j']? = _
  unfold own_up
  by_cases e : j' = i
  · subst e; rw [if_pos rfl]; simp [S, hj']
  · rw [if_neg e, Array.getElem?_setIfInBounds_ne (Ne.symm e)]; exact V j' hj'
theorem own_A.cong {g : Nat → Value} (F : own_A Z h a ty n f) (q : ∀ j, j < n → f j = g j) : own_A Z h a ty n g := by
  obtain ⟨c, A, S, M, V⟩ := F
  exact ⟨c, A, S, M, fun j hj => by rw [V j hj, q j hj]⟩
end Arrs
/-- a short array's values by a list -/
def own_V (vs : List Value) : Nat → Value := fun j => vs.getD j .null
theorem own_selP {Z s : State} {a0 args : Array Value} {y : MethodName} {n : Nat} (hZ : Z.Warmed39 s.vm) (wi : (Jvm.Cond.instantiable y.cls n).before a0 Z = true) (wp : (Jvm.Cond.privateMethod y).before a0 Z = true) (wm : (Jvm.Cond.instanceMethod y).before a0 Z = true)
    (hy : y.cls ≠ "java/lang/invoke/MethodHandle" ∧ y.cls ≠ "java/lang/invoke/VarHandle") : (Jvm.Cond.selects y.cls y y).before args s = true := by
  have w : (Jvm.Cond.instantiable y.cls n).before args s = true := mvT hZ wi
  obtain ⟨c, k, h1, h2, -, h4, -⟩ := Cond.instantiable_spec w
  exact selects_self_of_private h1 h2 (Bool.or_eq_false_iff.mp h4).1 (Cond.privateMethod_at (mvP hZ wp (args := #[]))) (mvT hZ wm) hy
section OwnW
variable {p : Program} {l : Launch} {e : Env} {R : Room} {s : State} {vm0 : Vm} {k0 : Nat} {m : MethodId} {args : Array Value} {below : List Frame} {meth : Method} {c : Code} {T : State} {locs : List Loc} {cells slots : Nat} {Q : Option Value → Heap → List Loc → Prop} {k n : Nat}
/-- as own_F, of a body that may load String constants -/
def own_FW (s : State) (Q : Option Value → Heap → List Loc → Prop) (k n : Nat) (o : Outcome) (U : State) : Prop := ∃ v L, o = .returned v ∧ Q v U.heap L ∧ ReturnedEndW s o U L k n
theorem own_endW (X : Stand p l e R (s.setVm vm0) m args below meth c T locs cells slots) (hS : s.Since vm0 k0) (hk0 : k0 ≤ T.heap.size) (v : Option Value) (hv : meth.sig.returnType = none → v = none) (hlk : meth.locks = false) (hq : Q v T.heap locs) (hk : cells ≤ k) (hn : slots ≤ n) {S : State}
    (hs : ∀ fs, (∀ (f : JFrame) (acts : List Action), f.method = m → f.locked = none → f.entered = [] → (doReturn e (T.setTop f) acts v).1 = T.setFrames fs) → Steps p.tables e below S (T.setFrames fs)) : own_Go p.tables e below (own_FW s Q k n) S := by
  obtain ⟨fs, hr, hrun, hended, hW, hsame⟩ := X.leave (v := v) hv hlk
  obtain ⟨h1, h2, h3⟩ := hS.ended (U := T.setFrames fs) hW hk0 hsame
  exact ⟨_, _, hs fs hr, hrun, hended, v, locs, rfl, hq, ⟨_, rfl⟩, h1, h2, h3.mono hk hn⟩
theorem own_retNW (X : Stand p l e R (s.setVm vm0) m args below meth c T locs cells slots) (hS : s.Since vm0 k0) (hk0 : k0 ≤ T.heap.size) (hx : p.tables.exec = Jvm.exec) {pc : Nat} {Ls : Array Slot} {z : Int32} {t : FieldType} {rest : List Value} (hret : meth.sig.returnType = some t) (ht : t = .boolean ∨ t = .byte ∨ t = .char ∨ t = .short) (hlk : meth.locks = false)
    (hd : decode c.code pc = .ok (.ireturn, 1)) (hq : Q (some (.int (nar t z))) T.heap locs) (hk : cells ≤ k) (hn : slots ≤ n) : own_Go p.tables e below (own_FW s Q k n) (T.setTop (mkF m pc Ls (.int z :: rest))) :=
  own_endW X hS hk0 _ (fun h => by rw [hret] at h; cases h) hlk hq hk hn fun fs hr => retN X hx hret ht hd hr
theorem own_retVW (X : Stand p l e R (s.setVm vm0) m args below meth c T locs cells slots) (hS : s.Since vm0 k0) (hk0 : k0 ≤ T.heap.size) (hx : p.tables.exec = Jvm.exec) {pc : Nat} {Ls : Array Slot} (hret : meth.sig.returnType = none) (hlk : meth.locks = false)
    (hd : decode c.code pc = .ok (.return_, 1)) (hq : Q none T.heap locs) (hk : cells ≤ k) (hn : slots ≤ n) : own_Go p.tables e below (own_FW s Q k n) (T.setTop (mkF m pc Ls [])) :=
  own_endW X hS hk0 _ (fun _ => rfl) hlk hq hk hn fun fs hr => X.returnOut hx hret hd hr
theorem own_bodyW {y : MethodName} {cd : ByteArray} {mx : Nat} {rt : Option FieldType} {ws : List Jvm.Cond} {rm : Room} {Z : State} {h0 : Heap} {as : Array Value} (hp : plainFor y = true)
    (go : ∀ (p : Program) (e : Env) (s : State) (m : MethodId) (below : List Frame) (meth : Method) (c : Code) (s₁ : State), p.tables.exec = Jvm.exec → c.code = cd → c.maxLocals = mx → s.vm.findClass y.cls = some m.cls → meth.name = y.name → meth.sig.returnType = rt → meth.locks = false → Z.Warmed39 s.vm →
      Stand p l e rm s m as below meth c s₁ [] 0 0 → s₁.heap = h0 → own_Go p.tables e below (own_FW s Q rm.cells rm.slots) (s₁.setTop (entryFrame m as mx))) :
    MetFree l y (head1 (Jvm.Cond.code y cd mx rt :: ws) rm) (fun a U => a = as ∧ Z.Warmed39 U.vm ∧ U.heap = h0) (fun _ _ _ _ _ => True) (fun _ U o U' => ∃ v L, o = .returned v ∧ Q v U'.heap L ∧ ReturnedEndW U o U' L rm.cells rm.slots) := by
  refine MetFree.of_bodySF hp hisR ?_
  intro p e s m args below meth c s₁ Bd hml0 hP hK
  obtain ⟨rfl, hZ, hh⟩ := hP
  exact go p e s m below meth c s₁ Bd.exec Bd.bytes hml0 (findClass_of_methodNamed Bd.named) (name_of_methodNamed Bd.named Bd.method).1 Bd.returns Bd.notSynchronized hZ (Stand.of_body Bd) (by rw [← hh, Bd.state]; rfl)
end OwnW

theorem d1_0 : decode prog_63_method_4_code 0 = .ok (.aload_n 0, 1) := by decide +kernel
theorem d1_1 : decode prog_63_method_4_code 1 = .ok (.getstatic 3, 3) := by decide +kernel
theorem d1_4 : decode prog_63_method_4_code 4 = .ok (.if_acmp .ne 9, 3) := by decide +kernel
theorem d1_7 : decode prog_63_method_4_code 7 = .ok (.getstatic 7, 3) := by decide +kernel
theorem d1_10 : decode prog_63_method_4_code 10 = .ok (.goto 6, 3) := by decide +kernel
theorem d1_16 : decode prog_63_method_4_code 16 = .ok (.areturn, 1) := by decide +kernel
theorem pn1 : plainName "com/example/questloom/questloom/ruleset/Side" = true := by first | (simp [plainName, overriddenIn]; done) | decide +kernel
theorem ef1 (m : MethodId) (lf : Addr) : entryFrame m #[(.ref lf)] 1 = mkF m 0 #[.val (.ref lf)] [] := by first | (simp [entryFrame, mkF, argsToLocals, Value.category]; done) | rfl
def Q1 (Z : State) (lf : Addr) (rg : Addr) (h0 : Heap) (n0 : Nat) (v : Option Value) (h : Heap) (L : List Loc) : Prop := v = some (.ref rg) ∧ Fr n0 L ∧ h = h0
set_option maxRecDepth 65536 in
set_option maxHeartbeats 40000000 in
theorem rm1 (l : Launch) (Z : State) (a0 : Array Value) (hw : ∀ d ∈ tables_1, d.before a0 Z = true) (ws : List Jvm.Cond) (lf : Addr) (rg : Addr) (h0 : Heap) (n0 : Nat) (Z0 : n0 ≤ h0.size) (S___LEFT : Sta Z h0 "com/example/questloom/questloom/ruleset/Side" "LEFT" "Lcom/example/questloom/questloom/ruleset/Side;" (.ref lf)) (S___RIGHT : Sta Z h0 "com/example/questloom/questloom/ruleset/Side" "RIGHT" "Lcom/example/questloom/questloom/ruleset/Side;" (.ref rg)) :
    MetFree l (⟨"com/example/questloom/questloom/ruleset/Side", "other", "()Lcom/example/questloom/questloom/ruleset/Side;"⟩ : MethodName) (head1 (Jvm.Cond.code (⟨"com/example/questloom/questloom/ruleset/Side", "other", "()Lcom/example/questloom/questloom/ruleset/Side;"⟩ : MethodName) prog_63_method_4_code 1 (some (.object "com/example/questloom/questloom/ruleset/Side")) :: ws) ({ frames := 0, cells := 0, slots := 0, locals := 0 } : Room)) (fun as' U => as' = #[(.ref lf)] ∧ Z.Warmed39 U.vm ∧ U.heap = h0) (fun _ _ _ _ _ => True) (fun _ U o U' => ∃ v L, o = .returned v ∧ Q1 Z lf rg h0 n0 v U'.heap L ∧ FrameEnd U o U' L ({ frames := 0, cells := 0, slots := 0, locals := 0 } : Room).cells ({ frames := 0, cells := 0, slots := 0, locals := 0 } : Room).slots) := by
  refine own_body (plainFor_of_name pn1) ?_
  intro p e s m below meth c s₁ hx hby hml hown0 hnm hret hlk hZ X0 e0
  have hown : s.vm.findClass "com/example/questloom/questloom/ruleset/Side" = some m.cls := hown0
  have N0 := Fr.nil n0
  rw [ef1]
  show own_Go p.tables e below _ (s₁.setTop (mkF m 0 #[.val (.ref lf)] []))
  refine own_st (S' := s₁.setTop (mkF m 1 #[.val (.ref lf)] [(.ref lf)])) (fun t k => XS.aloadN X0.here hx rfl (hb hby d1_0) rfl rfl k) ?_
  obtain ⟨T1, X1, e1, st1⟩ := getS2 X0 hx hZ hown (host := "") (Or.inl (hw _ (List.mem_of_getElem? (i := 8) rfl))) Via.refl e0 S___LEFT (g := (mkF m 1 #[.val (.ref lf)] [(.ref lf)])) rfl (hb hby d1_1)
  refine own_st st1 ?_
  show own_Go p.tables e below _ (T1.setTop (mkF m 4 #[.val (.ref lf)] [(.ref lf), (.ref lf)]))
  refine own_st (S' := T1.setTop (mkF m 7 #[.val (.ref lf)] [])) (fun t k => Jvm.RoadKit.acmp (g := (mkF m 4 #[.val (.ref lf)] [(.ref lf), (.ref lf)])) X1 hx rfl rfl rfl (pc0 := 4) (pc' := 7) (same := true) rfl (hb hby d1_4) rfl (decide_eq_true rfl) (by decide) (by decide) k) ?_
  show own_Go p.tables e below _ (T1.setTop (mkF m 7 #[.val (.ref lf)] []))
  obtain ⟨T2, X2, e2, st2⟩ := getS2 X1 hx hZ hown (host := "") (Or.inl (hw _ (List.mem_of_getElem? (i := 9) rfl))) Via.refl e1 S___RIGHT (g := (mkF m 7 #[.val (.ref lf)] [])) rfl (hb hby d1_7)
  refine own_st st2 ?_
  show own_Go p.tables e below _ (T2.setTop (mkF m 10 #[.val (.ref lf)] [(.ref rg)]))
  refine own_st (S' := T2.setTop (mkF m 16 #[.val (.ref lf)] [(.ref rg)])) (fun t k => XS.goto X2.here hx rfl (pc0 := 10) (pc' := 16) rfl (hb hby d1_10) (by decide) (by decide) k) ?_
  refine own_retA X2 hx hret rfl rfl rfl hlk (hb hby d1_16) ?_ (by decide) (by decide)
  rw [e2]
  exact ⟨rfl, N0, rfl⟩
theorem d2_0 : decode prog_63_method_4_code 0 = .ok (.aload_n 0, 1) := by decide +kernel
theorem d2_1 : decode prog_63_method_4_code 1 = .ok (.getstatic 3, 3) := by decide +kernel
theorem d2_4 : decode prog_63_method_4_code 4 = .ok (.if_acmp .ne 9, 3) := by decide +kernel
theorem d2_13 : decode prog_63_method_4_code 13 = .ok (.getstatic 3, 3) := by decide +kernel
theorem d2_16 : decode prog_63_method_4_code 16 = .ok (.areturn, 1) := by decide +kernel
theorem pn2 : plainName "com/example/questloom/questloom/ruleset/Side" = true := by first | (simp [plainName, overriddenIn]; done) | decide +kernel
theorem ef2 (m : MethodId) (rg : Addr) : entryFrame m #[(.ref rg)] 1 = mkF m 0 #[.val (.ref rg)] [] := by first | (simp [entryFrame, mkF, argsToLocals, Value.category]; done) | rfl
def Q2 (Z : State) (rg : Addr) (lf : Addr) (h0 : Heap) (n0 : Nat) (v : Option Value) (h : Heap) (L : List Loc) : Prop := v = some (.ref lf) ∧ Fr n0 L ∧ h = h0
set_option maxRecDepth 65536 in
set_option maxHeartbeats 40000000 in
theorem rm2 (l : Launch) (Z : State) (a0 : Array Value) (hw : ∀ d ∈ tables_1, d.before a0 Z = true) (ws : List Jvm.Cond) (rg : Addr) (lf : Addr) (h0 : Heap) (n0 : Nat) (Z0 : n0 ≤ h0.size) (S___LEFT : Sta Z h0 "com/example/questloom/questloom/ruleset/Side" "LEFT" "Lcom/example/questloom/questloom/ruleset/Side;" (.ref lf)) (S___RIGHT : Sta Z h0 "com/example/questloom/questloom/ruleset/Side" "RIGHT" "Lcom/example/questloom/questloom/ruleset/Side;" (.ref rg)) (ne_lf_rg : lf ≠ rg) :
    MetFree l (⟨"com/example/questloom/questloom/ruleset/Side", "other", "()Lcom/example/questloom/questloom/ruleset/Side;"⟩ : MethodName) (head1 (Jvm.Cond.code (⟨"com/example/questloom/questloom/ruleset/Side", "other", "()Lcom/example/questloom/questloom/ruleset/Side;"⟩ : MethodName) prog_63_method_4_code 1 (some (.object "com/example/questloom/questloom/ruleset/Side")) :: ws) ({ frames := 0, cells := 0, slots := 0, locals := 0 } : Room)) (fun as' U => as' = #[(.ref rg)] ∧ Z.Warmed39 U.vm ∧ U.heap = h0) (fun _ _ _ _ _ => True) (fun _ U o U' => ∃ v L, o = .returned v ∧ Q2 Z rg lf h0 n0 v U'.heap L ∧ FrameEnd U o U' L ({ frames := 0, cells := 0, slots := 0, locals := 0 } : Room).cells ({ frames := 0, cells := 0, slots := 0, locals := 0 } : Room).slots) := by
  refine own_body (plainFor_of_name pn2) ?_
  intro p e s m below meth c s₁ hx hby hml hown0 hnm hret hlk hZ X0 e0
  have hown : s.vm.findClass "com/example/questloom/questloom/ruleset/Side" = some m.cls := hown0
  have N0 := Fr.nil n0
  rw [ef2]
  show own_Go p.tables e below _ (s₁.setTop (mkF m 0 #[.val (.ref rg)] []))
  refine own_st (S' := s₁.setTop (mkF m 1 #[.val (.ref rg)] [(.ref rg)])) (fun t k => XS.aloadN X0.here hx rfl (hb hby d2_0) rfl rfl k) ?_
  obtain ⟨T1, X1, e1, st1⟩ := getS2 X0 hx hZ hown (host := "") (Or.inl (hw _ (List.mem_of_getElem? (i := 8) rfl))) Via.refl e0 S___LEFT (g := (mkF m 1 #[.val (.ref rg)] [(.ref rg)])) rfl (hb hby d2_1)
  refine own_st st1 ?_
  show own_Go p.tables e below _ (T1.setTop (mkF m 4 #[.val (.ref rg)] [(.ref lf), (.ref rg)]))
  have hc2 : ¬ (rg = lf) := Ne.symm ne_lf_rg
  refine own_st (S' := T1.setTop (mkF m 13 #[.val (.ref rg)] [])) (fun t k => Jvm.RoadKit.acmp (g := (mkF m 4 #[.val (.ref rg)] [(.ref lf), (.ref rg)])) X1 hx rfl rfl rfl (pc0 := 4) (pc' := 13) (same := false) rfl (hb hby d2_4) rfl (decide_eq_false fun q => hc2 (Value.ref.inj q)) (by decide) (by decide) k) ?_
  show own_Go p.tables e below _ (T1.setTop (mkF m 13 #[.val (.ref rg)] []))
  obtain ⟨T3, X3, e3, st3⟩ := getS2 X1 hx hZ hown (host := "") (Or.inl (hw _ (List.mem_of_getElem? (i := 8) rfl))) Via.refl e1 S___LEFT (g := (mkF m 13 #[.val (.ref rg)] [])) rfl (hb hby d2_13)
  refine own_st st3 ?_
  show own_Go p.tables e below _ (T3.setTop (mkF m 16 #[.val (.ref rg)] [(.ref lf)]))
  refine own_retA X3 hx hret rfl rfl rfl hlk (hb hby d2_16) ?_ (by decide) (by decide)
  rw [e3]
  exact ⟨rfl, N0, rfl⟩
theorem pd0_0 : parseMethodDescriptor "()Lcom/example/questloom/questloom/ruleset/Side;" = some ⟨[], some (.object "com/example/questloom/questloom/ruleset/Side")⟩ := by decide +kernel
theorem pn0 : plainName "com/example/questloom/questloom/ruleset/SideOtherPinLaw" = true := by first | (simp [plainName, overriddenIn]; done) | decide +kernel
theorem ef0 (m : MethodId) (p0 : Int32) : entryFrame m #[(.int p0)] maxLocals = mkF m 0 #[.val (.int p0), .unset, .unset, .unset] [] := by first | (simp [entryFrame, mkF, argsToLocals, Value.category, maxLocals]; done) | rfl
def Q0 (n0 : Nat) (v : Option Value) (h : Heap) (L : List Loc) : Prop := v = some (.int 1) ∧ Fr n0 L
set_option maxRecDepth 65536 in
set_option maxHeartbeats 40000000 in
theorem rm0 (l : Launch) (Z : State) (a0 : Array Value) (hw : ∀ d ∈ tables_1, d.before a0 Z = true) (ws : List Jvm.Cond) (p0 : Int32) (lf : Addr) (rg : Addr) (h0 : Heap) (n0 : Nat) (Z0 : n0 ≤ h0.size) (SL : Sta Z h0 "com/example/questloom/questloom/ruleset/Side" "LEFT" "Lcom/example/questloom/questloom/ruleset/Side;" (.ref lf)) (SR : Sta Z h0 "com/example/questloom/questloom/ruleset/Side" "RIGHT" "Lcom/example/questloom/questloom/ruleset/Side;" (.ref rg)) (EL : Exa Z h0 lf "com/example/questloom/questloom/ruleset/Side") (ER : Exa Z h0 rg "com/example/questloom/questloom/ruleset/Side") (ne_lf_rg : lf ≠ rg) :
    MetFree l x (head1 (Jvm.Cond.code x code maxLocals ret :: ws) room_1) (fun as' U => as' = #[(.int p0)] ∧ Z.Warmed39 U.vm ∧ U.heap = h0) (fun _ _ _ _ _ => True) (fun _ U o U' => ∃ v L, o = .returned v ∧ Q0 n0 v U'.heap L ∧ FrameEnd U o U' L room_1.cells room_1.slots) := by
  refine own_body (plainFor_of_name pn0) ?_
  intro p e s m below meth c s₁ hx hby hml hown0 hnm hret hlk hZ X0 e0
  have hown : s.vm.findClass "com/example/questloom/questloom/ruleset/SideOtherPinLaw" = some m.cls := hown0
  have N0 := Fr.nil n0
  rw [ef0]
  show own_Go p.tables e below _ (s₁.setTop (mkF m 0 #[.val (.int p0), .unset, .unset, .unset] []))
  refine own_st (S' := s₁.setTop (mkF m 1 #[.val (.int p0), .unset, .unset, .unset] [(.int p0)])) (fun t k => XS.iloadN X0.here hx rfl (hb hby at_0) rfl k) ?_
  refine own_st (S' := s₁.setTop (mkF m 2 #[.val (.int p0), .unset, .unset, .unset] [(.int (1 : Int32)), (.int p0)])) (fun t k => XS.iconst X0.here hx rfl (hb hby at_1) k) ?_
  refine own_st (S' := s₁.setTop (mkF m 3 #[.val (.int p0), .unset, .unset, .unset] [(.int (p0 &&& (1 : Int32)))])) (fun t k => XS.iand X0.here hx rfl (hb hby at_2) rfl k) ?_
  by_cases hc1 : (p0 &&& (1 : Int32)) = (0 : Int32)
  · refine own_st (S' := s₁.setTop (mkF m 12 #[.val (.int p0), .unset, .unset, .unset] [])) (fun t k => XS.ifYes X0.here hx rfl (pc0 := 3) (pc' := 12) rfl (hb hby at_3) rfl ((if0 _ _).trans (teq hc1).1) (by decide) (by decide) k) ?_
    show own_Go p.tables e below _ (s₁.setTop (mkF m 12 #[.val (.int p0), .unset, .unset, .unset] []))
    obtain ⟨T2, X2, e2, st2⟩ := getS2 X0 hx hZ hown (host := "") (Or.inl (hw _ (List.mem_of_getElem? (i := 0) rfl))) Via.refl e0 SL (g := (mkF m 12 #[.val (.int p0), .unset, .unset, .unset] [])) rfl (hb hby at_12)
    refine own_st st2 ?_
    show own_Go p.tables e below _ (T2.setTop (mkF m 15 #[.val (.int p0), .unset, .unset, .unset] [(.ref lf)]))
    refine own_st (S' := T2.setTop (mkF m 16 #[.val (.int p0), .val (.ref lf), .unset, .unset] [])) (fun t k => XS.astoreN X2.here hx rfl (hb hby at_15) rfl rfl (l' := #[.val (.int p0), .val (.ref lf), .unset, .unset]) rfl k) ?_
    refine own_st (S' := T2.setTop (mkF m 17 #[.val (.int p0), .val (.ref lf), .unset, .unset] [(.ref lf)])) (fun t k => XS.aloadN X2.here hx rfl (hb hby at_16) rfl rfl k) ?_
    obtain ⟨cq3, kq3, q3a, q3b, q3c⟩ := isOf hZ e2 EL
    obtain ⟨_, _, ⟨T3, L3, k3, n3⟩, -, X3, ⟨Lc3, hQ3, l3, y3, z3⟩, st3⟩ := X2.virtualBack hx (y := (⟨"com/example/questloom/questloom/ruleset/Side", "other", "()Lcom/example/questloom/questloom/ruleset/Side;"⟩ : MethodName)) (z := (⟨"com/example/questloom/questloom/ruleset/Side", "other", "()Lcom/example/questloom/questloom/ruleset/Side;"⟩ : MethodName)) hown (mvT hZ (hw _ (List.mem_of_getElem? (i := 3) rfl))) (mvT hZ (hw _ (List.mem_of_getElem? (i := 4) rfl))) (notFace_of_selects (args := #[]) (mvT hZ (hw _ (List.mem_of_getElem? (i := 6) rfl)))) (mvT hZ (hw _ (List.mem_of_getElem? (i := 6) rfl))) (mvT hZ (hw _ (List.mem_of_getElem? (i := 5) rfl))) (by decide) (backOf (W := 0) (rm1 l Z a0 hw [] lf rg h0 n0 Z0 SL SR) hZ (hw _ (List.mem_of_getElem? (i := 7) rfl)) (hw _ (List.mem_of_getElem? (i := 1) rfl)) (by decide) (by decide)) q3a q3c (g := (mkF m 17 #[.val (.int p0), .val (.ref lf), .unset, .unset] [(.ref lf)])) rfl (by rw [hml]; rfl) (Steps.refl _) (argsL := []) (rest := []) (lenOf pd0_0 rfl) rfl (by show 2 * 0 + _ ≤ _; exact Nat.le_of_eq rfl) (hb hby at_17) (fun _ _ => ⟨rfl, e2, (by decide : 0 + 0 ≤ _), (by decide : 0 + 0 ≤ _)⟩)
    dsimp only [Pt.U, Pt.locs, Pt.cells, Pt.slots] at X3 l3 y3 z3 st3 hQ3
    rw [l3, y3, z3] at X3
    obtain ⟨rfl, N3q, hh3⟩ := hQ3
    have N3 := Fr.app N0 N3q
    refine own_tr st3 ?_
    show own_Go p.tables e below _ (T3.setTop (mkF m 20 #[.val (.int p0), .val (.ref lf), .unset, .unset] [(.ref rg)]))
    refine own_st (S' := T3.setTop (mkF m 21 #[.val (.int p0), .val (.ref lf), .val (.ref rg), .unset] [])) (fun t k => XS.astoreN X3.here hx rfl (hb hby at_20) rfl rfl (l' := #[.val (.int p0), .val (.ref lf), .val (.ref rg), .unset]) rfl k) ?_
    refine own_st (S' := T3.setTop (mkF m 22 #[.val (.int p0), .val (.ref lf), .val (.ref rg), .unset] [(.ref rg)])) (fun t k => XS.aloadN X3.here hx rfl (hb hby at_21) rfl rfl k) ?_
    refine own_st (S' := T3.setTop (mkF m 27 #[.val (.int p0), .val (.ref lf), .val (.ref rg), .unset] [])) (fun t k => XS.ifnonnullYes X3.here hx rfl (pc0 := 22) (pc' := 27) rfl (hb hby at_22) rfl (by decide) (by decide) k) ?_
    show own_Go p.tables e below _ (T3.setTop (mkF m 27 #[.val (.int p0), .val (.ref lf), .val (.ref rg), .unset] []))
    refine own_st (S' := T3.setTop (mkF m 28 #[.val (.int p0), .val (.ref lf), .val (.ref rg), .unset] [(.ref rg)])) (fun t k => XS.aloadN X3.here hx rfl (hb hby at_27) rfl rfl k) ?_
    refine own_st (S' := T3.setTop (mkF m 29 #[.val (.int p0), .val (.ref lf), .val (.ref rg), .unset] [(.ref lf), (.ref rg)])) (fun t k => XS.aloadN X3.here hx rfl (hb hby at_28) rfl rfl k) ?_
    have hc4 : ¬ (rg = lf) := Ne.symm ne_lf_rg
    refine own_st (S' := T3.setTop (mkF m 34 #[.val (.int p0), .val (.ref lf), .val (.ref rg), .unset] [])) (fun t k => Jvm.RoadKit.acmp (g := (mkF m 29 #[.val (.int p0), .val (.ref lf), .val (.ref rg), .unset] [(.ref lf), (.ref rg)])) X3 hx rfl rfl rfl (pc0 := 29) (pc' := 34) (same := false) rfl (hb hby at_29) rfl (decide_eq_false fun q => hc4 (Value.ref.inj q)) (by decide) (by decide) k) ?_
    show own_Go p.tables e below _ (T3.setTop (mkF m 34 #[.val (.int p0), .val (.ref lf), .val (.ref rg), .unset] []))
    refine own_st (S' := T3.setTop (mkF m 35 #[.val (.int p0), .val (.ref lf), .val (.ref rg), .unset] [(.ref rg)])) (fun t k => XS.aloadN X3.here hx rfl (hb hby at_34) rfl rfl k) ?_
    obtain ⟨cq5, kq5, q5a, q5b, q5c⟩ := isOf hZ hh3 ER
    obtain ⟨_, _, ⟨T5, L5, k5, n5⟩, -, X5, ⟨Lc5, hQ5, l5, y5, z5⟩, st5⟩ := X3.virtualBack hx (y := (⟨"com/example/questloom/questloom/ruleset/Side", "other", "()Lcom/example/questloom/questloom/ruleset/Side;"⟩ : MethodName)) (z := (⟨"com/example/questloom/questloom/ruleset/Side", "other", "()Lcom/example/questloom/questloom/ruleset/Side;"⟩ : MethodName)) hown (mvT hZ (hw _ (List.mem_of_getElem? (i := 3) rfl))) (mvT hZ (hw _ (List.mem_of_getElem? (i := 4) rfl))) (notFace_of_selects (args := #[]) (mvT hZ (hw _ (List.mem_of_getElem? (i := 6) rfl)))) (mvT hZ (hw _ (List.mem_of_getElem? (i := 6) rfl))) (mvT hZ (hw _ (List.mem_of_getElem? (i := 5) rfl))) (by decide) (backOf (W := 0) (rm2 l Z a0 hw [] rg lf h0 n0 Z0 SL SR ne_lf_rg) hZ (hw _ (List.mem_of_getElem? (i := 7) rfl)) (hw _ (List.mem_of_getElem? (i := 1) rfl)) (by decide) (by decide)) q5a q5c (g := (mkF m 35 #[.val (.int p0), .val (.ref lf), .val (.ref rg), .unset] [(.ref rg)])) rfl (by rw [hml]; rfl) (Steps.refl _) (argsL := []) (rest := []) (lenOf pd0_0 rfl) rfl (by show 2 * 0 + _ ≤ _; exact Nat.le_of_eq rfl) (hb hby at_35) (fun _ _ => ⟨rfl, hh3, (by decide : 0 + 0 ≤ _), (by decide : 0 + 0 ≤ _)⟩)
    dsimp only [Pt.U, Pt.locs, Pt.cells, Pt.slots] at X5 l5 y5 z5 st5 hQ5
    rw [l5, y5, z5] at X5
    obtain ⟨rfl, N5q, hh5⟩ := hQ5
    have N5 := Fr.app N3 N5q
    refine own_tr st5 ?_
    show own_Go p.tables e below _ (T5.setTop (mkF m 38 #[.val (.int p0), .val (.ref lf), .val (.ref rg), .unset] [(.ref lf)]))
    refine own_st (S' := T5.setTop (mkF m 39 #[.val (.int p0), .val (.ref lf), .val (.ref rg), .val (.ref lf)] [])) (fun t k => XS.astoreN X5.here hx rfl (hb hby at_38) rfl rfl (l' := #[.val (.int p0), .val (.ref lf), .val (.ref rg), .val (.ref lf)]) rfl k) ?_
    refine own_st (S' := T5.setTop (mkF m 40 #[.val (.int p0), .val (.ref lf), .val (.ref rg), .val (.ref lf)] [(.ref lf)])) (fun t k => XS.aloadN X5.here hx rfl (hb hby at_39) rfl rfl k) ?_
    refine own_st (S' := T5.setTop (mkF m 41 #[.val (.int p0), .val (.ref lf), .val (.ref rg), .val (.ref lf)] [(.ref lf), (.ref lf)])) (fun t k => XS.aloadN X5.here hx rfl (hb hby at_40) rfl rfl k) ?_
    refine own_st (S' := T5.setTop (mkF m 44 #[.val (.int p0), .val (.ref lf), .val (.ref rg), .val (.ref lf)] [])) (fun t k => Jvm.RoadKit.acmp (g := (mkF m 41 #[.val (.int p0), .val (.ref lf), .val (.ref rg), .val (.ref lf)] [(.ref lf), (.ref lf)])) X5 hx rfl rfl rfl (pc0 := 41) (pc' := 44) (same := true) rfl (hb hby at_41) rfl (decide_eq_true rfl) (by decide) (by decide) k) ?_
    show own_Go p.tables e below _ (T5.setTop (mkF m 44 #[.val (.int p0), .val (.ref lf), .val (.ref rg), .val (.ref lf)] []))
    refine own_st (S' := T5.setTop (mkF m 45 #[.val (.int p0), .val (.ref lf), .val (.ref rg), .val (.ref lf)] [(.int (1 : Int32))])) (fun t k => XS.iconst X5.here hx rfl (hb hby at_44) k) ?_
    refine own_st (S' := T5.setTop (mkF m 49 #[.val (.int p0), .val (.ref lf), .val (.ref rg), .val (.ref lf)] [(.int (1 : Int32))])) (fun t k => XS.goto X5.here hx rfl (pc0 := 45) (pc' := 49) rfl (hb hby at_45) (by decide) (by decide) k) ?_
    refine own_retN X5 hx (t := .boolean) hret (by simp) hlk (hb hby at_49) ?_ (by decide) (by decide)
    rw [hh5]
    exact ⟨rfl, N5⟩
  · refine own_st (S' := s₁.setTop (mkF m 6 #[.val (.int p0), .unset, .unset, .unset] [])) (fun t k => XS.ifNo X0.here hx rfl (hb hby at_3) rfl ((if0 _ _).trans (feq hc1).1) k) ?_
    show own_Go p.tables e below _ (s₁.setTop (mkF m 6 #[.val (.int p0), .unset, .unset, .unset] []))
    obtain ⟨T6, X6, e6, st6⟩ := getS2 X0 hx hZ hown (host := "") (Or.inl (hw _ (List.mem_of_getElem? (i := 11) rfl))) Via.refl e0 SR (g := (mkF m 6 #[.val (.int p0), .unset, .unset, .unset] [])) rfl (hb hby at_6)
    refine own_st st6 ?_
    show own_Go p.tables e below _ (T6.setTop (mkF m 9 #[.val (.int p0), .unset, .unset, .unset] [(.ref rg)]))
    refine own_st (S' := T6.setTop (mkF m 15 #[.val (.int p0), .unset, .unset, .unset] [(.ref rg)])) (fun t k => XS.goto X6.here hx rfl (pc0 := 9) (pc' := 15) rfl (hb hby at_9) (by decide) (by decide) k) ?_
    refine own_st (S' := T6.setTop (mkF m 16 #[.val (.int p0), .val (.ref rg), .unset, .unset] [])) (fun t k => XS.astoreN X6.here hx rfl (hb hby at_15) rfl rfl (l' := #[.val (.int p0), .val (.ref rg), .unset, .unset]) rfl k) ?_
    refine own_st (S' := T6.setTop (mkF m 17 #[.val (.int p0), .val (.ref rg), .unset, .unset] [(.ref rg)])) (fun t k => XS.aloadN X6.here hx rfl (hb hby at_16) rfl rfl k) ?_
    obtain ⟨cq7, kq7, q7a, q7b, q7c⟩ := isOf hZ e6 ER
    obtain ⟨_, _, ⟨T7, L7, k7, n7⟩, -, X7, ⟨Lc7, hQ7, l7, y7, z7⟩, st7⟩ := X6.virtualBack hx (y := (⟨"com/example/questloom/questloom/ruleset/Side", "other", "()Lcom/example/questloom/questloom/ruleset/Side;"⟩ : MethodName)) (z := (⟨"com/example/questloom/questloom/ruleset/Side", "other", "()Lcom/example/questloom/questloom/ruleset/Side;"⟩ : MethodName)) hown (mvT hZ (hw _ (List.mem_of_getElem? (i := 3) rfl))) (mvT hZ (hw _ (List.mem_of_getElem? (i := 4) rfl))) (notFace_of_selects (args := #[]) (mvT hZ (hw _ (List.mem_of_getElem? (i := 6) rfl)))) (mvT hZ (hw _ (List.mem_of_getElem? (i := 6) rfl))) (mvT hZ (hw _ (List.mem_of_getElem? (i := 5) rfl))) (by decide) (backOf (W := 0) (rm2 l Z a0 hw [] rg lf h0 n0 Z0 SL SR ne_lf_rg) hZ (hw _ (List.mem_of_getElem? (i := 7) rfl)) (hw _ (List.mem_of_getElem? (i := 1) rfl)) (by decide) (by decide)) q7a q7c (g := (mkF m 17 #[.val (.int p0), .val (.ref rg), .unset, .unset] [(.ref rg)])) rfl (by rw [hml]; rfl) (Steps.refl _) (argsL := []) (rest := []) (lenOf pd0_0 rfl) rfl (by show 2 * 0 + _ ≤ _; exact Nat.le_of_eq rfl) (hb hby at_17) (fun _ _ => ⟨rfl, e6, (by decide : 0 + 0 ≤ _), (by decide : 0 + 0 ≤ _)⟩)
    dsimp only [Pt.U, Pt.locs, Pt.cells, Pt.slots] at X7 l7 y7 z7 st7 hQ7
    rw [l7, y7, z7] at X7
    obtain ⟨rfl, N7q, hh7⟩ := hQ7
    have N7 := Fr.app N0 N7q
    refine own_tr st7 ?_
    show own_Go p.tables e below _ (T7.setTop (mkF m 20 #[.val (.int p0), .val (.ref rg), .unset, .unset] [(.ref lf)]))
    refine own_st (S' := T7.setTop (mkF m 21 #[.val (.int p0), .val (.ref rg), .val (.ref lf), .unset] [])) (fun t k => XS.astoreN X7.here hx rfl (hb hby at_20) rfl rfl (l' := #[.val (.int p0), .val (.ref rg), .val (.ref lf), .unset]) rfl k) ?_
    refine own_st (S' := T7.setTop (mkF m 22 #[.val (.int p0), .val (.ref rg), .val (.ref lf), .unset] [(.ref lf)])) (fun t k => XS.aloadN X7.here hx rfl (hb hby at_21) rfl rfl k) ?_
    refine own_st (S' := T7.setTop (mkF m 27 #[.val (.int p0), .val (.ref rg), .val (.ref lf), .unset] [])) (fun t k => XS.ifnonnullYes X7.here hx rfl (pc0 := 22) (pc' := 27) rfl (hb hby at_22) rfl (by decide) (by decide) k) ?_
    show own_Go p.tables e below _ (T7.setTop (mkF m 27 #[.val (.int p0), .val (.ref rg), .val (.ref lf), .unset] []))
    refine own_st (S' := T7.setTop (mkF m 28 #[.val (.int p0), .val (.ref rg), .val (.ref lf), .unset] [(.ref lf)])) (fun t k => XS.aloadN X7.here hx rfl (hb hby at_27) rfl rfl k) ?_
    refine own_st (S' := T7.setTop (mkF m 29 #[.val (.int p0), .val (.ref rg), .val (.ref lf), .unset] [(.ref rg), (.ref lf)])) (fun t k => XS.aloadN X7.here hx rfl (hb hby at_28) rfl rfl k) ?_
    have hc8 : ¬ (lf = rg) := ne_lf_rg
    refine own_st (S' := T7.setTop (mkF m 34 #[.val (.int p0), .val (.ref rg), .val (.ref lf), .unset] [])) (fun t k => Jvm.RoadKit.acmp (g := (mkF m 29 #[.val (.int p0), .val (.ref rg), .val (.ref lf), .unset] [(.ref rg), (.ref lf)])) X7 hx rfl rfl rfl (pc0 := 29) (pc' := 34) (same := false) rfl (hb hby at_29) rfl (decide_eq_false fun q => hc8 (Value.ref.inj q)) (by decide) (by decide) k) ?_
    show own_Go p.tables e below _ (T7.setTop (mkF m 34 #[.val (.int p0), .val (.ref rg), .val (.ref lf), .unset] []))
    refine own_st (S' := T7.setTop (mkF m 35 #[.val (.int p0), .val (.ref rg), .val (.ref lf), .unset] [(.ref lf)])) (fun t k => XS.aloadN X7.here hx rfl (hb hby at_34) rfl rfl k) ?_
    obtain ⟨cq9, kq9, q9a, q9b, q9c⟩ := isOf hZ hh7 EL
    obtain ⟨_, _, ⟨T9, L9, k9, n9⟩, -, X9, ⟨Lc9, hQ9, l9, y9, z9⟩, st9⟩ := X7.virtualBack hx (y := (⟨"com/example/questloom/questloom/ruleset/Side", "other", "()Lcom/example/questloom/questloom/ruleset/Side;"⟩ : MethodName)) (z := (⟨"com/example/questloom/questloom/ruleset/Side", "other", "()Lcom/example/questloom/questloom/ruleset/Side;"⟩ : MethodName)) hown (mvT hZ (hw _ (List.mem_of_getElem? (i := 3) rfl))) (mvT hZ (hw _ (List.mem_of_getElem? (i := 4) rfl))) (notFace_of_selects (args := #[]) (mvT hZ (hw _ (List.mem_of_getElem? (i := 6) rfl)))) (mvT hZ (hw _ (List.mem_of_getElem? (i := 6) rfl))) (mvT hZ (hw _ (List.mem_of_getElem? (i := 5) rfl))) (by decide) (backOf (W := 0) (rm1 l Z a0 hw [] lf rg h0 n0 Z0 SL SR) hZ (hw _ (List.mem_of_getElem? (i := 7) rfl)) (hw _ (List.mem_of_getElem? (i := 1) rfl)) (by decide) (by decide)) q9a q9c (g := (mkF m 35 #[.val (.int p0), .val (.ref rg), .val (.ref lf), .unset] [(.ref lf)])) rfl (by rw [hml]; rfl) (Steps.refl _) (argsL := []) (rest := []) (lenOf pd0_0 rfl) rfl (by show 2 * 0 + _ ≤ _; exact Nat.le_of_eq rfl) (hb hby at_35) (fun _ _ => ⟨rfl, hh7, (by decide : 0 + 0 ≤ _), (by decide : 0 + 0 ≤ _)⟩)
    dsimp only [Pt.U, Pt.locs, Pt.cells, Pt.slots] at X9 l9 y9 z9 st9 hQ9
    rw [l9, y9, z9] at X9
    obtain ⟨rfl, N9q, hh9⟩ := hQ9
    have N9 := Fr.app N7 N9q
    refine own_tr st9 ?_
    show own_Go p.tables e below _ (T9.setTop (mkF m 38 #[.val (.int p0), .val (.ref rg), .val (.ref lf), .unset] [(.ref rg)]))
    refine own_st (S' := T9.setTop (mkF m 39 #[.val (.int p0), .val (.ref rg), .val (.ref lf), .val (.ref rg)] [])) (fun t k => XS.astoreN X9.here hx rfl (hb hby at_38) rfl rfl (l' := #[.val (.int p0), .val (.ref rg), .val (.ref lf), .val (.ref rg)]) rfl k) ?_
    refine own_st (S' := T9.setTop (mkF m 40 #[.val (.int p0), .val (.ref rg), .val (.ref lf), .val (.ref rg)] [(.ref rg)])) (fun t k => XS.aloadN X9.here hx rfl (hb hby at_39) rfl rfl k) ?_
    refine own_st (S' := T9.setTop (mkF m 41 #[.val (.int p0), .val (.ref rg), .val (.ref lf), .val (.ref rg)] [(.ref rg), (.ref rg)])) (fun t k => XS.aloadN X9.here hx rfl (hb hby at_40) rfl rfl k) ?_
    refine own_st (S' := T9.setTop (mkF m 44 #[.val (.int p0), .val (.ref rg), .val (.ref lf), .val (.ref rg)] [])) (fun t k => Jvm.RoadKit.acmp (g := (mkF m 41 #[.val (.int p0), .val (.ref rg), .val (.ref lf), .val (.ref rg)] [(.ref rg), (.ref rg)])) X9 hx rfl rfl rfl (pc0 := 41) (pc' := 44) (same := true) rfl (hb hby at_41) rfl (decide_eq_true rfl) (by decide) (by decide) k) ?_
    show own_Go p.tables e below _ (T9.setTop (mkF m 44 #[.val (.int p0), .val (.ref rg), .val (.ref lf), .val (.ref rg)] []))
    refine own_st (S' := T9.setTop (mkF m 45 #[.val (.int p0), .val (.ref rg), .val (.ref lf), .val (.ref rg)] [(.int (1 : Int32))])) (fun t k => XS.iconst X9.here hx rfl (hb hby at_44) k) ?_
    refine own_st (S' := T9.setTop (mkF m 49 #[.val (.int p0), .val (.ref rg), .val (.ref lf), .val (.ref rg)] [(.int (1 : Int32))])) (fun t k => XS.goto X9.here hx rfl (pc0 := 45) (pc' := 49) rfl (hb hby at_45) (by decide) (by decide) k) ?_
    refine own_retN X9 hx (t := .boolean) hret (by simp) hlk (hb hby at_49) ?_ (by decide) (by decide)
    rw [hh9]
    exact ⟨rfl, N9⟩
set_option maxRecDepth 65536 in
set_option maxHeartbeats 40000000 in
theorem comes_1 {Post : Tables → Env → Array Value → State → Outcome → State → Prop} (hpost : ∀ tb e args s v u, (limb_1_1.after args s (.returned v) u = true ∧ limb_1_2.after args s (.returned v) u = true ∧ True) → FrameEnd s (.returned v) u (Jvm.fieldLocs frame_1_writes args s ++ Jvm.arrayLocs frame_1_arrays args s ++ Jvm.staticLocs frame_1_statics s) 0 0 → Post tb e args s (.returned v) u) :
    ArmFor flags0 classFile x code maxLocals ret World_1 tables_1 room_1 Calls_1 rest_1 Pre_1 Post := by
  intro l hfl _ _ p e ha hc hk s m args below hf hA hF happ hP
  obtain ⟨hcalls, hrest, hpre⟩ := hP
  obtain ⟨-, -, -, hnamed, -, -, -, hat⟩ := (Spec.applies_iff hf).mp happ
  obtain ⟨hg, hn⟩ := and_e (Cond.before_iff.mp (show (Jvm.Cond.and given_1 narrow_1).before args s = true from hpre))
  obtain ⟨c0, d0⟩ := and_e hg
  obtain ⟨w0, rfl⟩ : ∃ w0 : Value, args = #[w0] := by
    have hs : args.size = 1 := by simpa [Cond.value, given_1] using c0
    obtain ⟨L⟩ := args
    match L, hs with
    | [w0], _ => exact ⟨w0, rfl⟩
  have hw := fun d (hd : d ∈ tables_1) => atoms_spec (ws := Jvm.Cond.code x code maxLocals ret :: tables_1) hat d (List.mem_cons_of_mem _ hd)
  have hfit : Fit s := fun {y c} hc i hi => by
    obtain ⟨ha, rfl⟩ := Array.getElem?_eq_some_iff.mp hc
    have q := List.all_eq_true.mp ((Array.all_eq_true_iff_forall_mem.mp hF) _ (Array.getElem_mem ha)) i (List.mem_range.mpr hi)
    simpa [Array.getElem?_eq_getElem hi] using q
  obtain ⟨i0, ei0⟩ := is_v d0
  obtain rfl : w0 = (.int i0) := Option.some.inj ei0
  obtain ⟨n1, m1⟩ := and_e hn
  obtain ⟨n2, m2⟩ := and_e m1
  obtain ⟨n3, n4⟩ := and_e m2
  obtain ⟨lf, el⟩ := exa_v n1
  obtain ⟨rg, er⟩ := exa_v n2
  have EL := Exa.start el n1
  have ER := Exa.start er n2
  have SL := Sta.start el (Or.inr ⟨hw _ (List.mem_of_getElem? (i := 1) rfl), hw _ (List.mem_of_getElem? (i := 2) rfl)⟩)
  have SR := Sta.start er (Or.inr ⟨hw _ (List.mem_of_getElem? (i := 1) rfl), hw _ (List.mem_of_getElem? (i := 10) rfl)⟩)
  have ne : lf ≠ rg := fun q => by
    subst q
    simp only [Cond.value, fld_at er, fld_at el] at n3 n4
    cases hu : s.fieldOf? lf "java/lang/Enum" "ordinal" "I" with
    | none => simp [hu] at n3
    | some u => cases u <;> simp [hu, Term.eval] at n3 n4; rw [n3] at n4; cases n4
  obtain ⟨n, o, h1, h2, h3, _, L, rfl, ⟨rfl, N⟩, hq⟩ := rm0 l s _ hw tables_1 i0 lf rg s.heap s.heap.size (Nat.le_refl _) SL SR EL ER ne p e ha hc hk s m _ below hf ((Spec.applies_iff_loose hf).mp happ).1 ⟨rfl, State.Warmed39.refl s, rfl⟩ trivial
  refine ⟨n, _, h1, h2, h3, hpost _ _ _ _ _ _ ⟨Cond.after_iff.mpr rfl, Cond.after_iff.mpr (eq_i res_at (Term.int_eval (1)) rfl), trivial⟩ ⟨hq.1, hq.2.1, (hq.2.2.sift fun y hy => Or.inr (N y hy)).mono (by decide) (by decide)⟩⟩
theorem main_1_1 : Claimed_1_1 := comes_1 fun _ _ _ _ _ _ h hF => ⟨h.1, hF⟩
theorem main_1_2 : Claimed_1_2 := comes_1 fun _ _ _ _ _ _ h hF => ⟨h.2.1, hF⟩
end Jvm.Pilot.@@N@@
namespace Jvm.Pilot.@@N@@
open Jvm Jvm.ClassFile Sem Op Lib Jvm.Free Jvm.Stand Jvm.Pilot.@@N@@.Jvm.D
/-! MADE BY PROGRAM (witnessworld.py) out of the Statement's table words and the real class files: 12 classes; the members and pool entries that the words name. The judged class is class 1, her method 1. -/
namespace start1
open Jvm.ClassFile
def u (s : String) : CpInfo := .utf8 (stringToUtf16 s)
/-- a pool by its gaps: so many unusable entries, then the entry; so many at the end -/
def gap : Nat → List CpInfo → List CpInfo
  | 0, r => r
  | n + 1, r => .unusable :: gap n r
def poolList (es : List (Nat × CpInfo)) (last : Nat) : List CpInfo := es.foldr (fun e r => gap e.1 (e.2 :: r)) (gap last [])
def pool (es : List (Nat × CpInfo)) (last : Nat) : Array CpInfo := ⟨poolList es last⟩
def fileOf (pool : Array CpInfo) (this : Nat) (attrs : Array Attribute := #[]) (ms : Array MethodInfo := #[]) (fl : Nat := 33) (sup : Nat := 0) (ifs : Array Nat := #[]) (fds : Array FieldInfo := #[]) : ClassFile where
  minorVersion := 0
  majorVersion := 65
  constantPool := pool
  accessFlags := fl
  thisClass := this
  superClass := sup
  interfaces := ifs
  fields := fds
  methods := ms
  attributes := attrs
def plain (name : String) (sup : Option ClassId) : Class where
  name := name
  kind := .ordinary
  loader := none
  accessFlags := 33
  super := sup
  interfaces := #[]
  cf := none
  fields := #[]
  methods := #[]
  instanceTypes := #[]
  staticTypes := #[]
  resolved := #[]
  callSites := []
  init := .initialized
  statics := none
  mirror := none

def pool0 : Array CpInfo := pool [(5, u "<init>"), (0, u "()V"), (1, .class_ 10), (1, u "java/lang/Object")] 113

def k0m0 : Method := { name := "<init>", desc := "()V", sig := { parameters := [], returnType := none }, accessFlags := 1, code := none }
/-- java/lang/Object -/
def k0 : Class := { plain "java/lang/Object" none with
  accessFlags := 33
  interfaces := #[]
  cf := some (fileOf pool0 8 #[] #[{ accessFlags := 1, nameIndex := 5, descriptorIndex := 6, attributes := #[] }] 33 0 #[] #[])
  fields := #[]
  methods := #[k0m0]
  instanceTypes := #[]
  staticTypes := #[]
  resolved := Array.replicate 124 none
  statics := none }

def pool1 : Array CpInfo := pool [(2, .class_ 4), (1, u "java/lang/Object"), (0, u "<init>"), (0, u "()V"), (0, .fieldref 8 9), (0, .class_ 10), (0, .nameAndType 11 12), (0, u "com/example/questloom/questloom/ruleset/Side"), (0, u "RIGHT"), (0, u "Lcom/example/questloom/questloom/ruleset/Side;"), (0, .fieldref 8 14), (0, .nameAndType 15 12), (0, u "LEFT"), (0, .methodref 8 17), (0, .nameAndType 18 19), (0, u "other"), (0, u "()Lcom/example/questloom/questloom/ruleset/Side;"), (0, .class_ 21), (0, u "com/example/questloom/questloom/ruleset/SideOtherPinLaw"), (2, u "law"), (0, u "(I)Z")] 3

def k1m0 : Method := { name := "<init>", desc := "()V", sig := { parameters := [], returnType := none }, accessFlags := 1, code := none }
def k1c1 : Code := { maxStack := 2, maxLocals := 4, code := code, exceptionTable := #[], attributes := #[] }
def k1m1 : Method := { name := "law", desc := "(I)Z", sig := { parameters := [.int], returnType := some .boolean }, accessFlags := 9, code := some k1c1 }
/-- com/example/questloom/questloom/ruleset/SideOtherPinLaw -/
def k1 : Class := { plain "com/example/questloom/questloom/ruleset/SideOtherPinLaw" (some 0) with
  accessFlags := 49
  interfaces := #[]
  cf := some (fileOf pool1 20 #[] #[{ accessFlags := 1, nameIndex := 5, descriptorIndex := 6, attributes := #[] }, { accessFlags := 9, nameIndex := 24, descriptorIndex := 25, attributes := #[] }] 49 2 #[] #[])
  fields := #[]
  methods := #[k1m0, k1m1]
  instanceTypes := #[]
  staticTypes := #[]
  resolved := Array.replicate 29 none
  statics := none }

def pool2 : Array CpInfo := pool [(1, .class_ 2), (0, u "java/lang/constant/Constable"), (0, .class_ 4), (0, u "java/lang/Object")] 6

/-- java/lang/constant/Constable -/
def k2 : Class := { plain "java/lang/constant/Constable" (some 0) with
  accessFlags := 1537
  interfaces := #[]
  cf := some (fileOf pool2 1 #[] #[] 1537 3 #[] #[])
  fields := #[]
  methods := #[]
  instanceTypes := #[]
  staticTypes := #[]
  resolved := Array.replicate 11 none
  statics := none }

def pool3 : Array CpInfo := pool [(1, .class_ 2), (0, u "java/lang/Comparable"), (0, .class_ 4), (0, u "java/lang/Object")] 7

/-- java/lang/Comparable -/
def k3 : Class := { plain "java/lang/Comparable" (some 0) with
  accessFlags := 1537
  interfaces := #[]
  cf := some (fileOf pool3 1 #[] #[] 1537 3 #[] #[])
  fields := #[]
  methods := #[]
  instanceTypes := #[]
  staticTypes := #[]
  resolved := Array.replicate 12 none
  statics := none }

def pool4 : Array CpInfo := pool [(1, .class_ 2), (0, u "java/io/Serializable"), (0, .class_ 4), (0, u "java/lang/Object")] 2

/-- java/io/Serializable -/
def k4 : Class := { plain "java/io/Serializable" (some 0) with
  accessFlags := 1537
  interfaces := #[]
  cf := some (fileOf pool4 1 #[] #[] 1537 3 #[] #[])
  fields := #[]
  methods := #[]
  instanceTypes := #[]
  staticTypes := #[]
  resolved := Array.replicate 7 none
  statics := none }

def pool5 : Array CpInfo := pool [(2, .class_ 4), (1, u "java/lang/Enum"), (0, u "name"), (0, u "Ljava/lang/String;"), (2, u "ordinal"), (0, u "I"), (1, .class_ 14), (1, u "java/lang/Object"), (4, u "hash"), (86, .class_ 108), (1, u "java/lang/Enum$EnumDesc"), (2, .class_ 112), (0, u "java/lang/constant/Constable"), (0, .class_ 114), (0, u "java/lang/Comparable"), (0, .class_ 116), (0, u "java/io/Serializable")] 87

/-- java/lang/Enum -/
def k5 : Class := { plain "java/lang/Enum" (some 0) with
  accessFlags := 1057
  interfaces := #[2, 3, 4]
  cf := some (fileOf pool5 2 #[.nestMembers #[106]] #[] 1057 12 #[111, 113, 115] #[{ accessFlags := 18, nameIndex := 5, descriptorIndex := 6, attributes := #[] }, { accessFlags := 18, nameIndex := 9, descriptorIndex := 10, attributes := #[] }, { accessFlags := 2, nameIndex := 19, descriptorIndex := 10, attributes := #[] }])
  fields := #[{ name := "name", type := (.object "java/lang/String"), accessFlags := 18, slot := 0, constantValue := 0 }, { name := "ordinal", type := .int, accessFlags := 18, slot := 1, constantValue := 0 }, { name := "hash", type := .int, accessFlags := 2, slot := 2, constantValue := 0 }]
  methods := #[]
  instanceTypes := #[(.object "java/lang/String"), .int, .int]
  staticTypes := #[]
  resolved := Array.replicate 204 none
  statics := none }

def pool6 : Array CpInfo := pool [(1, .class_ 2), (0, u "com/example/questloom/questloom/ruleset/Side"), (0, .fieldref 1 4), (0, .nameAndType 5 6), (0, u "LEFT"), (0, u "Lcom/example/questloom/questloom/ruleset/Side;"), (0, .fieldref 1 8), (0, .nameAndType 9 6), (0, u "RIGHT"), (2, u "$VALUES"), (0, u "[Lcom/example/questloom/questloom/ruleset/Side;"), (6, .class_ 22), (1, u "java/lang/Enum"), (45, u "other"), (0, u "()Lcom/example/questloom/questloom/ruleset/Side;")] 6

def k6c0 : Code := { maxStack := 2, maxLocals := 1, code := prog_63_method_4_code, exceptionTable := #[], attributes := #[] }
def k6m0 : Method := { name := "other", desc := "()Lcom/example/questloom/questloom/ruleset/Side;", sig := { parameters := [], returnType := some (.object "com/example/questloom/questloom/ruleset/Side") }, accessFlags := 1, code := some k6c0 }
/-- com/example/questloom/questloom/ruleset/Side -/
def k6 : Class := { plain "com/example/questloom/questloom/ruleset/Side" (some 5) with
  accessFlags := 16433
  interfaces := #[]
  cf := some (fileOf pool6 1 #[] #[{ accessFlags := 1, nameIndex := 68, descriptorIndex := 69, attributes := #[] }] 16433 20 #[] #[{ accessFlags := 16409, nameIndex := 5, descriptorIndex := 6, attributes := #[] }, { accessFlags := 16409, nameIndex := 9, descriptorIndex := 6, attributes := #[] }, { accessFlags := 4122, nameIndex := 12, descriptorIndex := 13, attributes := #[] }])
  fields := #[{ name := "LEFT", type := (.object "com/example/questloom/questloom/ruleset/Side"), accessFlags := 16409, slot := 0, constantValue := 0 }, { name := "RIGHT", type := (.object "com/example/questloom/questloom/ruleset/Side"), accessFlags := 16409, slot := 1, constantValue := 0 }, { name := "$VALUES", type := (.array (.object "com/example/questloom/questloom/ruleset/Side")), accessFlags := 4122, slot := 2, constantValue := 0 }]
  methods := #[k6m0]
  instanceTypes := #[(.object "java/lang/String"), .int, .int]
  staticTypes := #[(.object "com/example/questloom/questloom/ruleset/Side"), (.object "com/example/questloom/questloom/ruleset/Side"), (.array (.object "com/example/questloom/questloom/ruleset/Side"))]
  resolved := Array.replicate 76 none
  statics := some 0 }

def pool7 : Array CpInfo := pool [(1, u "java/lang/Cloneable"), (0, .class_ 1), (0, u "java/lang/Object"), (0, .class_ 3)] 3

/-- java/lang/Cloneable -/
def k7 : Class := { plain "java/lang/Cloneable" (some 0) with
  accessFlags := 1537
  interfaces := #[]
  cf := some (fileOf pool7 2 #[] #[] 1537 4 #[] #[])
  fields := #[]
  methods := #[]
  instanceTypes := #[]
  staticTypes := #[]
  resolved := Array.replicate 8 none
  statics := none }

/-- the primitive byte -/
def k8 : Class := { plain "byte" none with kind := .primitive 'B', accessFlags := 0x411 }
/-- [B -/
def k9 : Class := { plain "[B" (some 0) with kind := .array 8 .byte, interfaces := #[7, 4], accessFlags := 1041 }

/-- the primitive int -/
def k10 : Class := { plain "int" none with kind := .primitive 'I', accessFlags := 0x411 }
/-- [I -/
def k11 : Class := { plain "[I" (some 0) with kind := .array 10 .int, interfaces := #[7, 4], accessFlags := 1041 }

def heap : Heap := #[{ cls := 6, slots := #[.ref 1, .ref 2, .null], vm := .statics 6 },
  { cls := 6, slots := #[.null, .int 0, .int 0], vm := .none },
  { cls := 6, slots := #[.null, .int 1, .int 0], vm := .none }]
def classes : Array Class := #[k0, k1, k2, k3, k4, k5, k6, k7, k8, k9, k10, k11]
def interned : List (Array UInt16 × Addr) := []
def slotsUsed : Nat := 9
def theMethod : MethodId := ⟨1, 1⟩
def args0 : Array Value := #[.int 5]
def aboutOver (below : List Frame) : State where
  vm := { classes := classes, interned := interned.toArray }
  heap := heap
  slotsUsed := slotsUsed
  threads := #[{ frames := .invoking theMethod args0 :: below }]
def below0 : List Frame := [.native { method := ⟨0, 0⟩, args := #[] }]
def about1 : State := aboutOver below0
def p0 : Program := .bare "" "" ""
def e0 : Env := launch0.env 0 0 0
theorem w_frames : about1.frames = Frame.invoking theMethod args0 :: below0 := rfl
set_option maxRecDepth 65536 in
theorem w_args : argsFit about1.vm theMethod args0 = true := by decide +kernel
set_option maxRecDepth 65536 in
theorem w_heap : heapFits about1 = true := by decide +kernel
set_option maxRecDepth 65536 in
theorem w_runnable : about1.curStatus? = some .runnable := by decide +kernel
set_option maxRecDepth 65536 in
theorem w_alone : about1.alone = true := by decide +kernel
set_option maxRecDepth 65536 in
theorem w_named : about1.methodNamed? x = some theMethod := by decide +kernel
set_option maxRecDepth 65536 in
theorem w_hears : about1.hears theMethod below0 = true := by decide +kernel
set_option maxRecDepth 65536 in
theorem w_ripe : about1.ripe theMethod args0 below0 = true := by decide +kernel
theorem w_running : about1.status = .running := rfl
set_option maxRecDepth 65536 in
theorem w_room : about1.hasRoom e0.platform room_1 = true :=
  launch0.hasRoom_least _ room_1 (by decide +kernel) (by decide +kernel) (by decide +kernel) (by decide +kernel) (by decide +kernel) (by decide +kernel)
theorem allAtoms_all (ts : List Jvm.Cond) (a : Array Jvm.Value) (st : Jvm.State) : (allAtoms ts).before a st = ts.all (fun c => c.before a st) := by
  induction ts with
  | nil => rfl
  | cons c t ih =>
    show (Jvm.Cond.and c (allAtoms t)).before a st = _
    rw [Jvm.Cond.before_and, ih, List.all_cons]
def words1 : List Jvm.Cond := Jvm.Cond.code x code maxLocals ret :: tables_1
/-- a 'code' word, met by the world's own term for the bytes: nothing is compared byte by byte -/
theorem code_word {y : MethodName} {bytes : ByteArray} {mx : Nat} {rt : Option FieldType} {a : Array Value} {s : State} {m : MethodId} {meth : Method} {c : Code} (h1 : s.methodNamed? y = some m) (h2 : s.vm.method? m = some meth) (h3 : meth.code = some c) (h4 : c.code = bytes)
    (h5 : (c.maxLocals == mx && c.exceptionTable.isEmpty && decide (c.maxStack ≤ mostOperands) && decide (meth.sig.returnType = rt) && !meth.locks && decide (parseMethodDescriptor y.desc = some meth.sig)) = true) : (Jvm.Cond.code y bytes mx rt).before a s = true := by
  simp only [Bool.and_eq_true, beq_iff_eq, Bool.not_eq_true', decide_eq_true_eq] at h5
  obtain ⟨⟨⟨⟨⟨g1, g2⟩, g3⟩, g4⟩, g5⟩, g6⟩ := h5
  simp [Cond.before, Cond.holds, Cond.value, h1, h2, h3, h4, g1, g2, g3, g4, g5, g6]
def isCode : Jvm.Cond → Bool
  | .code _ _ _ _ => true
  | _ => false
theorem all_split {L : List Jvm.Cond} {P : Jvm.Cond → Bool} (h1 : L.all (fun c => isCode c || P c) = true) (h2 : ∀ c ∈ L.filter isCode, P c = true) : L.all P = true := by
  refine List.all_eq_true.mpr fun c hc => ?_
  have h := List.all_eq_true.mp h1 c hc
  rcases Bool.eq_false_or_eq_true (isCode c) with hi | hi
  · exact h2 c (List.mem_filter.mpr ⟨hc, hi⟩)
  · simpa [hi] using h
set_option maxRecDepth 65536 in
theorem w_c0 : (Jvm.Cond.code x code maxLocals ret).before args0 about1 = true := code_word (m := ⟨1, 1⟩) (meth := k1m1) (c := k1c1) (by decide +kernel) rfl rfl rfl (by decide +kernel)
set_option maxRecDepth 65536 in
theorem w_c1 : (Jvm.Cond.code ({ cls := "com/example/questloom/questloom/ruleset/Side", name := "other", desc := "()Lcom/example/questloom/questloom/ruleset/Side;" } : Jvm.MethodName) prog_63_method_4_code (1 : Nat) (Option.some (Jvm.ClassFile.FieldType.object "com/example/questloom/questloom/ruleset/Side"))).before args0 about1 = true := code_word (m := ⟨6, 0⟩) (meth := k6m0) (c := k6c0) (by decide +kernel) rfl rfl rfl (by decide +kernel)
def codes1 : List Jvm.Cond := [Jvm.Cond.code x code maxLocals ret, Jvm.Cond.code ({ cls := "com/example/questloom/questloom/ruleset/Side", name := "other", desc := "()Lcom/example/questloom/questloom/ruleset/Side;" } : Jvm.MethodName) prog_63_method_4_code (1 : Nat) (Option.some (Jvm.ClassFile.FieldType.object "com/example/questloom/questloom/ruleset/Side"))]
set_option maxRecDepth 65536 in
theorem codes_eq : words1.filter isCode = codes1 := rfl
theorem w_codes : ∀ c ∈ words1.filter isCode, c.before args0 about1 = true := by
  rw [codes_eq]
  intro c hc
  simp only [codes1, List.mem_cons, List.not_mem_nil, or_false] at hc
  rcases hc with rfl | rfl
  · exact w_c0
  · exact w_c1
set_option maxRecDepth 65536 in
theorem w_t1 : words1.all (fun c => isCode c || c.before args0 about1) = true := by decide +kernel
theorem w_tables : (allAtoms (Jvm.Cond.code x code maxLocals ret :: tables_1)).before args0 about1 = true := by
  rw [allAtoms_all]
  show words1.all (fun c => c.before args0 about1) = true
  refine all_split ?_ w_codes
  rw [w_t1]
set_option maxRecDepth 65536 in
theorem w_case : (Jvm.Cond.and given_1 narrow_1).before args0 about1 = true := by decide +kernel
theorem w_applies : (headSpec (Jvm.Cond.code x code maxLocals ret :: tables_1) room_1).applies x e0.platform about1 = true :=
  (Spec.applies_iff w_frames).mpr ⟨w_running, w_runnable, w_alone, w_named, w_hears, w_ripe, w_room, w_tables⟩
theorem atStart : AtStart classFile x code maxLocals ret World_1 tables_1 room_1 Calls_1 rest_1 Pre_1 launch0 p0 e0 about1 theMethod args0 below0 :=
  ⟨lists_1, trivial, launch0.admits_env _ _ _, launch0.least_env, fairChoices_fair.cas, fairChoices_fair.clock, w_frames, w_args, w_heap, w_applies, trivial, trivial, w_case⟩
end start1
theorem witness_1 : WitnessClaimed_1 := ⟨start1.p0, start1.e0, start1.about1, start1.theMethod, start1.args0, start1.below0, start1.atStart⟩
end Jvm.Pilot.@@N@@
