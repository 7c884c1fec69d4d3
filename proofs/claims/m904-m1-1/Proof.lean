import JvmDerived
import JvmDerived.Pilot.@@N@@Statement
import JvmDerived.Pilot.@@N@@Code
set_option linter.unusedVariables false
set_option linter.unusedSimpArgs false
namespace Jvm.Pilot.@@N@@
open Jvm Jvm.ClassFile Sem Op Lib Jvm.Free Jvm.Stand Jvm.LawKit Jvm.RoadKit Bundle Jvm.Pilot.@@N@@.Jvm.D
/-! own kit: walks in the form 'what is left from this frame on', so that a walk may fork and join -/
section OwnKit
def b01 : Bool → Int32 | true => 1 | false => 0
def i01 (A : Prop) [Decidable A] : Int32 := if A then 1 else 0
theorem i01_t {A : Prop} [Decidable A] (h : A) : i01 A = 1 := if_pos h
theorem i01_f {A : Prop} [Decidable A] (h : ¬ A) : i01 A = 0 := if_neg h
theorem i01_0 {A : Prop} [Decidable A] : i01 A = 0 ↔ ¬ A := by unfold i01; by_cases h : A <;> simp [h]
theorem i01_b {A : Prop} [Decidable A] : i01 A = b01 (decide A) := by unfold i01; by_cases h : A <;> simp [h, b01]
theorem i01_n {A : Prop} [Decidable A] (h : ¬ i01 A = 0) : A := Decidable.not_not.mp fun q => h (i01_0.mpr q)
theorem b01_0 {b : Bool} : b01 b = 0 ↔ b = false := by cases b <;> simp [b01]
theorem b01_n {b : Bool} (h : ¬ b01 b = 0) : b = true := by cases b <;> first | rfl | exact absurd rfl h
theorem b01_inj {a b : Bool} : b01 a = b01 b ↔ a = b := by cases a <;> cases b <;> simp [b01]
theorem b01_nar (b : Bool) : nar .boolean (b01 b) = b01 b := by cases b <;> rfl
theorem i01_nar {A : Prop} [Decidable A] : nar .boolean (i01 A) = i01 A := by rw [i01_b]; exact b01_nar _
variable {p : Program} {l : Launch} {e : Env} {R : Room} {s : State} {m : MethodId} {args : Array Value} {below : List Frame} {meth : Method} {c : Code} {T T' : State} {locs : List Loc} {cells slots : Nat} {Z : State} {a0 : Array Value} {h : Heap}
/-- from the frame g over T the run comes to an end of which P holds -/
def Go (p : Program) (e : Env) (below : List Frame) (P : State → Outcome → Prop) (T : State) (g : JFrame) : Prop :=
  ∃ (u : State) (o : Outcome), Steps p.tables e below (T.setTop g) u ∧ u.status = .running ∧ Ended u below o ∧ P u o
variable {P : State → Outcome → Prop}
theorem Go.via {g g' : JFrame} (st : ∀ t, Steps p.tables e below (T'.setTop g') t → Steps p.tables e below (T.setTop g) t) (k : Go p e below P T' g') : Go p e below P T g := by
  obtain ⟨u, o, hs, r⟩ := k
  exact ⟨u, o, st u hs, r⟩
theorem Go.cut {g g' : JFrame} (k1 : Go p e below P T' g' → Go p e below P T g) (k2 : Go p e below P T' g') : Go p e below P T g := k1 k2
theorem Go.cutA {α : Type} {g : JFrame} {g' : α → JFrame} (k1 : (∀ q, Go p e below P T' (g' q)) → Go p e below P T g) (k2 : ∀ q, Go p e below P T' (g' q)) : Go p e below P T g := k1 k2
theorem Go.cutE {α : Type} {v : α} {g : JFrame} {g' : α → JFrame} (k1 : (∀ q, q = v → Go p e below P T' (g' q)) → Go p e below P T g) (k2 : Go p e below P T' (g' v)) : Go p e below P T g := k1 fun q hq => hq ▸ k2
theorem Go.cast {g g' : JFrame} (q : g = g') (k : Go p e below P T g') : Go p e below P T g := q ▸ k
/-- what a contract says of its end -/
def GoEnd (s : State) (Q : Option Value → Heap → List Loc → Prop) (cs sl : Nat) (u : State) (o : Outcome) : Prop := ∃ (v : Option Value) (L : List Loc), o = .returned v ∧ Q v u.heap L ∧ FrameEnd s o u L cs sl
variable {Q : Option Value → Heap → List Loc → Prop} {cs sl : Nat}
theorem Go.retN (X : Stand p l e R s m args below meth c T locs cells slots) (hx : p.tables.exec = Jvm.exec) (hk : meth.locks = false) {pc : Nat} {Ls : Array Slot} {z : Int32} {t : FieldType} {rest : List Value} (hret : meth.sig.returnType = some t) (ht : t = .boolean ∨ t = .byte ∨ t = .char ∨ t = .short)
    (hd : decode c.code pc = .ok (.ireturn, 1)) (hc : cells ≤ cs) (hl : slots ≤ sl) (hq : Q (some (.int (nar t z))) T.heap locs) : Go p e below (GoEnd s Q cs sl) T (mkF m pc Ls (.int z :: rest)) := by
  obtain ⟨fs, hr, hrun, hended, hW, hsame⟩ := X.leave (v := some (.int (nar t z))) (fun q => by rw [hret] at q; cases q) hk
  exact ⟨_, _, Jvm.RoadKit.retN X hx hret ht hd hr, hrun, hended, _, _, rfl, hq, ⟨_, rfl⟩, hW, hsame.mono hc hl⟩
theorem Go.retA (X : Stand p l e R s m args below meth c T locs cells slots) (hx : p.tables.exec = Jvm.exec) (hk : meth.locks = false) {pc : Nat} {Ls : Array Slot} {w : Value} {t : FieldType} {i : Instr} {rest : List Value} (hret : meth.sig.returnType = some t) (hn : narrow t w = w)
    (hi : (i = .ireturn ∧ (t = .int ∨ t = .boolean ∨ t = .byte ∨ t = .char ∨ t = .short) ∧ ∃ z, w = .int z) ∨ (i = .lreturn ∧ t = .long ∧ ∃ z, w = .long z) ∨ (i = .dreturn ∧ t = .double ∧ ∃ z, w = .double z) ∨ (i = .freturn ∧ t = .float ∧ ∃ z, w = .float z) ∨ (i = .areturn ∧ t.isReference = true ∧ w.isRef = true))
    (hd : decode c.code pc = .ok (i, 1)) (hc : cells ≤ cs) (hl : slots ≤ sl) (hq : Q (some w) T.heap locs) : Go p e below (GoEnd s Q cs sl) T (mkF m pc Ls (w :: rest)) := by
  obtain ⟨fs, hr, hrun, hended, hW, hsame⟩ := X.leave (v := some w) (fun q => by rw [hret] at q; cases q) hk
  exact ⟨_, _, Jvm.RoadKit.retOut X hx hret hn hi hd hr, hrun, hended, _, _, rfl, hq, ⟨_, rfl⟩, hW, hsame.mono hc hl⟩
theorem Go.retI (X : Stand p l e R s m args below meth c T locs cells slots) (hx : p.tables.exec = Jvm.exec) (hk : meth.locks = false) {pc : Nat} {Ls : Array Slot} {z : Int32} {rest : List Value} (hret : meth.sig.returnType = some .int)
    (hd : decode c.code pc = .ok (.ireturn, 1)) (hc : cells ≤ cs) (hl : slots ≤ sl) (hq : Q (some (.int z)) T.heap locs) : Go p e below (GoEnd s Q cs sl) T (mkF m pc Ls (.int z :: rest)) :=
  Go.retA X hx hk hret rfl (Or.inl ⟨rfl, Or.inl rfl, z, rfl⟩) hd hc hl hq
theorem Go.retJ (X : Stand p l e R s m args below meth c T locs cells slots) (hx : p.tables.exec = Jvm.exec) (hk : meth.locks = false) {pc : Nat} {Ls : Array Slot} {z : Int64} {rest : List Value} (hret : meth.sig.returnType = some .long)
    (hd : decode c.code pc = .ok (.lreturn, 1)) (hc : cells ≤ cs) (hl : slots ≤ sl) (hq : Q (some (.long z)) T.heap locs) : Go p e below (GoEnd s Q cs sl) T (mkF m pc Ls (.long z :: rest)) :=
  Go.retA X hx hk hret rfl (Or.inr (Or.inl ⟨rfl, rfl, z, rfl⟩)) hd hc hl hq
theorem Go.retV (X : Stand p l e R s m args below meth c T locs cells slots) (hx : p.tables.exec = Jvm.exec) (hk : meth.locks = false) {pc : Nat} {Ls : Array Slot} (hret : meth.sig.returnType = none)
    (hd : decode c.code pc = .ok (.return_, 1)) (hc : cells ≤ cs) (hl : slots ≤ sl) (hq : Q none T.heap locs) : Go p e below (GoEnd s Q cs sl) T (mkF m pc Ls []) := by
  obtain ⟨fs, hr, hrun, hended, hW, hsame⟩ := X.leave (v := none) (fun _ => rfl) hk
  exact ⟨_, _, X.returnOut hx hret hd hr, hrun, hended, _, _, rfl, hq, ⟨_, rfl⟩, hW, hsame.mono hc hl⟩
/-- a method's contract: called with as' over the heap h it ends and Q holds -/
abbrev Met (l : Launch) (Z : State) (y : MethodName) (bytes : ByteArray) (maxL : Nat) (ret : Option FieldType) (ws : List Jvm.Cond) (rm : Room) (as' : Array Value) (h : Heap) (Q : Option Value → Heap → List Loc → Prop) : Prop :=
  MetFree l y (head1 (Jvm.Cond.code y bytes maxL ret :: ws) rm) (fun a U => a = as' ∧ Z.Warmed39 U.vm ∧ U.heap = h) (fun _ _ _ _ _ => True) (fun _ U o U' => GoEnd U Q rm.cells rm.slots U' o)
variable {y : MethodName} {bytes : ByteArray} {maxL : Nat} {ret : Option FieldType} {ws : List Jvm.Cond} {rm : Room} {as' : Array Value}
/-- a body's own walk makes its contract -/
theorem Met.of (hp : plainFor y = true)
    (body : ∀ (p : Program) (e : Env) (s : State) (m : MethodId) (below : List Frame) (meth : Method) (c : Code) (T : State), p.tables.exec = Jvm.exec → c.code = bytes → c.maxLocals = maxL → meth.locks = false → meth.sig.returnType = ret → meth.name = y.name → s.vm.findClass y.cls = some m.cls → Z.Warmed39 s.vm →
      Stand p l e rm s m as' below meth c T [] 0 0 → T.heap = h → Go p e below (GoEnd s Q rm.cells rm.slots) T (entryFrame m as' maxL)) : Met l Z y bytes maxL ret ws rm as' h Q := by
  refine MetFree.of_bodySF hp hisR ?_
  intro p e s m args below meth c s₁ Bd hml hP hK
  obtain ⟨rfl, hZ, hh⟩ := hP
  exact body p e s m below meth c s₁ Bd.exec Bd.bytes hml (BodyLoose.notSynchronized Bd) Bd.returns (name_of_methodNamed Bd.named Bd.method).1 (findClass_of_methodNamed Bd.named) hZ (Stand.of_body Bd) (by rw [← hh, Bd.state]; rfl)
/-- a static call by its contract -/
theorem Go.callS (X : Stand p l e R s m args below meth c T locs cells slots) (hx : p.tables.exec = Jvm.exec) (hZ : Z.Warmed39 s.vm) {own : String} {index : Nat} (hown : s.vm.findClass own = some m.cls) (eT : T.heap = h)
    (w1 : (Cond.methodLink own index y).before a0 Z = true) (w2 : (Cond.static y).before a0 Z = true) (w3 : (Cond.initialized y.cls).before a0 Z = true) (w4 : (Cond.code y bytes maxL ret).before a0 Z = true) (hy : y.cls ≠ "java/lang/invoke/MethodHandle" ∧ y.cls ≠ "java/lang/invoke/VarHandle")
    (M : Met l Z y bytes maxL ret [] rm as' h Q) {pc : Nat} {Ls : Array Slot} {argsL rest : List Value} {ps : List FieldType} {r : Option FieldType} (hpd : parseMethodDescriptor y.desc = some ⟨ps, r⟩) (hn : argsL.length = ps.length) (has : argsL.toArray = as') (hsize : Ls.size = c.maxLocals)
    (hd : decode c.code pc = .ok (.invokestatic index, 3)) {W : Nat} (hW : (rest.map fun v => v.category).sum ≤ W) (hf : rm.frames + 1 ≤ R.frames) (hl : W + (maxL + 11) + rm.locals ≤ R.locals) (hc : cells + rm.cells ≤ R.cells) (hs : slots + rm.slots ≤ R.slots) :
    ∃ (v : Option Value) (T' : State) (L : List Loc), Stand p l e R s m args below meth c T' (locs ++ L) (cells + rm.cells) (slots + rm.slots) ∧ Q v T'.heap L ∧ ∀ {P : State → Outcome → Prop}, Go p e below P T' (mkF m (pc + 3) Ls (v.toList ++ rest)) → Go p e below P T (mkF m pc Ls (argsL.reverse ++ rest)) := by
  obtain ⟨v, vm₁, ⟨T', L', k', n'⟩, -, X', ⟨L, hQ, l1, l2, l3⟩, st⟩ := Jvm.LawKit.callS X hx hown (mvT hZ w1) (mvT hZ w2) (mvT hZ w3) (mvT hZ w4) hy (backOf (W := W) M hZ w4 w3 hf hl) (g := mkF m pc Ls (argsL.reverse ++ rest)) rfl hsize (lenOf hpd hn) rfl (by show 2 * 0 + _ ≤ _; omega) hd (fun _ _ => ⟨has, eT, hc, hs⟩)
  dsimp only [Pt.U, Pt.locs, Pt.cells, Pt.slots] at X' l1 l2 l3 st hQ
  subst l1 l2 l3
  exact ⟨v, T', L, X', hQ, fun k => Go.via st k⟩
/-- a constructor by its contract -/
theorem Go.callN (X : Stand p l e R s m args below meth c T locs cells slots) (hx : p.tables.exec = Jvm.exec) (hZ : Z.Warmed39 s.vm) {own : String} {index : Nat} (hown : s.vm.findClass own = some m.cls) (eT : T.heap = h) (hy1 : y.name = "<init>")
    (w1 : (Cond.methodLink own index y).before a0 Z = true) (w2 : (Cond.instanceMethod y).before a0 Z = true) (w3 : (Cond.initialized y.cls).before a0 Z = true) (w4 : (Cond.code y bytes maxL none).before a0 Z = true) (hy : y.cls ≠ "java/lang/invoke/MethodHandle" ∧ y.cls ≠ "java/lang/invoke/VarHandle")
    (M : Met l Z y bytes maxL none [] rm as' h Q) {pc : Nat} {Ls : Array Slot} {a : Addr} {argsL rest : List Value} {ps : List FieldType} {r : Option FieldType} (hpd : parseMethodDescriptor y.desc = some ⟨ps, r⟩) (hn : argsL.length = ps.length) (has : (.ref a :: argsL).toArray = as') (hsize : Ls.size = c.maxLocals)
    (hd : decode c.code pc = .ok (.invokespecial index, 3)) {W : Nat} (hW : (rest.map fun v => v.category).sum ≤ W) (hf : rm.frames + 1 ≤ R.frames) (hl : W + (maxL + 11) + rm.locals ≤ R.locals) (hc : cells + rm.cells ≤ R.cells) (hs : slots + rm.slots ≤ R.slots) :
    ∃ (v : Option Value) (T' : State) (L : List Loc), Stand p l e R s m args below meth c T' (locs ++ L) (cells + rm.cells) (slots + rm.slots) ∧ Q v T'.heap L ∧ ∀ {P : State → Outcome → Prop}, Go p e below P T' (mkF m (pc + 3) Ls (v.toList ++ rest)) → Go p e below P T (mkF m pc Ls (argsL.reverse ++ .ref a :: rest)) := by
  obtain ⟨v, vm₁, ⟨T', L', k', n'⟩, -, X', ⟨L, hQ, l1, l2, l3⟩, st⟩ := X.specialBack hx hy1 hown (mvT hZ w1) (mvT hZ w2) (mvT hZ w4) hy (backOf (W := W) M hZ w4 w3 hf hl) (g := mkF m pc Ls (argsL.reverse ++ .ref a :: rest)) rfl hsize (Steps.refl _) (lenOf hpd hn) rfl (by show 2 * 0 + _ ≤ _; omega) hd (fun _ _ => ⟨has, eT, hc, hs⟩)
  dsimp only [Pt.U, Pt.locs, Pt.cells, Pt.slots] at X' l1 l2 l3 st hQ
  subst l1 l2 l3
  exact ⟨v, T', L, X', hQ, fun k => Go.via (fun t k => st.trans k) k⟩
/-- an instance method by its contract -/
theorem Go.callV (X : Stand p l e R s m args below meth c T locs cells slots) (hx : p.tables.exec = Jvm.exec) (hZ : Z.Warmed39 s.vm) {own C : String} {index : Nat} (hown : s.vm.findClass own = some m.cls) (eT : T.heap = h)
    (w1 : (Cond.methodLink own index y).before a0 Z = true) (w2 : (Cond.declares y).before a0 Z = true) (w6 : (Cond.selects C y y).before a0 Z = true) (w7 : (Cond.instanceMethod y).before a0 Z = true) (w3 : (Cond.initialized y.cls).before a0 Z = true) (w4 : (Cond.code y bytes maxL ret).before a0 Z = true) (hy : y.cls ≠ "java/lang/invoke/MethodHandle" ∧ y.cls ≠ "java/lang/invoke/VarHandle")
    {a : Addr} (Ea : Exa Z h a C)
    (M : Met l Z y bytes maxL ret [] rm as' h Q) {pc : Nat} {Ls : Array Slot} {argsL rest : List Value} {ps : List FieldType} {r : Option FieldType} (hpd : parseMethodDescriptor y.desc = some ⟨ps, r⟩) (hn : argsL.length = ps.length) (has : (.ref a :: argsL).toArray = as') (hsize : Ls.size = c.maxLocals)
    (hd : decode c.code pc = .ok (.invokevirtual index, 3)) {W : Nat} (hW : (rest.map fun v => v.category).sum ≤ W) (hf : rm.frames + 1 ≤ R.frames) (hl : W + (maxL + 11) + rm.locals ≤ R.locals) (hc : cells + rm.cells ≤ R.cells) (hs : slots + rm.slots ≤ R.slots) :
    ∃ (v : Option Value) (T' : State) (L : List Loc), Stand p l e R s m args below meth c T' (locs ++ L) (cells + rm.cells) (slots + rm.slots) ∧ Q v T'.heap L ∧ ∀ {P : State → Outcome → Prop}, Go p e below P T' (mkF m (pc + 3) Ls (v.toList ++ rest)) → Go p e below P T (mkF m pc Ls (argsL.reverse ++ .ref a :: rest)) := by
  obtain ⟨cq, kq, qa, qb, qc⟩ := isOf hZ eT Ea
  obtain ⟨v, vm₁, ⟨T', L', k', n'⟩, -, X', ⟨L, hQ, l1, l2, l3⟩, st⟩ := X.virtualBack hx hown (mvT hZ w1) (mvT hZ w2) (notFace_of_selects (args := #[]) (mvT hZ w6)) (mvT hZ w6) (mvT hZ w7) hy (backOf (W := W) M hZ w4 w3 hf hl) qa qc (g := mkF m pc Ls (argsL.reverse ++ .ref a :: rest)) rfl hsize (Steps.refl _) (lenOf hpd hn) rfl (by show 2 * 0 + _ ≤ _; omega) hd (fun _ _ => ⟨has, eT, hc, hs⟩)
  dsimp only [Pt.U, Pt.locs, Pt.cells, Pt.slots] at X' l1 l2 l3 st hQ
  subst l1 l2 l3
  exact ⟨v, T', L, X', hQ, fun k => Go.via (fun t k => st.trans k) k⟩
end OwnKit
/-! own kit, arrays of bytes: what stands at each place, as a function -/
section OwnArr
variable {p : Program} {l : Launch} {e : Env} {R : Room} {s : State} {m : MethodId} {args : Array Value} {below : List Frame} {meth : Method} {c : Code} {T T' : State} {locs : List Loc} {cells slots : Nat} {Z : State} {a0 : Array Value} {h h' : Heap} {a b : Addr} {n : Nat} {f : Nat → Int32}
def Arb (Z : State) (h : Heap) (a : Addr) (n : Nat) (f : Nat → Int32) : Prop := ∃ cl : Cell, Arr Z h a cl .byte ∧ cl.slots.size = n ∧ ∀ i, i < n → cl.slots[i]? = some (.int (f i)) ∧ fits .byte (.int (f i)) = true
def upd (f : Nat → Int32) (j : Nat) (x : Int32) : Nat → Int32 := fun i => if i = j then x else f i
theorem Arb.lt (F : Arb Z h a n f) : a < h.size := by obtain ⟨cl, A, -⟩ := F; exact A.lt
theorem Arb.ext (F : Arb Z h a n f) (E : Ext h h') : Arb Z h' a n f := by obtain ⟨cl, A, r⟩ := F; exact ⟨cl, A.ext E, r⟩
theorem Arb.other {sl : Nat} {v : Value} (F : Arb Z h b n f) (W : Wr h h' a sl v) (q : b ≠ a) : Arb Z h' b n f := by obtain ⟨cl, A, r⟩ := F; exact ⟨cl, A.other W q, r⟩
theorem Arb.keep {ws : List Addr} (F : Arb Z h a n f) (K : Keep h h' ws) (q : a ∉ ws) : Arb Z h' a n f := by obtain ⟨cl, A, r⟩ := F; exact ⟨cl, ⟨K.2.1 a cl A.1 q, A.2⟩, r⟩
theorem Arb.new {k : ClassId} {z : Int32} (A : Arr Z h a (newA k .byte z) .byte) (hn : z.toNatClampNeg = n) : Arb Z h a n (fun _ => 0) := by
  refine ⟨_, A, (sz_new _ _ _).trans hn, fun i hi => ⟨?_, rfl⟩⟩
  have h2 : i < (newA k .byte z).slots.size := by rw [sz_new, hn]; exact hi
  simp only [newA] at h2 ⊢
  rw [Array.getElem?_eq_getElem h2]
  simp [defaultValue]
theorem Arb.set {j : Int32} {x : Int32} {cl : Cell} (A : Arr Z h a cl .byte) (S : cl.slots.size = n) (H : ∀ i, i < n → cl.slots[i]? = some (.int (f i)) ∧ fits .byte (.int (f i)) = true) (W : Wr h h' a j.toNatClampNeg (.int (nar .byte x))) : Arb Z h' a n (upd f j.toNatClampNeg (nar .byte x)) := by
  refine ⟨_, A.same W, (sz_set _ _ _).trans S, fun i hi => ?_⟩
  by_cases q : i = j.toNatClampNeg
  · subst q
    simp only [upd, if_true]
    refine ⟨?_, fits_nar_byte x⟩
    have hi' : j.toNatClampNeg < cl.slots.size := S ▸ hi
    simp [Cell.setSlot, hi']
  · simp only [upd, if_neg q]
    refine ⟨?_, (H i hi).2⟩
    simp only [Cell.setSlot]
    rw [Array.getElem?_setIfInBounds_ne (Ne.symm q)]
    exact (H i hi).1
theorem stArb (X : Stand p l e R s m args below meth c T locs cells slots) (hx : p.tables.exec = Jvm.exec) (hZ : Z.Warmed39 s.vm) (eT : T.heap = h) (F : Arb Z h a n f) {j x : Int32} (hj : ¬ j < 0 ∧ j.toNatClampNeg < n) {g : JFrame} (hg : g.method = m) {rest : List Value} (hs : g.stack = .int x :: .int j :: .ref a :: rest) (hd : decode c.code g.pc = .ok (.bastore, 1)) :
    ∃ T' h', Stand p l e R s m args below meth c T' (locs ++ [⟨a, j.toNatClampNeg⟩]) cells slots ∧ T'.heap = h' ∧ Wr h h' a j.toNatClampNeg (.int (nar .byte x)) ∧ Arb Z h' a n (upd f j.toNatClampNeg (nar .byte x)) ∧ ∀ target, Steps p.tables e below (T'.setTop { g with pc := g.pc + 1, stack := rest }) target → Steps p.tables e below (T.setTop g) target := by
  obtain ⟨cl, A, S, H⟩ := F
  obtain ⟨T', h', X', e', W, st⟩ := stB X hx hZ eT A (j := j) (x := x) (fun q => q.elim hj.1 (fun u => absurd hj.2 (by omega))) hg hs hd
  exact ⟨T', h', X', e', W, Arb.set A S H W, st⟩
theorem ldArb (X : Stand p l e R s m args below meth c T locs cells slots) (hx : p.tables.exec = Jvm.exec) (hZ : Z.Warmed39 s.vm) (eT : T.heap = h) (F : Arb Z h a n f) {j : Int32} (hj : ¬ j < 0 ∧ j.toNatClampNeg < n) {g : JFrame} (hg : g.method = m) {rest : List Value} (hs : g.stack = .int j :: .ref a :: rest) (hd : decode c.code g.pc = .ok (.baload, 1)) :
    ∀ target, Steps p.tables e below (T.setTop { g with pc := g.pc + 1, stack := .int (f j.toNatClampNeg) :: rest }) target → Steps p.tables e below (T.setTop g) target := by
  obtain ⟨cl, A, S, H⟩ := F
  intro t k
  exact X.baloadBytes hx (by rw [eT]; exact A.1) (State.isArrayOf_alike hZ.alike A.2.1) A.2.2 (fun q => q.elim hj.1 (fun u => absurd hj.2 (by omega))) (H _ hj.2).1 hg hs hd t k
theorem lenArb (X : Stand p l e R s m args below meth c T locs cells slots) (hx : p.tables.exec = Jvm.exec) (hZ : Z.Warmed39 s.vm) (eT : T.heap = h) (F : Arb Z h a n f) {z : Int32} (hz : n.toInt32 = z) {g : JFrame} (hg : g.method = m) {rest : List Value} (hs : g.stack = .ref a :: rest) (hd : decode c.code g.pc = .ok (.arraylength, 1)) :
    ∀ target, Steps p.tables e below (T.setTop { g with pc := g.pc + 1, stack := .int z :: rest }) target → Steps p.tables e below (T.setTop g) target := by
  obtain ⟨cl, A, S, H⟩ := F
  intro t k
  refine X.arraylength hx (by rw [eT]; exact A.1) (State.isArrayOf_alike hZ.alike A.2.1) hg hs hd t ?_
  rw [S, hz]; exact k
theorem Arb.arv {z : Int32} (F : Arb Z h a n f) (h0 : ¬ z < 0) (hn : z.toNatClampNeg = n) : ∃ k, Arv Z h a k .byte z ((List.range n).map fun i => Value.int (f i)) (.int 0) := by
  obtain ⟨cl, A, S, H⟩ := F
  have hg : ∀ i, i < n → ((List.range n).map fun i => Value.int (f i)).getD i (.int 0) = .int (f i) := fun i hi => by simp [hi]
  exact ⟨cl.cls, cl, A, rfl, S.trans hn.symm, h0, fun i hi => by rw [hg i (S ▸ hi)]; exact (H i (S ▸ hi)).1, fun i hi => by rw [hg i (S ▸ hi)]; exact (H i (S ▸ hi)).2⟩
theorem Arb.of_arv {z : Int32} {k : ClassId} {vs : List Value} {d : Value} (F : Arv Z h a k .byte z vs d) (hn : z.toNatClampNeg = n) (hv : ∀ i, i < n → vs.getD i d = .int (f i)) : Arb Z h a n f := by
  obtain ⟨cl, A, -, S, -, H, G⟩ := F
  exact ⟨cl, A, S.trans hn, fun i hi => ⟨by rw [← hv i hi]; exact H i (by omega), by rw [← hv i hi]; exact G i (by omega)⟩⟩
/-- the whole of it copied to a new array's front, in one native call -/
theorem cpArb (X : Stand p l e R s m args below meth c T locs cells slots) (hx : p.tables.exec = Jvm.exec) (hZ : Z.Warmed39 s.vm) {own : String} {index : Nat} (hown : s.vm.findClass own = some m.cls)
    (w1 : (Cond.methodLink own index Jvm.Stand.acN).before a0 Z = true) (w2 : (Cond.native Jvm.Stand.acN).before a0 Z = true) (w3 : (Cond.static Jvm.Stand.acN).before a0 Z = true) (w4 : (Cond.initialized "java/lang/System").before a0 Z = true) (eT : T.heap = h)
    {z z' nn : Int32} {n' : Nat} {f' : Nat → Int32} (A : Arb Z h a n f) (B : Arb Z h b n' f') (hz : ¬ z < 0) (hzn : z.toNatClampNeg = n) (hz' : ¬ z' < 0) (hzn' : z'.toNatClampNeg = n') (h3 : ¬ nn < 0) (h4 : nn.toNatClampNeg ≤ n) (h5 : nn.toNatClampNeg ≤ n') {n0 : Nat} (N : Fr n0 locs) (ge : n0 ≤ b)
    {g : JFrame} (hg : g.method = m) (hsize : g.locals.size = c.maxLocals) {rest : List Value} (hs : g.stack = .int nn :: .int 0 :: .ref b :: .int 0 :: .ref a :: rest) (hd : decode c.code g.pc = .ok (.invokestatic index, 3))
    (hf : 1 ≤ R.frames) {W : Nat} (hW : 2 * g.monitorRoom + (rest.map fun v => v.category).sum ≤ W) (hlo : W + (nativeFrameWords "java/lang/System" "arraycopy" 5 + 11) ≤ R.locals) :
    ∃ T' h' L, Stand p l e R s m args below meth c T' L cells slots ∧ T'.heap = h' ∧ Fr n0 L ∧ Keep h h' [b] ∧ Arb Z h' b n' (fun i => if i < nn.toNatClampNeg then f i else f' i) ∧
      ∀ target, Steps p.tables e below (T'.setTop { g with pc := g.pc + 3, stack := rest }) target → Steps p.tables e below (T.setTop g) target := by
  obtain ⟨k, A'⟩ := A.arv hz hzn
  obtain ⟨k', B'⟩ := B.arv hz' hzn'
  obtain ⟨T', h', L, X', e', N', K, F, st⟩ := cpA X hx hZ hown w1 w2 w3 w4 eT A' B' (Or.inl ⟨rfl, rfl⟩) (by decide) (by decide) h3 (by simp; omega) (by simp; omega) rfl (by simp; omega) N ge hg hsize hs hd hf hW hlo
  refine ⟨T', h', L, X', e', N', K, Arb.of_arv F hzn' ?_, st⟩
  intro i hi
  have e0 : (0 : Int32).toNatClampNeg = 0 := by decide
  simp only [e0, Nat.zero_add, List.take_zero, List.nil_append]
  by_cases q : i < nn.toNatClampNeg
  · rw [if_pos q]
    simp only [List.getD_eq_getElem?_getD]
    rw [List.getElem?_append_left (by simpa using q)]
    have q' : i < n := by omega
    simp [q, q']
  · rw [if_neg q]
    simp only [List.getD_eq_getElem?_getD]
    rw [List.getElem?_append_right (by simpa using Nat.le_of_not_lt q), List.getElem?_drop]
    have q' : nn.toNatClampNeg + (i - nn.toNatClampNeg) = i := by omega
    simp [q', hi]
/-- a private instance method by its contract -/
theorem Go.callP {y : MethodName} {bytes : ByteArray} {maxL : Nat} {ret : Option FieldType} {rm : Room} {as' : Array Value} {Q : Option Value → Heap → List Loc → Prop} (X : Stand p l e R s m args below meth c T locs cells slots) (hx : p.tables.exec = Jvm.exec) (hZ : Z.Warmed39 s.vm) {own C : String} {index kk : Nat} (hown : s.vm.findClass own = some m.cls) (eT : T.heap = h)
    (w1 : (Cond.methodLink own index y).before a0 Z = true) (w2 : (Cond.instanceMethod y).before a0 Z = true) (wp : (Cond.privateMethod y).before a0 Z = true) (wi : (Cond.instantiable y.cls kk).before a0 Z = true) (w3 : (Cond.initialized y.cls).before a0 Z = true) (w4 : (Cond.code y bytes maxL ret).before a0 Z = true) (hy : y.cls ≠ "java/lang/invoke/MethodHandle" ∧ y.cls ≠ "java/lang/invoke/VarHandle")
    {a : Addr} (Ea : Exa Z h a C)
    (M : Met l Z y bytes maxL ret [] rm as' h Q) {pc : Nat} {Ls : Array Slot} {argsL rest : List Value} {ps : List FieldType} {r : Option FieldType} (hpd : parseMethodDescriptor y.desc = some ⟨ps, r⟩) (hn : argsL.length = ps.length) (has : (.ref a :: argsL).toArray = as') (hsize : Ls.size = c.maxLocals)
    (hd : decode c.code pc = .ok (.invokevirtual index, 3)) {W : Nat} (hW : (rest.map fun v => v.category).sum ≤ W) (hf : rm.frames + 1 ≤ R.frames) (hl : W + (maxL + 11) + rm.locals ≤ R.locals) (hc : cells + rm.cells ≤ R.cells) (hs : slots + rm.slots ≤ R.slots) :
    ∃ (v : Option Value) (T' : State) (L : List Loc), Stand p l e R s m args below meth c T' (locs ++ L) (cells + rm.cells) (slots + rm.slots) ∧ Q v T'.heap L ∧ ∀ {P : State → Outcome → Prop}, Go p e below P T' (mkF m (pc + 3) Ls (v.toList ++ rest)) → Go p e below P T (mkF m pc Ls (argsL.reverse ++ .ref a :: rest)) := by
  obtain ⟨cell, q1, q2⟩ := Ea.cell
  obtain ⟨cc, kc, f1, f2, -, f3, -, -⟩ := Cond.instantiable_spec (mvT (args := args) hZ wi)
  have hni : kc.isInterface = false := by cases hq : kc.isInterface <;> simp_all
  have hpr := Cond.privateMethod_at (mvP (args := args) hZ wp)
  have hsel := selects_self_of_private (args := args) f1 f2 hni hpr (mvT hZ w2) hy
  obtain ⟨v, vm₁, ⟨T', L', k', n'⟩, -, X', ⟨L, hQ, l1, l2, l3⟩, st⟩ := X.privateBack hx hown (mvT hZ w1) (mvT hZ w2) hsel hpr (mvT hZ w4) hy (backOf (W := W) M hZ w4 w3 hf hl) (g := mkF m pc Ls (argsL.reverse ++ .ref a :: rest)) rfl hsize (Steps.refl _) (a := a) (by rw [eT]; exact q1) q2 (lenOf hpd hn) rfl (by show 2 * 0 + _ ≤ _; omega) hd (fun _ _ => ⟨has, eT, hc, hs⟩)
  dsimp only [Pt.U, Pt.locs, Pt.cells, Pt.slots] at X' l1 l2 l3 st hQ
  subst l1 l2 l3
  exact ⟨v, T', L, X', hQ, fun k => Go.via (fun t k => st.trans k) k⟩
end OwnArr
theorem own_pd0 : parseMethodDescriptor "(I)V" = some ⟨[.int], none⟩ := by decide +kernel
theorem own_pd1 : parseMethodDescriptor "(II)I" = some ⟨[.int, .int], some .int⟩ := by decide +kernel
theorem own_pd2 : parseMethodDescriptor "([BI)[B" = some ⟨[(.array .byte), .int], some (.array .byte)⟩ := by decide +kernel
theorem own_pd3 : parseMethodDescriptor "(III)I" = some ⟨[.int, .int, .int], some .int⟩ := by decide +kernel
theorem own_pd4 : parseMethodDescriptor "(IIIII)I" = some ⟨[.int, .int, .int, .int, .int], some .int⟩ := by decide +kernel
theorem own_pd5 : parseMethodDescriptor "()V" = some ⟨[], none⟩ := by decide +kernel
theorem own_pd6 : parseMethodDescriptor "(II)V" = some ⟨[.int, .int], none⟩ := by decide +kernel
theorem own_pd7 : parseMethodDescriptor "()[B" = some ⟨[], some (.array .byte)⟩ := by decide +kernel
theorem own_pd8 : parseMethodDescriptor "()I" = some ⟨[], some .int⟩ := by decide +kernel
theorem own_pd9 : parseMethodDescriptor "([BIIIII)Z" = some ⟨[(.array .byte), .int, .int, .int, .int, .int], some .boolean⟩ := by decide +kernel
abbrev own_sr (x : Int32) (k : Int32) : Int32 := ((x.toUInt32 >>> (k &&& 31).toUInt32).toInt32)
def own_u4 (f : Nat → Int32) (ln x : Int32) : Nat → Int32 := upd (upd (upd (upd f ln.toNatClampNeg (nar .byte ((own_sr x 24).toInt8.toInt32))) (ln + (1 : Int32)).toNatClampNeg (nar .byte ((own_sr x 16).toInt8.toInt32))) (ln + (2 : Int32)).toNatClampNeg (nar .byte ((own_sr x 8).toInt8.toInt32))) (ln + (3 : Int32)).toNatClampNeg (nar .byte (x.toInt8.toInt32))
def own_s2 (f : Nat → Int32) (o v : Int32) : Nat → Int32 := upd (upd f o.toNatClampNeg (nar .byte ((own_sr v 8).toInt8.toInt32))) (o + (1 : Int32)).toNatClampNeg (nar .byte (v.toInt8.toInt32))
def own_min (a b : Int32) : Int32 := if b < a then b else a
abbrev own_in (j : Int32) : Prop := ¬ j < 0 ∧ j.toNatClampNeg < 256
theorem own_h0 {ln : Int32} (h : ln = 0 ∨ ln = 4) : own_in ln := by rcases h with rfl | rfl <;> exact ⟨by decide, by decide⟩
theorem own_h1 {ln : Int32} (h : ln = 0 ∨ ln = 4) : own_in (ln + (1 : Int32)) := by rcases h with rfl | rfl <;> exact ⟨by decide, by decide⟩
theorem own_h2 {ln : Int32} (h : ln = 0 ∨ ln = 4) : own_in (ln + (2 : Int32)) := by rcases h with rfl | rfl <;> exact ⟨by decide, by decide⟩
theorem own_h3 {ln : Int32} (h : ln = 0 ∨ ln = 4) : own_in (ln + (3 : Int32)) := by rcases h with rfl | rfl <;> exact ⟨by decide, by decide⟩
theorem own_he {ln : Int32} (h : ln = 0 ∨ ln = 4) : ¬ (256 : Int32) < ln + (4 : Int32) := by rcases h with rfl | rfl <;> decide
theorem own_b255 (y : Int32) : (nar .byte (y.toInt8.toInt32)) &&& 255 = y &&& 255 := by
  rw [← Int32.toInt_inj, c_mask _ 255 8 (by decide) (by decide), c_mask _ 255 8 (by decide) (by decide)]
  have h1 := c_i2b (y.toInt8.toInt32)
  have h2 := c_i2b y
  show (y.toInt8.toInt32.toInt8.toInt32).toInt % ((2 ^ 8 : Nat) : Int) = y.toInt % ((2 ^ 8 : Nat) : Int)
  rw [show ((2 ^ 8 : Nat) : Int) = 256 from rfl]
  omega
theorem own_byc {x y : Int32} (h : (x.toInt - y.toInt) % 256 = 0) : nar .byte (x.toInt8.toInt32) = nar .byte (y.toInt8.toInt32) := by
  have h1 := c_i2b (x.toInt8.toInt32)
  have h2 := c_i2b x
  have h3 := c_i2b (y.toInt8.toInt32)
  have h4 := c_i2b y
  show x.toInt8.toInt32.toInt8.toInt32 = y.toInt8.toInt32.toInt8.toInt32
  rw [← Int32.toInt_inj]
  omega
theorem own_nb (y : Int32) : nar .byte (nar .byte (y.toInt8.toInt32)) = nar .byte (y.toInt8.toInt32) := by
  have h1 := c_i2b (y.toInt8.toInt32)
  have h2 := c_i2b y
  have h3 := c_i2b (y.toInt8.toInt32.toInt8.toInt32)
  show y.toInt8.toInt32.toInt8.toInt32.toInt8.toInt32 = y.toInt8.toInt32.toInt8.toInt32
  rw [← Int32.toInt_inj]
  omega
theorem own_sr0 (x : Int32) : own_sr x 0 = x := by
  show (x.toUInt32 >>> (((0 : Int32) &&& 31).toUInt32)).toInt32 = x
  rw [show (((0 : Int32) &&& 31).toUInt32) = 0 by decide]
  simp
theorem Arb.congr {Z : State} {h : Heap} {a : Addr} {n : Nat} {f g : Nat → Int32} (F : Arb Z h a n f) (q : ∀ i, i < n → f i = g i) : Arb Z h a n g := by
  obtain ⟨cl, A, S, H⟩ := F
  exact ⟨cl, A, S, fun i hi => by rw [← q i hi]; exact H i hi⟩
theorem own_d1_0 : decode prog_4_method_1_code 0 = .ok (.aload_n 0, 1) := by decide +kernel
theorem own_d1_1 : decode prog_4_method_1_code 1 = .ok (.invokespecial 1, 3) := by decide +kernel
theorem own_d1_4 : decode prog_4_method_1_code 4 = .ok (.aload_n 0, 1) := by decide +kernel
theorem own_d1_5 : decode prog_4_method_1_code 5 = .ok (.sipush 256, 3) := by decide +kernel
theorem own_d1_8 : decode prog_4_method_1_code 8 = .ok (.newarray .byte, 2) := by decide +kernel
theorem own_d1_10 : decode prog_4_method_1_code 10 = .ok (.putfield 7, 3) := by decide +kernel
theorem own_d1_13 : decode prog_4_method_1_code 13 = .ok (.return_, 1) := by decide +kernel
theorem own_pn0 : plainName "com/example/meddle/meddle/ClassFile$Bytes" = true := by first | (simp [plainName, overriddenIn]; done) | decide +kernel
theorem ef_own_init (m : MethodId) (a1 : Addr) : entryFrame m #[(.ref a1)] 1 = mkF m 0 #[.val (.ref a1)] [] := by first | (simp [entryFrame, mkF, argsToLocals, Value.category]; done) | rfl
set_option maxRecDepth 65536 in
set_option maxHeartbeats 40000000 in
theorem own_init (l : Launch) (Z : State) (a0 : Array Value) (hw : ∀ d ∈ tables_1, d.before a0 Z = true) (ws : List Jvm.Cond) (a1 : Addr)  (h0 : Heap) (n0 : Nat) (Z0 : n0 ≤ h0.size) (E_a1 : Exa Z h0 a1 "com/example/meddle/meddle/ClassFile$Bytes") (F_b : Fld Z h0 a1 "com/example/meddle/meddle/ClassFile$Bytes" "bytes" "[B" .null) (F_l : Fld Z h0 a1 "com/example/meddle/meddle/ClassFile$Bytes" "length" "I" (.int (0 : Int32))) (g_a : n0 ≤ a1) :
    Met l Z (⟨"com/example/meddle/meddle/ClassFile$Bytes", "<init>", "()V"⟩ : MethodName) prog_4_method_1_code 1 none ws ({ frames := 1, cells := 1, slots := 256, locals := 12 } : Room) #[(.ref a1)] h0 (fun v h L => ∃ b : Addr, v = none ∧ Fr n0 L ∧ Keep h0 h [a1] ∧ Exa Z h a1 "com/example/meddle/meddle/ClassFile$Bytes" ∧ Fld Z h a1 "com/example/meddle/meddle/ClassFile$Bytes" "bytes" "[B" (.ref b) ∧ Fld Z h a1 "com/example/meddle/meddle/ClassFile$Bytes" "length" "I" (.int (0 : Int32)) ∧ Arb Z h b 256 (fun _ => 0) ∧ n0 ≤ b ∧ a1 ≠ b) := by
  refine Met.of (plainFor_of_name own_pn0) ?_
  intro p e s m below meth c T0 hx hby hml hk hret hnm hown hZ X0 e0
  have N0 := Fr.nil n0
  refine Go.cast (ef_own_init m a1) ?_
  have K0 := Keep.refl h0 [a1]
  show Go p e below _ T0 (mkF m 0 #[.val (.ref a1)] [])
  refine Go.via (fun _ k => XS.aloadN X0.here hx rfl (hb hby own_d1_0) rfl (by rfl) k) ?_
  show Go p e below _ T0 (mkF m 1 #[.val (.ref a1)] [(.ref a1)])
  obtain ⟨T1, X1, e1, st1⟩ := initO X0 hx hZ hown (hw _ (List.mem_of_getElem? (i := 7) rfl)) (hw _ (List.mem_of_getElem? (i := 8) rfl)) (hw _ (List.mem_of_getElem? (i := 9) rfl)) e0 (g := (mkF m 1 #[.val (.ref a1)] [(.ref a1)])) rfl (by rw [hml]; rfl) rfl (hb hby own_d1_1) (by decide) (W := 0) (by show 2 * 0 + _ ≤ _; exact Nat.le_of_eq rfl) (by decide)
  refine Go.via (fun _ k => st1 _ k) ?_
  show Go p e below _ T1 (mkF m 4 #[.val (.ref a1)] [])
  refine Go.via (fun _ k => XS.aloadN X1.here hx rfl (hb hby own_d1_4) rfl (by rfl) k) ?_
  show Go p e below _ T1 (mkF m 5 #[.val (.ref a1)] [(.ref a1)])
  refine Go.via (fun _ k => XS.sipush X1.here hx rfl (hb hby own_d1_5) k) ?_
  show Go p e below _ T1 (mkF m 8 #[.val (.ref a1)] [(.int (256 : Int32)), (.ref a1)])
  obtain ⟨T2, h2, k2, X2, e2, E2, A2, st2⟩ := newP X1 hx hZ (hw _ (List.mem_of_getElem? (i := 10) rfl)) e1 (g := (mkF m 8 #[.val (.ref a1)] [(.int (256 : Int32)), (.ref a1)])) rfl (hb hby own_d1_8) rfl (by decide) (cap := 256) (by decide) (by decide) (by decide) (by decide)
  obtain ⟨b2, g2⟩ : ∃ z, z = h0.size := ⟨_, rfl⟩
  rw [← g2] at A2 st2
  refine Go.via (fun _ k => st2 _ k) ?_
  have ge_b2 : n0 ≤ b2 := Nat.le_trans Z0 (Nat.le_of_eq g2.symm)
  have Z2 : n0 ≤ h2.size := Nat.le_trans Z0 E2.1
  have E_a1_2 := E_a1.ext E2
  have ne_a1_b2 : a1 ≠ b2 := fun q => Nat.lt_irrefl _ (Nat.lt_of_lt_of_le E_a1.lt (Nat.le_of_eq (g2.symm.trans q.symm)))
  have K0_2 := K0.ext E2
  have F_b_2 := F_b.ext E2
  have F_l_2 := F_l.ext E2
  have sz_b2 : h0.size ≤ b2 := Nat.le_trans K0.1 (Nat.le_of_eq g2.symm)
  have B2 : Arb Z h2 b2 256 (fun _ => 0) := Arb.new A2 rfl
  show Go p e below _ T2 (mkF m 10 #[.val (.ref a1)] [(.ref b2), (.ref a1)])
  obtain ⟨T3, h3, X3, e3, W3, st3⟩ := putF X2 hx hZ hown (host := "") (Or.inl (hw _ (List.mem_of_getElem? (i := 11) rfl))) Via.refl e2 F_b_2 E_a1_2 (Or.inl (hw _ (List.mem_of_getElem? (i := 12) rfl))) (hw _ (List.mem_of_getElem? (i := 2) rfl)) (ty := (.array .byte)) (by decide) rfl rfl (g := (mkF m 10 #[.val (.ref a1)] [(.ref b2), (.ref a1)])) rfl rfl (hb hby own_d1_10)
  refine Go.via (fun _ k => st3 _ k) ?_
  have Z3 : n0 ≤ h3.size := by rw [W3.size]; exact Z2
  have N3 := Fr.snoc X3 N0 g_a
  have E_a1_2_3 := E_a1_2.wr W3
  have K0_2_3 := K0_2.wr W3 (Or.inl (by simp))
  have F_b_2_3 := F_b_2.same W3
  have F_l_2_3 := F_l_2.other W3 (Or.inr (slot_ne (t := .int) (t' := (.array .byte)) (Or.inl (hw _ (List.mem_of_getElem? (i := 23) rfl))) (Or.inl (hw _ (List.mem_of_getElem? (i := 12) rfl))) (by decide) (by decide) (by decide)))
  have B2_3 := B2.other W3 (Ne.symm ne_a1_b2)
  show Go p e below _ T3 (mkF m 13 #[.val (.ref a1)] [])
  refine Go.retV X3 hx hk hret (hb hby own_d1_13) (by decide) (by decide) ?_
  rw [e3]
  exact ⟨b2, rfl, N3, K0_2_3, E_a1_2_3, F_b_2_3, F_l_2_3, B2_3, ge_b2, ne_a1_b2⟩
theorem own_d4_0 : decode prog_4_method_10_code 0 = .ok (.aload_n 0, 1) := by decide +kernel
theorem own_d4_1 : decode prog_4_method_10_code 1 = .ok (.getfield 13, 3) := by decide +kernel
theorem own_d4_4 : decode prog_4_method_10_code 4 = .ok (.iload_n 1, 1) := by decide +kernel
theorem own_d4_5 : decode prog_4_method_10_code 5 = .ok (.iadd, 1) := by decide +kernel
theorem own_d4_6 : decode prog_4_method_10_code 6 = .ok (.aload_n 0, 1) := by decide +kernel
theorem own_d4_7 : decode prog_4_method_10_code 7 = .ok (.getfield 7, 3) := by decide +kernel
theorem own_d4_10 : decode prog_4_method_10_code 10 = .ok (.arraylength, 1) := by decide +kernel
theorem own_d4_11 : decode prog_4_method_10_code 11 = .ok (.if_icmp .le 30, 3) := by decide +kernel
theorem own_d4_14 : decode prog_4_method_10_code 14 = .ok (.aload_n 0, 1) := by decide +kernel
theorem own_d4_15 : decode prog_4_method_10_code 15 = .ok (.aload_n 0, 1) := by decide +kernel
theorem own_d4_16 : decode prog_4_method_10_code 16 = .ok (.getfield 7, 3) := by decide +kernel
theorem own_d4_19 : decode prog_4_method_10_code 19 = .ok (.iconst 2, 1) := by decide +kernel
theorem own_d4_20 : decode prog_4_method_10_code 20 = .ok (.aload_n 0, 1) := by decide +kernel
theorem own_d4_21 : decode prog_4_method_10_code 21 = .ok (.getfield 7, 3) := by decide +kernel
theorem own_d4_24 : decode prog_4_method_10_code 24 = .ok (.arraylength, 1) := by decide +kernel
theorem own_d4_25 : decode prog_4_method_10_code 25 = .ok (.imul, 1) := by decide +kernel
theorem own_d4_26 : decode prog_4_method_10_code 26 = .ok (.aload_n 0, 1) := by decide +kernel
theorem own_d4_27 : decode prog_4_method_10_code 27 = .ok (.getfield 13, 3) := by decide +kernel
theorem own_d4_30 : decode prog_4_method_10_code 30 = .ok (.iload_n 1, 1) := by decide +kernel
theorem own_d4_31 : decode prog_4_method_10_code 31 = .ok (.iadd, 1) := by decide +kernel
theorem own_d4_32 : decode prog_4_method_10_code 32 = .ok (.invokestatic 40, 3) := by decide +kernel
theorem own_d4_35 : decode prog_4_method_10_code 35 = .ok (.invokestatic 46, 3) := by decide +kernel
theorem own_d4_38 : decode prog_4_method_10_code 38 = .ok (.putfield 7, 3) := by decide +kernel
theorem own_d4_41 : decode prog_4_method_10_code 41 = .ok (.return_, 1) := by decide +kernel
theorem ef_own_ens (m : MethodId) (a1 : Addr) (p2 : Int32) : entryFrame m #[(.ref a1), (.int p2)] 2 = mkF m 0 #[.val (.ref a1), .val (.int p2)] [] := by first | (simp [entryFrame, mkF, argsToLocals, Value.category]; done) | rfl
set_option maxRecDepth 65536 in
set_option maxHeartbeats 40000000 in
theorem own_ens (l : Launch) (Z : State) (a0 : Array Value) (hw : ∀ d ∈ tables_1, d.before a0 Z = true) (ws : List Jvm.Cond) (a1 : Addr) (p2 : Int32) (b : Addr) (ln : Int32) (f : Nat → Int32) (h0 : Heap) (n0 : Nat) (Z0 : n0 ≤ h0.size) (E_a1 : Exa Z h0 a1 "com/example/meddle/meddle/ClassFile$Bytes") (F_b : Fld Z h0 a1 "com/example/meddle/meddle/ClassFile$Bytes" "bytes" "[B" (.ref b)) (F_l : Fld Z h0 a1 "com/example/meddle/meddle/ClassFile$Bytes" "length" "I" (.int ln)) (A_b : Arb Z h0 b 256 f) (hle : ¬ (256 : Int32) < ln + p2) :
    Met l Z (⟨"com/example/meddle/meddle/ClassFile$Bytes", "ensure", "(I)V"⟩ : MethodName) prog_4_method_10_code 2 none ws ({ frames := 0, cells := 0, slots := 0, locals := 0 } : Room) #[(.ref a1), (.int p2)] h0 (fun v h L => v = none ∧ Fr n0 L ∧ h = h0) := by
  refine Met.of (plainFor_of_name own_pn0) ?_
  intro p e s m below meth c T0 hx hby hml hk hret hnm hown hZ X0 e0
  have N0 := Fr.nil n0
  refine Go.cast (ef_own_ens m a1 p2) ?_
  show Go p e below _ T0 (mkF m 0 #[.val (.ref a1), .val (.int p2)] [])
  refine Go.via (fun _ k => XS.aloadN X0.here hx rfl (hb hby own_d4_0) rfl (by rfl) k) ?_
  show Go p e below _ T0 (mkF m 1 #[.val (.ref a1), .val (.int p2)] [(.ref a1)])
  obtain ⟨T1, X1, e1, st1⟩ := getF X0 hx hZ hown (host := "") (Or.inl (hw _ (List.mem_of_getElem? (i := 22) rfl))) Via.refl e0 F_l (g := (mkF m 1 #[.val (.ref a1), .val (.int p2)] [(.ref a1)])) rfl rfl (hb hby own_d4_1)
  refine Go.via (fun _ k => st1 _ k) ?_
  show Go p e below _ T1 (mkF m 4 #[.val (.ref a1), .val (.int p2)] [(.int ln)])
  refine Go.via (fun _ k => XS.iloadN X1.here hx rfl (hb hby own_d4_4) rfl  k) ?_
  show Go p e below _ T1 (mkF m 5 #[.val (.ref a1), .val (.int p2)] [(.int p2), (.int ln)])
  refine Go.via (fun _ k => XS.iadd X1.here hx rfl (hb hby own_d4_5) rfl k) ?_
  show Go p e below _ T1 (mkF m 6 #[.val (.ref a1), .val (.int p2)] [(.int (ln + p2))])
  refine Go.via (fun _ k => XS.aloadN X1.here hx rfl (hb hby own_d4_6) rfl (by rfl) k) ?_
  show Go p e below _ T1 (mkF m 7 #[.val (.ref a1), .val (.int p2)] [(.ref a1), (.int (ln + p2))])
  obtain ⟨T2, X2, e2, st2⟩ := getF X1 hx hZ hown (host := "") (Or.inl (hw _ (List.mem_of_getElem? (i := 11) rfl))) Via.refl e1 F_b (g := (mkF m 7 #[.val (.ref a1), .val (.int p2)] [(.ref a1), (.int (ln + p2))])) rfl rfl (hb hby own_d4_7)
  refine Go.via (fun _ k => st2 _ k) ?_
  show Go p e below _ T2 (mkF m 10 #[.val (.ref a1), .val (.int p2)] [(.ref b), (.int (ln + p2))])
  refine Go.via (fun _ k => lenArb X2 hx hZ e2 A_b (z := (256 : Int32)) rfl (g := (mkF m 10 #[.val (.ref a1), .val (.int p2)] [(.ref b), (.int (ln + p2))])) rfl rfl (hb hby own_d4_10) _ k) ?_
  show Go p e below _ T2 (mkF m 11 #[.val (.ref a1), .val (.int p2)] [(.int (256 : Int32)), (.int (ln + p2))])
  have hc11 : ¬ ((256 : Int32) < (ln + p2)) := hle
  refine Go.via (fun _ k => XS.icmpYes X2.here hx rfl (pc0 := 11) (pc' := 41) rfl (hb hby own_d4_11) rfl (flt hc11).2.2.2 (by decide) (by decide) k) ?_
  show Go p e below _ T2 (mkF m 41 #[.val (.ref a1), .val (.int p2)] [])
  refine Go.retV X2 hx hk hret (hb hby own_d4_41) (by decide) (by decide) ?_
  exact ⟨rfl, N0, e2⟩
theorem own_d3_0 : decode prog_4_method_5_code 0 = .ok (.aload_n 0, 1) := by decide +kernel
theorem own_d3_1 : decode prog_4_method_5_code 1 = .ok (.iconst 4, 1) := by decide +kernel
theorem own_d3_2 : decode prog_4_method_5_code 2 = .ok (.invokevirtual 17, 3) := by decide +kernel
theorem own_d3_5 : decode prog_4_method_5_code 5 = .ok (.aload_n 0, 1) := by decide +kernel
theorem own_d3_6 : decode prog_4_method_5_code 6 = .ok (.getfield 7, 3) := by decide +kernel
theorem own_d3_9 : decode prog_4_method_5_code 9 = .ok (.aload_n 0, 1) := by decide +kernel
theorem own_d3_10 : decode prog_4_method_5_code 10 = .ok (.getfield 13, 3) := by decide +kernel
theorem own_d3_13 : decode prog_4_method_5_code 13 = .ok (.iload_n 1, 1) := by decide +kernel
theorem own_d3_14 : decode prog_4_method_5_code 14 = .ok (.bipush 24, 2) := by decide +kernel
theorem own_d3_16 : decode prog_4_method_5_code 16 = .ok (.iushr, 1) := by decide +kernel
theorem own_d3_17 : decode prog_4_method_5_code 17 = .ok (.i2b, 1) := by decide +kernel
theorem own_d3_18 : decode prog_4_method_5_code 18 = .ok (.bastore, 1) := by decide +kernel
theorem own_d3_19 : decode prog_4_method_5_code 19 = .ok (.aload_n 0, 1) := by decide +kernel
theorem own_d3_20 : decode prog_4_method_5_code 20 = .ok (.getfield 7, 3) := by decide +kernel
theorem own_d3_23 : decode prog_4_method_5_code 23 = .ok (.aload_n 0, 1) := by decide +kernel
theorem own_d3_24 : decode prog_4_method_5_code 24 = .ok (.getfield 13, 3) := by decide +kernel
theorem own_d3_27 : decode prog_4_method_5_code 27 = .ok (.iconst 1, 1) := by decide +kernel
theorem own_d3_28 : decode prog_4_method_5_code 28 = .ok (.iadd, 1) := by decide +kernel
theorem own_d3_29 : decode prog_4_method_5_code 29 = .ok (.iload_n 1, 1) := by decide +kernel
theorem own_d3_30 : decode prog_4_method_5_code 30 = .ok (.bipush 16, 2) := by decide +kernel
theorem own_d3_32 : decode prog_4_method_5_code 32 = .ok (.iushr, 1) := by decide +kernel
theorem own_d3_33 : decode prog_4_method_5_code 33 = .ok (.i2b, 1) := by decide +kernel
theorem own_d3_34 : decode prog_4_method_5_code 34 = .ok (.bastore, 1) := by decide +kernel
theorem own_d3_35 : decode prog_4_method_5_code 35 = .ok (.aload_n 0, 1) := by decide +kernel
theorem own_d3_36 : decode prog_4_method_5_code 36 = .ok (.getfield 7, 3) := by decide +kernel
theorem own_d3_39 : decode prog_4_method_5_code 39 = .ok (.aload_n 0, 1) := by decide +kernel
theorem own_d3_40 : decode prog_4_method_5_code 40 = .ok (.getfield 13, 3) := by decide +kernel
theorem own_d3_43 : decode prog_4_method_5_code 43 = .ok (.iconst 2, 1) := by decide +kernel
theorem own_d3_44 : decode prog_4_method_5_code 44 = .ok (.iadd, 1) := by decide +kernel
theorem own_d3_45 : decode prog_4_method_5_code 45 = .ok (.iload_n 1, 1) := by decide +kernel
theorem own_d3_46 : decode prog_4_method_5_code 46 = .ok (.bipush 8, 2) := by decide +kernel
theorem own_d3_48 : decode prog_4_method_5_code 48 = .ok (.iushr, 1) := by decide +kernel
theorem own_d3_49 : decode prog_4_method_5_code 49 = .ok (.i2b, 1) := by decide +kernel
theorem own_d3_50 : decode prog_4_method_5_code 50 = .ok (.bastore, 1) := by decide +kernel
theorem own_d3_51 : decode prog_4_method_5_code 51 = .ok (.aload_n 0, 1) := by decide +kernel
theorem own_d3_52 : decode prog_4_method_5_code 52 = .ok (.getfield 7, 3) := by decide +kernel
theorem own_d3_55 : decode prog_4_method_5_code 55 = .ok (.aload_n 0, 1) := by decide +kernel
theorem own_d3_56 : decode prog_4_method_5_code 56 = .ok (.getfield 13, 3) := by decide +kernel
theorem own_d3_59 : decode prog_4_method_5_code 59 = .ok (.iconst 3, 1) := by decide +kernel
theorem own_d3_60 : decode prog_4_method_5_code 60 = .ok (.iadd, 1) := by decide +kernel
theorem own_d3_61 : decode prog_4_method_5_code 61 = .ok (.iload_n 1, 1) := by decide +kernel
theorem own_d3_62 : decode prog_4_method_5_code 62 = .ok (.i2b, 1) := by decide +kernel
theorem own_d3_63 : decode prog_4_method_5_code 63 = .ok (.bastore, 1) := by decide +kernel
theorem own_d3_64 : decode prog_4_method_5_code 64 = .ok (.aload_n 0, 1) := by decide +kernel
theorem own_d3_65 : decode prog_4_method_5_code 65 = .ok (.dup, 1) := by decide +kernel
theorem own_d3_66 : decode prog_4_method_5_code 66 = .ok (.getfield 13, 3) := by decide +kernel
theorem own_d3_69 : decode prog_4_method_5_code 69 = .ok (.iconst 4, 1) := by decide +kernel
theorem own_d3_70 : decode prog_4_method_5_code 70 = .ok (.iadd, 1) := by decide +kernel
theorem own_d3_71 : decode prog_4_method_5_code 71 = .ok (.putfield 13, 3) := by decide +kernel
theorem own_d3_74 : decode prog_4_method_5_code 74 = .ok (.return_, 1) := by decide +kernel
theorem ef_own_mu4 (m : MethodId) (a1 : Addr) (p2 : Int32) : entryFrame m #[(.ref a1), (.int p2)] 2 = mkF m 0 #[.val (.ref a1), .val (.int p2)] [] := by first | (simp [entryFrame, mkF, argsToLocals, Value.category]; done) | rfl
set_option maxRecDepth 65536 in
set_option maxHeartbeats 40000000 in
theorem own_mu4 (l : Launch) (Z : State) (a0 : Array Value) (hw : ∀ d ∈ tables_1, d.before a0 Z = true) (ws : List Jvm.Cond) (a1 : Addr) (p2 : Int32) (b : Addr) (ln : Int32) (f : Nat → Int32) (h0 : Heap) (n0 : Nat) (Z0 : n0 ≤ h0.size) (E_a1 : Exa Z h0 a1 "com/example/meddle/meddle/ClassFile$Bytes") (F_b : Fld Z h0 a1 "com/example/meddle/meddle/ClassFile$Bytes" "bytes" "[B" (.ref b)) (F_l : Fld Z h0 a1 "com/example/meddle/meddle/ClassFile$Bytes" "length" "I" (.int ln)) (A_b : Arb Z h0 b 256 f) (g_a : n0 ≤ a1) (g_b : n0 ≤ b) (ne_ab : a1 ≠ b) (hln : ln = 0 ∨ ln = 4) :
    Met l Z (⟨"com/example/meddle/meddle/ClassFile$Bytes", "u4", "(I)V"⟩ : MethodName) prog_4_method_5_code 2 none ws ({ frames := 1, cells := 0, slots := 0, locals := 13 } : Room) #[(.ref a1), (.int p2)] h0 (fun v h L => v = none ∧ Fr n0 L ∧ Keep h0 h [a1, b] ∧ Exa Z h a1 "com/example/meddle/meddle/ClassFile$Bytes" ∧ Fld Z h a1 "com/example/meddle/meddle/ClassFile$Bytes" "bytes" "[B" (.ref b) ∧ Fld Z h a1 "com/example/meddle/meddle/ClassFile$Bytes" "length" "I" (.int (ln + (4 : Int32))) ∧ Arb Z h b 256 (own_u4 f ln p2)) := by
  refine Met.of (plainFor_of_name own_pn0) ?_
  intro p e s m below meth c T0 hx hby hml hk hret hnm hown hZ X0 e0
  have N0 := Fr.nil n0
  refine Go.cast (ef_own_mu4 m a1 p2) ?_
  have K0 := Keep.refl h0 [a1, b]
  show Go p e below _ T0 (mkF m 0 #[.val (.ref a1), .val (.int p2)] [])
  refine Go.via (fun _ k => XS.aloadN X0.here hx rfl (hb hby own_d3_0) rfl (by rfl) k) ?_
  show Go p e below _ T0 (mkF m 1 #[.val (.ref a1), .val (.int p2)] [(.ref a1)])
  refine Go.via (fun _ k => XS.iconst X0.here hx rfl (hb hby own_d3_1) k) ?_
  show Go p e below _ T0 (mkF m 2 #[.val (.ref a1), .val (.int p2)] [(.int (4 : Int32)), (.ref a1)])
  obtain ⟨v1, T1, L1, X1, ⟨rfl, Nq1, eq1⟩, st1⟩ := Go.callP X0 hx hZ hown e0 (hw _ (List.mem_of_getElem? (i := 18) rfl)) (hw _ (List.mem_of_getElem? (i := 19) rfl)) (hw _ (List.mem_of_getElem? (i := 20) rfl)) (hw _ (List.mem_of_getElem? (i := 2) rfl)) (hw _ (List.mem_of_getElem? (i := 3) rfl)) (hw _ (List.mem_of_getElem? (i := 21) rfl)) (by decide) E_a1 (own_ens l Z a0 hw [] a1 (4 : Int32) b ln f h0 n0 Z0 E_a1 F_b F_l A_b (own_he hln)) (pc := 2) (Ls := #[.val (.ref a1), .val (.int p2)]) (argsL := [(.int (4 : Int32))]) (rest := []) own_pd0 rfl rfl (by rw [hml]; rfl) (hb hby own_d3_2) (W := 0) (Nat.le_of_eq rfl) (by decide) (by decide) (by decide) (by decide)
  refine st1 ?_
  have N1 := Fr.app N0 Nq1
  show Go p e below _ T1 (mkF m 5 #[.val (.ref a1), .val (.int p2)] [])
  refine Go.via (fun _ k => XS.aloadN X1.here hx rfl (hb hby own_d3_5) rfl (by rfl) k) ?_
  show Go p e below _ T1 (mkF m 6 #[.val (.ref a1), .val (.int p2)] [(.ref a1)])
  obtain ⟨T2, X2, e2, st2⟩ := getF X1 hx hZ hown (host := "") (Or.inl (hw _ (List.mem_of_getElem? (i := 11) rfl))) Via.refl eq1 F_b (g := (mkF m 6 #[.val (.ref a1), .val (.int p2)] [(.ref a1)])) rfl rfl (hb hby own_d3_6)
  refine Go.via (fun _ k => st2 _ k) ?_
  show Go p e below _ T2 (mkF m 9 #[.val (.ref a1), .val (.int p2)] [(.ref b)])
  refine Go.via (fun _ k => XS.aloadN X2.here hx rfl (hb hby own_d3_9) rfl (by rfl) k) ?_
  show Go p e below _ T2 (mkF m 10 #[.val (.ref a1), .val (.int p2)] [(.ref a1), (.ref b)])
  obtain ⟨T3, X3, e3, st3⟩ := getF X2 hx hZ hown (host := "") (Or.inl (hw _ (List.mem_of_getElem? (i := 22) rfl))) Via.refl e2 F_l (g := (mkF m 10 #[.val (.ref a1), .val (.int p2)] [(.ref a1), (.ref b)])) rfl rfl (hb hby own_d3_10)
  refine Go.via (fun _ k => st3 _ k) ?_
  show Go p e below _ T3 (mkF m 13 #[.val (.ref a1), .val (.int p2)] [(.int ln), (.ref b)])
  refine Go.via (fun _ k => XS.iloadN X3.here hx rfl (hb hby own_d3_13) rfl  k) ?_
  show Go p e below _ T3 (mkF m 14 #[.val (.ref a1), .val (.int p2)] [(.int p2), (.int ln), (.ref b)])
  refine Go.via (fun _ k => XS.bipush X3.here hx rfl (hb hby own_d3_14) k) ?_
  show Go p e below _ T3 (mkF m 16 #[.val (.ref a1), .val (.int p2)] [(.int (24 : Int32)), (.int p2), (.int ln), (.ref b)])
  refine Go.via (fun _ k => XS.iushr X3.here hx rfl (hb hby own_d3_16) rfl k) ?_
  show Go p e below _ T3 (mkF m 17 #[.val (.ref a1), .val (.int p2)] [(.int ((p2.toUInt32 >>> ((24 : Int32) &&& 31).toUInt32).toInt32)), (.int ln), (.ref b)])
  refine Go.via (fun _ k => XS.i2b X3.here hx rfl (hb hby own_d3_17) rfl k) ?_
  show Go p e below _ T3 (mkF m 18 #[.val (.ref a1), .val (.int p2)] [(.int (((p2.toUInt32 >>> ((24 : Int32) &&& 31).toUInt32).toInt32).toInt8.toInt32)), (.int ln), (.ref b)])
  obtain ⟨T4, h4, X4, e4, W4, B4, st4⟩ := stArb X3 hx hZ e3 A_b (j := ln) (x := (((p2.toUInt32 >>> ((24 : Int32) &&& 31).toUInt32).toInt32).toInt8.toInt32)) (own_h0 hln) (g := (mkF m 18 #[.val (.ref a1), .val (.int p2)] [(.int (((p2.toUInt32 >>> ((24 : Int32) &&& 31).toUInt32).toInt32).toInt8.toInt32)), (.int ln), (.ref b)])) rfl rfl (hb hby own_d3_18)
  refine Go.via (fun _ k => st4 _ k) ?_
  have Z4 : n0 ≤ h4.size := by rw [W4.size]; exact Z0
  have N4 := Fr.snoc X4 N1 g_b
  have E_a1_4 := E_a1.wr W4
  have F_b_4 := F_b.other W4 (Or.inl ne_ab)
  have F_l_4 := F_l.other W4 (Or.inl ne_ab)
  have K0_4 := K0.wr W4 (Or.inl (by simp))
  show Go p e below _ T4 (mkF m 19 #[.val (.ref a1), .val (.int p2)] [])
  refine Go.via (fun _ k => XS.aloadN X4.here hx rfl (hb hby own_d3_19) rfl (by rfl) k) ?_
  show Go p e below _ T4 (mkF m 20 #[.val (.ref a1), .val (.int p2)] [(.ref a1)])
  obtain ⟨T5, X5, e5, st5⟩ := getF X4 hx hZ hown (host := "") (Or.inl (hw _ (List.mem_of_getElem? (i := 11) rfl))) Via.refl e4 F_b_4 (g := (mkF m 20 #[.val (.ref a1), .val (.int p2)] [(.ref a1)])) rfl rfl (hb hby own_d3_20)
  refine Go.via (fun _ k => st5 _ k) ?_
  show Go p e below _ T5 (mkF m 23 #[.val (.ref a1), .val (.int p2)] [(.ref b)])
  refine Go.via (fun _ k => XS.aloadN X5.here hx rfl (hb hby own_d3_23) rfl (by rfl) k) ?_
  show Go p e below _ T5 (mkF m 24 #[.val (.ref a1), .val (.int p2)] [(.ref a1), (.ref b)])
  obtain ⟨T6, X6, e6, st6⟩ := getF X5 hx hZ hown (host := "") (Or.inl (hw _ (List.mem_of_getElem? (i := 22) rfl))) Via.refl e5 F_l_4 (g := (mkF m 24 #[.val (.ref a1), .val (.int p2)] [(.ref a1), (.ref b)])) rfl rfl (hb hby own_d3_24)
  refine Go.via (fun _ k => st6 _ k) ?_
  show Go p e below _ T6 (mkF m 27 #[.val (.ref a1), .val (.int p2)] [(.int ln), (.ref b)])
  refine Go.via (fun _ k => XS.iconst X6.here hx rfl (hb hby own_d3_27) k) ?_
  show Go p e below _ T6 (mkF m 28 #[.val (.ref a1), .val (.int p2)] [(.int (1 : Int32)), (.int ln), (.ref b)])
  refine Go.via (fun _ k => XS.iadd X6.here hx rfl (hb hby own_d3_28) rfl k) ?_
  show Go p e below _ T6 (mkF m 29 #[.val (.ref a1), .val (.int p2)] [(.int (ln + (1 : Int32))), (.ref b)])
  refine Go.via (fun _ k => XS.iloadN X6.here hx rfl (hb hby own_d3_29) rfl  k) ?_
  show Go p e below _ T6 (mkF m 30 #[.val (.ref a1), .val (.int p2)] [(.int p2), (.int (ln + (1 : Int32))), (.ref b)])
  refine Go.via (fun _ k => XS.bipush X6.here hx rfl (hb hby own_d3_30) k) ?_
  show Go p e below _ T6 (mkF m 32 #[.val (.ref a1), .val (.int p2)] [(.int (16 : Int32)), (.int p2), (.int (ln + (1 : Int32))), (.ref b)])
  refine Go.via (fun _ k => XS.iushr X6.here hx rfl (hb hby own_d3_32) rfl k) ?_
  show Go p e below _ T6 (mkF m 33 #[.val (.ref a1), .val (.int p2)] [(.int ((p2.toUInt32 >>> ((16 : Int32) &&& 31).toUInt32).toInt32)), (.int (ln + (1 : Int32))), (.ref b)])
  refine Go.via (fun _ k => XS.i2b X6.here hx rfl (hb hby own_d3_33) rfl k) ?_
  show Go p e below _ T6 (mkF m 34 #[.val (.ref a1), .val (.int p2)] [(.int (((p2.toUInt32 >>> ((16 : Int32) &&& 31).toUInt32).toInt32).toInt8.toInt32)), (.int (ln + (1 : Int32))), (.ref b)])
  obtain ⟨T7, h7, X7, e7, W7, B7, st7⟩ := stArb X6 hx hZ e6 B4 (j := (ln + (1 : Int32))) (x := (((p2.toUInt32 >>> ((16 : Int32) &&& 31).toUInt32).toInt32).toInt8.toInt32)) (own_h1 hln) (g := (mkF m 34 #[.val (.ref a1), .val (.int p2)] [(.int (((p2.toUInt32 >>> ((16 : Int32) &&& 31).toUInt32).toInt32).toInt8.toInt32)), (.int (ln + (1 : Int32))), (.ref b)])) rfl rfl (hb hby own_d3_34)
  refine Go.via (fun _ k => st7 _ k) ?_
  have Z7 : n0 ≤ h7.size := by rw [W7.size]; exact Z4
  have N7 := Fr.snoc X7 N4 g_b
  have E_a1_4_7 := E_a1_4.wr W7
  have F_b_4_7 := F_b_4.other W7 (Or.inl ne_ab)
  have F_l_4_7 := F_l_4.other W7 (Or.inl ne_ab)
  have K0_4_7 := K0_4.wr W7 (Or.inl (by simp))
  show Go p e below _ T7 (mkF m 35 #[.val (.ref a1), .val (.int p2)] [])
  refine Go.via (fun _ k => XS.aloadN X7.here hx rfl (hb hby own_d3_35) rfl (by rfl) k) ?_
  show Go p e below _ T7 (mkF m 36 #[.val (.ref a1), .val (.int p2)] [(.ref a1)])
  obtain ⟨T8, X8, e8, st8⟩ := getF X7 hx hZ hown (host := "") (Or.inl (hw _ (List.mem_of_getElem? (i := 11) rfl))) Via.refl e7 F_b_4_7 (g := (mkF m 36 #[.val (.ref a1), .val (.int p2)] [(.ref a1)])) rfl rfl (hb hby own_d3_36)
  refine Go.via (fun _ k => st8 _ k) ?_
  show Go p e below _ T8 (mkF m 39 #[.val (.ref a1), .val (.int p2)] [(.ref b)])
  refine Go.via (fun _ k => XS.aloadN X8.here hx rfl (hb hby own_d3_39) rfl (by rfl) k) ?_
  show Go p e below _ T8 (mkF m 40 #[.val (.ref a1), .val (.int p2)] [(.ref a1), (.ref b)])
  obtain ⟨T9, X9, e9, st9⟩ := getF X8 hx hZ hown (host := "") (Or.inl (hw _ (List.mem_of_getElem? (i := 22) rfl))) Via.refl e8 F_l_4_7 (g := (mkF m 40 #[.val (.ref a1), .val (.int p2)] [(.ref a1), (.ref b)])) rfl rfl (hb hby own_d3_40)
  refine Go.via (fun _ k => st9 _ k) ?_
  show Go p e below _ T9 (mkF m 43 #[.val (.ref a1), .val (.int p2)] [(.int ln), (.ref b)])
  refine Go.via (fun _ k => XS.iconst X9.here hx rfl (hb hby own_d3_43) k) ?_
  show Go p e below _ T9 (mkF m 44 #[.val (.ref a1), .val (.int p2)] [(.int (2 : Int32)), (.int ln), (.ref b)])
  refine Go.via (fun _ k => XS.iadd X9.here hx rfl (hb hby own_d3_44) rfl k) ?_
  show Go p e below _ T9 (mkF m 45 #[.val (.ref a1), .val (.int p2)] [(.int (ln + (2 : Int32))), (.ref b)])
  refine Go.via (fun _ k => XS.iloadN X9.here hx rfl (hb hby own_d3_45) rfl  k) ?_
  show Go p e below _ T9 (mkF m 46 #[.val (.ref a1), .val (.int p2)] [(.int p2), (.int (ln + (2 : Int32))), (.ref b)])
  refine Go.via (fun _ k => XS.bipush X9.here hx rfl (hb hby own_d3_46) k) ?_
  show Go p e below _ T9 (mkF m 48 #[.val (.ref a1), .val (.int p2)] [(.int (8 : Int32)), (.int p2), (.int (ln + (2 : Int32))), (.ref b)])
  refine Go.via (fun _ k => XS.iushr X9.here hx rfl (hb hby own_d3_48) rfl k) ?_
  show Go p e below _ T9 (mkF m 49 #[.val (.ref a1), .val (.int p2)] [(.int ((p2.toUInt32 >>> ((8 : Int32) &&& 31).toUInt32).toInt32)), (.int (ln + (2 : Int32))), (.ref b)])
  refine Go.via (fun _ k => XS.i2b X9.here hx rfl (hb hby own_d3_49) rfl k) ?_
  show Go p e below _ T9 (mkF m 50 #[.val (.ref a1), .val (.int p2)] [(.int (((p2.toUInt32 >>> ((8 : Int32) &&& 31).toUInt32).toInt32).toInt8.toInt32)), (.int (ln + (2 : Int32))), (.ref b)])
  obtain ⟨T10, h10, X10, e10, W10, B10, st10⟩ := stArb X9 hx hZ e9 B7 (j := (ln + (2 : Int32))) (x := (((p2.toUInt32 >>> ((8 : Int32) &&& 31).toUInt32).toInt32).toInt8.toInt32)) (own_h2 hln) (g := (mkF m 50 #[.val (.ref a1), .val (.int p2)] [(.int (((p2.toUInt32 >>> ((8 : Int32) &&& 31).toUInt32).toInt32).toInt8.toInt32)), (.int (ln + (2 : Int32))), (.ref b)])) rfl rfl (hb hby own_d3_50)
  refine Go.via (fun _ k => st10 _ k) ?_
  have Z10 : n0 ≤ h10.size := by rw [W10.size]; exact Z7
  have N10 := Fr.snoc X10 N7 g_b
  have E_a1_4_7_10 := E_a1_4_7.wr W10
  have F_b_4_7_10 := F_b_4_7.other W10 (Or.inl ne_ab)
  have F_l_4_7_10 := F_l_4_7.other W10 (Or.inl ne_ab)
  have K0_4_7_10 := K0_4_7.wr W10 (Or.inl (by simp))
  show Go p e below _ T10 (mkF m 51 #[.val (.ref a1), .val (.int p2)] [])
  refine Go.via (fun _ k => XS.aloadN X10.here hx rfl (hb hby own_d3_51) rfl (by rfl) k) ?_
  show Go p e below _ T10 (mkF m 52 #[.val (.ref a1), .val (.int p2)] [(.ref a1)])
  obtain ⟨T11, X11, e11, st11⟩ := getF X10 hx hZ hown (host := "") (Or.inl (hw _ (List.mem_of_getElem? (i := 11) rfl))) Via.refl e10 F_b_4_7_10 (g := (mkF m 52 #[.val (.ref a1), .val (.int p2)] [(.ref a1)])) rfl rfl (hb hby own_d3_52)
  refine Go.via (fun _ k => st11 _ k) ?_
  show Go p e below _ T11 (mkF m 55 #[.val (.ref a1), .val (.int p2)] [(.ref b)])
  refine Go.via (fun _ k => XS.aloadN X11.here hx rfl (hb hby own_d3_55) rfl (by rfl) k) ?_
  show Go p e below _ T11 (mkF m 56 #[.val (.ref a1), .val (.int p2)] [(.ref a1), (.ref b)])
  obtain ⟨T12, X12, e12, st12⟩ := getF X11 hx hZ hown (host := "") (Or.inl (hw _ (List.mem_of_getElem? (i := 22) rfl))) Via.refl e11 F_l_4_7_10 (g := (mkF m 56 #[.val (.ref a1), .val (.int p2)] [(.ref a1), (.ref b)])) rfl rfl (hb hby own_d3_56)
  refine Go.via (fun _ k => st12 _ k) ?_
  show Go p e below _ T12 (mkF m 59 #[.val (.ref a1), .val (.int p2)] [(.int ln), (.ref b)])
  refine Go.via (fun _ k => XS.iconst X12.here hx rfl (hb hby own_d3_59) k) ?_
  show Go p e below _ T12 (mkF m 60 #[.val (.ref a1), .val (.int p2)] [(.int (3 : Int32)), (.int ln), (.ref b)])
  refine Go.via (fun _ k => XS.iadd X12.here hx rfl (hb hby own_d3_60) rfl k) ?_
  show Go p e below _ T12 (mkF m 61 #[.val (.ref a1), .val (.int p2)] [(.int (ln + (3 : Int32))), (.ref b)])
  refine Go.via (fun _ k => XS.iloadN X12.here hx rfl (hb hby own_d3_61) rfl  k) ?_
  show Go p e below _ T12 (mkF m 62 #[.val (.ref a1), .val (.int p2)] [(.int p2), (.int (ln + (3 : Int32))), (.ref b)])
  refine Go.via (fun _ k => XS.i2b X12.here hx rfl (hb hby own_d3_62) rfl k) ?_
  show Go p e below _ T12 (mkF m 63 #[.val (.ref a1), .val (.int p2)] [(.int (p2.toInt8.toInt32)), (.int (ln + (3 : Int32))), (.ref b)])
  obtain ⟨T13, h13, X13, e13, W13, B13, st13⟩ := stArb X12 hx hZ e12 B10 (j := (ln + (3 : Int32))) (x := (p2.toInt8.toInt32)) (own_h3 hln) (g := (mkF m 63 #[.val (.ref a1), .val (.int p2)] [(.int (p2.toInt8.toInt32)), (.int (ln + (3 : Int32))), (.ref b)])) rfl rfl (hb hby own_d3_63)
  refine Go.via (fun _ k => st13 _ k) ?_
  have Z13 : n0 ≤ h13.size := by rw [W13.size]; exact Z10
  have N13 := Fr.snoc X13 N10 g_b
  have E_a1_4_7_10_13 := E_a1_4_7_10.wr W13
  have F_b_4_7_10_13 := F_b_4_7_10.other W13 (Or.inl ne_ab)
  have F_l_4_7_10_13 := F_l_4_7_10.other W13 (Or.inl ne_ab)
  have K0_4_7_10_13 := K0_4_7_10.wr W13 (Or.inl (by simp))
  show Go p e below _ T13 (mkF m 64 #[.val (.ref a1), .val (.int p2)] [])
  refine Go.via (fun _ k => XS.aloadN X13.here hx rfl (hb hby own_d3_64) rfl (by rfl) k) ?_
  show Go p e below _ T13 (mkF m 65 #[.val (.ref a1), .val (.int p2)] [(.ref a1)])
  refine Go.via (fun _ k => XS.dup X13.here hx rfl (hb hby own_d3_65) rfl (by rfl) k) ?_
  show Go p e below _ T13 (mkF m 66 #[.val (.ref a1), .val (.int p2)] [(.ref a1), (.ref a1)])
  obtain ⟨T14, X14, e14, st14⟩ := getF X13 hx hZ hown (host := "") (Or.inl (hw _ (List.mem_of_getElem? (i := 22) rfl))) Via.refl e13 F_l_4_7_10_13 (g := (mkF m 66 #[.val (.ref a1), .val (.int p2)] [(.ref a1), (.ref a1)])) rfl rfl (hb hby own_d3_66)
  refine Go.via (fun _ k => st14 _ k) ?_
  show Go p e below _ T14 (mkF m 69 #[.val (.ref a1), .val (.int p2)] [(.int ln), (.ref a1)])
  refine Go.via (fun _ k => XS.iconst X14.here hx rfl (hb hby own_d3_69) k) ?_
  show Go p e below _ T14 (mkF m 70 #[.val (.ref a1), .val (.int p2)] [(.int (4 : Int32)), (.int ln), (.ref a1)])
  refine Go.via (fun _ k => XS.iadd X14.here hx rfl (hb hby own_d3_70) rfl k) ?_
  show Go p e below _ T14 (mkF m 71 #[.val (.ref a1), .val (.int p2)] [(.int (ln + (4 : Int32))), (.ref a1)])
  obtain ⟨T15, h15, X15, e15, W15, st15⟩ := putF X14 hx hZ hown (host := "") (Or.inl (hw _ (List.mem_of_getElem? (i := 22) rfl))) Via.refl e14 F_l_4_7_10_13 E_a1_4_7_10_13 (Or.inl (hw _ (List.mem_of_getElem? (i := 23) rfl))) (hw _ (List.mem_of_getElem? (i := 2) rfl)) (ty := .int) (by decide) rfl rfl (g := (mkF m 71 #[.val (.ref a1), .val (.int p2)] [(.int (ln + (4 : Int32))), (.ref a1)])) rfl rfl (hb hby own_d3_71)
  refine Go.via (fun _ k => st15 _ k) ?_
  have Z15 : n0 ≤ h15.size := by rw [W15.size]; exact Z13
  have N15 := Fr.snoc X15 N13 g_a
  have E_a1_4_7_10_13_15 := E_a1_4_7_10_13.wr W15
  have F_b_4_7_10_13_15 := F_b_4_7_10_13.other W15 (Or.inr (slot_ne (t := (.array .byte)) (t' := .int) (Or.inl (hw _ (List.mem_of_getElem? (i := 12) rfl))) (Or.inl (hw _ (List.mem_of_getElem? (i := 23) rfl))) (by decide) (by decide) (by decide)))
  have F_l_4_7_10_13_15 := F_l_4_7_10_13.same W15
  have B13_15 := B13.other W15 (Ne.symm ne_ab)
  have K0_4_7_10_13_15 := K0_4_7_10_13.wr W15 (Or.inl (by simp))
  show Go p e below _ T15 (mkF m 74 #[.val (.ref a1), .val (.int p2)] [])
  refine Go.retV X15 hx hk hret (hb hby own_d3_74) (by decide) (by decide) ?_
  rw [e15]
  exact ⟨rfl, N15, K0_4_7_10_13_15, E_a1_4_7_10_13_15, F_b_4_7_10_13_15, F_l_4_7_10_13_15, B13_15⟩
theorem own_d5_0 : decode prog_4_method_7_code 0 = .ok (.aload_n 0, 1) := by decide +kernel
theorem own_d5_1 : decode prog_4_method_7_code 1 = .ok (.getfield 7, 3) := by decide +kernel
theorem own_d5_4 : decode prog_4_method_7_code 4 = .ok (.iload_n 1, 1) := by decide +kernel
theorem own_d5_5 : decode prog_4_method_7_code 5 = .ok (.iload_n 2, 1) := by decide +kernel
theorem own_d5_6 : decode prog_4_method_7_code 6 = .ok (.bipush 8, 2) := by decide +kernel
theorem own_d5_8 : decode prog_4_method_7_code 8 = .ok (.iushr, 1) := by decide +kernel
theorem own_d5_9 : decode prog_4_method_7_code 9 = .ok (.i2b, 1) := by decide +kernel
theorem own_d5_10 : decode prog_4_method_7_code 10 = .ok (.bastore, 1) := by decide +kernel
theorem own_d5_11 : decode prog_4_method_7_code 11 = .ok (.aload_n 0, 1) := by decide +kernel
theorem own_d5_12 : decode prog_4_method_7_code 12 = .ok (.getfield 7, 3) := by decide +kernel
theorem own_d5_15 : decode prog_4_method_7_code 15 = .ok (.iload_n 1, 1) := by decide +kernel
theorem own_d5_16 : decode prog_4_method_7_code 16 = .ok (.iconst 1, 1) := by decide +kernel
theorem own_d5_17 : decode prog_4_method_7_code 17 = .ok (.iadd, 1) := by decide +kernel
theorem own_d5_18 : decode prog_4_method_7_code 18 = .ok (.iload_n 2, 1) := by decide +kernel
theorem own_d5_19 : decode prog_4_method_7_code 19 = .ok (.i2b, 1) := by decide +kernel
theorem own_d5_20 : decode prog_4_method_7_code 20 = .ok (.bastore, 1) := by decide +kernel
theorem own_d5_21 : decode prog_4_method_7_code 21 = .ok (.return_, 1) := by decide +kernel
theorem ef_own_ms2 (m : MethodId) (a1 : Addr) (p2 : Int32) (p3 : Int32) : entryFrame m #[(.ref a1), (.int p2), (.int p3)] 3 = mkF m 0 #[.val (.ref a1), .val (.int p2), .val (.int p3)] [] := by first | (simp [entryFrame, mkF, argsToLocals, Value.category]; done) | rfl
set_option maxRecDepth 65536 in
set_option maxHeartbeats 40000000 in
theorem own_ms2 (l : Launch) (Z : State) (a0 : Array Value) (hw : ∀ d ∈ tables_1, d.before a0 Z = true) (ws : List Jvm.Cond) (a1 : Addr) (p2 : Int32) (p3 : Int32) (b : Addr) (ln : Int32) (f : Nat → Int32) (h0 : Heap) (n0 : Nat) (Z0 : n0 ≤ h0.size) (E_a1 : Exa Z h0 a1 "com/example/meddle/meddle/ClassFile$Bytes") (F_b : Fld Z h0 a1 "com/example/meddle/meddle/ClassFile$Bytes" "bytes" "[B" (.ref b)) (F_l : Fld Z h0 a1 "com/example/meddle/meddle/ClassFile$Bytes" "length" "I" (.int ln)) (A_b : Arb Z h0 b 256 f) (g_b : n0 ≤ b) (ne_ab : a1 ≠ b) (hi0 : own_in p2) (hi1 : own_in (p2 + (1 : Int32))) :
    Met l Z (⟨"com/example/meddle/meddle/ClassFile$Bytes", "set2", "(II)V"⟩ : MethodName) prog_4_method_7_code 3 none ws ({ frames := 0, cells := 0, slots := 0, locals := 0 } : Room) #[(.ref a1), (.int p2), (.int p3)] h0 (fun v h L => v = none ∧ Fr n0 L ∧ Keep h0 h [b] ∧ Arb Z h b 256 (own_s2 f p2 p3)) := by
  refine Met.of (plainFor_of_name own_pn0) ?_
  intro p e s m below meth c T0 hx hby hml hk hret hnm hown hZ X0 e0
  have N0 := Fr.nil n0
  refine Go.cast (ef_own_ms2 m a1 p2 p3) ?_
  have K0 := Keep.refl h0 [b]
  show Go p e below _ T0 (mkF m 0 #[.val (.ref a1), .val (.int p2), .val (.int p3)] [])
  refine Go.via (fun _ k => XS.aloadN X0.here hx rfl (hb hby own_d5_0) rfl (by rfl) k) ?_
  show Go p e below _ T0 (mkF m 1 #[.val (.ref a1), .val (.int p2), .val (.int p3)] [(.ref a1)])
  obtain ⟨T1, X1, e1, st1⟩ := getF X0 hx hZ hown (host := "") (Or.inl (hw _ (List.mem_of_getElem? (i := 11) rfl))) Via.refl e0 F_b (g := (mkF m 1 #[.val (.ref a1), .val (.int p2), .val (.int p3)] [(.ref a1)])) rfl rfl (hb hby own_d5_1)
  refine Go.via (fun _ k => st1 _ k) ?_
  show Go p e below _ T1 (mkF m 4 #[.val (.ref a1), .val (.int p2), .val (.int p3)] [(.ref b)])
  refine Go.via (fun _ k => XS.iloadN X1.here hx rfl (hb hby own_d5_4) rfl  k) ?_
  show Go p e below _ T1 (mkF m 5 #[.val (.ref a1), .val (.int p2), .val (.int p3)] [(.int p2), (.ref b)])
  refine Go.via (fun _ k => XS.iloadN X1.here hx rfl (hb hby own_d5_5) rfl  k) ?_
  show Go p e below _ T1 (mkF m 6 #[.val (.ref a1), .val (.int p2), .val (.int p3)] [(.int p3), (.int p2), (.ref b)])
  refine Go.via (fun _ k => XS.bipush X1.here hx rfl (hb hby own_d5_6) k) ?_
  show Go p e below _ T1 (mkF m 8 #[.val (.ref a1), .val (.int p2), .val (.int p3)] [(.int (8 : Int32)), (.int p3), (.int p2), (.ref b)])
  refine Go.via (fun _ k => XS.iushr X1.here hx rfl (hb hby own_d5_8) rfl k) ?_
  show Go p e below _ T1 (mkF m 9 #[.val (.ref a1), .val (.int p2), .val (.int p3)] [(.int ((p3.toUInt32 >>> ((8 : Int32) &&& 31).toUInt32).toInt32)), (.int p2), (.ref b)])
  refine Go.via (fun _ k => XS.i2b X1.here hx rfl (hb hby own_d5_9) rfl k) ?_
  show Go p e below _ T1 (mkF m 10 #[.val (.ref a1), .val (.int p2), .val (.int p3)] [(.int (((p3.toUInt32 >>> ((8 : Int32) &&& 31).toUInt32).toInt32).toInt8.toInt32)), (.int p2), (.ref b)])
  obtain ⟨T2, h2, X2, e2, W2, B2, st2⟩ := stArb X1 hx hZ e1 A_b (j := p2) (x := (((p3.toUInt32 >>> ((8 : Int32) &&& 31).toUInt32).toInt32).toInt8.toInt32)) hi0 (g := (mkF m 10 #[.val (.ref a1), .val (.int p2), .val (.int p3)] [(.int (((p3.toUInt32 >>> ((8 : Int32) &&& 31).toUInt32).toInt32).toInt8.toInt32)), (.int p2), (.ref b)])) rfl rfl (hb hby own_d5_10)
  refine Go.via (fun _ k => st2 _ k) ?_
  have Z2 : n0 ≤ h2.size := by rw [W2.size]; exact Z0
  have N2 := Fr.snoc X2 N0 g_b
  have E_a1_2 := E_a1.wr W2
  have F_b_2 := F_b.other W2 (Or.inl ne_ab)
  have F_l_2 := F_l.other W2 (Or.inl ne_ab)
  have K0_2 := K0.wr W2 (Or.inl (by simp))
  show Go p e below _ T2 (mkF m 11 #[.val (.ref a1), .val (.int p2), .val (.int p3)] [])
  refine Go.via (fun _ k => XS.aloadN X2.here hx rfl (hb hby own_d5_11) rfl (by rfl) k) ?_
  show Go p e below _ T2 (mkF m 12 #[.val (.ref a1), .val (.int p2), .val (.int p3)] [(.ref a1)])
  obtain ⟨T3, X3, e3, st3⟩ := getF X2 hx hZ hown (host := "") (Or.inl (hw _ (List.mem_of_getElem? (i := 11) rfl))) Via.refl e2 F_b_2 (g := (mkF m 12 #[.val (.ref a1), .val (.int p2), .val (.int p3)] [(.ref a1)])) rfl rfl (hb hby own_d5_12)
  refine Go.via (fun _ k => st3 _ k) ?_
  show Go p e below _ T3 (mkF m 15 #[.val (.ref a1), .val (.int p2), .val (.int p3)] [(.ref b)])
  refine Go.via (fun _ k => XS.iloadN X3.here hx rfl (hb hby own_d5_15) rfl  k) ?_
  show Go p e below _ T3 (mkF m 16 #[.val (.ref a1), .val (.int p2), .val (.int p3)] [(.int p2), (.ref b)])
  refine Go.via (fun _ k => XS.iconst X3.here hx rfl (hb hby own_d5_16) k) ?_
  show Go p e below _ T3 (mkF m 17 #[.val (.ref a1), .val (.int p2), .val (.int p3)] [(.int (1 : Int32)), (.int p2), (.ref b)])
  refine Go.via (fun _ k => XS.iadd X3.here hx rfl (hb hby own_d5_17) rfl k) ?_
  show Go p e below _ T3 (mkF m 18 #[.val (.ref a1), .val (.int p2), .val (.int p3)] [(.int (p2 + (1 : Int32))), (.ref b)])
  refine Go.via (fun _ k => XS.iloadN X3.here hx rfl (hb hby own_d5_18) rfl  k) ?_
  show Go p e below _ T3 (mkF m 19 #[.val (.ref a1), .val (.int p2), .val (.int p3)] [(.int p3), (.int (p2 + (1 : Int32))), (.ref b)])
  refine Go.via (fun _ k => XS.i2b X3.here hx rfl (hb hby own_d5_19) rfl k) ?_
  show Go p e below _ T3 (mkF m 20 #[.val (.ref a1), .val (.int p2), .val (.int p3)] [(.int (p3.toInt8.toInt32)), (.int (p2 + (1 : Int32))), (.ref b)])
  obtain ⟨T4, h4, X4, e4, W4, B4, st4⟩ := stArb X3 hx hZ e3 B2 (j := (p2 + (1 : Int32))) (x := (p3.toInt8.toInt32)) hi1 (g := (mkF m 20 #[.val (.ref a1), .val (.int p2), .val (.int p3)] [(.int (p3.toInt8.toInt32)), (.int (p2 + (1 : Int32))), (.ref b)])) rfl rfl (hb hby own_d5_20)
  refine Go.via (fun _ k => st4 _ k) ?_
  have Z4 : n0 ≤ h4.size := by rw [W4.size]; exact Z2
  have N4 := Fr.snoc X4 N2 g_b
  have E_a1_2_4 := E_a1_2.wr W4
  have F_b_2_4 := F_b_2.other W4 (Or.inl ne_ab)
  have F_l_2_4 := F_l_2.other W4 (Or.inl ne_ab)
  have K0_2_4 := K0_2.wr W4 (Or.inl (by simp))
  show Go p e below _ T4 (mkF m 21 #[.val (.ref a1), .val (.int p2), .val (.int p3)] [])
  refine Go.retV X4 hx hk hret (hb hby own_d5_21) (by decide) (by decide) ?_
  rw [e4]
  exact ⟨rfl, N4, K0_2_4, B4⟩
theorem own_d8_0 : decode jdk_29_method_69_code 0 = .ok (.iload_n 0, 1) := by decide +kernel
theorem own_d8_1 : decode jdk_29_method_69_code 1 = .ok (.iload_n 1, 1) := by decide +kernel
theorem own_d8_2 : decode jdk_29_method_69_code 2 = .ok (.if_icmp .gt 7, 3) := by decide +kernel
theorem own_d8_5 : decode jdk_29_method_69_code 5 = .ok (.iload_n 0, 1) := by decide +kernel
theorem own_d8_6 : decode jdk_29_method_69_code 6 = .ok (.goto 4, 3) := by decide +kernel
theorem own_d8_9 : decode jdk_29_method_69_code 9 = .ok (.iload_n 1, 1) := by decide +kernel
theorem own_d8_10 : decode jdk_29_method_69_code 10 = .ok (.ireturn, 1) := by decide +kernel
theorem ef_own_mmin (m : MethodId) (p1 : Int32) (p2 : Int32) : entryFrame m #[(.int p1), (.int p2)] 2 = mkF m 0 #[.val (.int p1), .val (.int p2)] [] := by first | (simp [entryFrame, mkF, argsToLocals, Value.category]; done) | rfl
set_option maxRecDepth 65536 in
set_option maxHeartbeats 40000000 in
theorem own_mmin (l : Launch) (Z : State) (a0 : Array Value) (hw : ∀ d ∈ tables_1, d.before a0 Z = true) (ws : List Jvm.Cond) (p1 : Int32) (p2 : Int32)  (h0 : Heap) (n0 : Nat) (Z0 : n0 ≤ h0.size)  :
    Met l Z (⟨"java/lang/Math", "min", "(II)I"⟩ : MethodName) jdk_29_method_69_code 2 (some .int) ws ({ frames := 0, cells := 0, slots := 0, locals := 0 } : Room) #[(.int p1), (.int p2)] h0 (fun v h L => v = some (.int (own_min p1 p2)) ∧ Fr n0 L ∧ h = h0) := by
  refine Met.of (Jvm.Free.JP.mathPlain rfl (by decide +kernel)) ?_
  intro p e s m below meth c T0 hx hby hml hk hret hnm hown hZ X0 e0
  have N0 := Fr.nil n0
  refine Go.cast (ef_own_mmin m p1 p2) ?_
  show Go p e below _ T0 (mkF m 0 #[.val (.int p1), .val (.int p2)] [])
  refine Go.via (fun _ k => XS.iloadN X0.here hx rfl (hb hby own_d8_0) rfl  k) ?_
  show Go p e below _ T0 (mkF m 1 #[.val (.int p1), .val (.int p2)] [(.int p1)])
  refine Go.via (fun _ k => XS.iloadN X0.here hx rfl (hb hby own_d8_1) rfl  k) ?_
  show Go p e below _ T0 (mkF m 2 #[.val (.int p1), .val (.int p2)] [(.int p2), (.int p1)])
  by_cases hc2 : p2 < p1
  · skip
    refine Go.via (fun _ k => XS.icmpYes X0.here hx rfl (pc0 := 2) (pc' := 9) rfl (hb hby own_d8_2) rfl (tlt hc2).2.2.1 (by decide) (by decide) k) ?_
    show Go p e below _ T0 (mkF m 9 #[.val (.int p1), .val (.int p2)] [])
    refine Go.via (fun _ k => XS.iloadN X0.here hx rfl (hb hby own_d8_9) rfl  k) ?_
    show Go p e below _ T0 (mkF m 10 #[.val (.int p1), .val (.int p2)] [(.int p2)])
    refine Go.retI X0 hx hk hret (hb hby own_d8_10) (by decide) (by decide) ?_
    exact ⟨by rw [show own_min p1 p2 = _ from if_pos hc2], N0, e0⟩
  · skip
    refine Go.via (fun _ k => XS.icmpNo X0.here hx rfl (hb hby own_d8_2) rfl (flt hc2).2.2.1 k) ?_
    show Go p e below _ T0 (mkF m 5 #[.val (.int p1), .val (.int p2)] [])
    refine Go.via (fun _ k => XS.iloadN X0.here hx rfl (hb hby own_d8_5) rfl  k) ?_
    show Go p e below _ T0 (mkF m 6 #[.val (.int p1), .val (.int p2)] [(.int p1)])
    refine Go.via (fun _ k => XS.goto X0.here hx rfl (pc0 := 6) (pc' := 10) rfl (hb hby own_d8_6) (by decide) (by decide) k) ?_
    show Go p e below _ T0 (mkF m 10 #[.val (.int p1), .val (.int p2)] [(.int p1)])
    refine Go.retI X0 hx hk hret (hb hby own_d8_10) (by decide) (by decide) ?_
    exact ⟨by rw [show own_min p1 p2 = _ from if_neg hc2], N0, e0⟩
theorem own_d7_0 : decode jdk_65_method_121_code 0 = .ok (.iload_n 1, 1) := by decide +kernel
theorem own_d7_1 : decode jdk_65_method_121_code 1 = .ok (.aload_n 0, 1) := by decide +kernel
theorem own_d7_2 : decode jdk_65_method_121_code 2 = .ok (.arraylength, 1) := by decide +kernel
theorem own_d7_3 : decode jdk_65_method_121_code 3 = .ok (.if_icmp .ne 11, 3) := by decide +kernel
theorem own_d7_6 : decode jdk_65_method_121_code 6 = .ok (.aload_n 0, 1) := by decide +kernel
theorem own_d7_7 : decode jdk_65_method_121_code 7 = .ok (.invokevirtual 310, 3) := by decide +kernel
theorem own_d7_10 : decode jdk_65_method_121_code 10 = .ok (.checkcast 311, 3) := by decide +kernel
theorem own_d7_13 : decode jdk_65_method_121_code 13 = .ok (.areturn, 1) := by decide +kernel
theorem own_d7_14 : decode jdk_65_method_121_code 14 = .ok (.iload_n 1, 1) := by decide +kernel
theorem own_d7_15 : decode jdk_65_method_121_code 15 = .ok (.newarray .byte, 2) := by decide +kernel
theorem own_d7_17 : decode jdk_65_method_121_code 17 = .ok (.astore_n 2, 1) := by decide +kernel
theorem own_d7_18 : decode jdk_65_method_121_code 18 = .ok (.aload_n 0, 1) := by decide +kernel
theorem own_d7_19 : decode jdk_65_method_121_code 19 = .ok (.iconst 0, 1) := by decide +kernel
theorem own_d7_20 : decode jdk_65_method_121_code 20 = .ok (.aload_n 2, 1) := by decide +kernel
theorem own_d7_21 : decode jdk_65_method_121_code 21 = .ok (.iconst 0, 1) := by decide +kernel
theorem own_d7_22 : decode jdk_65_method_121_code 22 = .ok (.aload_n 0, 1) := by decide +kernel
theorem own_d7_23 : decode jdk_65_method_121_code 23 = .ok (.arraylength, 1) := by decide +kernel
theorem own_d7_24 : decode jdk_65_method_121_code 24 = .ok (.iload_n 1, 1) := by decide +kernel
theorem own_d7_25 : decode jdk_65_method_121_code 25 = .ok (.invokestatic 304, 3) := by decide +kernel
theorem own_d7_28 : decode jdk_65_method_121_code 28 = .ok (.invokestatic 150, 3) := by decide +kernel
theorem own_d7_31 : decode jdk_65_method_121_code 31 = .ok (.aload_n 2, 1) := by decide +kernel
theorem own_d7_32 : decode jdk_65_method_121_code 32 = .ok (.areturn, 1) := by decide +kernel
theorem own_pn1 : plainName "java/util/Arrays" = true := by first | (simp [plainName, overriddenIn]; done) | decide +kernel
theorem ef_own_mco (m : MethodId) (a1 : Addr) : entryFrame m #[(.ref a1), (.int (8 : Int32))] 3 = mkF m 0 #[.val (.ref a1), .val (.int (8 : Int32)), .unset] [] := by first | (simp [entryFrame, mkF, argsToLocals, Value.category]; done) | rfl
set_option maxRecDepth 65536 in
set_option maxHeartbeats 40000000 in
theorem own_mco (l : Launch) (Z : State) (a0 : Array Value) (hw : ∀ d ∈ tables_1, d.before a0 Z = true) (ws : List Jvm.Cond) (a1 : Addr) (f : Nat → Int32) (h0 : Heap) (n0 : Nat) (Z0 : n0 ≤ h0.size) (A_b : Arb Z h0 a1 256 f) :
    Met l Z (⟨"java/util/Arrays", "copyOf", "([BI)[B"⟩ : MethodName) jdk_65_method_121_code 3 (some (.array .byte)) ws ({ frames := 1, cells := 1, slots := 8, locals := 18 } : Room) #[(.ref a1), (.int (8 : Int32))] h0 (fun v h L => ∃ r : Addr, v = some (.ref r) ∧ Fr n0 L ∧ Keep h0 h [] ∧ Arb Z h r 8 f ∧ n0 ≤ r ∧ ∀ y, y < h0.size → y ≠ r) := by
  refine Met.of (plainFor_of_name own_pn1) ?_
  intro p e s m below meth c T0 hx hby hml hk hret hnm hown hZ X0 e0
  have N0 := Fr.nil n0
  refine Go.cast (ef_own_mco m a1) ?_
  have K0 := Keep.refl h0 []
  show Go p e below _ T0 (mkF m 0 #[.val (.ref a1), .val (.int (8 : Int32)), .unset] [])
  refine Go.via (fun _ k => XS.iloadN X0.here hx rfl (hb hby own_d7_0) rfl  k) ?_
  show Go p e below _ T0 (mkF m 1 #[.val (.ref a1), .val (.int (8 : Int32)), .unset] [(.int (8 : Int32))])
  refine Go.via (fun _ k => XS.aloadN X0.here hx rfl (hb hby own_d7_1) rfl (by rfl) k) ?_
  show Go p e below _ T0 (mkF m 2 #[.val (.ref a1), .val (.int (8 : Int32)), .unset] [(.ref a1), (.int (8 : Int32))])
  refine Go.via (fun _ k => lenArb X0 hx hZ e0 A_b (z := (256 : Int32)) rfl (g := (mkF m 2 #[.val (.ref a1), .val (.int (8 : Int32)), .unset] [(.ref a1), (.int (8 : Int32))])) rfl rfl (hb hby own_d7_2) _ k) ?_
  show Go p e below _ T0 (mkF m 3 #[.val (.ref a1), .val (.int (8 : Int32)), .unset] [(.int (256 : Int32)), (.int (8 : Int32))])
  have hc3 : ¬ ((8 : Int32) = (256 : Int32)) := (by decide)
  refine Go.via (fun _ k => XS.icmpYes X0.here hx rfl (pc0 := 3) (pc' := 14) rfl (hb hby own_d7_3) rfl (feq hc3).2 (by decide) (by decide) k) ?_
  show Go p e below _ T0 (mkF m 14 #[.val (.ref a1), .val (.int (8 : Int32)), .unset] [])
  refine Go.via (fun _ k => XS.iloadN X0.here hx rfl (hb hby own_d7_14) rfl  k) ?_
  show Go p e below _ T0 (mkF m 15 #[.val (.ref a1), .val (.int (8 : Int32)), .unset] [(.int (8 : Int32))])
  obtain ⟨T1, h1, k1, X1, e1, E1, A1, st1⟩ := newP X0 hx hZ (hw _ (List.mem_of_getElem? (i := 10) rfl)) e0 (g := (mkF m 15 #[.val (.ref a1), .val (.int (8 : Int32)), .unset] [(.int (8 : Int32))])) rfl (hb hby own_d7_15) rfl (by decide) (cap := 8) (by decide) (by decide) (by decide) (by decide)
  obtain ⟨b1, g1⟩ : ∃ z, z = h0.size := ⟨_, rfl⟩
  rw [← g1] at A1 st1
  refine Go.via (fun _ k => st1 _ k) ?_
  have ge_b1 : n0 ≤ b1 := Nat.le_trans Z0 (Nat.le_of_eq g1.symm)
  have Z1 : n0 ≤ h1.size := Nat.le_trans Z0 E1.1
  have A_b_1 := A_b.ext E1
  have ne_a1_b1 : a1 ≠ b1 := fun q => Nat.lt_irrefl _ (Nat.lt_of_lt_of_le A_b.lt (Nat.le_of_eq (g1.symm.trans q.symm)))
  have K0_1 := K0.ext E1
  have sz_b1 : h0.size ≤ b1 := Nat.le_trans K0.1 (Nat.le_of_eq g1.symm)
  have B1 : Arb Z h1 b1 8 (fun _ => 0) := Arb.new A1 rfl
  show Go p e below _ T1 (mkF m 17 #[.val (.ref a1), .val (.int (8 : Int32)), .unset] [(.ref b1)])
  refine Go.via (fun _ k => XS.astoreN X1.here hx rfl (hb hby own_d7_17) rfl (by rfl) (l' := #[.val (.ref a1), .val (.int (8 : Int32)), .val (.ref b1)]) rfl k) ?_
  show Go p e below _ T1 (mkF m 18 #[.val (.ref a1), .val (.int (8 : Int32)), .val (.ref b1)] [])
  refine Go.via (fun _ k => XS.aloadN X1.here hx rfl (hb hby own_d7_18) rfl (by rfl) k) ?_
  show Go p e below _ T1 (mkF m 19 #[.val (.ref a1), .val (.int (8 : Int32)), .val (.ref b1)] [(.ref a1)])
  refine Go.via (fun _ k => XS.iconst X1.here hx rfl (hb hby own_d7_19) k) ?_
  show Go p e below _ T1 (mkF m 20 #[.val (.ref a1), .val (.int (8 : Int32)), .val (.ref b1)] [(.int (0 : Int32)), (.ref a1)])
  refine Go.via (fun _ k => XS.aloadN X1.here hx rfl (hb hby own_d7_20) rfl (by rfl) k) ?_
  show Go p e below _ T1 (mkF m 21 #[.val (.ref a1), .val (.int (8 : Int32)), .val (.ref b1)] [(.ref b1), (.int (0 : Int32)), (.ref a1)])
  refine Go.via (fun _ k => XS.iconst X1.here hx rfl (hb hby own_d7_21) k) ?_
  show Go p e below _ T1 (mkF m 22 #[.val (.ref a1), .val (.int (8 : Int32)), .val (.ref b1)] [(.int (0 : Int32)), (.ref b1), (.int (0 : Int32)), (.ref a1)])
  refine Go.via (fun _ k => XS.aloadN X1.here hx rfl (hb hby own_d7_22) rfl (by rfl) k) ?_
  show Go p e below _ T1 (mkF m 23 #[.val (.ref a1), .val (.int (8 : Int32)), .val (.ref b1)] [(.ref a1), (.int (0 : Int32)), (.ref b1), (.int (0 : Int32)), (.ref a1)])
  refine Go.via (fun _ k => lenArb X1 hx hZ e1 A_b_1 (z := (256 : Int32)) rfl (g := (mkF m 23 #[.val (.ref a1), .val (.int (8 : Int32)), .val (.ref b1)] [(.ref a1), (.int (0 : Int32)), (.ref b1), (.int (0 : Int32)), (.ref a1)])) rfl rfl (hb hby own_d7_23) _ k) ?_
  show Go p e below _ T1 (mkF m 24 #[.val (.ref a1), .val (.int (8 : Int32)), .val (.ref b1)] [(.int (256 : Int32)), (.int (0 : Int32)), (.ref b1), (.int (0 : Int32)), (.ref a1)])
  refine Go.via (fun _ k => XS.iloadN X1.here hx rfl (hb hby own_d7_24) rfl  k) ?_
  show Go p e below _ T1 (mkF m 25 #[.val (.ref a1), .val (.int (8 : Int32)), .val (.ref b1)] [(.int (8 : Int32)), (.int (256 : Int32)), (.int (0 : Int32)), (.ref b1), (.int (0 : Int32)), (.ref a1)])
  obtain ⟨v2, T2, L2, X2, ⟨rfl, Nq2, eq2⟩, st2⟩ := Go.callS X1 hx hZ hown e1 (hw _ (List.mem_of_getElem? (i := 38) rfl)) (hw _ (List.mem_of_getElem? (i := 39) rfl)) (hw _ (List.mem_of_getElem? (i := 40) rfl)) (hw _ (List.mem_of_getElem? (i := 41) rfl)) (by decide) (own_mmin l Z a0 hw [] (256 : Int32) (8 : Int32)  h1 n0 Z1 ) (pc := 25) (Ls := #[.val (.ref a1), .val (.int (8 : Int32)), .val (.ref b1)]) (argsL := [(.int (256 : Int32)), (.int (8 : Int32))]) (rest := [(.int (0 : Int32)), (.ref b1), (.int (0 : Int32)), (.ref a1)]) own_pd1 rfl rfl (by rw [hml]; rfl) (hb hby own_d7_25) (W := 4) (Nat.le_of_eq rfl) (by decide) (by decide) (by decide) (by decide)
  refine st2 ?_
  have N2 := Fr.app N0 Nq2
  show Go p e below _ T2 (mkF m 28 #[.val (.ref a1), .val (.int (8 : Int32)), .val (.ref b1)] [(.int (own_min (256 : Int32) (8 : Int32))), (.int (0 : Int32)), (.ref b1), (.int (0 : Int32)), (.ref a1)])
  obtain ⟨T3, h3, L3, X3, e3, N3, K3, B3, st3⟩ := cpArb X2 hx hZ hown (hw _ (List.mem_of_getElem? (i := 42) rfl)) (hw _ (List.mem_of_getElem? (i := 45) rfl)) (hw _ (List.mem_of_getElem? (i := 43) rfl)) (hw _ (List.mem_of_getElem? (i := 44) rfl)) eq2 (z := (256 : Int32)) (z' := (8 : Int32)) (nn := (own_min (256 : Int32) (8 : Int32))) A_b_1 B1 (by decide) rfl (by decide) rfl (by decide) (by decide) (by decide) N2 ge_b1 (g := (mkF m 28 #[.val (.ref a1), .val (.int (8 : Int32)), .val (.ref b1)] [(.int (own_min (256 : Int32) (8 : Int32))), (.int (0 : Int32)), (.ref b1), (.int (0 : Int32)), (.ref a1)])) rfl (by rw [hml]; rfl) rfl (hb hby own_d7_28) (by decide) (W := 0) (by show 2 * 0 + _ ≤ _; exact Nat.le_of_eq rfl) (by decide)
  refine Go.via (fun _ k => st3 _ k) ?_
  have Z3 : n0 ≤ h3.size := Nat.le_trans Z1 K3.1
  have A_b_1_3 := A_b_1.keep K3 (ninS ne_a1_b1 (nin0))
  have K0_1_3 := K0_1.trans K3 (allS (Or.inr sz_b1) all0)
  show Go p e below _ T3 (mkF m 31 #[.val (.ref a1), .val (.int (8 : Int32)), .val (.ref b1)] [])
  refine Go.via (fun _ k => XS.aloadN X3.here hx rfl (hb hby own_d7_31) rfl (by rfl) k) ?_
  show Go p e below _ T3 (mkF m 32 #[.val (.ref a1), .val (.int (8 : Int32)), .val (.ref b1)] [(.ref b1)])
  refine Go.retA X3 hx hk hret rfl (Or.inr (Or.inr (Or.inr (Or.inr ⟨rfl, rfl, rfl⟩)))) (hb hby own_d7_32) (by decide) (by decide) ?_
  rw [e3]
  exact ⟨b1, rfl, N3, K0_1_3, Arb.congr B3 (fun i hi => if_pos hi), ge_b1, fun y hy => Nat.ne_of_lt (Nat.lt_of_lt_of_le hy sz_b1)⟩
theorem own_d6_0 : decode prog_4_method_11_code 0 = .ok (.aload_n 0, 1) := by decide +kernel
theorem own_d6_1 : decode prog_4_method_11_code 1 = .ok (.getfield 7, 3) := by decide +kernel
theorem own_d6_4 : decode prog_4_method_11_code 4 = .ok (.aload_n 0, 1) := by decide +kernel
theorem own_d6_5 : decode prog_4_method_11_code 5 = .ok (.getfield 13, 3) := by decide +kernel
theorem own_d6_8 : decode prog_4_method_11_code 8 = .ok (.invokestatic 46, 3) := by decide +kernel
theorem own_d6_11 : decode prog_4_method_11_code 11 = .ok (.areturn, 1) := by decide +kernel
theorem ef_own_mta (m : MethodId) (a1 : Addr) : entryFrame m #[(.ref a1)] 1 = mkF m 0 #[.val (.ref a1)] [] := by first | (simp [entryFrame, mkF, argsToLocals, Value.category]; done) | rfl
set_option maxRecDepth 65536 in
set_option maxHeartbeats 40000000 in
theorem own_mta (l : Launch) (Z : State) (a0 : Array Value) (hw : ∀ d ∈ tables_1, d.before a0 Z = true) (ws : List Jvm.Cond) (a1 : Addr) (b : Addr) (f : Nat → Int32) (h0 : Heap) (n0 : Nat) (Z0 : n0 ≤ h0.size) (E_a1 : Exa Z h0 a1 "com/example/meddle/meddle/ClassFile$Bytes") (F_b : Fld Z h0 a1 "com/example/meddle/meddle/ClassFile$Bytes" "bytes" "[B" (.ref b)) (F_l : Fld Z h0 a1 "com/example/meddle/meddle/ClassFile$Bytes" "length" "I" (.int (8 : Int32))) (A_b : Arb Z h0 b 256 f) :
    Met l Z (⟨"com/example/meddle/meddle/ClassFile$Bytes", "toArray", "()[B"⟩ : MethodName) prog_4_method_11_code 1 (some (.array .byte)) ws ({ frames := 2, cells := 1, slots := 8, locals := 32 } : Room) #[(.ref a1)] h0 (fun v h L => ∃ r : Addr, v = some (.ref r) ∧ Fr n0 L ∧ Keep h0 h [] ∧ Arb Z h r 8 f ∧ n0 ≤ r ∧ ∀ y, y < h0.size → y ≠ r) := by
  refine Met.of (plainFor_of_name own_pn0) ?_
  intro p e s m below meth c T0 hx hby hml hk hret hnm hown hZ X0 e0
  have N0 := Fr.nil n0
  refine Go.cast (ef_own_mta m a1) ?_
  have K0 := Keep.refl h0 []
  show Go p e below _ T0 (mkF m 0 #[.val (.ref a1)] [])
  refine Go.via (fun _ k => XS.aloadN X0.here hx rfl (hb hby own_d6_0) rfl (by rfl) k) ?_
  show Go p e below _ T0 (mkF m 1 #[.val (.ref a1)] [(.ref a1)])
  obtain ⟨T1, X1, e1, st1⟩ := getF X0 hx hZ hown (host := "") (Or.inl (hw _ (List.mem_of_getElem? (i := 11) rfl))) Via.refl e0 F_b (g := (mkF m 1 #[.val (.ref a1)] [(.ref a1)])) rfl rfl (hb hby own_d6_1)
  refine Go.via (fun _ k => st1 _ k) ?_
  show Go p e below _ T1 (mkF m 4 #[.val (.ref a1)] [(.ref b)])
  refine Go.via (fun _ k => XS.aloadN X1.here hx rfl (hb hby own_d6_4) rfl (by rfl) k) ?_
  show Go p e below _ T1 (mkF m 5 #[.val (.ref a1)] [(.ref a1), (.ref b)])
  obtain ⟨T2, X2, e2, st2⟩ := getF X1 hx hZ hown (host := "") (Or.inl (hw _ (List.mem_of_getElem? (i := 22) rfl))) Via.refl e1 F_l (g := (mkF m 5 #[.val (.ref a1)] [(.ref a1), (.ref b)])) rfl rfl (hb hby own_d6_5)
  refine Go.via (fun _ k => st2 _ k) ?_
  show Go p e below _ T2 (mkF m 8 #[.val (.ref a1)] [(.int (8 : Int32)), (.ref b)])
  obtain ⟨v3, T3, L3, X3, ⟨r3, rfl, Nq3, K3, Ar3, gr3, nr3⟩, st3⟩ := Go.callS X2 hx hZ hown e2 (hw _ (List.mem_of_getElem? (i := 34) rfl)) (hw _ (List.mem_of_getElem? (i := 35) rfl)) (hw _ (List.mem_of_getElem? (i := 36) rfl)) (hw _ (List.mem_of_getElem? (i := 37) rfl)) (by decide) (own_mco l Z a0 hw [] b f h0 n0 Z0 A_b) (pc := 8) (Ls := #[.val (.ref a1)]) (argsL := [(.ref b), (.int (8 : Int32))]) (rest := []) own_pd2 rfl rfl (by rw [hml]; rfl) (hb hby own_d6_8) (W := 0) (Nat.le_of_eq rfl) (by decide) (by decide) (by decide) (by decide)
  refine st3 ?_
  have N3 := Fr.app N0 Nq3
  have ne_a1_r3 : a1 ≠ r3 := nr3 _ E_a1.lt
  have ne_b_r3 : b ≠ r3 := nr3 _ A_b.lt
  have Z3 : n0 ≤ T3.heap.size := Nat.le_trans Z0 K3.1
  have E_a1_3 := E_a1.keep K3
  have F_b_3 := F_b.keep K3 (nin0)
  have F_l_3 := F_l.keep K3 (nin0)
  have A_b_3 := A_b.keep K3 (nin0)
  have K0_3 := K0.trans K3 all0
  have e3 : T3.heap = T3.heap := rfl
  show Go p e below _ T3 (mkF m 11 #[.val (.ref a1)] [(.ref r3)])
  refine Go.retA X3 hx hk hret rfl (Or.inr (Or.inr (Or.inr (Or.inr ⟨rfl, rfl, rfl⟩)))) (hb hby own_d6_11) (by decide) (by decide) ?_
  rw [e3]
  exact ⟨r3, rfl, N3, K0_3, Ar3, gr3, fun y hy => nr3 y hy⟩
theorem own_d9_0 : decode prog_4_method_2_code 0 = .ok (.aload_n 0, 1) := by decide +kernel
theorem own_d9_1 : decode prog_4_method_2_code 1 = .ok (.getfield 13, 3) := by decide +kernel
theorem own_d9_4 : decode prog_4_method_2_code 4 = .ok (.ireturn, 1) := by decide +kernel
theorem ef_own_mle (m : MethodId) (a1 : Addr) : entryFrame m #[(.ref a1)] 1 = mkF m 0 #[.val (.ref a1)] [] := by first | (simp [entryFrame, mkF, argsToLocals, Value.category]; done) | rfl
set_option maxRecDepth 65536 in
set_option maxHeartbeats 40000000 in
theorem own_mle (l : Launch) (Z : State) (a0 : Array Value) (hw : ∀ d ∈ tables_1, d.before a0 Z = true) (ws : List Jvm.Cond) (a1 : Addr) (ln : Int32) (h0 : Heap) (n0 : Nat) (Z0 : n0 ≤ h0.size) (F_l : Fld Z h0 a1 "com/example/meddle/meddle/ClassFile$Bytes" "length" "I" (.int ln)) :
    Met l Z (⟨"com/example/meddle/meddle/ClassFile$Bytes", "length", "()I"⟩ : MethodName) prog_4_method_2_code 1 (some .int) ws ({ frames := 0, cells := 0, slots := 0, locals := 0 } : Room) #[(.ref a1)] h0 (fun v h L => v = some (.int ln) ∧ Fr n0 L ∧ h = h0) := by
  refine Met.of (plainFor_of_name own_pn0) ?_
  intro p e s m below meth c T0 hx hby hml hk hret hnm hown hZ X0 e0
  have N0 := Fr.nil n0
  refine Go.cast (ef_own_mle m a1) ?_
  show Go p e below _ T0 (mkF m 0 #[.val (.ref a1)] [])
  refine Go.via (fun _ k => XS.aloadN X0.here hx rfl (hb hby own_d9_0) rfl (by rfl) k) ?_
  show Go p e below _ T0 (mkF m 1 #[.val (.ref a1)] [(.ref a1)])
  obtain ⟨T1, X1, e1, st1⟩ := getF X0 hx hZ hown (host := "") (Or.inl (hw _ (List.mem_of_getElem? (i := 22) rfl))) Via.refl e0 F_l (g := (mkF m 1 #[.val (.ref a1)] [(.ref a1)])) rfl rfl (hb hby own_d9_1)
  refine Go.via (fun _ k => st1 _ k) ?_
  show Go p e below _ T1 (mkF m 4 #[.val (.ref a1)] [(.int ln)])
  refine Go.retI X1 hx hk hret (hb hby own_d9_4) (by decide) (by decide) ?_
  exact ⟨rfl, N0, e1⟩
def own_orig (a b i : Int32) : Int32 := (own_sr (if i < 4 then a else b) (24 - (8 * (i &&& 3)))) &&& 255
def own_exp (i a b o v : Int32) : Int32 := if i = o then (v &&& 65280) / 256 else if i = o + (1 : Int32) then v &&& 255 else own_orig a b i
def own_F (a b o v : Int32) : Nat → Int32 := own_s2 (own_u4 (own_u4 (fun _ => 0) (0 : Int32) a) (4 : Int32) b) o v
def own_off (s : Int32) : Int32 := (s &&& 2147483647) % 7
theorem own_off7 (s : Int32) : own_off s = 0 ∨ own_off s = 1 ∨ own_off s = 2 ∨ own_off s = 3 ∨ own_off s = 4 ∨ own_off s = 5 ∨ own_off s = 6 := by
  have h1 := c_mask s 2147483647 31 (by decide) (by decide)
  have h2 := (c_irem (s &&& 2147483647) 7 7 rfl).1
  have h3 : (own_off s).toInt = (s &&& 2147483647).toInt % 7 := h2 (by rw [h1]; exact Int.emod_nonneg _ (by decide))
  have h4 : (own_off s).toInt = 0 ∨ (own_off s).toInt = 1 ∨ (own_off s).toInt = 2 ∨ (own_off s).toInt = 3 ∨ (own_off s).toInt = 4 ∨ (own_off s).toInt = 5 ∨ (own_off s).toInt = 6 := by omega
  simp only [← Int32.toInt_inj]
  exact h4
theorem own_i0 (s : Int32) : own_in (own_off s) := by
  rcases own_off7 s with h | h | h | h | h | h | h <;> rw [h] <;> exact ⟨by decide, by decide⟩
theorem own_i1 (s : Int32) : own_in (own_off s + (1 : Int32)) := by
  rcases own_off7 s with h | h | h | h | h | h | h <;> rw [h] <;> exact ⟨by decide, by decide⟩
theorem own_and8 (v : Int32) : (own_sr v 8) &&& 255 = (v &&& 65280) / 256 := by
  have h1 := c_iushr v 8 8 (by decide) (by decide)
  have h2 := c_mask (own_sr v 8) 255 8 (by decide) (by decide)
  have h3 := c_mask v 65535 16 (by decide) (by decide)
  have h4 := c_mask v 255 8 (by decide) (by decide)
  have h5 := c_and v 65280 (by decide)
  have h6 := (c_idiv (v &&& 65280) 256 256 rfl (by decide)).1 h5.1
  have h7 : (v &&& 65535) = (v &&& 65280) ||| (v &&& 255) := by
    rw [← Int32.toBitVec_inj]
    show v.toBitVec &&& 65535#32 = v.toBitVec &&& 65280#32 ||| v.toBitVec &&& 255#32
    rw [← BitVec.and_or_distrib_left]
    rfl
  have h9 : (v &&& 65280).toInt % 256 = 0 := by
    have q := c_mask (v &&& 65280) 255 8 (by decide) (by decide)
    have q2 : (v &&& 65280) &&& 255 = 0 := by
      rw [Int32.and_assoc, show ((65280 : Int32) &&& 255) = 0 by decide]
      rw [← Int32.toBitVec_inj]; show v.toBitVec &&& 0#32 = 0#32; simp
    rw [q2] at q
    exact q.symm
  have h8 := c_or (v &&& 65280) (v &&& 255) 8 (by decide) 256 rfl h9 (by rw [h4]; omega) (by rw [h4]; omega)
  rw [← h7] at h8
  have h10 := h5.2
  rw [show (65280 : Int32).toInt = 65280 from rfl] at h10
  rw [← Int32.toInt_inj, h6, h2]
  rw [show ((2 ^ 8 : Nat) : Int) = 256 from rfl] at *
  rw [show ((2 ^ 16 : Nat) : Int) = 65536 from rfl] at *
  have h11 : (own_sr v 8).toInt = v.toInt % 4294967296 / 256 := h1
  omega
theorem own_f0_0 (a b v : Int32) : (own_F a b 0 v (0 : Int32).toNatClampNeg) &&& 255 = own_exp 0 a b 0 v := by
  rw [show own_F a b 0 v (0 : Int32).toNatClampNeg = nar .byte ((own_sr v 8).toInt8.toInt32) from rfl, own_b255, show own_exp 0 a b 0 v = (v &&& 65280) / 256 from rfl]
  exact own_and8 v
theorem own_f0_1 (a b v : Int32) : (own_F a b 1 v (0 : Int32).toNatClampNeg) &&& 255 = own_exp 0 a b 1 v := by
  rw [show own_F a b 1 v (0 : Int32).toNatClampNeg = nar .byte ((own_sr a 24).toInt8.toInt32) from rfl, own_b255, show own_exp 0 a b 1 v = (own_sr a 24) &&& 255 from rfl]
theorem own_f0_2 (a b v : Int32) : (own_F a b 2 v (0 : Int32).toNatClampNeg) &&& 255 = own_exp 0 a b 2 v := by
  rw [show own_F a b 2 v (0 : Int32).toNatClampNeg = nar .byte ((own_sr a 24).toInt8.toInt32) from rfl, own_b255, show own_exp 0 a b 2 v = (own_sr a 24) &&& 255 from rfl]
theorem own_f0_3 (a b v : Int32) : (own_F a b 3 v (0 : Int32).toNatClampNeg) &&& 255 = own_exp 0 a b 3 v := by
  rw [show own_F a b 3 v (0 : Int32).toNatClampNeg = nar .byte ((own_sr a 24).toInt8.toInt32) from rfl, own_b255, show own_exp 0 a b 3 v = (own_sr a 24) &&& 255 from rfl]
theorem own_f0_4 (a b v : Int32) : (own_F a b 4 v (0 : Int32).toNatClampNeg) &&& 255 = own_exp 0 a b 4 v := by
  rw [show own_F a b 4 v (0 : Int32).toNatClampNeg = nar .byte ((own_sr a 24).toInt8.toInt32) from rfl, own_b255, show own_exp 0 a b 4 v = (own_sr a 24) &&& 255 from rfl]
theorem own_f0_5 (a b v : Int32) : (own_F a b 5 v (0 : Int32).toNatClampNeg) &&& 255 = own_exp 0 a b 5 v := by
  rw [show own_F a b 5 v (0 : Int32).toNatClampNeg = nar .byte ((own_sr a 24).toInt8.toInt32) from rfl, own_b255, show own_exp 0 a b 5 v = (own_sr a 24) &&& 255 from rfl]
theorem own_f0_6 (a b v : Int32) : (own_F a b 6 v (0 : Int32).toNatClampNeg) &&& 255 = own_exp 0 a b 6 v := by
  rw [show own_F a b 6 v (0 : Int32).toNatClampNeg = nar .byte ((own_sr a 24).toInt8.toInt32) from rfl, own_b255, show own_exp 0 a b 6 v = (own_sr a 24) &&& 255 from rfl]
theorem own_f0 (a b s v : Int32) : (own_F a b (own_off s) v (0 : Int32).toNatClampNeg) &&& 255 = own_exp 0 a b (own_off s) v := by
  rcases own_off7 s with h | h | h | h | h | h | h <;> rw [h]
  · exact own_f0_0 a b v
  · exact own_f0_1 a b v
  · exact own_f0_2 a b v
  · exact own_f0_3 a b v
  · exact own_f0_4 a b v
  · exact own_f0_5 a b v
  · exact own_f0_6 a b v
theorem own_f1_0 (a b v : Int32) : (own_F a b 0 v (1 : Int32).toNatClampNeg) &&& 255 = own_exp 1 a b 0 v := by
  rw [show own_F a b 0 v (1 : Int32).toNatClampNeg = nar .byte (v.toInt8.toInt32) from rfl, own_b255, show own_exp 1 a b 0 v = v &&& 255 from rfl]
theorem own_f1_1 (a b v : Int32) : (own_F a b 1 v (1 : Int32).toNatClampNeg) &&& 255 = own_exp 1 a b 1 v := by
  rw [show own_F a b 1 v (1 : Int32).toNatClampNeg = nar .byte ((own_sr v 8).toInt8.toInt32) from rfl, own_b255, show own_exp 1 a b 1 v = (v &&& 65280) / 256 from rfl]
  exact own_and8 v
theorem own_f1_2 (a b v : Int32) : (own_F a b 2 v (1 : Int32).toNatClampNeg) &&& 255 = own_exp 1 a b 2 v := by
  rw [show own_F a b 2 v (1 : Int32).toNatClampNeg = nar .byte ((own_sr a 16).toInt8.toInt32) from rfl, own_b255, show own_exp 1 a b 2 v = (own_sr a 16) &&& 255 from rfl]
theorem own_f1_3 (a b v : Int32) : (own_F a b 3 v (1 : Int32).toNatClampNeg) &&& 255 = own_exp 1 a b 3 v := by
  rw [show own_F a b 3 v (1 : Int32).toNatClampNeg = nar .byte ((own_sr a 16).toInt8.toInt32) from rfl, own_b255, show own_exp 1 a b 3 v = (own_sr a 16) &&& 255 from rfl]
theorem own_f1_4 (a b v : Int32) : (own_F a b 4 v (1 : Int32).toNatClampNeg) &&& 255 = own_exp 1 a b 4 v := by
  rw [show own_F a b 4 v (1 : Int32).toNatClampNeg = nar .byte ((own_sr a 16).toInt8.toInt32) from rfl, own_b255, show own_exp 1 a b 4 v = (own_sr a 16) &&& 255 from rfl]
theorem own_f1_5 (a b v : Int32) : (own_F a b 5 v (1 : Int32).toNatClampNeg) &&& 255 = own_exp 1 a b 5 v := by
  rw [show own_F a b 5 v (1 : Int32).toNatClampNeg = nar .byte ((own_sr a 16).toInt8.toInt32) from rfl, own_b255, show own_exp 1 a b 5 v = (own_sr a 16) &&& 255 from rfl]
theorem own_f1_6 (a b v : Int32) : (own_F a b 6 v (1 : Int32).toNatClampNeg) &&& 255 = own_exp 1 a b 6 v := by
  rw [show own_F a b 6 v (1 : Int32).toNatClampNeg = nar .byte ((own_sr a 16).toInt8.toInt32) from rfl, own_b255, show own_exp 1 a b 6 v = (own_sr a 16) &&& 255 from rfl]
theorem own_f1 (a b s v : Int32) : (own_F a b (own_off s) v (1 : Int32).toNatClampNeg) &&& 255 = own_exp 1 a b (own_off s) v := by
  rcases own_off7 s with h | h | h | h | h | h | h <;> rw [h]
  · exact own_f1_0 a b v
  · exact own_f1_1 a b v
  · exact own_f1_2 a b v
  · exact own_f1_3 a b v
  · exact own_f1_4 a b v
  · exact own_f1_5 a b v
  · exact own_f1_6 a b v
theorem own_f2_0 (a b v : Int32) : (own_F a b 0 v (2 : Int32).toNatClampNeg) &&& 255 = own_exp 2 a b 0 v := by
  rw [show own_F a b 0 v (2 : Int32).toNatClampNeg = nar .byte ((own_sr a 8).toInt8.toInt32) from rfl, own_b255, show own_exp 2 a b 0 v = (own_sr a 8) &&& 255 from rfl]
theorem own_f2_1 (a b v : Int32) : (own_F a b 1 v (2 : Int32).toNatClampNeg) &&& 255 = own_exp 2 a b 1 v := by
  rw [show own_F a b 1 v (2 : Int32).toNatClampNeg = nar .byte (v.toInt8.toInt32) from rfl, own_b255, show own_exp 2 a b 1 v = v &&& 255 from rfl]
theorem own_f2_2 (a b v : Int32) : (own_F a b 2 v (2 : Int32).toNatClampNeg) &&& 255 = own_exp 2 a b 2 v := by
  rw [show own_F a b 2 v (2 : Int32).toNatClampNeg = nar .byte ((own_sr v 8).toInt8.toInt32) from rfl, own_b255, show own_exp 2 a b 2 v = (v &&& 65280) / 256 from rfl]
  exact own_and8 v
theorem own_f2_3 (a b v : Int32) : (own_F a b 3 v (2 : Int32).toNatClampNeg) &&& 255 = own_exp 2 a b 3 v := by
  rw [show own_F a b 3 v (2 : Int32).toNatClampNeg = nar .byte ((own_sr a 8).toInt8.toInt32) from rfl, own_b255, show own_exp 2 a b 3 v = (own_sr a 8) &&& 255 from rfl]
theorem own_f2_4 (a b v : Int32) : (own_F a b 4 v (2 : Int32).toNatClampNeg) &&& 255 = own_exp 2 a b 4 v := by
  rw [show own_F a b 4 v (2 : Int32).toNatClampNeg = nar .byte ((own_sr a 8).toInt8.toInt32) from rfl, own_b255, show own_exp 2 a b 4 v = (own_sr a 8) &&& 255 from rfl]
theorem own_f2_5 (a b v : Int32) : (own_F a b 5 v (2 : Int32).toNatClampNeg) &&& 255 = own_exp 2 a b 5 v := by
  rw [show own_F a b 5 v (2 : Int32).toNatClampNeg = nar .byte ((own_sr a 8).toInt8.toInt32) from rfl, own_b255, show own_exp 2 a b 5 v = (own_sr a 8) &&& 255 from rfl]
theorem own_f2_6 (a b v : Int32) : (own_F a b 6 v (2 : Int32).toNatClampNeg) &&& 255 = own_exp 2 a b 6 v := by
  rw [show own_F a b 6 v (2 : Int32).toNatClampNeg = nar .byte ((own_sr a 8).toInt8.toInt32) from rfl, own_b255, show own_exp 2 a b 6 v = (own_sr a 8) &&& 255 from rfl]
theorem own_f2 (a b s v : Int32) : (own_F a b (own_off s) v (2 : Int32).toNatClampNeg) &&& 255 = own_exp 2 a b (own_off s) v := by
  rcases own_off7 s with h | h | h | h | h | h | h <;> rw [h]
  · exact own_f2_0 a b v
  · exact own_f2_1 a b v
  · exact own_f2_2 a b v
  · exact own_f2_3 a b v
  · exact own_f2_4 a b v
  · exact own_f2_5 a b v
  · exact own_f2_6 a b v
theorem own_f3_0 (a b v : Int32) : (own_F a b 0 v (3 : Int32).toNatClampNeg) &&& 255 = own_exp 3 a b 0 v := by
  rw [show own_F a b 0 v (3 : Int32).toNatClampNeg = nar .byte (a.toInt8.toInt32) from rfl, own_b255, show own_exp 3 a b 0 v = (own_sr a 0) &&& 255 from rfl]
  exact by rw [own_sr0]
theorem own_f3_1 (a b v : Int32) : (own_F a b 1 v (3 : Int32).toNatClampNeg) &&& 255 = own_exp 3 a b 1 v := by
  rw [show own_F a b 1 v (3 : Int32).toNatClampNeg = nar .byte (a.toInt8.toInt32) from rfl, own_b255, show own_exp 3 a b 1 v = (own_sr a 0) &&& 255 from rfl]
  exact by rw [own_sr0]
theorem own_f3_2 (a b v : Int32) : (own_F a b 2 v (3 : Int32).toNatClampNeg) &&& 255 = own_exp 3 a b 2 v := by
  rw [show own_F a b 2 v (3 : Int32).toNatClampNeg = nar .byte (v.toInt8.toInt32) from rfl, own_b255, show own_exp 3 a b 2 v = v &&& 255 from rfl]
theorem own_f3_3 (a b v : Int32) : (own_F a b 3 v (3 : Int32).toNatClampNeg) &&& 255 = own_exp 3 a b 3 v := by
  rw [show own_F a b 3 v (3 : Int32).toNatClampNeg = nar .byte ((own_sr v 8).toInt8.toInt32) from rfl, own_b255, show own_exp 3 a b 3 v = (v &&& 65280) / 256 from rfl]
  exact own_and8 v
theorem own_f3_4 (a b v : Int32) : (own_F a b 4 v (3 : Int32).toNatClampNeg) &&& 255 = own_exp 3 a b 4 v := by
  rw [show own_F a b 4 v (3 : Int32).toNatClampNeg = nar .byte (a.toInt8.toInt32) from rfl, own_b255, show own_exp 3 a b 4 v = (own_sr a 0) &&& 255 from rfl]
  exact by rw [own_sr0]
theorem own_f3_5 (a b v : Int32) : (own_F a b 5 v (3 : Int32).toNatClampNeg) &&& 255 = own_exp 3 a b 5 v := by
  rw [show own_F a b 5 v (3 : Int32).toNatClampNeg = nar .byte (a.toInt8.toInt32) from rfl, own_b255, show own_exp 3 a b 5 v = (own_sr a 0) &&& 255 from rfl]
  exact by rw [own_sr0]
theorem own_f3_6 (a b v : Int32) : (own_F a b 6 v (3 : Int32).toNatClampNeg) &&& 255 = own_exp 3 a b 6 v := by
  rw [show own_F a b 6 v (3 : Int32).toNatClampNeg = nar .byte (a.toInt8.toInt32) from rfl, own_b255, show own_exp 3 a b 6 v = (own_sr a 0) &&& 255 from rfl]
  exact by rw [own_sr0]
theorem own_f3 (a b s v : Int32) : (own_F a b (own_off s) v (3 : Int32).toNatClampNeg) &&& 255 = own_exp 3 a b (own_off s) v := by
  rcases own_off7 s with h | h | h | h | h | h | h <;> rw [h]
  · exact own_f3_0 a b v
  · exact own_f3_1 a b v
  · exact own_f3_2 a b v
  · exact own_f3_3 a b v
  · exact own_f3_4 a b v
  · exact own_f3_5 a b v
  · exact own_f3_6 a b v
theorem own_f4_0 (a b v : Int32) : (own_F a b 0 v (4 : Int32).toNatClampNeg) &&& 255 = own_exp 4 a b 0 v := by
  rw [show own_F a b 0 v (4 : Int32).toNatClampNeg = nar .byte ((own_sr b 24).toInt8.toInt32) from rfl, own_b255, show own_exp 4 a b 0 v = (own_sr b 24) &&& 255 from rfl]
theorem own_f4_1 (a b v : Int32) : (own_F a b 1 v (4 : Int32).toNatClampNeg) &&& 255 = own_exp 4 a b 1 v := by
  rw [show own_F a b 1 v (4 : Int32).toNatClampNeg = nar .byte ((own_sr b 24).toInt8.toInt32) from rfl, own_b255, show own_exp 4 a b 1 v = (own_sr b 24) &&& 255 from rfl]
theorem own_f4_2 (a b v : Int32) : (own_F a b 2 v (4 : Int32).toNatClampNeg) &&& 255 = own_exp 4 a b 2 v := by
  rw [show own_F a b 2 v (4 : Int32).toNatClampNeg = nar .byte ((own_sr b 24).toInt8.toInt32) from rfl, own_b255, show own_exp 4 a b 2 v = (own_sr b 24) &&& 255 from rfl]
theorem own_f4_3 (a b v : Int32) : (own_F a b 3 v (4 : Int32).toNatClampNeg) &&& 255 = own_exp 4 a b 3 v := by
  rw [show own_F a b 3 v (4 : Int32).toNatClampNeg = nar .byte (v.toInt8.toInt32) from rfl, own_b255, show own_exp 4 a b 3 v = v &&& 255 from rfl]
theorem own_f4_4 (a b v : Int32) : (own_F a b 4 v (4 : Int32).toNatClampNeg) &&& 255 = own_exp 4 a b 4 v := by
  rw [show own_F a b 4 v (4 : Int32).toNatClampNeg = nar .byte ((own_sr v 8).toInt8.toInt32) from rfl, own_b255, show own_exp 4 a b 4 v = (v &&& 65280) / 256 from rfl]
  exact own_and8 v
theorem own_f4_5 (a b v : Int32) : (own_F a b 5 v (4 : Int32).toNatClampNeg) &&& 255 = own_exp 4 a b 5 v := by
  rw [show own_F a b 5 v (4 : Int32).toNatClampNeg = nar .byte ((own_sr b 24).toInt8.toInt32) from rfl, own_b255, show own_exp 4 a b 5 v = (own_sr b 24) &&& 255 from rfl]
theorem own_f4_6 (a b v : Int32) : (own_F a b 6 v (4 : Int32).toNatClampNeg) &&& 255 = own_exp 4 a b 6 v := by
  rw [show own_F a b 6 v (4 : Int32).toNatClampNeg = nar .byte ((own_sr b 24).toInt8.toInt32) from rfl, own_b255, show own_exp 4 a b 6 v = (own_sr b 24) &&& 255 from rfl]
theorem own_f4 (a b s v : Int32) : (own_F a b (own_off s) v (4 : Int32).toNatClampNeg) &&& 255 = own_exp 4 a b (own_off s) v := by
  rcases own_off7 s with h | h | h | h | h | h | h <;> rw [h]
  · exact own_f4_0 a b v
  · exact own_f4_1 a b v
  · exact own_f4_2 a b v
  · exact own_f4_3 a b v
  · exact own_f4_4 a b v
  · exact own_f4_5 a b v
  · exact own_f4_6 a b v
theorem own_f5_0 (a b v : Int32) : (own_F a b 0 v (5 : Int32).toNatClampNeg) &&& 255 = own_exp 5 a b 0 v := by
  rw [show own_F a b 0 v (5 : Int32).toNatClampNeg = nar .byte ((own_sr b 16).toInt8.toInt32) from rfl, own_b255, show own_exp 5 a b 0 v = (own_sr b 16) &&& 255 from rfl]
theorem own_f5_1 (a b v : Int32) : (own_F a b 1 v (5 : Int32).toNatClampNeg) &&& 255 = own_exp 5 a b 1 v := by
  rw [show own_F a b 1 v (5 : Int32).toNatClampNeg = nar .byte ((own_sr b 16).toInt8.toInt32) from rfl, own_b255, show own_exp 5 a b 1 v = (own_sr b 16) &&& 255 from rfl]
theorem own_f5_2 (a b v : Int32) : (own_F a b 2 v (5 : Int32).toNatClampNeg) &&& 255 = own_exp 5 a b 2 v := by
  rw [show own_F a b 2 v (5 : Int32).toNatClampNeg = nar .byte ((own_sr b 16).toInt8.toInt32) from rfl, own_b255, show own_exp 5 a b 2 v = (own_sr b 16) &&& 255 from rfl]
theorem own_f5_3 (a b v : Int32) : (own_F a b 3 v (5 : Int32).toNatClampNeg) &&& 255 = own_exp 5 a b 3 v := by
  rw [show own_F a b 3 v (5 : Int32).toNatClampNeg = nar .byte ((own_sr b 16).toInt8.toInt32) from rfl, own_b255, show own_exp 5 a b 3 v = (own_sr b 16) &&& 255 from rfl]
theorem own_f5_4 (a b v : Int32) : (own_F a b 4 v (5 : Int32).toNatClampNeg) &&& 255 = own_exp 5 a b 4 v := by
  rw [show own_F a b 4 v (5 : Int32).toNatClampNeg = nar .byte (v.toInt8.toInt32) from rfl, own_b255, show own_exp 5 a b 4 v = v &&& 255 from rfl]
theorem own_f5_5 (a b v : Int32) : (own_F a b 5 v (5 : Int32).toNatClampNeg) &&& 255 = own_exp 5 a b 5 v := by
  rw [show own_F a b 5 v (5 : Int32).toNatClampNeg = nar .byte ((own_sr v 8).toInt8.toInt32) from rfl, own_b255, show own_exp 5 a b 5 v = (v &&& 65280) / 256 from rfl]
  exact own_and8 v
theorem own_f5_6 (a b v : Int32) : (own_F a b 6 v (5 : Int32).toNatClampNeg) &&& 255 = own_exp 5 a b 6 v := by
  rw [show own_F a b 6 v (5 : Int32).toNatClampNeg = nar .byte ((own_sr b 16).toInt8.toInt32) from rfl, own_b255, show own_exp 5 a b 6 v = (own_sr b 16) &&& 255 from rfl]
theorem own_f5 (a b s v : Int32) : (own_F a b (own_off s) v (5 : Int32).toNatClampNeg) &&& 255 = own_exp 5 a b (own_off s) v := by
  rcases own_off7 s with h | h | h | h | h | h | h <;> rw [h]
  · exact own_f5_0 a b v
  · exact own_f5_1 a b v
  · exact own_f5_2 a b v
  · exact own_f5_3 a b v
  · exact own_f5_4 a b v
  · exact own_f5_5 a b v
  · exact own_f5_6 a b v
theorem own_f6_0 (a b v : Int32) : (own_F a b 0 v (6 : Int32).toNatClampNeg) &&& 255 = own_exp 6 a b 0 v := by
  rw [show own_F a b 0 v (6 : Int32).toNatClampNeg = nar .byte ((own_sr b 8).toInt8.toInt32) from rfl, own_b255, show own_exp 6 a b 0 v = (own_sr b 8) &&& 255 from rfl]
theorem own_f6_1 (a b v : Int32) : (own_F a b 1 v (6 : Int32).toNatClampNeg) &&& 255 = own_exp 6 a b 1 v := by
  rw [show own_F a b 1 v (6 : Int32).toNatClampNeg = nar .byte ((own_sr b 8).toInt8.toInt32) from rfl, own_b255, show own_exp 6 a b 1 v = (own_sr b 8) &&& 255 from rfl]
theorem own_f6_2 (a b v : Int32) : (own_F a b 2 v (6 : Int32).toNatClampNeg) &&& 255 = own_exp 6 a b 2 v := by
  rw [show own_F a b 2 v (6 : Int32).toNatClampNeg = nar .byte ((own_sr b 8).toInt8.toInt32) from rfl, own_b255, show own_exp 6 a b 2 v = (own_sr b 8) &&& 255 from rfl]
theorem own_f6_3 (a b v : Int32) : (own_F a b 3 v (6 : Int32).toNatClampNeg) &&& 255 = own_exp 6 a b 3 v := by
  rw [show own_F a b 3 v (6 : Int32).toNatClampNeg = nar .byte ((own_sr b 8).toInt8.toInt32) from rfl, own_b255, show own_exp 6 a b 3 v = (own_sr b 8) &&& 255 from rfl]
theorem own_f6_4 (a b v : Int32) : (own_F a b 4 v (6 : Int32).toNatClampNeg) &&& 255 = own_exp 6 a b 4 v := by
  rw [show own_F a b 4 v (6 : Int32).toNatClampNeg = nar .byte ((own_sr b 8).toInt8.toInt32) from rfl, own_b255, show own_exp 6 a b 4 v = (own_sr b 8) &&& 255 from rfl]
theorem own_f6_5 (a b v : Int32) : (own_F a b 5 v (6 : Int32).toNatClampNeg) &&& 255 = own_exp 6 a b 5 v := by
  rw [show own_F a b 5 v (6 : Int32).toNatClampNeg = nar .byte (v.toInt8.toInt32) from rfl, own_b255, show own_exp 6 a b 5 v = v &&& 255 from rfl]
theorem own_f6_6 (a b v : Int32) : (own_F a b 6 v (6 : Int32).toNatClampNeg) &&& 255 = own_exp 6 a b 6 v := by
  rw [show own_F a b 6 v (6 : Int32).toNatClampNeg = nar .byte ((own_sr v 8).toInt8.toInt32) from rfl, own_b255, show own_exp 6 a b 6 v = (v &&& 65280) / 256 from rfl]
  exact own_and8 v
theorem own_f6 (a b s v : Int32) : (own_F a b (own_off s) v (6 : Int32).toNatClampNeg) &&& 255 = own_exp 6 a b (own_off s) v := by
  rcases own_off7 s with h | h | h | h | h | h | h <;> rw [h]
  · exact own_f6_0 a b v
  · exact own_f6_1 a b v
  · exact own_f6_2 a b v
  · exact own_f6_3 a b v
  · exact own_f6_4 a b v
  · exact own_f6_5 a b v
  · exact own_f6_6 a b v
theorem own_f7_0 (a b v : Int32) : (own_F a b 0 v (7 : Int32).toNatClampNeg) &&& 255 = own_exp 7 a b 0 v := by
  rw [show own_F a b 0 v (7 : Int32).toNatClampNeg = nar .byte (b.toInt8.toInt32) from rfl, own_b255, show own_exp 7 a b 0 v = (own_sr b 0) &&& 255 from rfl]
  exact by rw [own_sr0]
theorem own_f7_1 (a b v : Int32) : (own_F a b 1 v (7 : Int32).toNatClampNeg) &&& 255 = own_exp 7 a b 1 v := by
  rw [show own_F a b 1 v (7 : Int32).toNatClampNeg = nar .byte (b.toInt8.toInt32) from rfl, own_b255, show own_exp 7 a b 1 v = (own_sr b 0) &&& 255 from rfl]
  exact by rw [own_sr0]
theorem own_f7_2 (a b v : Int32) : (own_F a b 2 v (7 : Int32).toNatClampNeg) &&& 255 = own_exp 7 a b 2 v := by
  rw [show own_F a b 2 v (7 : Int32).toNatClampNeg = nar .byte (b.toInt8.toInt32) from rfl, own_b255, show own_exp 7 a b 2 v = (own_sr b 0) &&& 255 from rfl]
  exact by rw [own_sr0]
theorem own_f7_3 (a b v : Int32) : (own_F a b 3 v (7 : Int32).toNatClampNeg) &&& 255 = own_exp 7 a b 3 v := by
  rw [show own_F a b 3 v (7 : Int32).toNatClampNeg = nar .byte (b.toInt8.toInt32) from rfl, own_b255, show own_exp 7 a b 3 v = (own_sr b 0) &&& 255 from rfl]
  exact by rw [own_sr0]
theorem own_f7_4 (a b v : Int32) : (own_F a b 4 v (7 : Int32).toNatClampNeg) &&& 255 = own_exp 7 a b 4 v := by
  rw [show own_F a b 4 v (7 : Int32).toNatClampNeg = nar .byte (b.toInt8.toInt32) from rfl, own_b255, show own_exp 7 a b 4 v = (own_sr b 0) &&& 255 from rfl]
  exact by rw [own_sr0]
theorem own_f7_5 (a b v : Int32) : (own_F a b 5 v (7 : Int32).toNatClampNeg) &&& 255 = own_exp 7 a b 5 v := by
  rw [show own_F a b 5 v (7 : Int32).toNatClampNeg = nar .byte (b.toInt8.toInt32) from rfl, own_b255, show own_exp 7 a b 5 v = (own_sr b 0) &&& 255 from rfl]
  exact by rw [own_sr0]
theorem own_f7_6 (a b v : Int32) : (own_F a b 6 v (7 : Int32).toNatClampNeg) &&& 255 = own_exp 7 a b 6 v := by
  rw [show own_F a b 6 v (7 : Int32).toNatClampNeg = nar .byte (v.toInt8.toInt32) from rfl, own_b255, show own_exp 7 a b 6 v = v &&& 255 from rfl]
theorem own_f7 (a b s v : Int32) : (own_F a b (own_off s) v (7 : Int32).toNatClampNeg) &&& 255 = own_exp 7 a b (own_off s) v := by
  rcases own_off7 s with h | h | h | h | h | h | h <;> rw [h]
  · exact own_f7_0 a b v
  · exact own_f7_1 a b v
  · exact own_f7_2 a b v
  · exact own_f7_3 a b v
  · exact own_f7_4 a b v
  · exact own_f7_5 a b v
  · exact own_f7_6 a b v
theorem own_d12_0 : decode method_3_code 0 = .ok (.iload_n 2, 1) := by decide +kernel
theorem own_d12_1 : decode method_3_code 1 = .ok (.iconst 4, 1) := by decide +kernel
theorem own_d12_2 : decode method_3_code 2 = .ok (.if_icmp .ge 7, 3) := by decide +kernel
theorem own_d12_5 : decode method_3_code 5 = .ok (.iload_n 0, 1) := by decide +kernel
theorem own_d12_6 : decode method_3_code 6 = .ok (.goto 4, 3) := by decide +kernel
theorem own_d12_9 : decode method_3_code 9 = .ok (.iload_n 1, 1) := by decide +kernel
theorem own_d12_10 : decode method_3_code 10 = .ok (.istore_n 3, 1) := by decide +kernel
theorem own_d12_11 : decode method_3_code 11 = .ok (.bipush 24, 2) := by decide +kernel
theorem own_d12_13 : decode method_3_code 13 = .ok (.bipush 8, 2) := by decide +kernel
theorem own_d12_15 : decode method_3_code 15 = .ok (.iload_n 2, 1) := by decide +kernel
theorem own_d12_16 : decode method_3_code 16 = .ok (.iconst 3, 1) := by decide +kernel
theorem own_d12_17 : decode method_3_code 17 = .ok (.iand, 1) := by decide +kernel
theorem own_d12_18 : decode method_3_code 18 = .ok (.imul, 1) := by decide +kernel
theorem own_d12_19 : decode method_3_code 19 = .ok (.isub, 1) := by decide +kernel
theorem own_d12_20 : decode method_3_code 20 = .ok (.istore 4, 2) := by decide +kernel
theorem own_d12_22 : decode method_3_code 22 = .ok (.iload_n 3, 1) := by decide +kernel
theorem own_d12_23 : decode method_3_code 23 = .ok (.iload 4, 2) := by decide +kernel
theorem own_d12_25 : decode method_3_code 25 = .ok (.iushr, 1) := by decide +kernel
theorem own_d12_26 : decode method_3_code 26 = .ok (.sipush 255, 3) := by decide +kernel
theorem own_d12_29 : decode method_3_code 29 = .ok (.iand, 1) := by decide +kernel
theorem own_d12_30 : decode method_3_code 30 = .ok (.ireturn, 1) := by decide +kernel
theorem own_pn2 : plainName "com/example/meddle/meddle/BytesSet2PinLaw" = true := by first | (simp [plainName, overriddenIn]; done) | decide +kernel
theorem ef_own_mor (m : MethodId) (p1 : Int32) (p2 : Int32) (p3 : Int32) : entryFrame m #[(.int p1), (.int p2), (.int p3)] 5 = mkF m 0 #[.val (.int p1), .val (.int p2), .val (.int p3), .unset, .unset] [] := by first | (simp [entryFrame, mkF, argsToLocals, Value.category]; done) | rfl
set_option maxRecDepth 65536 in
set_option maxHeartbeats 40000000 in
theorem own_mor (l : Launch) (Z : State) (a0 : Array Value) (hw : ∀ d ∈ tables_1, d.before a0 Z = true) (ws : List Jvm.Cond) (p1 : Int32) (p2 : Int32) (p3 : Int32)  (h0 : Heap) (n0 : Nat) (Z0 : n0 ≤ h0.size)  :
    Met l Z (⟨"com/example/meddle/meddle/BytesSet2PinLaw", "original", "(III)I"⟩ : MethodName) method_3_code 5 (some .int) ws ({ frames := 0, cells := 0, slots := 0, locals := 0 } : Room) #[(.int p1), (.int p2), (.int p3)] h0 (fun v h L => v = some (.int (own_orig p1 p2 p3)) ∧ Fr n0 L ∧ h = h0) := by
  refine Met.of (plainFor_of_name own_pn2) ?_
  intro p e s m below meth c T0 hx hby hml hk hret hnm hown hZ X0 e0
  have N0 := Fr.nil n0
  refine Go.cast (ef_own_mor m p1 p2 p3) ?_
  show Go p e below _ T0 (mkF m 0 #[.val (.int p1), .val (.int p2), .val (.int p3), .unset, .unset] [])
  refine Go.via (fun _ k => XS.iloadN X0.here hx rfl (hb hby own_d12_0) rfl  k) ?_
  show Go p e below _ T0 (mkF m 1 #[.val (.int p1), .val (.int p2), .val (.int p3), .unset, .unset] [(.int p3)])
  refine Go.via (fun _ k => XS.iconst X0.here hx rfl (hb hby own_d12_1) k) ?_
  show Go p e below _ T0 (mkF m 2 #[.val (.int p1), .val (.int p2), .val (.int p3), .unset, .unset] [(.int (4 : Int32)), (.int p3)])
  by_cases hc2 : p3 < (4 : Int32)
  · skip
    refine Go.via (fun _ k => XS.icmpNo X0.here hx rfl (hb hby own_d12_2) rfl (tlt hc2).2.1 k) ?_
    show Go p e below _ T0 (mkF m 5 #[.val (.int p1), .val (.int p2), .val (.int p3), .unset, .unset] [])
    refine Go.via (fun _ k => XS.iloadN X0.here hx rfl (hb hby own_d12_5) rfl  k) ?_
    show Go p e below _ T0 (mkF m 6 #[.val (.int p1), .val (.int p2), .val (.int p3), .unset, .unset] [(.int p1)])
    refine Go.via (fun _ k => XS.goto X0.here hx rfl (pc0 := 6) (pc' := 10) rfl (hb hby own_d12_6) (by decide) (by decide) k) ?_
    show Go p e below _ T0 (mkF m 10 #[.val (.int p1), .val (.int p2), .val (.int p3), .unset, .unset] [(.int p1)])
    refine Go.via (fun _ k => XS.istoreN X0.here hx rfl (hb hby own_d12_10) rfl (l' := #[.val (.int p1), .val (.int p2), .val (.int p3), .val (.int p1), .unset]) rfl k) ?_
    show Go p e below _ T0 (mkF m 11 #[.val (.int p1), .val (.int p2), .val (.int p3), .val (.int p1), .unset] [])
    refine Go.via (fun _ k => XS.bipush X0.here hx rfl (hb hby own_d12_11) k) ?_
    show Go p e below _ T0 (mkF m 13 #[.val (.int p1), .val (.int p2), .val (.int p3), .val (.int p1), .unset] [(.int (24 : Int32))])
    refine Go.via (fun _ k => XS.bipush X0.here hx rfl (hb hby own_d12_13) k) ?_
    show Go p e below _ T0 (mkF m 15 #[.val (.int p1), .val (.int p2), .val (.int p3), .val (.int p1), .unset] [(.int (8 : Int32)), (.int (24 : Int32))])
    refine Go.via (fun _ k => XS.iloadN X0.here hx rfl (hb hby own_d12_15) rfl  k) ?_
    show Go p e below _ T0 (mkF m 16 #[.val (.int p1), .val (.int p2), .val (.int p3), .val (.int p1), .unset] [(.int p3), (.int (8 : Int32)), (.int (24 : Int32))])
    refine Go.via (fun _ k => XS.iconst X0.here hx rfl (hb hby own_d12_16) k) ?_
    show Go p e below _ T0 (mkF m 17 #[.val (.int p1), .val (.int p2), .val (.int p3), .val (.int p1), .unset] [(.int (3 : Int32)), (.int p3), (.int (8 : Int32)), (.int (24 : Int32))])
    refine Go.via (fun _ k => XS.iand X0.here hx rfl (hb hby own_d12_17) rfl k) ?_
    show Go p e below _ T0 (mkF m 18 #[.val (.int p1), .val (.int p2), .val (.int p3), .val (.int p1), .unset] [(.int (p3 &&& (3 : Int32))), (.int (8 : Int32)), (.int (24 : Int32))])
    refine Go.via (fun _ k => XS.imul X0.here hx rfl (hb hby own_d12_18) rfl k) ?_
    show Go p e below _ T0 (mkF m 19 #[.val (.int p1), .val (.int p2), .val (.int p3), .val (.int p1), .unset] [(.int ((8 : Int32) * (p3 &&& (3 : Int32)))), (.int (24 : Int32))])
    refine Go.via (fun _ k => XS.isub X0.here hx rfl (hb hby own_d12_19) rfl k) ?_
    show Go p e below _ T0 (mkF m 20 #[.val (.int p1), .val (.int p2), .val (.int p3), .val (.int p1), .unset] [(.int ((24 : Int32) - ((8 : Int32) * (p3 &&& (3 : Int32)))))])
    refine Go.via (fun _ k => XS.istore X0.here hx rfl (hb hby own_d12_20) rfl (l' := #[.val (.int p1), .val (.int p2), .val (.int p3), .val (.int p1), .val (.int ((24 : Int32) - ((8 : Int32) * (p3 &&& (3 : Int32)))))]) rfl k) ?_
    show Go p e below _ T0 (mkF m 22 #[.val (.int p1), .val (.int p2), .val (.int p3), .val (.int p1), .val (.int ((24 : Int32) - ((8 : Int32) * (p3 &&& (3 : Int32)))))] [])
    refine Go.via (fun _ k => XS.iloadN X0.here hx rfl (hb hby own_d12_22) rfl  k) ?_
    show Go p e below _ T0 (mkF m 23 #[.val (.int p1), .val (.int p2), .val (.int p3), .val (.int p1), .val (.int ((24 : Int32) - ((8 : Int32) * (p3 &&& (3 : Int32)))))] [(.int p1)])
    refine Go.via (fun _ k => XS.iload X0.here hx rfl (hb hby own_d12_23) rfl  k) ?_
    show Go p e below _ T0 (mkF m 25 #[.val (.int p1), .val (.int p2), .val (.int p3), .val (.int p1), .val (.int ((24 : Int32) - ((8 : Int32) * (p3 &&& (3 : Int32)))))] [(.int ((24 : Int32) - ((8 : Int32) * (p3 &&& (3 : Int32))))), (.int p1)])
    refine Go.via (fun _ k => XS.iushr X0.here hx rfl (hb hby own_d12_25) rfl k) ?_
    show Go p e below _ T0 (mkF m 26 #[.val (.int p1), .val (.int p2), .val (.int p3), .val (.int p1), .val (.int ((24 : Int32) - ((8 : Int32) * (p3 &&& (3 : Int32)))))] [(.int ((p1.toUInt32 >>> (((24 : Int32) - ((8 : Int32) * (p3 &&& (3 : Int32)))) &&& 31).toUInt32).toInt32))])
    refine Go.via (fun _ k => XS.sipush X0.here hx rfl (hb hby own_d12_26) k) ?_
    show Go p e below _ T0 (mkF m 29 #[.val (.int p1), .val (.int p2), .val (.int p3), .val (.int p1), .val (.int ((24 : Int32) - ((8 : Int32) * (p3 &&& (3 : Int32)))))] [(.int (255 : Int32)), (.int ((p1.toUInt32 >>> (((24 : Int32) - ((8 : Int32) * (p3 &&& (3 : Int32)))) &&& 31).toUInt32).toInt32))])
    refine Go.via (fun _ k => XS.iand X0.here hx rfl (hb hby own_d12_29) rfl k) ?_
    show Go p e below _ T0 (mkF m 30 #[.val (.int p1), .val (.int p2), .val (.int p3), .val (.int p1), .val (.int ((24 : Int32) - ((8 : Int32) * (p3 &&& (3 : Int32)))))] [(.int (((p1.toUInt32 >>> (((24 : Int32) - ((8 : Int32) * (p3 &&& (3 : Int32)))) &&& 31).toUInt32).toInt32) &&& (255 : Int32)))])
    refine Go.retI X0 hx hk hret (hb hby own_d12_30) (by decide) (by decide) ?_
    exact ⟨by rw [show own_orig p1 p2 p3 = _ from congrArg (fun q => (own_sr q (24 - (8 * (p3 &&& 3)))) &&& 255) (if_pos hc2)], N0, e0⟩
  · skip
    refine Go.via (fun _ k => XS.icmpYes X0.here hx rfl (pc0 := 2) (pc' := 9) rfl (hb hby own_d12_2) rfl (flt hc2).2.1 (by decide) (by decide) k) ?_
    show Go p e below _ T0 (mkF m 9 #[.val (.int p1), .val (.int p2), .val (.int p3), .unset, .unset] [])
    refine Go.via (fun _ k => XS.iloadN X0.here hx rfl (hb hby own_d12_9) rfl  k) ?_
    show Go p e below _ T0 (mkF m 10 #[.val (.int p1), .val (.int p2), .val (.int p3), .unset, .unset] [(.int p2)])
    refine Go.via (fun _ k => XS.istoreN X0.here hx rfl (hb hby own_d12_10) rfl (l' := #[.val (.int p1), .val (.int p2), .val (.int p3), .val (.int p2), .unset]) rfl k) ?_
    show Go p e below _ T0 (mkF m 11 #[.val (.int p1), .val (.int p2), .val (.int p3), .val (.int p2), .unset] [])
    refine Go.via (fun _ k => XS.bipush X0.here hx rfl (hb hby own_d12_11) k) ?_
    show Go p e below _ T0 (mkF m 13 #[.val (.int p1), .val (.int p2), .val (.int p3), .val (.int p2), .unset] [(.int (24 : Int32))])
    refine Go.via (fun _ k => XS.bipush X0.here hx rfl (hb hby own_d12_13) k) ?_
    show Go p e below _ T0 (mkF m 15 #[.val (.int p1), .val (.int p2), .val (.int p3), .val (.int p2), .unset] [(.int (8 : Int32)), (.int (24 : Int32))])
    refine Go.via (fun _ k => XS.iloadN X0.here hx rfl (hb hby own_d12_15) rfl  k) ?_
    show Go p e below _ T0 (mkF m 16 #[.val (.int p1), .val (.int p2), .val (.int p3), .val (.int p2), .unset] [(.int p3), (.int (8 : Int32)), (.int (24 : Int32))])
    refine Go.via (fun _ k => XS.iconst X0.here hx rfl (hb hby own_d12_16) k) ?_
    show Go p e below _ T0 (mkF m 17 #[.val (.int p1), .val (.int p2), .val (.int p3), .val (.int p2), .unset] [(.int (3 : Int32)), (.int p3), (.int (8 : Int32)), (.int (24 : Int32))])
    refine Go.via (fun _ k => XS.iand X0.here hx rfl (hb hby own_d12_17) rfl k) ?_
    show Go p e below _ T0 (mkF m 18 #[.val (.int p1), .val (.int p2), .val (.int p3), .val (.int p2), .unset] [(.int (p3 &&& (3 : Int32))), (.int (8 : Int32)), (.int (24 : Int32))])
    refine Go.via (fun _ k => XS.imul X0.here hx rfl (hb hby own_d12_18) rfl k) ?_
    show Go p e below _ T0 (mkF m 19 #[.val (.int p1), .val (.int p2), .val (.int p3), .val (.int p2), .unset] [(.int ((8 : Int32) * (p3 &&& (3 : Int32)))), (.int (24 : Int32))])
    refine Go.via (fun _ k => XS.isub X0.here hx rfl (hb hby own_d12_19) rfl k) ?_
    show Go p e below _ T0 (mkF m 20 #[.val (.int p1), .val (.int p2), .val (.int p3), .val (.int p2), .unset] [(.int ((24 : Int32) - ((8 : Int32) * (p3 &&& (3 : Int32)))))])
    refine Go.via (fun _ k => XS.istore X0.here hx rfl (hb hby own_d12_20) rfl (l' := #[.val (.int p1), .val (.int p2), .val (.int p3), .val (.int p2), .val (.int ((24 : Int32) - ((8 : Int32) * (p3 &&& (3 : Int32)))))]) rfl k) ?_
    show Go p e below _ T0 (mkF m 22 #[.val (.int p1), .val (.int p2), .val (.int p3), .val (.int p2), .val (.int ((24 : Int32) - ((8 : Int32) * (p3 &&& (3 : Int32)))))] [])
    refine Go.via (fun _ k => XS.iloadN X0.here hx rfl (hb hby own_d12_22) rfl  k) ?_
    show Go p e below _ T0 (mkF m 23 #[.val (.int p1), .val (.int p2), .val (.int p3), .val (.int p2), .val (.int ((24 : Int32) - ((8 : Int32) * (p3 &&& (3 : Int32)))))] [(.int p2)])
    refine Go.via (fun _ k => XS.iload X0.here hx rfl (hb hby own_d12_23) rfl  k) ?_
    show Go p e below _ T0 (mkF m 25 #[.val (.int p1), .val (.int p2), .val (.int p3), .val (.int p2), .val (.int ((24 : Int32) - ((8 : Int32) * (p3 &&& (3 : Int32)))))] [(.int ((24 : Int32) - ((8 : Int32) * (p3 &&& (3 : Int32))))), (.int p2)])
    refine Go.via (fun _ k => XS.iushr X0.here hx rfl (hb hby own_d12_25) rfl k) ?_
    show Go p e below _ T0 (mkF m 26 #[.val (.int p1), .val (.int p2), .val (.int p3), .val (.int p2), .val (.int ((24 : Int32) - ((8 : Int32) * (p3 &&& (3 : Int32)))))] [(.int ((p2.toUInt32 >>> (((24 : Int32) - ((8 : Int32) * (p3 &&& (3 : Int32)))) &&& 31).toUInt32).toInt32))])
    refine Go.via (fun _ k => XS.sipush X0.here hx rfl (hb hby own_d12_26) k) ?_
    show Go p e below _ T0 (mkF m 29 #[.val (.int p1), .val (.int p2), .val (.int p3), .val (.int p2), .val (.int ((24 : Int32) - ((8 : Int32) * (p3 &&& (3 : Int32)))))] [(.int (255 : Int32)), (.int ((p2.toUInt32 >>> (((24 : Int32) - ((8 : Int32) * (p3 &&& (3 : Int32)))) &&& 31).toUInt32).toInt32))])
    refine Go.via (fun _ k => XS.iand X0.here hx rfl (hb hby own_d12_29) rfl k) ?_
    show Go p e below _ T0 (mkF m 30 #[.val (.int p1), .val (.int p2), .val (.int p3), .val (.int p2), .val (.int ((24 : Int32) - ((8 : Int32) * (p3 &&& (3 : Int32)))))] [(.int (((p2.toUInt32 >>> (((24 : Int32) - ((8 : Int32) * (p3 &&& (3 : Int32)))) &&& 31).toUInt32).toInt32) &&& (255 : Int32)))])
    refine Go.retI X0 hx hk hret (hb hby own_d12_30) (by decide) (by decide) ?_
    exact ⟨by rw [show own_orig p1 p2 p3 = _ from congrArg (fun q => (own_sr q (24 - (8 * (p3 &&& 3)))) &&& 255) (if_neg hc2)], N0, e0⟩
theorem own_d11_0 : decode method_4_code 0 = .ok (.iload_n 0, 1) := by decide +kernel
theorem own_d11_1 : decode method_4_code 1 = .ok (.iload_n 3, 1) := by decide +kernel
theorem own_d11_2 : decode method_4_code 2 = .ok (.if_icmp .ne 13, 3) := by decide +kernel
theorem own_d11_5 : decode method_4_code 5 = .ok (.iload 4, 2) := by decide +kernel
theorem own_d11_7 : decode method_4_code 7 = .ok (.ldc 33, 2) := by decide +kernel
theorem own_d11_9 : decode method_4_code 9 = .ok (.iand, 1) := by decide +kernel
theorem own_d11_10 : decode method_4_code 10 = .ok (.sipush 256, 3) := by decide +kernel
theorem own_d11_13 : decode method_4_code 13 = .ok (.idiv, 1) := by decide +kernel
theorem own_d11_14 : decode method_4_code 14 = .ok (.ireturn, 1) := by decide +kernel
theorem own_d11_15 : decode method_4_code 15 = .ok (.iload_n 0, 1) := by decide +kernel
theorem own_d11_16 : decode method_4_code 16 = .ok (.iload_n 3, 1) := by decide +kernel
theorem own_d11_17 : decode method_4_code 17 = .ok (.iconst 1, 1) := by decide +kernel
theorem own_d11_18 : decode method_4_code 18 = .ok (.iadd, 1) := by decide +kernel
theorem own_d11_19 : decode method_4_code 19 = .ok (.if_icmp .ne 10, 3) := by decide +kernel
theorem own_d11_22 : decode method_4_code 22 = .ok (.iload 4, 2) := by decide +kernel
theorem own_d11_24 : decode method_4_code 24 = .ok (.sipush 255, 3) := by decide +kernel
theorem own_d11_27 : decode method_4_code 27 = .ok (.iand, 1) := by decide +kernel
theorem own_d11_28 : decode method_4_code 28 = .ok (.ireturn, 1) := by decide +kernel
theorem own_d11_29 : decode method_4_code 29 = .ok (.iload_n 1, 1) := by decide +kernel
theorem own_d11_30 : decode method_4_code 30 = .ok (.iload_n 2, 1) := by decide +kernel
theorem own_d11_31 : decode method_4_code 31 = .ok (.iload_n 0, 1) := by decide +kernel
theorem own_d11_32 : decode method_4_code 32 = .ok (.invokestatic 34, 3) := by decide +kernel
theorem own_d11_35 : decode method_4_code 35 = .ok (.ireturn, 1) := by decide +kernel
theorem ef_own_mex (m : MethodId) (p1 : Int32) (p2 : Int32) (p3 : Int32) (p4 : Int32) (p5 : Int32) : entryFrame m #[(.int p1), (.int p2), (.int p3), (.int p4), (.int p5)] 5 = mkF m 0 #[.val (.int p1), .val (.int p2), .val (.int p3), .val (.int p4), .val (.int p5)] [] := by first | (simp [entryFrame, mkF, argsToLocals, Value.category]; done) | rfl
set_option maxRecDepth 65536 in
set_option maxHeartbeats 40000000 in
theorem own_mex (l : Launch) (Z : State) (a0 : Array Value) (hw : ∀ d ∈ tables_1, d.before a0 Z = true) (ws : List Jvm.Cond) (p1 : Int32) (p2 : Int32) (p3 : Int32) (p4 : Int32) (p5 : Int32)  (h0 : Heap) (n0 : Nat) (Z0 : n0 ≤ h0.size)  :
    Met l Z (⟨"com/example/meddle/meddle/BytesSet2PinLaw", "expected", "(IIIII)I"⟩ : MethodName) method_4_code 5 (some .int) ws ({ frames := 1, cells := 0, slots := 0, locals := 16 } : Room) #[(.int p1), (.int p2), (.int p3), (.int p4), (.int p5)] h0 (fun v h L => v = some (.int (own_exp p1 p2 p3 p4 p5)) ∧ Fr n0 L ∧ h = h0) := by
  refine Met.of (plainFor_of_name own_pn2) ?_
  intro p e s m below meth c T0 hx hby hml hk hret hnm hown hZ X0 e0
  have N0 := Fr.nil n0
  refine Go.cast (ef_own_mex m p1 p2 p3 p4 p5) ?_
  show Go p e below _ T0 (mkF m 0 #[.val (.int p1), .val (.int p2), .val (.int p3), .val (.int p4), .val (.int p5)] [])
  refine Go.via (fun _ k => XS.iloadN X0.here hx rfl (hb hby own_d11_0) rfl  k) ?_
  show Go p e below _ T0 (mkF m 1 #[.val (.int p1), .val (.int p2), .val (.int p3), .val (.int p4), .val (.int p5)] [(.int p1)])
  refine Go.via (fun _ k => XS.iloadN X0.here hx rfl (hb hby own_d11_1) rfl  k) ?_
  show Go p e below _ T0 (mkF m 2 #[.val (.int p1), .val (.int p2), .val (.int p3), .val (.int p4), .val (.int p5)] [(.int p4), (.int p1)])
  by_cases hc2 : p1 = p4
  · skip
    refine Go.via (fun _ k => XS.icmpNo X0.here hx rfl (hb hby own_d11_2) rfl (teq hc2).2 k) ?_
    show Go p e below _ T0 (mkF m 5 #[.val (.int p1), .val (.int p2), .val (.int p3), .val (.int p4), .val (.int p5)] [])
    refine Go.via (fun _ k => XS.iload X0.here hx rfl (hb hby own_d11_5) rfl  k) ?_
    show Go p e below _ T0 (mkF m 7 #[.val (.int p1), .val (.int p2), .val (.int p3), .val (.int p4), .val (.int p5)] [(.int p5)])
    refine Go.via (fun _ k => Stand.ldcInt X0 hx hown (mvT hZ (hw _ (List.mem_of_getElem? (i := 61) rfl))) (g := (mkF m 7 #[.val (.int p1), .val (.int p2), .val (.int p3), .val (.int p4), .val (.int p5)] [(.int p5)])) rfl (hb hby own_d11_7) _ k) ?_
    show Go p e below _ T0 (mkF m 9 #[.val (.int p1), .val (.int p2), .val (.int p3), .val (.int p4), .val (.int p5)] [(.int (65280 : Int32)), (.int p5)])
    refine Go.via (fun _ k => XS.iand X0.here hx rfl (hb hby own_d11_9) rfl k) ?_
    show Go p e below _ T0 (mkF m 10 #[.val (.int p1), .val (.int p2), .val (.int p3), .val (.int p4), .val (.int p5)] [(.int (p5 &&& (65280 : Int32)))])
    refine Go.via (fun _ k => XS.sipush X0.here hx rfl (hb hby own_d11_10) k) ?_
    show Go p e below _ T0 (mkF m 13 #[.val (.int p1), .val (.int p2), .val (.int p3), .val (.int p4), .val (.int p5)] [(.int (256 : Int32)), (.int (p5 &&& (65280 : Int32)))])
    refine Go.via (fun _ k => XS.idiv X0.here hx rfl (hb hby own_d11_13) rfl (by decide) k) ?_
    show Go p e below _ T0 (mkF m 14 #[.val (.int p1), .val (.int p2), .val (.int p3), .val (.int p4), .val (.int p5)] [(.int ((p5 &&& (65280 : Int32)) / (256 : Int32)))])
    refine Go.retI X0 hx hk hret (hb hby own_d11_14) (by decide) (by decide) ?_
    exact ⟨by rw [show own_exp p1 p2 p3 p4 p5 = _ from if_pos hc2], N0, e0⟩
  · skip
    refine Go.via (fun _ k => XS.icmpYes X0.here hx rfl (pc0 := 2) (pc' := 15) rfl (hb hby own_d11_2) rfl (feq hc2).2 (by decide) (by decide) k) ?_
    show Go p e below _ T0 (mkF m 15 #[.val (.int p1), .val (.int p2), .val (.int p3), .val (.int p4), .val (.int p5)] [])
    refine Go.via (fun _ k => XS.iloadN X0.here hx rfl (hb hby own_d11_15) rfl  k) ?_
    show Go p e below _ T0 (mkF m 16 #[.val (.int p1), .val (.int p2), .val (.int p3), .val (.int p4), .val (.int p5)] [(.int p1)])
    refine Go.via (fun _ k => XS.iloadN X0.here hx rfl (hb hby own_d11_16) rfl  k) ?_
    show Go p e below _ T0 (mkF m 17 #[.val (.int p1), .val (.int p2), .val (.int p3), .val (.int p4), .val (.int p5)] [(.int p4), (.int p1)])
    refine Go.via (fun _ k => XS.iconst X0.here hx rfl (hb hby own_d11_17) k) ?_
    show Go p e below _ T0 (mkF m 18 #[.val (.int p1), .val (.int p2), .val (.int p3), .val (.int p4), .val (.int p5)] [(.int (1 : Int32)), (.int p4), (.int p1)])
    refine Go.via (fun _ k => XS.iadd X0.here hx rfl (hb hby own_d11_18) rfl k) ?_
    show Go p e below _ T0 (mkF m 19 #[.val (.int p1), .val (.int p2), .val (.int p3), .val (.int p4), .val (.int p5)] [(.int (p4 + (1 : Int32))), (.int p1)])
    by_cases hc19 : p1 = (p4 + (1 : Int32))
    · skip
      refine Go.via (fun _ k => XS.icmpNo X0.here hx rfl (hb hby own_d11_19) rfl (teq hc19).2 k) ?_
      show Go p e below _ T0 (mkF m 22 #[.val (.int p1), .val (.int p2), .val (.int p3), .val (.int p4), .val (.int p5)] [])
      refine Go.via (fun _ k => XS.iload X0.here hx rfl (hb hby own_d11_22) rfl  k) ?_
      show Go p e below _ T0 (mkF m 24 #[.val (.int p1), .val (.int p2), .val (.int p3), .val (.int p4), .val (.int p5)] [(.int p5)])
      refine Go.via (fun _ k => XS.sipush X0.here hx rfl (hb hby own_d11_24) k) ?_
      show Go p e below _ T0 (mkF m 27 #[.val (.int p1), .val (.int p2), .val (.int p3), .val (.int p4), .val (.int p5)] [(.int (255 : Int32)), (.int p5)])
      refine Go.via (fun _ k => XS.iand X0.here hx rfl (hb hby own_d11_27) rfl k) ?_
      show Go p e below _ T0 (mkF m 28 #[.val (.int p1), .val (.int p2), .val (.int p3), .val (.int p4), .val (.int p5)] [(.int (p5 &&& (255 : Int32)))])
      refine Go.retI X0 hx hk hret (hb hby own_d11_28) (by decide) (by decide) ?_
      exact ⟨by rw [show own_exp p1 p2 p3 p4 p5 = _ from (if_neg hc2).trans (if_pos hc19)], N0, e0⟩
    · skip
      refine Go.via (fun _ k => XS.icmpYes X0.here hx rfl (pc0 := 19) (pc' := 29) rfl (hb hby own_d11_19) rfl (feq hc19).2 (by decide) (by decide) k) ?_
      show Go p e below _ T0 (mkF m 29 #[.val (.int p1), .val (.int p2), .val (.int p3), .val (.int p4), .val (.int p5)] [])
      refine Go.via (fun _ k => XS.iloadN X0.here hx rfl (hb hby own_d11_29) rfl  k) ?_
      show Go p e below _ T0 (mkF m 30 #[.val (.int p1), .val (.int p2), .val (.int p3), .val (.int p4), .val (.int p5)] [(.int p2)])
      refine Go.via (fun _ k => XS.iloadN X0.here hx rfl (hb hby own_d11_30) rfl  k) ?_
      show Go p e below _ T0 (mkF m 31 #[.val (.int p1), .val (.int p2), .val (.int p3), .val (.int p4), .val (.int p5)] [(.int p3), (.int p2)])
      refine Go.via (fun _ k => XS.iloadN X0.here hx rfl (hb hby own_d11_31) rfl  k) ?_
      show Go p e below _ T0 (mkF m 32 #[.val (.int p1), .val (.int p2), .val (.int p3), .val (.int p4), .val (.int p5)] [(.int p1), (.int p3), (.int p2)])
      obtain ⟨v1, T1, L1, X1, ⟨rfl, Nq1, eq1⟩, st1⟩ := Go.callS X0 hx hZ hown e0 (hw _ (List.mem_of_getElem? (i := 58) rfl)) (hw _ (List.mem_of_getElem? (i := 59) rfl)) (hw _ (List.mem_of_getElem? (i := 53) rfl)) (hw _ (List.mem_of_getElem? (i := 60) rfl)) (by decide) (own_mor l Z a0 hw [] p2 p3 p1  h0 n0 Z0 ) (pc := 32) (Ls := #[.val (.int p1), .val (.int p2), .val (.int p3), .val (.int p4), .val (.int p5)]) (argsL := [(.int p2), (.int p3), (.int p1)]) (rest := []) own_pd3 rfl rfl (by rw [hml]; rfl) (hb hby own_d11_32) (W := 0) (Nat.le_of_eq rfl) (by decide) (by decide) (by decide) (by decide)
      refine st1 ?_
      have N1 := Fr.app N0 Nq1
      show Go p e below _ T1 (mkF m 35 #[.val (.int p1), .val (.int p2), .val (.int p3), .val (.int p4), .val (.int p5)] [(.int (own_orig p2 p3 p1))])
      refine Go.retI X1 hx hk hret (hb hby own_d11_35) (by decide) (by decide) ?_
      exact ⟨by rw [show own_exp p1 p2 p3 p4 p5 = _ from (if_neg hc2).trans (if_neg hc19)], N1, eq1⟩
theorem own_d10_0 : decode method_5_code 0 = .ok (.aload_n 0, 1) := by decide +kernel
theorem own_d10_1 : decode method_5_code 1 = .ok (.iload_n 1, 1) := by decide +kernel
theorem own_d10_2 : decode method_5_code 2 = .ok (.baload, 1) := by decide +kernel
theorem own_d10_3 : decode method_5_code 3 = .ok (.sipush 255, 3) := by decide +kernel
theorem own_d10_6 : decode method_5_code 6 = .ok (.iand, 1) := by decide +kernel
theorem own_d10_7 : decode method_5_code 7 = .ok (.iload_n 1, 1) := by decide +kernel
theorem own_d10_8 : decode method_5_code 8 = .ok (.iload_n 2, 1) := by decide +kernel
theorem own_d10_9 : decode method_5_code 9 = .ok (.iload_n 3, 1) := by decide +kernel
theorem own_d10_10 : decode method_5_code 10 = .ok (.iload 4, 2) := by decide +kernel
theorem own_d10_12 : decode method_5_code 12 = .ok (.iload 5, 2) := by decide +kernel
theorem own_d10_14 : decode method_5_code 14 = .ok (.invokestatic 38, 3) := by decide +kernel
theorem own_d10_17 : decode method_5_code 17 = .ok (.if_icmp .ne 7, 3) := by decide +kernel
theorem own_d10_20 : decode method_5_code 20 = .ok (.iconst 1, 1) := by decide +kernel
theorem own_d10_21 : decode method_5_code 21 = .ok (.goto 4, 3) := by decide +kernel
theorem own_d10_24 : decode method_5_code 24 = .ok (.iconst 0, 1) := by decide +kernel
theorem own_d10_25 : decode method_5_code 25 = .ok (.ireturn, 1) := by decide +kernel
theorem ef_own_mat (m : MethodId) (a1 : Addr) (p2 : Int32) (p3 : Int32) (p4 : Int32) (p5 : Int32) (p6 : Int32) : entryFrame m #[(.ref a1), (.int p2), (.int p3), (.int p4), (.int p5), (.int p6)] 6 = mkF m 0 #[.val (.ref a1), .val (.int p2), .val (.int p3), .val (.int p4), .val (.int p5), .val (.int p6)] [] := by first | (simp [entryFrame, mkF, argsToLocals, Value.category]; done) | rfl
set_option maxRecDepth 65536 in
set_option maxHeartbeats 40000000 in
theorem own_mat (l : Launch) (Z : State) (a0 : Array Value) (hw : ∀ d ∈ tables_1, d.before a0 Z = true) (ws : List Jvm.Cond) (a1 : Addr) (p2 : Int32) (p3 : Int32) (p4 : Int32) (p5 : Int32) (p6 : Int32) (f : Nat → Int32) (h0 : Heap) (n0 : Nat) (Z0 : n0 ≤ h0.size) (A_b : Arb Z h0 a1 8 f) (hin : ¬ p2 < 0 ∧ p2.toNatClampNeg < 8) :
    Met l Z (⟨"com/example/meddle/meddle/BytesSet2PinLaw", "at", "([BIIIII)Z"⟩ : MethodName) method_5_code 6 (some .boolean) ws ({ frames := 2, cells := 0, slots := 0, locals := 33 } : Room) #[(.ref a1), (.int p2), (.int p3), (.int p4), (.int p5), (.int p6)] h0 (fun v h L => v = some (.int (i01 ((f p2.toNatClampNeg) &&& 255 = own_exp p2 p3 p4 p5 p6))) ∧ Fr n0 L ∧ h = h0) := by
  refine Met.of (plainFor_of_name own_pn2) ?_
  intro p e s m below meth c T0 hx hby hml hk hret hnm hown hZ X0 e0
  have N0 := Fr.nil n0
  refine Go.cast (ef_own_mat m a1 p2 p3 p4 p5 p6) ?_
  show Go p e below _ T0 (mkF m 0 #[.val (.ref a1), .val (.int p2), .val (.int p3), .val (.int p4), .val (.int p5), .val (.int p6)] [])
  refine Go.via (fun _ k => XS.aloadN X0.here hx rfl (hb hby own_d10_0) rfl (by rfl) k) ?_
  show Go p e below _ T0 (mkF m 1 #[.val (.ref a1), .val (.int p2), .val (.int p3), .val (.int p4), .val (.int p5), .val (.int p6)] [(.ref a1)])
  refine Go.via (fun _ k => XS.iloadN X0.here hx rfl (hb hby own_d10_1) rfl  k) ?_
  show Go p e below _ T0 (mkF m 2 #[.val (.ref a1), .val (.int p2), .val (.int p3), .val (.int p4), .val (.int p5), .val (.int p6)] [(.int p2), (.ref a1)])
  refine Go.via (fun _ k => ldArb X0 hx hZ e0 A_b (j := p2) hin (g := (mkF m 2 #[.val (.ref a1), .val (.int p2), .val (.int p3), .val (.int p4), .val (.int p5), .val (.int p6)] [(.int p2), (.ref a1)])) rfl rfl (hb hby own_d10_2) _ k) ?_
  show Go p e below _ T0 (mkF m 3 #[.val (.ref a1), .val (.int p2), .val (.int p3), .val (.int p4), .val (.int p5), .val (.int p6)] [(.int (f (p2).toNatClampNeg))])
  refine Go.via (fun _ k => XS.sipush X0.here hx rfl (hb hby own_d10_3) k) ?_
  show Go p e below _ T0 (mkF m 6 #[.val (.ref a1), .val (.int p2), .val (.int p3), .val (.int p4), .val (.int p5), .val (.int p6)] [(.int (255 : Int32)), (.int (f (p2).toNatClampNeg))])
  refine Go.via (fun _ k => XS.iand X0.here hx rfl (hb hby own_d10_6) rfl k) ?_
  show Go p e below _ T0 (mkF m 7 #[.val (.ref a1), .val (.int p2), .val (.int p3), .val (.int p4), .val (.int p5), .val (.int p6)] [(.int ((f (p2).toNatClampNeg) &&& (255 : Int32)))])
  refine Go.via (fun _ k => XS.iloadN X0.here hx rfl (hb hby own_d10_7) rfl  k) ?_
  show Go p e below _ T0 (mkF m 8 #[.val (.ref a1), .val (.int p2), .val (.int p3), .val (.int p4), .val (.int p5), .val (.int p6)] [(.int p2), (.int ((f (p2).toNatClampNeg) &&& (255 : Int32)))])
  refine Go.via (fun _ k => XS.iloadN X0.here hx rfl (hb hby own_d10_8) rfl  k) ?_
  show Go p e below _ T0 (mkF m 9 #[.val (.ref a1), .val (.int p2), .val (.int p3), .val (.int p4), .val (.int p5), .val (.int p6)] [(.int p3), (.int p2), (.int ((f (p2).toNatClampNeg) &&& (255 : Int32)))])
  refine Go.via (fun _ k => XS.iloadN X0.here hx rfl (hb hby own_d10_9) rfl  k) ?_
  show Go p e below _ T0 (mkF m 10 #[.val (.ref a1), .val (.int p2), .val (.int p3), .val (.int p4), .val (.int p5), .val (.int p6)] [(.int p4), (.int p3), (.int p2), (.int ((f (p2).toNatClampNeg) &&& (255 : Int32)))])
  refine Go.via (fun _ k => XS.iload X0.here hx rfl (hb hby own_d10_10) rfl  k) ?_
  show Go p e below _ T0 (mkF m 12 #[.val (.ref a1), .val (.int p2), .val (.int p3), .val (.int p4), .val (.int p5), .val (.int p6)] [(.int p5), (.int p4), (.int p3), (.int p2), (.int ((f (p2).toNatClampNeg) &&& (255 : Int32)))])
  refine Go.via (fun _ k => XS.iload X0.here hx rfl (hb hby own_d10_12) rfl  k) ?_
  show Go p e below _ T0 (mkF m 14 #[.val (.ref a1), .val (.int p2), .val (.int p3), .val (.int p4), .val (.int p5), .val (.int p6)] [(.int p6), (.int p5), (.int p4), (.int p3), (.int p2), (.int ((f (p2).toNatClampNeg) &&& (255 : Int32)))])
  obtain ⟨v1, T1, L1, X1, ⟨rfl, Nq1, eq1⟩, st1⟩ := Go.callS X0 hx hZ hown e0 (hw _ (List.mem_of_getElem? (i := 55) rfl)) (hw _ (List.mem_of_getElem? (i := 56) rfl)) (hw _ (List.mem_of_getElem? (i := 53) rfl)) (hw _ (List.mem_of_getElem? (i := 57) rfl)) (by decide) (own_mex l Z a0 hw [] p2 p3 p4 p5 p6  h0 n0 Z0 ) (pc := 14) (Ls := #[.val (.ref a1), .val (.int p2), .val (.int p3), .val (.int p4), .val (.int p5), .val (.int p6)]) (argsL := [(.int p2), (.int p3), (.int p4), (.int p5), (.int p6)]) (rest := [(.int ((f (p2).toNatClampNeg) &&& (255 : Int32)))]) own_pd4 rfl rfl (by rw [hml]; rfl) (hb hby own_d10_14) (W := 1) (Nat.le_of_eq rfl) (by decide) (by decide) (by decide) (by decide)
  refine st1 ?_
  have N1 := Fr.app N0 Nq1
  show Go p e below _ T1 (mkF m 17 #[.val (.ref a1), .val (.int p2), .val (.int p3), .val (.int p4), .val (.int p5), .val (.int p6)] [(.int (own_exp p2 p3 p4 p5 p6)), (.int ((f (p2).toNatClampNeg) &&& (255 : Int32)))])
  by_cases hc17 : ((f (p2).toNatClampNeg) &&& (255 : Int32)) = (own_exp p2 p3 p4 p5 p6)
  · skip
    refine Go.via (fun _ k => XS.icmpNo X1.here hx rfl (hb hby own_d10_17) rfl (teq hc17).2 k) ?_
    show Go p e below _ T1 (mkF m 20 #[.val (.ref a1), .val (.int p2), .val (.int p3), .val (.int p4), .val (.int p5), .val (.int p6)] [])
    refine Go.via (fun _ k => XS.iconst X1.here hx rfl (hb hby own_d10_20) k) ?_
    show Go p e below _ T1 (mkF m 21 #[.val (.ref a1), .val (.int p2), .val (.int p3), .val (.int p4), .val (.int p5), .val (.int p6)] [(.int (1 : Int32))])
    refine Go.via (fun _ k => XS.goto X1.here hx rfl (pc0 := 21) (pc' := 25) rfl (hb hby own_d10_21) (by decide) (by decide) k) ?_
    show Go p e below _ T1 (mkF m 25 #[.val (.ref a1), .val (.int p2), .val (.int p3), .val (.int p4), .val (.int p5), .val (.int p6)] [(.int (1 : Int32))])
    refine Go.retN X1 hx hk (hret : meth.sig.returnType = some .boolean) (t := .boolean) (by simp) (hb hby own_d10_25) (by decide) (by decide) ?_
    exact ⟨by rw [show i01 ((f p2.toNatClampNeg) &&& 255 = own_exp p2 p3 p4 p5 p6) = _ from i01_t hc17]; rfl, N1, eq1⟩
  · skip
    refine Go.via (fun _ k => XS.icmpYes X1.here hx rfl (pc0 := 17) (pc' := 24) rfl (hb hby own_d10_17) rfl (feq hc17).2 (by decide) (by decide) k) ?_
    show Go p e below _ T1 (mkF m 24 #[.val (.ref a1), .val (.int p2), .val (.int p3), .val (.int p4), .val (.int p5), .val (.int p6)] [])
    refine Go.via (fun _ k => XS.iconst X1.here hx rfl (hb hby own_d10_24) k) ?_
    show Go p e below _ T1 (mkF m 25 #[.val (.ref a1), .val (.int p2), .val (.int p3), .val (.int p4), .val (.int p5), .val (.int p6)] [(.int (0 : Int32))])
    refine Go.retN X1 hx hk (hret : meth.sig.returnType = some .boolean) (t := .boolean) (by simp) (hb hby own_d10_25) (by decide) (by decide) ?_
    exact ⟨by rw [show i01 ((f p2.toNatClampNeg) &&& 255 = own_exp p2 p3 p4 p5 p6) = _ from i01_f hc17]; rfl, N1, eq1⟩
theorem ef_own_m0 (m : MethodId) (p1 : Int32) (p2 : Int32) (p3 : Int32) (p4 : Int32) : entryFrame m #[(.int p1), (.int p2), (.int p3), (.int p4)] maxLocals = mkF m 0 #[.val (.int p1), .val (.int p2), .val (.int p3), .val (.int p4), .unset, .unset, .unset] [] := by first | (simp [entryFrame, mkF, argsToLocals, Value.category, maxLocals]; done) | rfl
set_option maxRecDepth 65536 in
set_option maxHeartbeats 40000000 in
theorem own_m0 (l : Launch) (Z : State) (a0 : Array Value) (hw : ∀ d ∈ tables_1, d.before a0 Z = true) (ws : List Jvm.Cond) (p1 : Int32) (p2 : Int32) (p3 : Int32) (p4 : Int32)  (h0 : Heap) (n0 : Nat) (Z0 : n0 ≤ h0.size)  :
    Met l Z x code maxLocals ret ws room_1 #[(.int p1), (.int p2), (.int p3), (.int p4)] h0 (fun v h L => v = some (.int 1) ∧ Fr n0 L) := by
  refine Met.of (plainFor_of_name own_pn2) ?_
  intro p e s m below meth c T0 hx hby hml hk hret hnm hown hZ X0 e0
  have N0 := Fr.nil n0
  refine Go.cast (ef_own_m0 m p1 p2 p3 p4) ?_
  show Go p e below _ T0 (mkF m 0 #[.val (.int p1), .val (.int p2), .val (.int p3), .val (.int p4), .unset, .unset, .unset] [])
  refine Go.via (fun _ k => XS.iloadN X0.here hx rfl (hb hby at_0) rfl  k) ?_
  show Go p e below _ T0 (mkF m 1 #[.val (.int p1), .val (.int p2), .val (.int p3), .val (.int p4), .unset, .unset, .unset] [(.int p3)])
  refine Go.via (fun _ k => Stand.ldcInt X0 hx hown (mvT hZ (hw _ (List.mem_of_getElem? (i := 0) rfl))) (g := (mkF m 1 #[.val (.int p1), .val (.int p2), .val (.int p3), .val (.int p4), .unset, .unset, .unset] [(.int p3)])) rfl (hb hby at_1) _ k) ?_
  show Go p e below _ T0 (mkF m 3 #[.val (.int p1), .val (.int p2), .val (.int p3), .val (.int p4), .unset, .unset, .unset] [(.int (2147483647 : Int32)), (.int p3)])
  refine Go.via (fun _ k => XS.iand X0.here hx rfl (hb hby at_3) rfl k) ?_
  show Go p e below _ T0 (mkF m 4 #[.val (.int p1), .val (.int p2), .val (.int p3), .val (.int p4), .unset, .unset, .unset] [(.int (p3 &&& (2147483647 : Int32)))])
  refine Go.via (fun _ k => XS.bipush X0.here hx rfl (hb hby at_4) k) ?_
  show Go p e below _ T0 (mkF m 6 #[.val (.int p1), .val (.int p2), .val (.int p3), .val (.int p4), .unset, .unset, .unset] [(.int (7 : Int32)), (.int (p3 &&& (2147483647 : Int32)))])
  refine Go.via (fun _ k => iremM (g := (mkF m 6 #[.val (.int p1), .val (.int p2), .val (.int p3), .val (.int p4), .unset, .unset, .unset] [(.int (7 : Int32)), (.int (p3 &&& (2147483647 : Int32)))])) X0 hx rfl (hb hby at_6) rfl (by decide) k) ?_
  show Go p e below _ T0 (mkF m 7 #[.val (.int p1), .val (.int p2), .val (.int p3), .val (.int p4), .unset, .unset, .unset] [(.int ((p3 &&& (2147483647 : Int32)) % (7 : Int32)))])
  refine Go.via (fun _ k => XS.istore X0.here hx rfl (hb hby at_7) rfl (l' := #[.val (.int p1), .val (.int p2), .val (.int p3), .val (.int p4), .val (.int ((p3 &&& (2147483647 : Int32)) % (7 : Int32))), .unset, .unset]) rfl k) ?_
  show Go p e below _ T0 (mkF m 9 #[.val (.int p1), .val (.int p2), .val (.int p3), .val (.int p4), .val (.int (own_off p3)), .unset, .unset] [])
  obtain ⟨T1, h1, X1, e1, E1, A1, D1, -, st1⟩ := newO X0 hx hZ hown (hw _ (List.mem_of_getElem? (i := 1) rfl)) (hw _ (List.mem_of_getElem? (i := 2) rfl)) (hw _ (List.mem_of_getElem? (i := 3) rfl)) e0 (g := (mkF m 9 #[.val (.int p1), .val (.int p2), .val (.int p3), .val (.int p4), .val (.int (own_off p3)), .unset, .unset] [])) rfl (hb hby at_9) (by decide) (by decide)
  obtain ⟨b1, g1⟩ : ∃ z, z = h0.size := ⟨_, rfl⟩
  rw [← g1] at A1 D1 st1
  refine Go.via (fun _ k => st1 _ k) ?_
  have ge_b1 : n0 ≤ b1 := Nat.le_trans Z0 (Nat.le_of_eq g1.symm)
  have Z1 : n0 ≤ h1.size := Nat.le_trans Z0 E1.1
  have F_bytes_1 : Fld Z h1 b1 "com/example/meddle/meddle/ClassFile$Bytes" "bytes" "[B" .null := D1 (Or.inl (hw _ (List.mem_of_getElem? (i := 12) rfl))) (ty := (.array .byte)) (by decide)
  have F_length_1 : Fld Z h1 b1 "com/example/meddle/meddle/ClassFile$Bytes" "length" "I" (.int (0 : Int32)) := D1 (Or.inl (hw _ (List.mem_of_getElem? (i := 23) rfl))) (ty := .int) (by decide)
  show Go p e below _ T1 (mkF m 12 #[.val (.int p1), .val (.int p2), .val (.int p3), .val (.int p4), .val (.int (own_off p3)), .unset, .unset] [(.ref b1)])
  refine Go.via (fun _ k => XS.dup X1.here hx rfl (hb hby at_12) rfl (by rfl) k) ?_
  show Go p e below _ T1 (mkF m 13 #[.val (.int p1), .val (.int p2), .val (.int p3), .val (.int p4), .val (.int (own_off p3)), .unset, .unset] [(.ref b1), (.ref b1)])
  obtain ⟨v2, T2, L2, X2, ⟨c2, rfl, Nq2, K2, Ea2, Fb2, Fl2, Ab2, gc2, nac2⟩, st2⟩ := Go.callN X1 hx hZ hown e1 rfl (hw _ (List.mem_of_getElem? (i := 4) rfl)) (hw _ (List.mem_of_getElem? (i := 5) rfl)) (hw _ (List.mem_of_getElem? (i := 3) rfl)) (hw _ (List.mem_of_getElem? (i := 6) rfl)) (by decide) (own_init l Z a0 hw [] b1 h1 n0 Z1 A1 F_bytes_1 F_length_1 ge_b1) (pc := 13) (Ls := #[.val (.int p1), .val (.int p2), .val (.int p3), .val (.int p4), .val (.int (own_off p3)), .unset, .unset]) (a := b1) (argsL := []) (rest := [(.ref b1)]) own_pd5 rfl rfl (by rw [hml]; rfl) (hb hby at_13) (W := 1) (Nat.le_of_eq rfl) (by decide) (by decide) (by decide) (by decide)
  refine st2 ?_
  have N2 := Fr.app N0 Nq2
  have Z2 : n0 ≤ T2.heap.size := Nat.le_trans Z1 K2.1
  have e2 : T2.heap = T2.heap := rfl
  show Go p e below _ T2 (mkF m 16 #[.val (.int p1), .val (.int p2), .val (.int p3), .val (.int p4), .val (.int (own_off p3)), .unset, .unset] [(.ref b1)])
  refine Go.via (fun _ k => XS.astore X2.here hx rfl (hb hby at_16) rfl (by rfl) (l' := #[.val (.int p1), .val (.int p2), .val (.int p3), .val (.int p4), .val (.int (own_off p3)), .val (.ref b1), .unset]) rfl k) ?_
  show Go p e below _ T2 (mkF m 18 #[.val (.int p1), .val (.int p2), .val (.int p3), .val (.int p4), .val (.int (own_off p3)), .val (.ref b1), .unset] [])
  refine Go.via (fun _ k => XS.aload X2.here hx rfl (hb hby at_18) rfl (by rfl) k) ?_
  show Go p e below _ T2 (mkF m 20 #[.val (.int p1), .val (.int p2), .val (.int p3), .val (.int p4), .val (.int (own_off p3)), .val (.ref b1), .unset] [(.ref b1)])
  refine Go.via (fun _ k => XS.iloadN X2.here hx rfl (hb hby at_20) rfl  k) ?_
  show Go p e below _ T2 (mkF m 21 #[.val (.int p1), .val (.int p2), .val (.int p3), .val (.int p4), .val (.int (own_off p3)), .val (.ref b1), .unset] [(.int p1), (.ref b1)])
  obtain ⟨v3, T3, L3, X3, ⟨rfl, Nq3, K3, G0_3, G1_3, G2_3, G3_3⟩, st3⟩ := Go.callV X2 hx hZ hown e2 (hw _ (List.mem_of_getElem? (i := 13) rfl)) (hw _ (List.mem_of_getElem? (i := 14) rfl)) (hw _ (List.mem_of_getElem? (i := 16) rfl)) (hw _ (List.mem_of_getElem? (i := 15) rfl)) (hw _ (List.mem_of_getElem? (i := 3) rfl)) (hw _ (List.mem_of_getElem? (i := 17) rfl)) (by decide) Ea2 (own_mu4 l Z a0 hw [] b1 p1 c2 (0 : Int32) (fun _ => 0) T2.heap n0 Z2 Ea2 Fb2 Fl2 Ab2 ge_b1 gc2 nac2 (by decide)) (pc := 21) (Ls := #[.val (.int p1), .val (.int p2), .val (.int p3), .val (.int p4), .val (.int (own_off p3)), .val (.ref b1), .unset]) (argsL := [(.int p1)]) (rest := []) own_pd0 rfl rfl (by rw [hml]; rfl) (hb hby at_21) (W := 0) (Nat.le_of_eq rfl) (by decide) (by decide) (by decide) (by decide)
  refine st3 ?_
  have N3 := Fr.app N2 Nq3
  have Z3 : n0 ≤ T3.heap.size := Nat.le_trans Z2 K3.1
  have e3 : T3.heap = T3.heap := rfl
  show Go p e below _ T3 (mkF m 24 #[.val (.int p1), .val (.int p2), .val (.int p3), .val (.int p4), .val (.int (own_off p3)), .val (.ref b1), .unset] [])
  refine Go.via (fun _ k => XS.aload X3.here hx rfl (hb hby at_24) rfl (by rfl) k) ?_
  show Go p e below _ T3 (mkF m 26 #[.val (.int p1), .val (.int p2), .val (.int p3), .val (.int p4), .val (.int (own_off p3)), .val (.ref b1), .unset] [(.ref b1)])
  refine Go.via (fun _ k => XS.iloadN X3.here hx rfl (hb hby at_26) rfl  k) ?_
  show Go p e below _ T3 (mkF m 27 #[.val (.int p1), .val (.int p2), .val (.int p3), .val (.int p4), .val (.int (own_off p3)), .val (.ref b1), .unset] [(.int p2), (.ref b1)])
  obtain ⟨v4, T4, L4, X4, ⟨rfl, Nq4, K4, G0_4, G1_4, G2_4, G3_4⟩, st4⟩ := Go.callV X3 hx hZ hown e3 (hw _ (List.mem_of_getElem? (i := 13) rfl)) (hw _ (List.mem_of_getElem? (i := 14) rfl)) (hw _ (List.mem_of_getElem? (i := 16) rfl)) (hw _ (List.mem_of_getElem? (i := 15) rfl)) (hw _ (List.mem_of_getElem? (i := 3) rfl)) (hw _ (List.mem_of_getElem? (i := 17) rfl)) (by decide) G0_3 (own_mu4 l Z a0 hw [] b1 p2 c2 (4 : Int32) (own_u4 (fun _ => 0) (0 : Int32) p1) T3.heap n0 Z3 G0_3 G1_3 G2_3 G3_3 ge_b1 gc2 nac2 (by decide)) (pc := 27) (Ls := #[.val (.int p1), .val (.int p2), .val (.int p3), .val (.int p4), .val (.int (own_off p3)), .val (.ref b1), .unset]) (argsL := [(.int p2)]) (rest := []) own_pd0 rfl rfl (by rw [hml]; rfl) (hb hby at_27) (W := 0) (Nat.le_of_eq rfl) (by decide) (by decide) (by decide) (by decide)
  refine st4 ?_
  have N4 := Fr.app N3 Nq4
  have Z4 : n0 ≤ T4.heap.size := Nat.le_trans Z3 K4.1
  have e4 : T4.heap = T4.heap := rfl
  show Go p e below _ T4 (mkF m 30 #[.val (.int p1), .val (.int p2), .val (.int p3), .val (.int p4), .val (.int (own_off p3)), .val (.ref b1), .unset] [])
  refine Go.via (fun _ k => XS.aload X4.here hx rfl (hb hby at_30) rfl (by rfl) k) ?_
  show Go p e below _ T4 (mkF m 32 #[.val (.int p1), .val (.int p2), .val (.int p3), .val (.int p4), .val (.int (own_off p3)), .val (.ref b1), .unset] [(.ref b1)])
  refine Go.via (fun _ k => XS.iload X4.here hx rfl (hb hby at_32) rfl  k) ?_
  show Go p e below _ T4 (mkF m 34 #[.val (.int p1), .val (.int p2), .val (.int p3), .val (.int p4), .val (.int (own_off p3)), .val (.ref b1), .unset] [(.int (own_off p3)), (.ref b1)])
  refine Go.via (fun _ k => XS.iloadN X4.here hx rfl (hb hby at_34) rfl  k) ?_
  show Go p e below _ T4 (mkF m 35 #[.val (.int p1), .val (.int p2), .val (.int p3), .val (.int p4), .val (.int (own_off p3)), .val (.ref b1), .unset] [(.int p4), (.int (own_off p3)), (.ref b1)])
  obtain ⟨v5, T5, L5, X5, ⟨rfl, Nq5, K5, G0_5⟩, st5⟩ := Go.callV X4 hx hZ hown e4 (hw _ (List.mem_of_getElem? (i := 24) rfl)) (hw _ (List.mem_of_getElem? (i := 25) rfl)) (hw _ (List.mem_of_getElem? (i := 27) rfl)) (hw _ (List.mem_of_getElem? (i := 26) rfl)) (hw _ (List.mem_of_getElem? (i := 3) rfl)) (hw _ (List.mem_of_getElem? (i := 28) rfl)) (by decide) G0_4 (own_ms2 l Z a0 hw [] b1 (own_off p3) p4 c2 (8 : Int32) (own_u4 (own_u4 (fun _ => 0) (0 : Int32) p1) (4 : Int32) p2) T4.heap n0 Z4 G0_4 G1_4 G2_4 G3_4 gc2 nac2 (own_i0 _) (own_i1 _)) (pc := 35) (Ls := #[.val (.int p1), .val (.int p2), .val (.int p3), .val (.int p4), .val (.int (own_off p3)), .val (.ref b1), .unset]) (argsL := [(.int (own_off p3)), (.int p4)]) (rest := []) own_pd6 rfl rfl (by rw [hml]; rfl) (hb hby at_35) (W := 0) (Nat.le_of_eq rfl) (by decide) (by decide) (by decide) (by decide)
  refine st5 ?_
  have N5 := Fr.app N4 Nq5
  have Z5 : n0 ≤ T5.heap.size := Nat.le_trans Z4 K5.1
  have G0_4_5 := G0_4.keep K5
  have G1_4_5 := G1_4.keep K5 (ninS nac2 (nin0))
  have G2_4_5 := G2_4.keep K5 (ninS nac2 (nin0))
  have e5 : T5.heap = T5.heap := rfl
  show Go p e below _ T5 (mkF m 38 #[.val (.int p1), .val (.int p2), .val (.int p3), .val (.int p4), .val (.int (own_off p3)), .val (.ref b1), .unset] [])
  refine Go.via (fun _ k => XS.aload X5.here hx rfl (hb hby at_38) rfl (by rfl) k) ?_
  show Go p e below _ T5 (mkF m 40 #[.val (.int p1), .val (.int p2), .val (.int p3), .val (.int p4), .val (.int (own_off p3)), .val (.ref b1), .unset] [(.ref b1)])
  obtain ⟨v6, T6, L6, X6, ⟨r6, rfl, Nq6, K6, Ar6, gr6, nr6⟩, st6⟩ := Go.callV X5 hx hZ hown e5 (hw _ (List.mem_of_getElem? (i := 29) rfl)) (hw _ (List.mem_of_getElem? (i := 30) rfl)) (hw _ (List.mem_of_getElem? (i := 32) rfl)) (hw _ (List.mem_of_getElem? (i := 31) rfl)) (hw _ (List.mem_of_getElem? (i := 3) rfl)) (hw _ (List.mem_of_getElem? (i := 33) rfl)) (by decide) G0_4_5 (own_mta l Z a0 hw [] b1 c2 (own_s2 (own_u4 (own_u4 (fun _ => 0) (0 : Int32) p1) (4 : Int32) p2) (own_off p3) p4) T5.heap n0 Z5 G0_4_5 G1_4_5 G2_4_5 G0_5) (pc := 40) (Ls := #[.val (.int p1), .val (.int p2), .val (.int p3), .val (.int p4), .val (.int (own_off p3)), .val (.ref b1), .unset]) (argsL := []) (rest := []) own_pd7 rfl rfl (by rw [hml]; rfl) (hb hby at_40) (W := 0) (Nat.le_of_eq rfl) (by decide) (by decide) (by decide) (by decide)
  refine st6 ?_
  have N6 := Fr.app N5 Nq6
  have ne_b1_r6 : b1 ≠ r6 := nr6 _ G0_4_5.lt
  have ne_c2_r6 : c2 ≠ r6 := nr6 _ G0_5.lt
  have Z6 : n0 ≤ T6.heap.size := Nat.le_trans Z5 K6.1
  have G0_4_5_6 := G0_4_5.keep K6
  have G1_4_5_6 := G1_4_5.keep K6 (nin0)
  have G2_4_5_6 := G2_4_5.keep K6 (nin0)
  have G0_5_6 := G0_5.keep K6 (nin0)
  have e6 : T6.heap = T6.heap := rfl
  show Go p e below _ T6 (mkF m 43 #[.val (.int p1), .val (.int p2), .val (.int p3), .val (.int p4), .val (.int (own_off p3)), .val (.ref b1), .unset] [(.ref r6)])
  refine Go.via (fun _ k => XS.astore X6.here hx rfl (hb hby at_43) rfl (by rfl) (l' := #[.val (.int p1), .val (.int p2), .val (.int p3), .val (.int p4), .val (.int (own_off p3)), .val (.ref b1), .val (.ref r6)]) rfl k) ?_
  show Go p e below _ T6 (mkF m 45 #[.val (.int p1), .val (.int p2), .val (.int p3), .val (.int p4), .val (.int (own_off p3)), .val (.ref b1), .val (.ref r6)] [])
  refine Go.via (fun _ k => XS.aload X6.here hx rfl (hb hby at_45) rfl (by rfl) k) ?_
  show Go p e below _ T6 (mkF m 47 #[.val (.int p1), .val (.int p2), .val (.int p3), .val (.int p4), .val (.int (own_off p3)), .val (.ref b1), .val (.ref r6)] [(.ref b1)])
  obtain ⟨v7, T7, L7, X7, ⟨rfl, Nq7, eq7⟩, st7⟩ := Go.callV X6 hx hZ hown e6 (hw _ (List.mem_of_getElem? (i := 46) rfl)) (hw _ (List.mem_of_getElem? (i := 47) rfl)) (hw _ (List.mem_of_getElem? (i := 49) rfl)) (hw _ (List.mem_of_getElem? (i := 48) rfl)) (hw _ (List.mem_of_getElem? (i := 3) rfl)) (hw _ (List.mem_of_getElem? (i := 50) rfl)) (by decide) G0_4_5_6 (own_mle l Z a0 hw [] b1 (8 : Int32) T6.heap n0 Z6 G2_4_5_6) (pc := 47) (Ls := #[.val (.int p1), .val (.int p2), .val (.int p3), .val (.int p4), .val (.int (own_off p3)), .val (.ref b1), .val (.ref r6)]) (argsL := []) (rest := []) own_pd8 rfl rfl (by rw [hml]; rfl) (hb hby at_47) (W := 0) (Nat.le_of_eq rfl) (by decide) (by decide) (by decide) (by decide)
  refine st7 ?_
  have N7 := Fr.app N6 Nq7
  show Go p e below _ T7 (mkF m 50 #[.val (.int p1), .val (.int p2), .val (.int p3), .val (.int p4), .val (.int (own_off p3)), .val (.ref b1), .val (.ref r6)] [(.int (8 : Int32))])
  refine Go.via (fun _ k => XS.bipush X7.here hx rfl (hb hby at_50) k) ?_
  show Go p e below _ T7 (mkF m 52 #[.val (.int p1), .val (.int p2), .val (.int p3), .val (.int p4), .val (.int (own_off p3)), .val (.ref b1), .val (.ref r6)] [(.int (8 : Int32)), (.int (8 : Int32))])
  have hc52 : (8 : Int32) = (8 : Int32) := by decide
  refine Go.via (fun _ k => XS.icmpNo X7.here hx rfl (hb hby at_52) rfl (teq hc52).2 k) ?_
  show Go p e below _ T7 (mkF m 55 #[.val (.int p1), .val (.int p2), .val (.int p3), .val (.int p4), .val (.int (own_off p3)), .val (.ref b1), .val (.ref r6)] [])
  refine Go.via (fun _ k => XS.aload X7.here hx rfl (hb hby at_55) rfl (by rfl) k) ?_
  show Go p e below _ T7 (mkF m 57 #[.val (.int p1), .val (.int p2), .val (.int p3), .val (.int p4), .val (.int (own_off p3)), .val (.ref b1), .val (.ref r6)] [(.ref r6)])
  refine Go.via (fun _ k => lenArb X7 hx hZ eq7 Ar6 (z := (8 : Int32)) rfl (g := (mkF m 57 #[.val (.int p1), .val (.int p2), .val (.int p3), .val (.int p4), .val (.int (own_off p3)), .val (.ref b1), .val (.ref r6)] [(.ref r6)])) rfl rfl (hb hby at_57) _ k) ?_
  show Go p e below _ T7 (mkF m 58 #[.val (.int p1), .val (.int p2), .val (.int p3), .val (.int p4), .val (.int (own_off p3)), .val (.ref b1), .val (.ref r6)] [(.int (8 : Int32))])
  refine Go.via (fun _ k => XS.bipush X7.here hx rfl (hb hby at_58) k) ?_
  show Go p e below _ T7 (mkF m 60 #[.val (.int p1), .val (.int p2), .val (.int p3), .val (.int p4), .val (.int (own_off p3)), .val (.ref b1), .val (.ref r6)] [(.int (8 : Int32)), (.int (8 : Int32))])
  have hc60 : (8 : Int32) = (8 : Int32) := by decide
  refine Go.via (fun _ k => XS.icmpYes X7.here hx rfl (pc0 := 60) (pc' := 65) rfl (hb hby at_60) rfl (teq hc60).1 (by decide) (by decide) k) ?_
  show Go p e below _ T7 (mkF m 65 #[.val (.int p1), .val (.int p2), .val (.int p3), .val (.int p4), .val (.int (own_off p3)), .val (.ref b1), .val (.ref r6)] [])
  refine Go.via (fun _ k => XS.aload X7.here hx rfl (hb hby at_65) rfl (by rfl) k) ?_
  show Go p e below _ T7 (mkF m 67 #[.val (.int p1), .val (.int p2), .val (.int p3), .val (.int p4), .val (.int (own_off p3)), .val (.ref b1), .val (.ref r6)] [(.ref r6)])
  refine Go.via (fun _ k => XS.iconst X7.here hx rfl (hb hby at_67) k) ?_
  show Go p e below _ T7 (mkF m 68 #[.val (.int p1), .val (.int p2), .val (.int p3), .val (.int p4), .val (.int (own_off p3)), .val (.ref b1), .val (.ref r6)] [(.int (0 : Int32)), (.ref r6)])
  refine Go.via (fun _ k => XS.iloadN X7.here hx rfl (hb hby at_68) rfl  k) ?_
  show Go p e below _ T7 (mkF m 69 #[.val (.int p1), .val (.int p2), .val (.int p3), .val (.int p4), .val (.int (own_off p3)), .val (.ref b1), .val (.ref r6)] [(.int p1), (.int (0 : Int32)), (.ref r6)])
  refine Go.via (fun _ k => XS.iloadN X7.here hx rfl (hb hby at_69) rfl  k) ?_
  show Go p e below _ T7 (mkF m 70 #[.val (.int p1), .val (.int p2), .val (.int p3), .val (.int p4), .val (.int (own_off p3)), .val (.ref b1), .val (.ref r6)] [(.int p2), (.int p1), (.int (0 : Int32)), (.ref r6)])
  refine Go.via (fun _ k => XS.iload X7.here hx rfl (hb hby at_70) rfl  k) ?_
  show Go p e below _ T7 (mkF m 72 #[.val (.int p1), .val (.int p2), .val (.int p3), .val (.int p4), .val (.int (own_off p3)), .val (.ref b1), .val (.ref r6)] [(.int (own_off p3)), (.int p2), (.int p1), (.int (0 : Int32)), (.ref r6)])
  refine Go.via (fun _ k => XS.iloadN X7.here hx rfl (hb hby at_72) rfl  k) ?_
  show Go p e below _ T7 (mkF m 73 #[.val (.int p1), .val (.int p2), .val (.int p3), .val (.int p4), .val (.int (own_off p3)), .val (.ref b1), .val (.ref r6)] [(.int p4), (.int (own_off p3)), (.int p2), (.int p1), (.int (0 : Int32)), (.ref r6)])
  obtain ⟨v8, T8, L8, X8, ⟨rfl, Nq8, eq8⟩, st8⟩ := Go.callS X7 hx hZ hown eq7 (hw _ (List.mem_of_getElem? (i := 51) rfl)) (hw _ (List.mem_of_getElem? (i := 52) rfl)) (hw _ (List.mem_of_getElem? (i := 53) rfl)) (hw _ (List.mem_of_getElem? (i := 54) rfl)) (by decide) (own_mat l Z a0 hw [] r6 (0 : Int32) p1 p2 (own_off p3) p4 (own_s2 (own_u4 (own_u4 (fun _ => 0) (0 : Int32) p1) (4 : Int32) p2) (own_off p3) p4) T6.heap n0 Z6 Ar6 ⟨by decide, by decide⟩) (pc := 73) (Ls := #[.val (.int p1), .val (.int p2), .val (.int p3), .val (.int p4), .val (.int (own_off p3)), .val (.ref b1), .val (.ref r6)]) (argsL := [(.ref r6), (.int (0 : Int32)), (.int p1), (.int p2), (.int (own_off p3)), (.int p4)]) (rest := []) own_pd9 rfl rfl (by rw [hml]; rfl) (hb hby at_73) (W := 0) (Nat.le_of_eq rfl) (by decide) (by decide) (by decide) (by decide)
  refine st8 ?_
  have N8 := Fr.app N7 Nq8
  show Go p e below _ T8 (mkF m 76 #[.val (.int p1), .val (.int p2), .val (.int p3), .val (.int p4), .val (.int (own_off p3)), .val (.ref b1), .val (.ref r6)] [(.int (i01 ((own_F p1 p2 (own_off p3) p4 ((0 : Int32)).toNatClampNeg) &&& 255 = own_exp (0 : Int32) p1 p2 (own_off p3) p4)))])
  have hc76 : ¬ ((i01 ((own_F p1 p2 (own_off p3) p4 ((0 : Int32)).toNatClampNeg) &&& 255 = own_exp (0 : Int32) p1 p2 (own_off p3) p4)) = (0 : Int32)) := fun q => absurd (own_f0 _ _ _ _) (i01_0.mp q)
  refine Go.via (fun _ k => XS.ifNo X8.here hx rfl (hb hby at_76) rfl ((if0 _ _).trans (feq hc76).1) k) ?_
  show Go p e below _ T8 (mkF m 79 #[.val (.int p1), .val (.int p2), .val (.int p3), .val (.int p4), .val (.int (own_off p3)), .val (.ref b1), .val (.ref r6)] [])
  refine Go.via (fun _ k => XS.aload X8.here hx rfl (hb hby at_79) rfl (by rfl) k) ?_
  show Go p e below _ T8 (mkF m 81 #[.val (.int p1), .val (.int p2), .val (.int p3), .val (.int p4), .val (.int (own_off p3)), .val (.ref b1), .val (.ref r6)] [(.ref r6)])
  refine Go.via (fun _ k => XS.iconst X8.here hx rfl (hb hby at_81) k) ?_
  show Go p e below _ T8 (mkF m 82 #[.val (.int p1), .val (.int p2), .val (.int p3), .val (.int p4), .val (.int (own_off p3)), .val (.ref b1), .val (.ref r6)] [(.int (1 : Int32)), (.ref r6)])
  refine Go.via (fun _ k => XS.iloadN X8.here hx rfl (hb hby at_82) rfl  k) ?_
  show Go p e below _ T8 (mkF m 83 #[.val (.int p1), .val (.int p2), .val (.int p3), .val (.int p4), .val (.int (own_off p3)), .val (.ref b1), .val (.ref r6)] [(.int p1), (.int (1 : Int32)), (.ref r6)])
  refine Go.via (fun _ k => XS.iloadN X8.here hx rfl (hb hby at_83) rfl  k) ?_
  show Go p e below _ T8 (mkF m 84 #[.val (.int p1), .val (.int p2), .val (.int p3), .val (.int p4), .val (.int (own_off p3)), .val (.ref b1), .val (.ref r6)] [(.int p2), (.int p1), (.int (1 : Int32)), (.ref r6)])
  refine Go.via (fun _ k => XS.iload X8.here hx rfl (hb hby at_84) rfl  k) ?_
  show Go p e below _ T8 (mkF m 86 #[.val (.int p1), .val (.int p2), .val (.int p3), .val (.int p4), .val (.int (own_off p3)), .val (.ref b1), .val (.ref r6)] [(.int (own_off p3)), (.int p2), (.int p1), (.int (1 : Int32)), (.ref r6)])
  refine Go.via (fun _ k => XS.iloadN X8.here hx rfl (hb hby at_86) rfl  k) ?_
  show Go p e below _ T8 (mkF m 87 #[.val (.int p1), .val (.int p2), .val (.int p3), .val (.int p4), .val (.int (own_off p3)), .val (.ref b1), .val (.ref r6)] [(.int p4), (.int (own_off p3)), (.int p2), (.int p1), (.int (1 : Int32)), (.ref r6)])
  obtain ⟨v9, T9, L9, X9, ⟨rfl, Nq9, eq9⟩, st9⟩ := Go.callS X8 hx hZ hown eq8 (hw _ (List.mem_of_getElem? (i := 51) rfl)) (hw _ (List.mem_of_getElem? (i := 52) rfl)) (hw _ (List.mem_of_getElem? (i := 53) rfl)) (hw _ (List.mem_of_getElem? (i := 54) rfl)) (by decide) (own_mat l Z a0 hw [] r6 (1 : Int32) p1 p2 (own_off p3) p4 (own_s2 (own_u4 (own_u4 (fun _ => 0) (0 : Int32) p1) (4 : Int32) p2) (own_off p3) p4) T6.heap n0 Z6 Ar6 ⟨by decide, by decide⟩) (pc := 87) (Ls := #[.val (.int p1), .val (.int p2), .val (.int p3), .val (.int p4), .val (.int (own_off p3)), .val (.ref b1), .val (.ref r6)]) (argsL := [(.ref r6), (.int (1 : Int32)), (.int p1), (.int p2), (.int (own_off p3)), (.int p4)]) (rest := []) own_pd9 rfl rfl (by rw [hml]; rfl) (hb hby at_87) (W := 0) (Nat.le_of_eq rfl) (by decide) (by decide) (by decide) (by decide)
  refine st9 ?_
  have N9 := Fr.app N8 Nq9
  show Go p e below _ T9 (mkF m 90 #[.val (.int p1), .val (.int p2), .val (.int p3), .val (.int p4), .val (.int (own_off p3)), .val (.ref b1), .val (.ref r6)] [(.int (i01 ((own_F p1 p2 (own_off p3) p4 ((1 : Int32)).toNatClampNeg) &&& 255 = own_exp (1 : Int32) p1 p2 (own_off p3) p4)))])
  have hc90 : ¬ ((i01 ((own_F p1 p2 (own_off p3) p4 ((1 : Int32)).toNatClampNeg) &&& 255 = own_exp (1 : Int32) p1 p2 (own_off p3) p4)) = (0 : Int32)) := fun q => absurd (own_f1 _ _ _ _) (i01_0.mp q)
  refine Go.via (fun _ k => XS.ifNo X9.here hx rfl (hb hby at_90) rfl ((if0 _ _).trans (feq hc90).1) k) ?_
  show Go p e below _ T9 (mkF m 93 #[.val (.int p1), .val (.int p2), .val (.int p3), .val (.int p4), .val (.int (own_off p3)), .val (.ref b1), .val (.ref r6)] [])
  refine Go.via (fun _ k => XS.aload X9.here hx rfl (hb hby at_93) rfl (by rfl) k) ?_
  show Go p e below _ T9 (mkF m 95 #[.val (.int p1), .val (.int p2), .val (.int p3), .val (.int p4), .val (.int (own_off p3)), .val (.ref b1), .val (.ref r6)] [(.ref r6)])
  refine Go.via (fun _ k => XS.iconst X9.here hx rfl (hb hby at_95) k) ?_
  show Go p e below _ T9 (mkF m 96 #[.val (.int p1), .val (.int p2), .val (.int p3), .val (.int p4), .val (.int (own_off p3)), .val (.ref b1), .val (.ref r6)] [(.int (2 : Int32)), (.ref r6)])
  refine Go.via (fun _ k => XS.iloadN X9.here hx rfl (hb hby at_96) rfl  k) ?_
  show Go p e below _ T9 (mkF m 97 #[.val (.int p1), .val (.int p2), .val (.int p3), .val (.int p4), .val (.int (own_off p3)), .val (.ref b1), .val (.ref r6)] [(.int p1), (.int (2 : Int32)), (.ref r6)])
  refine Go.via (fun _ k => XS.iloadN X9.here hx rfl (hb hby at_97) rfl  k) ?_
  show Go p e below _ T9 (mkF m 98 #[.val (.int p1), .val (.int p2), .val (.int p3), .val (.int p4), .val (.int (own_off p3)), .val (.ref b1), .val (.ref r6)] [(.int p2), (.int p1), (.int (2 : Int32)), (.ref r6)])
  refine Go.via (fun _ k => XS.iload X9.here hx rfl (hb hby at_98) rfl  k) ?_
  show Go p e below _ T9 (mkF m 100 #[.val (.int p1), .val (.int p2), .val (.int p3), .val (.int p4), .val (.int (own_off p3)), .val (.ref b1), .val (.ref r6)] [(.int (own_off p3)), (.int p2), (.int p1), (.int (2 : Int32)), (.ref r6)])
  refine Go.via (fun _ k => XS.iloadN X9.here hx rfl (hb hby at_100) rfl  k) ?_
  show Go p e below _ T9 (mkF m 101 #[.val (.int p1), .val (.int p2), .val (.int p3), .val (.int p4), .val (.int (own_off p3)), .val (.ref b1), .val (.ref r6)] [(.int p4), (.int (own_off p3)), (.int p2), (.int p1), (.int (2 : Int32)), (.ref r6)])
  obtain ⟨v10, T10, L10, X10, ⟨rfl, Nq10, eq10⟩, st10⟩ := Go.callS X9 hx hZ hown eq9 (hw _ (List.mem_of_getElem? (i := 51) rfl)) (hw _ (List.mem_of_getElem? (i := 52) rfl)) (hw _ (List.mem_of_getElem? (i := 53) rfl)) (hw _ (List.mem_of_getElem? (i := 54) rfl)) (by decide) (own_mat l Z a0 hw [] r6 (2 : Int32) p1 p2 (own_off p3) p4 (own_s2 (own_u4 (own_u4 (fun _ => 0) (0 : Int32) p1) (4 : Int32) p2) (own_off p3) p4) T6.heap n0 Z6 Ar6 ⟨by decide, by decide⟩) (pc := 101) (Ls := #[.val (.int p1), .val (.int p2), .val (.int p3), .val (.int p4), .val (.int (own_off p3)), .val (.ref b1), .val (.ref r6)]) (argsL := [(.ref r6), (.int (2 : Int32)), (.int p1), (.int p2), (.int (own_off p3)), (.int p4)]) (rest := []) own_pd9 rfl rfl (by rw [hml]; rfl) (hb hby at_101) (W := 0) (Nat.le_of_eq rfl) (by decide) (by decide) (by decide) (by decide)
  refine st10 ?_
  have N10 := Fr.app N9 Nq10
  show Go p e below _ T10 (mkF m 104 #[.val (.int p1), .val (.int p2), .val (.int p3), .val (.int p4), .val (.int (own_off p3)), .val (.ref b1), .val (.ref r6)] [(.int (i01 ((own_F p1 p2 (own_off p3) p4 ((2 : Int32)).toNatClampNeg) &&& 255 = own_exp (2 : Int32) p1 p2 (own_off p3) p4)))])
  have hc104 : ¬ ((i01 ((own_F p1 p2 (own_off p3) p4 ((2 : Int32)).toNatClampNeg) &&& 255 = own_exp (2 : Int32) p1 p2 (own_off p3) p4)) = (0 : Int32)) := fun q => absurd (own_f2 _ _ _ _) (i01_0.mp q)
  refine Go.via (fun _ k => XS.ifNo X10.here hx rfl (hb hby at_104) rfl ((if0 _ _).trans (feq hc104).1) k) ?_
  show Go p e below _ T10 (mkF m 107 #[.val (.int p1), .val (.int p2), .val (.int p3), .val (.int p4), .val (.int (own_off p3)), .val (.ref b1), .val (.ref r6)] [])
  refine Go.via (fun _ k => XS.aload X10.here hx rfl (hb hby at_107) rfl (by rfl) k) ?_
  show Go p e below _ T10 (mkF m 109 #[.val (.int p1), .val (.int p2), .val (.int p3), .val (.int p4), .val (.int (own_off p3)), .val (.ref b1), .val (.ref r6)] [(.ref r6)])
  refine Go.via (fun _ k => XS.iconst X10.here hx rfl (hb hby at_109) k) ?_
  show Go p e below _ T10 (mkF m 110 #[.val (.int p1), .val (.int p2), .val (.int p3), .val (.int p4), .val (.int (own_off p3)), .val (.ref b1), .val (.ref r6)] [(.int (3 : Int32)), (.ref r6)])
  refine Go.via (fun _ k => XS.iloadN X10.here hx rfl (hb hby at_110) rfl  k) ?_
  show Go p e below _ T10 (mkF m 111 #[.val (.int p1), .val (.int p2), .val (.int p3), .val (.int p4), .val (.int (own_off p3)), .val (.ref b1), .val (.ref r6)] [(.int p1), (.int (3 : Int32)), (.ref r6)])
  refine Go.via (fun _ k => XS.iloadN X10.here hx rfl (hb hby at_111) rfl  k) ?_
  show Go p e below _ T10 (mkF m 112 #[.val (.int p1), .val (.int p2), .val (.int p3), .val (.int p4), .val (.int (own_off p3)), .val (.ref b1), .val (.ref r6)] [(.int p2), (.int p1), (.int (3 : Int32)), (.ref r6)])
  refine Go.via (fun _ k => XS.iload X10.here hx rfl (hb hby at_112) rfl  k) ?_
  show Go p e below _ T10 (mkF m 114 #[.val (.int p1), .val (.int p2), .val (.int p3), .val (.int p4), .val (.int (own_off p3)), .val (.ref b1), .val (.ref r6)] [(.int (own_off p3)), (.int p2), (.int p1), (.int (3 : Int32)), (.ref r6)])
  refine Go.via (fun _ k => XS.iloadN X10.here hx rfl (hb hby at_114) rfl  k) ?_
  show Go p e below _ T10 (mkF m 115 #[.val (.int p1), .val (.int p2), .val (.int p3), .val (.int p4), .val (.int (own_off p3)), .val (.ref b1), .val (.ref r6)] [(.int p4), (.int (own_off p3)), (.int p2), (.int p1), (.int (3 : Int32)), (.ref r6)])
  obtain ⟨v11, T11, L11, X11, ⟨rfl, Nq11, eq11⟩, st11⟩ := Go.callS X10 hx hZ hown eq10 (hw _ (List.mem_of_getElem? (i := 51) rfl)) (hw _ (List.mem_of_getElem? (i := 52) rfl)) (hw _ (List.mem_of_getElem? (i := 53) rfl)) (hw _ (List.mem_of_getElem? (i := 54) rfl)) (by decide) (own_mat l Z a0 hw [] r6 (3 : Int32) p1 p2 (own_off p3) p4 (own_s2 (own_u4 (own_u4 (fun _ => 0) (0 : Int32) p1) (4 : Int32) p2) (own_off p3) p4) T6.heap n0 Z6 Ar6 ⟨by decide, by decide⟩) (pc := 115) (Ls := #[.val (.int p1), .val (.int p2), .val (.int p3), .val (.int p4), .val (.int (own_off p3)), .val (.ref b1), .val (.ref r6)]) (argsL := [(.ref r6), (.int (3 : Int32)), (.int p1), (.int p2), (.int (own_off p3)), (.int p4)]) (rest := []) own_pd9 rfl rfl (by rw [hml]; rfl) (hb hby at_115) (W := 0) (Nat.le_of_eq rfl) (by decide) (by decide) (by decide) (by decide)
  refine st11 ?_
  have N11 := Fr.app N10 Nq11
  show Go p e below _ T11 (mkF m 118 #[.val (.int p1), .val (.int p2), .val (.int p3), .val (.int p4), .val (.int (own_off p3)), .val (.ref b1), .val (.ref r6)] [(.int (i01 ((own_F p1 p2 (own_off p3) p4 ((3 : Int32)).toNatClampNeg) &&& 255 = own_exp (3 : Int32) p1 p2 (own_off p3) p4)))])
  have hc118 : ¬ ((i01 ((own_F p1 p2 (own_off p3) p4 ((3 : Int32)).toNatClampNeg) &&& 255 = own_exp (3 : Int32) p1 p2 (own_off p3) p4)) = (0 : Int32)) := fun q => absurd (own_f3 _ _ _ _) (i01_0.mp q)
  refine Go.via (fun _ k => XS.ifNo X11.here hx rfl (hb hby at_118) rfl ((if0 _ _).trans (feq hc118).1) k) ?_
  show Go p e below _ T11 (mkF m 121 #[.val (.int p1), .val (.int p2), .val (.int p3), .val (.int p4), .val (.int (own_off p3)), .val (.ref b1), .val (.ref r6)] [])
  refine Go.via (fun _ k => XS.aload X11.here hx rfl (hb hby at_121) rfl (by rfl) k) ?_
  show Go p e below _ T11 (mkF m 123 #[.val (.int p1), .val (.int p2), .val (.int p3), .val (.int p4), .val (.int (own_off p3)), .val (.ref b1), .val (.ref r6)] [(.ref r6)])
  refine Go.via (fun _ k => XS.iconst X11.here hx rfl (hb hby at_123) k) ?_
  show Go p e below _ T11 (mkF m 124 #[.val (.int p1), .val (.int p2), .val (.int p3), .val (.int p4), .val (.int (own_off p3)), .val (.ref b1), .val (.ref r6)] [(.int (4 : Int32)), (.ref r6)])
  refine Go.via (fun _ k => XS.iloadN X11.here hx rfl (hb hby at_124) rfl  k) ?_
  show Go p e below _ T11 (mkF m 125 #[.val (.int p1), .val (.int p2), .val (.int p3), .val (.int p4), .val (.int (own_off p3)), .val (.ref b1), .val (.ref r6)] [(.int p1), (.int (4 : Int32)), (.ref r6)])
  refine Go.via (fun _ k => XS.iloadN X11.here hx rfl (hb hby at_125) rfl  k) ?_
  show Go p e below _ T11 (mkF m 126 #[.val (.int p1), .val (.int p2), .val (.int p3), .val (.int p4), .val (.int (own_off p3)), .val (.ref b1), .val (.ref r6)] [(.int p2), (.int p1), (.int (4 : Int32)), (.ref r6)])
  refine Go.via (fun _ k => XS.iload X11.here hx rfl (hb hby at_126) rfl  k) ?_
  show Go p e below _ T11 (mkF m 128 #[.val (.int p1), .val (.int p2), .val (.int p3), .val (.int p4), .val (.int (own_off p3)), .val (.ref b1), .val (.ref r6)] [(.int (own_off p3)), (.int p2), (.int p1), (.int (4 : Int32)), (.ref r6)])
  refine Go.via (fun _ k => XS.iloadN X11.here hx rfl (hb hby at_128) rfl  k) ?_
  show Go p e below _ T11 (mkF m 129 #[.val (.int p1), .val (.int p2), .val (.int p3), .val (.int p4), .val (.int (own_off p3)), .val (.ref b1), .val (.ref r6)] [(.int p4), (.int (own_off p3)), (.int p2), (.int p1), (.int (4 : Int32)), (.ref r6)])
  obtain ⟨v12, T12, L12, X12, ⟨rfl, Nq12, eq12⟩, st12⟩ := Go.callS X11 hx hZ hown eq11 (hw _ (List.mem_of_getElem? (i := 51) rfl)) (hw _ (List.mem_of_getElem? (i := 52) rfl)) (hw _ (List.mem_of_getElem? (i := 53) rfl)) (hw _ (List.mem_of_getElem? (i := 54) rfl)) (by decide) (own_mat l Z a0 hw [] r6 (4 : Int32) p1 p2 (own_off p3) p4 (own_s2 (own_u4 (own_u4 (fun _ => 0) (0 : Int32) p1) (4 : Int32) p2) (own_off p3) p4) T6.heap n0 Z6 Ar6 ⟨by decide, by decide⟩) (pc := 129) (Ls := #[.val (.int p1), .val (.int p2), .val (.int p3), .val (.int p4), .val (.int (own_off p3)), .val (.ref b1), .val (.ref r6)]) (argsL := [(.ref r6), (.int (4 : Int32)), (.int p1), (.int p2), (.int (own_off p3)), (.int p4)]) (rest := []) own_pd9 rfl rfl (by rw [hml]; rfl) (hb hby at_129) (W := 0) (Nat.le_of_eq rfl) (by decide) (by decide) (by decide) (by decide)
  refine st12 ?_
  have N12 := Fr.app N11 Nq12
  show Go p e below _ T12 (mkF m 132 #[.val (.int p1), .val (.int p2), .val (.int p3), .val (.int p4), .val (.int (own_off p3)), .val (.ref b1), .val (.ref r6)] [(.int (i01 ((own_F p1 p2 (own_off p3) p4 ((4 : Int32)).toNatClampNeg) &&& 255 = own_exp (4 : Int32) p1 p2 (own_off p3) p4)))])
  have hc132 : ¬ ((i01 ((own_F p1 p2 (own_off p3) p4 ((4 : Int32)).toNatClampNeg) &&& 255 = own_exp (4 : Int32) p1 p2 (own_off p3) p4)) = (0 : Int32)) := fun q => absurd (own_f4 _ _ _ _) (i01_0.mp q)
  refine Go.via (fun _ k => XS.ifNo X12.here hx rfl (hb hby at_132) rfl ((if0 _ _).trans (feq hc132).1) k) ?_
  show Go p e below _ T12 (mkF m 135 #[.val (.int p1), .val (.int p2), .val (.int p3), .val (.int p4), .val (.int (own_off p3)), .val (.ref b1), .val (.ref r6)] [])
  refine Go.via (fun _ k => XS.aload X12.here hx rfl (hb hby at_135) rfl (by rfl) k) ?_
  show Go p e below _ T12 (mkF m 137 #[.val (.int p1), .val (.int p2), .val (.int p3), .val (.int p4), .val (.int (own_off p3)), .val (.ref b1), .val (.ref r6)] [(.ref r6)])
  refine Go.via (fun _ k => XS.iconst X12.here hx rfl (hb hby at_137) k) ?_
  show Go p e below _ T12 (mkF m 138 #[.val (.int p1), .val (.int p2), .val (.int p3), .val (.int p4), .val (.int (own_off p3)), .val (.ref b1), .val (.ref r6)] [(.int (5 : Int32)), (.ref r6)])
  refine Go.via (fun _ k => XS.iloadN X12.here hx rfl (hb hby at_138) rfl  k) ?_
  show Go p e below _ T12 (mkF m 139 #[.val (.int p1), .val (.int p2), .val (.int p3), .val (.int p4), .val (.int (own_off p3)), .val (.ref b1), .val (.ref r6)] [(.int p1), (.int (5 : Int32)), (.ref r6)])
  refine Go.via (fun _ k => XS.iloadN X12.here hx rfl (hb hby at_139) rfl  k) ?_
  show Go p e below _ T12 (mkF m 140 #[.val (.int p1), .val (.int p2), .val (.int p3), .val (.int p4), .val (.int (own_off p3)), .val (.ref b1), .val (.ref r6)] [(.int p2), (.int p1), (.int (5 : Int32)), (.ref r6)])
  refine Go.via (fun _ k => XS.iload X12.here hx rfl (hb hby at_140) rfl  k) ?_
  show Go p e below _ T12 (mkF m 142 #[.val (.int p1), .val (.int p2), .val (.int p3), .val (.int p4), .val (.int (own_off p3)), .val (.ref b1), .val (.ref r6)] [(.int (own_off p3)), (.int p2), (.int p1), (.int (5 : Int32)), (.ref r6)])
  refine Go.via (fun _ k => XS.iloadN X12.here hx rfl (hb hby at_142) rfl  k) ?_
  show Go p e below _ T12 (mkF m 143 #[.val (.int p1), .val (.int p2), .val (.int p3), .val (.int p4), .val (.int (own_off p3)), .val (.ref b1), .val (.ref r6)] [(.int p4), (.int (own_off p3)), (.int p2), (.int p1), (.int (5 : Int32)), (.ref r6)])
  obtain ⟨v13, T13, L13, X13, ⟨rfl, Nq13, eq13⟩, st13⟩ := Go.callS X12 hx hZ hown eq12 (hw _ (List.mem_of_getElem? (i := 51) rfl)) (hw _ (List.mem_of_getElem? (i := 52) rfl)) (hw _ (List.mem_of_getElem? (i := 53) rfl)) (hw _ (List.mem_of_getElem? (i := 54) rfl)) (by decide) (own_mat l Z a0 hw [] r6 (5 : Int32) p1 p2 (own_off p3) p4 (own_s2 (own_u4 (own_u4 (fun _ => 0) (0 : Int32) p1) (4 : Int32) p2) (own_off p3) p4) T6.heap n0 Z6 Ar6 ⟨by decide, by decide⟩) (pc := 143) (Ls := #[.val (.int p1), .val (.int p2), .val (.int p3), .val (.int p4), .val (.int (own_off p3)), .val (.ref b1), .val (.ref r6)]) (argsL := [(.ref r6), (.int (5 : Int32)), (.int p1), (.int p2), (.int (own_off p3)), (.int p4)]) (rest := []) own_pd9 rfl rfl (by rw [hml]; rfl) (hb hby at_143) (W := 0) (Nat.le_of_eq rfl) (by decide) (by decide) (by decide) (by decide)
  refine st13 ?_
  have N13 := Fr.app N12 Nq13
  show Go p e below _ T13 (mkF m 146 #[.val (.int p1), .val (.int p2), .val (.int p3), .val (.int p4), .val (.int (own_off p3)), .val (.ref b1), .val (.ref r6)] [(.int (i01 ((own_F p1 p2 (own_off p3) p4 ((5 : Int32)).toNatClampNeg) &&& 255 = own_exp (5 : Int32) p1 p2 (own_off p3) p4)))])
  have hc146 : ¬ ((i01 ((own_F p1 p2 (own_off p3) p4 ((5 : Int32)).toNatClampNeg) &&& 255 = own_exp (5 : Int32) p1 p2 (own_off p3) p4)) = (0 : Int32)) := fun q => absurd (own_f5 _ _ _ _) (i01_0.mp q)
  refine Go.via (fun _ k => XS.ifNo X13.here hx rfl (hb hby at_146) rfl ((if0 _ _).trans (feq hc146).1) k) ?_
  show Go p e below _ T13 (mkF m 149 #[.val (.int p1), .val (.int p2), .val (.int p3), .val (.int p4), .val (.int (own_off p3)), .val (.ref b1), .val (.ref r6)] [])
  refine Go.via (fun _ k => XS.aload X13.here hx rfl (hb hby at_149) rfl (by rfl) k) ?_
  show Go p e below _ T13 (mkF m 151 #[.val (.int p1), .val (.int p2), .val (.int p3), .val (.int p4), .val (.int (own_off p3)), .val (.ref b1), .val (.ref r6)] [(.ref r6)])
  refine Go.via (fun _ k => XS.bipush X13.here hx rfl (hb hby at_151) k) ?_
  show Go p e below _ T13 (mkF m 153 #[.val (.int p1), .val (.int p2), .val (.int p3), .val (.int p4), .val (.int (own_off p3)), .val (.ref b1), .val (.ref r6)] [(.int (6 : Int32)), (.ref r6)])
  refine Go.via (fun _ k => XS.iloadN X13.here hx rfl (hb hby at_153) rfl  k) ?_
  show Go p e below _ T13 (mkF m 154 #[.val (.int p1), .val (.int p2), .val (.int p3), .val (.int p4), .val (.int (own_off p3)), .val (.ref b1), .val (.ref r6)] [(.int p1), (.int (6 : Int32)), (.ref r6)])
  refine Go.via (fun _ k => XS.iloadN X13.here hx rfl (hb hby at_154) rfl  k) ?_
  show Go p e below _ T13 (mkF m 155 #[.val (.int p1), .val (.int p2), .val (.int p3), .val (.int p4), .val (.int (own_off p3)), .val (.ref b1), .val (.ref r6)] [(.int p2), (.int p1), (.int (6 : Int32)), (.ref r6)])
  refine Go.via (fun _ k => XS.iload X13.here hx rfl (hb hby at_155) rfl  k) ?_
  show Go p e below _ T13 (mkF m 157 #[.val (.int p1), .val (.int p2), .val (.int p3), .val (.int p4), .val (.int (own_off p3)), .val (.ref b1), .val (.ref r6)] [(.int (own_off p3)), (.int p2), (.int p1), (.int (6 : Int32)), (.ref r6)])
  refine Go.via (fun _ k => XS.iloadN X13.here hx rfl (hb hby at_157) rfl  k) ?_
  show Go p e below _ T13 (mkF m 158 #[.val (.int p1), .val (.int p2), .val (.int p3), .val (.int p4), .val (.int (own_off p3)), .val (.ref b1), .val (.ref r6)] [(.int p4), (.int (own_off p3)), (.int p2), (.int p1), (.int (6 : Int32)), (.ref r6)])
  obtain ⟨v14, T14, L14, X14, ⟨rfl, Nq14, eq14⟩, st14⟩ := Go.callS X13 hx hZ hown eq13 (hw _ (List.mem_of_getElem? (i := 51) rfl)) (hw _ (List.mem_of_getElem? (i := 52) rfl)) (hw _ (List.mem_of_getElem? (i := 53) rfl)) (hw _ (List.mem_of_getElem? (i := 54) rfl)) (by decide) (own_mat l Z a0 hw [] r6 (6 : Int32) p1 p2 (own_off p3) p4 (own_s2 (own_u4 (own_u4 (fun _ => 0) (0 : Int32) p1) (4 : Int32) p2) (own_off p3) p4) T6.heap n0 Z6 Ar6 ⟨by decide, by decide⟩) (pc := 158) (Ls := #[.val (.int p1), .val (.int p2), .val (.int p3), .val (.int p4), .val (.int (own_off p3)), .val (.ref b1), .val (.ref r6)]) (argsL := [(.ref r6), (.int (6 : Int32)), (.int p1), (.int p2), (.int (own_off p3)), (.int p4)]) (rest := []) own_pd9 rfl rfl (by rw [hml]; rfl) (hb hby at_158) (W := 0) (Nat.le_of_eq rfl) (by decide) (by decide) (by decide) (by decide)
  refine st14 ?_
  have N14 := Fr.app N13 Nq14
  show Go p e below _ T14 (mkF m 161 #[.val (.int p1), .val (.int p2), .val (.int p3), .val (.int p4), .val (.int (own_off p3)), .val (.ref b1), .val (.ref r6)] [(.int (i01 ((own_F p1 p2 (own_off p3) p4 ((6 : Int32)).toNatClampNeg) &&& 255 = own_exp (6 : Int32) p1 p2 (own_off p3) p4)))])
  have hc161 : ¬ ((i01 ((own_F p1 p2 (own_off p3) p4 ((6 : Int32)).toNatClampNeg) &&& 255 = own_exp (6 : Int32) p1 p2 (own_off p3) p4)) = (0 : Int32)) := fun q => absurd (own_f6 _ _ _ _) (i01_0.mp q)
  refine Go.via (fun _ k => XS.ifNo X14.here hx rfl (hb hby at_161) rfl ((if0 _ _).trans (feq hc161).1) k) ?_
  show Go p e below _ T14 (mkF m 164 #[.val (.int p1), .val (.int p2), .val (.int p3), .val (.int p4), .val (.int (own_off p3)), .val (.ref b1), .val (.ref r6)] [])
  refine Go.via (fun _ k => XS.aload X14.here hx rfl (hb hby at_164) rfl (by rfl) k) ?_
  show Go p e below _ T14 (mkF m 166 #[.val (.int p1), .val (.int p2), .val (.int p3), .val (.int p4), .val (.int (own_off p3)), .val (.ref b1), .val (.ref r6)] [(.ref r6)])
  refine Go.via (fun _ k => XS.bipush X14.here hx rfl (hb hby at_166) k) ?_
  show Go p e below _ T14 (mkF m 168 #[.val (.int p1), .val (.int p2), .val (.int p3), .val (.int p4), .val (.int (own_off p3)), .val (.ref b1), .val (.ref r6)] [(.int (7 : Int32)), (.ref r6)])
  refine Go.via (fun _ k => XS.iloadN X14.here hx rfl (hb hby at_168) rfl  k) ?_
  show Go p e below _ T14 (mkF m 169 #[.val (.int p1), .val (.int p2), .val (.int p3), .val (.int p4), .val (.int (own_off p3)), .val (.ref b1), .val (.ref r6)] [(.int p1), (.int (7 : Int32)), (.ref r6)])
  refine Go.via (fun _ k => XS.iloadN X14.here hx rfl (hb hby at_169) rfl  k) ?_
  show Go p e below _ T14 (mkF m 170 #[.val (.int p1), .val (.int p2), .val (.int p3), .val (.int p4), .val (.int (own_off p3)), .val (.ref b1), .val (.ref r6)] [(.int p2), (.int p1), (.int (7 : Int32)), (.ref r6)])
  refine Go.via (fun _ k => XS.iload X14.here hx rfl (hb hby at_170) rfl  k) ?_
  show Go p e below _ T14 (mkF m 172 #[.val (.int p1), .val (.int p2), .val (.int p3), .val (.int p4), .val (.int (own_off p3)), .val (.ref b1), .val (.ref r6)] [(.int (own_off p3)), (.int p2), (.int p1), (.int (7 : Int32)), (.ref r6)])
  refine Go.via (fun _ k => XS.iloadN X14.here hx rfl (hb hby at_172) rfl  k) ?_
  show Go p e below _ T14 (mkF m 173 #[.val (.int p1), .val (.int p2), .val (.int p3), .val (.int p4), .val (.int (own_off p3)), .val (.ref b1), .val (.ref r6)] [(.int p4), (.int (own_off p3)), (.int p2), (.int p1), (.int (7 : Int32)), (.ref r6)])
  obtain ⟨v15, T15, L15, X15, ⟨rfl, Nq15, eq15⟩, st15⟩ := Go.callS X14 hx hZ hown eq14 (hw _ (List.mem_of_getElem? (i := 51) rfl)) (hw _ (List.mem_of_getElem? (i := 52) rfl)) (hw _ (List.mem_of_getElem? (i := 53) rfl)) (hw _ (List.mem_of_getElem? (i := 54) rfl)) (by decide) (own_mat l Z a0 hw [] r6 (7 : Int32) p1 p2 (own_off p3) p4 (own_s2 (own_u4 (own_u4 (fun _ => 0) (0 : Int32) p1) (4 : Int32) p2) (own_off p3) p4) T6.heap n0 Z6 Ar6 ⟨by decide, by decide⟩) (pc := 173) (Ls := #[.val (.int p1), .val (.int p2), .val (.int p3), .val (.int p4), .val (.int (own_off p3)), .val (.ref b1), .val (.ref r6)]) (argsL := [(.ref r6), (.int (7 : Int32)), (.int p1), (.int p2), (.int (own_off p3)), (.int p4)]) (rest := []) own_pd9 rfl rfl (by rw [hml]; rfl) (hb hby at_173) (W := 0) (Nat.le_of_eq rfl) (by decide) (by decide) (by decide) (by decide)
  refine st15 ?_
  have N15 := Fr.app N14 Nq15
  show Go p e below _ T15 (mkF m 176 #[.val (.int p1), .val (.int p2), .val (.int p3), .val (.int p4), .val (.int (own_off p3)), .val (.ref b1), .val (.ref r6)] [(.int (i01 ((own_F p1 p2 (own_off p3) p4 ((7 : Int32)).toNatClampNeg) &&& 255 = own_exp (7 : Int32) p1 p2 (own_off p3) p4)))])
  have hc176 : ¬ ((i01 ((own_F p1 p2 (own_off p3) p4 ((7 : Int32)).toNatClampNeg) &&& 255 = own_exp (7 : Int32) p1 p2 (own_off p3) p4)) = (0 : Int32)) := fun q => absurd (own_f7 _ _ _ _) (i01_0.mp q)
  refine Go.via (fun _ k => XS.ifNo X15.here hx rfl (hb hby at_176) rfl ((if0 _ _).trans (feq hc176).1) k) ?_
  show Go p e below _ T15 (mkF m 179 #[.val (.int p1), .val (.int p2), .val (.int p3), .val (.int p4), .val (.int (own_off p3)), .val (.ref b1), .val (.ref r6)] [])
  refine Go.via (fun _ k => XS.iconst X15.here hx rfl (hb hby at_179) k) ?_
  show Go p e below _ T15 (mkF m 180 #[.val (.int p1), .val (.int p2), .val (.int p3), .val (.int p4), .val (.int (own_off p3)), .val (.ref b1), .val (.ref r6)] [(.int (1 : Int32))])
  refine Go.via (fun _ k => XS.goto X15.here hx rfl (pc0 := 180) (pc' := 184) rfl (hb hby at_180) (by decide) (by decide) k) ?_
  show Go p e below _ T15 (mkF m 184 #[.val (.int p1), .val (.int p2), .val (.int p3), .val (.int p4), .val (.int (own_off p3)), .val (.ref b1), .val (.ref r6)] [(.int (1 : Int32))])
  refine Go.retN X15 hx hk (hret : meth.sig.returnType = some .boolean) (t := .boolean) (by simp) (hb hby at_184) (by decide) (by decide) ?_
  exact ⟨rfl, N15⟩
set_option maxRecDepth 65536 in
set_option maxHeartbeats 40000000 in
theorem comes_1 {Post : Tables → Env → Array Value → State → Outcome → State → Prop} (hpost : ∀ tb e args s v u, (limb_1_1.after args s (.returned v) u = true ∧ limb_1_2.after args s (.returned v) u = true ∧ True) → FrameEnd s (.returned v) u (Jvm.fieldLocs frame_1_writes args s ++ Jvm.arrayLocs frame_1_arrays args s ++ Jvm.staticLocs frame_1_statics s) 16 640 → Post tb e args s (.returned v) u) :
    ArmFor flags0 classFile x code maxLocals ret World_1 tables_1 room_1 Calls_1 rest_1 Pre_1 Post := by
  intro l hfl _ _ p e ha hc hk s m args below hf hA hF happ hP
  obtain ⟨hcalls, hrest, hpre⟩ := hP
  obtain ⟨-, -, -, hnamed, -, -, -, hat⟩ := (Spec.applies_iff hf).mp happ
  obtain ⟨hg, hn⟩ := and_e (Cond.before_iff.mp (show (Jvm.Cond.and given_1 narrow_1).before args s = true from hpre))
  obtain ⟨hcnt, hg0⟩ := and_e hg
  obtain ⟨w0, w1, w2, w3, rfl⟩ : ∃ w0 w1 w2 w3 : Value, args = #[w0, w1, w2, w3] := by
    have hs : args.size = 4 := by simpa [Cond.value, given_1] using hcnt
    obtain ⟨L⟩ := args
    match L, hs with
    | [w0, w1, w2, w3], _ => exact ⟨w0, w1, w2, w3, rfl⟩
  have hw := fun d (hd : d ∈ tables_1) => atoms_spec (ws := Jvm.Cond.code x code maxLocals ret :: tables_1) hat d (List.mem_cons_of_mem _ hd)
  have hfit : Fit s := fun {y c} hc i hi => by
    obtain ⟨ha, rfl⟩ := Array.getElem?_eq_some_iff.mp hc
    have q := List.all_eq_true.mp ((Array.all_eq_true_iff_forall_mem.mp hF) _ (Array.getElem_mem ha)) i (List.mem_range.mpr hi)
    simpa [Array.getElem?_eq_getElem hi] using q
  obtain ⟨hi0, hg1⟩ := and_e hg0
  obtain ⟨hi1, hg2⟩ := and_e hg1
  obtain ⟨hi2, hg3⟩ := and_e hg2
  have hi3 := hg3
  obtain ⟨i0, hv0⟩ := is_v hi0
  obtain rfl : w0 = (.int i0) := Option.some.inj hv0
  obtain ⟨i1, hv1⟩ := is_v hi1
  obtain rfl : w1 = (.int i1) := Option.some.inj hv1
  obtain ⟨i2, hv2⟩ := is_v hi2
  obtain rfl : w2 = (.int i2) := Option.some.inj hv2
  obtain ⟨i3, hv3⟩ := is_v hi3
  obtain rfl : w3 = (.int i3) := Option.some.inj hv3
  obtain ⟨n, o, h1, h2, h3, _, L, rfl, ⟨rfl, N⟩, hq⟩ := own_m0 l s _ hw tables_1 i0 i1 i2 i3 s.heap s.heap.size (Nat.le_refl _) p e ha hc hk s m _ below hf ((Spec.applies_iff_loose hf).mp happ).1 ⟨rfl, State.Warmed39.refl s, rfl⟩ trivial
  refine ⟨n, _, h1, h2, h3, hpost _ _ _ _ _ _ ⟨Cond.after_iff.mpr rfl, Cond.after_iff.mpr (eq_i res_at (Term.int_eval (1)) rfl), trivial⟩ ⟨hq.1, hq.2.1, (hq.2.2.sift fun y hy => Or.inr (N y hy)).mono (by decide) (by decide)⟩⟩
theorem main_1_1 : Claimed_1_1 := comes_1 fun _ _ _ _ _ _ h hF => ⟨h.1, hF⟩
theorem main_1_2 : Claimed_1_2 := comes_1 fun _ _ _ _ _ _ h hF => ⟨h.2.1, hF⟩
end Jvm.Pilot.@@N@@
namespace Jvm.Pilot.@@N@@
open Jvm Jvm.ClassFile Sem Op Lib Jvm.Free Jvm.Stand Jvm.Pilot.@@N@@.Jvm.D
/-! MADE BY PROGRAM (witnessworld.py) out of the Statement's table words and the real class files: 12 classes; the members and pool entries that the words name. The judged class is class 1, her method 1. -/
namespace start1
open Jvm.ClassFile
def u (s : String) : CpInfo := .utf8 (stringToUtf16 s)
/-- a pool by its gaps: so many unusable entries, then the entry; so many at the end -/
def gap : Nat → List CpInfo → List CpInfo
  | 0, r => r
  | n + 1, r => .unusable :: gap n r
def poolList (es : List (Nat × CpInfo)) (last : Nat) : List CpInfo := es.foldr (fun e r => gap e.1 (e.2 :: r)) (gap last [])
def pool (es : List (Nat × CpInfo)) (last : Nat) : Array CpInfo := ⟨poolList es last⟩
def fileOf (pool : Array CpInfo) (this : Nat) (attrs : Array Attribute := #[]) (ms : Array MethodInfo := #[]) (fl : Nat := 33) (sup : Nat := 0) (ifs : Array Nat := #[]) (fds : Array FieldInfo := #[]) : ClassFile where
  minorVersion := 0
  majorVersion := 65
  constantPool := pool
  accessFlags := fl
  thisClass := this
  superClass := sup
  interfaces := ifs
  fields := fds
  methods := ms
  attributes := attrs
def plain (name : String) (sup : Option ClassId) : Class where
  name := name
  kind := .ordinary
  loader := none
  accessFlags := 33
  super := sup
  interfaces := #[]
  cf := none
  fields := #[]
  methods := #[]
  instanceTypes := #[]
  staticTypes := #[]
  resolved := #[]
  callSites := []
  init := .initialized
  statics := none
  mirror := none

def pool0 : Array CpInfo := pool [(5, u "<init>"), (0, u "()V"), (1, .class_ 10), (1, u "java/lang/Object")] 113

def k0c0 : Code := { maxStack := 0, maxLocals := 1, code := object_method_1_code, exceptionTable := #[], attributes := #[] }
def k0m0 : Method := { name := "<init>", desc := "()V", sig := { parameters := [], returnType := none }, accessFlags := 1, code := some k0c0 }
/-- java/lang/Object -/
def k0 : Class := { plain "java/lang/Object" none with
  accessFlags := 33
  interfaces := #[]
  cf := some (fileOf pool0 8 #[] #[{ accessFlags := 1, nameIndex := 5, descriptorIndex := 6, attributes := #[] }] 33 0 #[] #[])
  fields := #[]
  methods := #[k0m0]
  instanceTypes := #[]
  staticTypes := #[]
  resolved := Array.replicate 124 none
  statics := none }

def pool1 : Array CpInfo := pool [(2, .class_ 4), (0, .nameAndType 5 6), (0, u "java/lang/Object"), (0, u "<init>"), (0, u "()V"), (0, .integer 2147483647), (0, .class_ 9), (0, u "com/example/meddle/meddle/ClassFile$Bytes"), (0, .methodref 8 3), (0, .methodref 8 12), (0, .nameAndType 13 14), (0, u "u4"), (0, u "(I)V"), (0, .methodref 8 16), (0, .nameAndType 17 18), (0, u "set2"), (0, u "(II)V"), (0, .methodref 8 20), (0, .nameAndType 21 22), (0, u "toArray"), (0, u "()[B"), (0, .methodref 8 24), (0, .nameAndType 25 26), (0, u "length"), (0, u "()I"), (0, .methodref 28 29), (0, .class_ 30), (0, .nameAndType 31 32), (0, u "com/example/meddle/meddle/BytesSet2PinLaw"), (0, u "at"), (0, u "([BIIIII)Z"), (0, .integer 65280), (0, .methodref 28 35), (0, .nameAndType 36 37), (0, u "original"), (0, u "(III)I"), (0, .methodref 28 39), (0, .nameAndType 40 41), (0, u "expected"), (0, u "(IIIII)I"), (2, u "law"), (0, u "(IIII)Z")] 9

def k1m0 : Method := { name := "<init>", desc := "()V", sig := { parameters := [], returnType := none }, accessFlags := 1, code := none }
def k1c1 : Code := { maxStack := 6, maxLocals := 7, code := code, exceptionTable := #[], attributes := #[] }
def k1m1 : Method := { name := "law", desc := "(IIII)Z", sig := { parameters := [.int, .int, .int, .int], returnType := some .boolean }, accessFlags := 9, code := some k1c1 }
def k1c2 : Code := { maxStack := 4, maxLocals := 5, code := method_3_code, exceptionTable := #[], attributes := #[] }
def k1m2 : Method := { name := "original", desc := "(III)I", sig := { parameters := [.int, .int, .int], returnType := some .int }, accessFlags := 10, code := some k1c2 }
def k1c3 : Code := { maxStack := 3, maxLocals := 5, code := method_4_code, exceptionTable := #[], attributes := #[] }
def k1m3 : Method := { name := "expected", desc := "(IIIII)I", sig := { parameters := [.int, .int, .int, .int, .int], returnType := some .int }, accessFlags := 10, code := some k1c3 }
def k1c4 : Code := { maxStack := 6, maxLocals := 6, code := method_5_code, exceptionTable := #[], attributes := #[] }
def k1m4 : Method := { name := "at", desc := "([BIIIII)Z", sig := { parameters := [(.array .byte), .int, .int, .int, .int, .int], returnType := some .boolean }, accessFlags := 10, code := some k1c4 }
/-- com/example/meddle/meddle/BytesSet2PinLaw -/
def k1 : Class := { plain "com/example/meddle/meddle/BytesSet2PinLaw" (some 0) with
  accessFlags := 49
  interfaces := #[]
  cf := some (fileOf pool1 28 #[] #[{ accessFlags := 1, nameIndex := 5, descriptorIndex := 6, attributes := #[] }, { accessFlags := 9, nameIndex := 44, descriptorIndex := 45, attributes := #[] }, { accessFlags := 10, nameIndex := 36, descriptorIndex := 37, attributes := #[] }, { accessFlags := 10, nameIndex := 40, descriptorIndex := 41, attributes := #[] }, { accessFlags := 10, nameIndex := 31, descriptorIndex := 32, attributes := #[] }] 49 2 #[] #[])
  fields := #[]
  methods := #[k1m0, k1m1, k1m2, k1m3, k1m4]
  instanceTypes := #[]
  staticTypes := #[]
  resolved := Array.replicate 55 none
  statics := none }

def pool2 : Array CpInfo := pool [(1, .methodref 2 3), (0, .class_ 4), (0, .nameAndType 5 6), (0, u "java/lang/Object"), (0, u "<init>"), (0, u "()V"), (0, .fieldref 8 9), (0, .class_ 10), (0, .nameAndType 11 12), (0, u "com/example/meddle/meddle/ClassFile$Bytes"), (0, u "bytes"), (0, u "[B"), (0, .fieldref 8 14), (0, .nameAndType 15 16), (0, u "length"), (0, u "I"), (0, .methodref 8 18), (0, .nameAndType 19 20), (0, u "ensure"), (0, u "(I)V"), (4, u "()I"), (6, u "set2"), (0, u "(II)V"), (12, .methodref 47 48), (0, .class_ 49), (0, .nameAndType 50 51), (0, u "java/util/Arrays"), (0, u "copyOf"), (0, u "([BI)[B"), (4, u "u4"), (6, u "toArray"), (0, u "()[B"), (3, .class_ 69), (0, u "com/example/meddle/meddle/ClassFile")] 2

def k2c0 : Code := { maxStack := 2, maxLocals := 1, code := prog_4_method_1_code, exceptionTable := #[], attributes := #[] }
def k2m0 : Method := { name := "<init>", desc := "()V", sig := { parameters := [], returnType := none }, accessFlags := 0, code := some k2c0 }
def k2c1 : Code := { maxStack := 1, maxLocals := 1, code := prog_4_method_2_code, exceptionTable := #[], attributes := #[] }
def k2m1 : Method := { name := "length", desc := "()I", sig := { parameters := [], returnType := some .int }, accessFlags := 0, code := some k2c1 }
def k2c2 : Code := { maxStack := 4, maxLocals := 2, code := prog_4_method_5_code, exceptionTable := #[], attributes := #[] }
def k2m2 : Method := { name := "u4", desc := "(I)V", sig := { parameters := [.int], returnType := none }, accessFlags := 0, code := some k2c2 }
def k2c3 : Code := { maxStack := 4, maxLocals := 3, code := prog_4_method_7_code, exceptionTable := #[], attributes := #[] }
def k2m3 : Method := { name := "set2", desc := "(II)V", sig := { parameters := [.int, .int], returnType := none }, accessFlags := 0, code := some k2c3 }
def k2c4 : Code := { maxStack := 5, maxLocals := 2, code := prog_4_method_10_code, exceptionTable := #[], attributes := #[] }
def k2m4 : Method := { name := "ensure", desc := "(I)V", sig := { parameters := [.int], returnType := none }, accessFlags := 2, code := some k2c4 }
def k2c5 : Code := { maxStack := 2, maxLocals := 1, code := prog_4_method_11_code, exceptionTable := #[], attributes := #[] }
def k2m5 : Method := { name := "toArray", desc := "()[B", sig := { parameters := [], returnType := some (.array .byte) }, accessFlags := 0, code := some k2c5 }
/-- com/example/meddle/meddle/ClassFile$Bytes -/
def k2 : Class := { plain "com/example/meddle/meddle/ClassFile$Bytes" (some 0) with
  accessFlags := 48
  interfaces := #[]
  cf := some (fileOf pool2 8 #[.nestHost 68] #[{ accessFlags := 0, nameIndex := 5, descriptorIndex := 6, attributes := #[] }, { accessFlags := 0, nameIndex := 15, descriptorIndex := 25, attributes := #[] }, { accessFlags := 0, nameIndex := 56, descriptorIndex := 20, attributes := #[] }, { accessFlags := 0, nameIndex := 32, descriptorIndex := 33, attributes := #[] }, { accessFlags := 2, nameIndex := 19, descriptorIndex := 20, attributes := #[] }, { accessFlags := 0, nameIndex := 63, descriptorIndex := 64, attributes := #[] }] 48 2 #[] #[{ accessFlags := 2, nameIndex := 11, descriptorIndex := 12, attributes := #[] }, { accessFlags := 2, nameIndex := 15, descriptorIndex := 16, attributes := #[] }])
  fields := #[{ name := "bytes", type := (.array .byte), accessFlags := 2, slot := 0, constantValue := 0 }, { name := "length", type := .int, accessFlags := 2, slot := 1, constantValue := 0 }]
  methods := #[k2m0, k2m1, k2m2, k2m3, k2m4, k2m5]
  instanceTypes := #[(.array .byte), .int]
  staticTypes := #[]
  resolved := Array.replicate 72 none
  statics := none }

def pool3 : Array CpInfo := pool [(2, .class_ 4), (1, u "java/lang/Object"), (0, u "<init>"), (0, u "()V"), (7, .class_ 16), (1, u "java/util/Arrays"), (57, .class_ 76), (1, u "java/util/Arrays$NaturalOrder"), (36, .class_ 115), (1, u "java/util/Arrays$LegacyMergeSort"), (1, u "Z"), (32, .methodref 151 152), (0, .class_ 153), (0, .nameAndType 154 155), (0, u "java/lang/System"), (0, u "arraycopy"), (0, u "(Ljava/lang/Object;ILjava/lang/Object;II)V"), (146, u "copyOf"), (1, .methodref 305 306), (0, .class_ 307), (0, .nameAndType 308 309), (0, u "java/lang/Math"), (0, u "min"), (0, u "(II)I"), (65, .class_ 376), (0, u "java/util/Arrays$ArrayList"), (68, u "$assertionsDisabled"), (269, u "MIN_ARRAY_SORT_GRAN"), (0, u "I"), (2, u "INSERTIONSORT_THRESHOLD"), (149, u "([BI)[B"), (105, .class_ 976), (0, u "java/util/Arrays$ArrayItr")] 52

def k3m0 : Method := { name := "<init>", desc := "()V", sig := { parameters := [], returnType := none }, accessFlags := 2, code := none }
def k3c1 : Code := { maxStack := 6, maxLocals := 3, code := jdk_65_method_121_code, exceptionTable := #[], attributes := #[] }
def k3m1 : Method := { name := "copyOf", desc := "([BI)[B", sig := { parameters := [(.array .byte), .int], returnType := some (.array .byte) }, accessFlags := 9, code := some k3c1 }
/-- java/util/Arrays -/
def k3 : Class := { plain "java/util/Arrays" (some 0) with
  accessFlags := 49
  interfaces := #[]
  cf := some (fileOf pool3 14 #[.nestMembers #[975, 375, 113, 74]] #[{ accessFlags := 2, nameIndex := 5, descriptorIndex := 6, attributes := #[] }, { accessFlags := 9, nameIndex := 302, descriptorIndex := 869, attributes := #[] }] 49 2 #[] #[{ accessFlags := 26, nameIndex := 715, descriptorIndex := 716, attributes := #[] }, { accessFlags := 26, nameIndex := 719, descriptorIndex := 716, attributes := #[] }, { accessFlags := 4120, nameIndex := 445, descriptorIndex := 117, attributes := #[] }])
  fields := #[{ name := "MIN_ARRAY_SORT_GRAN", type := .int, accessFlags := 26, slot := 0, constantValue := 0 }, { name := "INSERTIONSORT_THRESHOLD", type := .int, accessFlags := 26, slot := 1, constantValue := 0 }, { name := "$assertionsDisabled", type := .boolean, accessFlags := 4120, slot := 2, constantValue := 0 }]
  methods := #[k3m0, k3m1]
  instanceTypes := #[]
  staticTypes := #[.int, .int, .boolean]
  resolved := Array.replicate 1029 none
  statics := none }

def pool4 : Array CpInfo := pool [(1, .class_ 2), (0, u "java/lang/Math"), (1, .class_ 6), (1, u "java/lang/Object"), (0, u "<init>"), (0, u "()V"), (89, .class_ 100), (1, u "java/lang/Math$RandomNumberGeneratorHolder"), (71, u "negativeZeroFloatBits"), (0, u "J"), (2, u "negativeZeroDoubleBits"), (24, u "min"), (43, u "$assertionsDisabled"), (0, u "Z"), (88, u "(II)I"), (2, u "twoToTheDoubleScaleDown"), (0, u "D"), (4, u "twoToTheDoubleScaleUp"), (9, u "E"), (3, u "PI"), (2, u "TAU"), (2, u "DEGREES_TO_RADIANS"), (0, u "RADIANS_TO_DEGREES")] 94

def k4m0 : Method := { name := "<init>", desc := "()V", sig := { parameters := [], returnType := none }, accessFlags := 2, code := none }
def k4c1 : Code := { maxStack := 2, maxLocals := 2, code := jdk_29_method_69_code, exceptionTable := #[], attributes := #[] }
def k4m1 : Method := { name := "min", desc := "(II)I", sig := { parameters := [.int, .int], returnType := some .int }, accessFlags := 9, code := some k4c1 }
/-- java/lang/Math -/
def k4 : Class := { plain "java/lang/Math" (some 0) with
  accessFlags := 49
  interfaces := #[]
  cf := some (fileOf pool4 1 #[.nestMembers #[98]] #[{ accessFlags := 2, nameIndex := 7, descriptorIndex := 8, attributes := #[] }, { accessFlags := 9, nameIndex := 201, descriptorIndex := 335, attributes := #[] }] 49 4 #[] #[{ accessFlags := 25, nameIndex := 354, descriptorIndex := 339, attributes := #[] }, { accessFlags := 25, nameIndex := 358, descriptorIndex := 339, attributes := #[] }, { accessFlags := 25, nameIndex := 361, descriptorIndex := 339, attributes := #[] }, { accessFlags := 26, nameIndex := 364, descriptorIndex := 339, attributes := #[] }, { accessFlags := 26, nameIndex := 365, descriptorIndex := 339, attributes := #[] }, { accessFlags := 26, nameIndex := 172, descriptorIndex := 173, attributes := #[] }, { accessFlags := 26, nameIndex := 176, descriptorIndex := 173, attributes := #[] }, { accessFlags := 8, nameIndex := 344, descriptorIndex := 339, attributes := #[] }, { accessFlags := 8, nameIndex := 338, descriptorIndex := 339, attributes := #[] }, { accessFlags := 4120, nameIndex := 245, descriptorIndex := 246, attributes := #[] }])
  fields := #[{ name := "E", type := .double, accessFlags := 25, slot := 0, constantValue := 0 }, { name := "PI", type := .double, accessFlags := 25, slot := 1, constantValue := 0 }, { name := "TAU", type := .double, accessFlags := 25, slot := 2, constantValue := 0 }, { name := "DEGREES_TO_RADIANS", type := .double, accessFlags := 26, slot := 3, constantValue := 0 }, { name := "RADIANS_TO_DEGREES", type := .double, accessFlags := 26, slot := 4, constantValue := 0 }, { name := "negativeZeroFloatBits", type := .long, accessFlags := 26, slot := 5, constantValue := 0 }, { name := "negativeZeroDoubleBits", type := .long, accessFlags := 26, slot := 6, constantValue := 0 }, { name := "twoToTheDoubleScaleUp", type := .double, accessFlags := 8, slot := 7, constantValue := 0 }, { name := "twoToTheDoubleScaleDown", type := .double, accessFlags := 8, slot := 8, constantValue := 0 }, { name := "$assertionsDisabled", type := .boolean, accessFlags := 4120, slot := 9, constantValue := 0 }]
  methods := #[k4m0, k4m1]
  instanceTypes := #[]
  staticTypes := #[.double, .double, .double, .double, .double, .long, .long, .double, .double, .boolean]
  resolved := Array.replicate 460 none
  statics := none }

def pool5 : Array CpInfo := pool [(2, .class_ 4), (1, u "java/lang/Object"), (0, u "<init>"), (0, u "()V"), (1, .class_ 10), (1, u "java/lang/System"), (0, u "allowSecurityManager"), (0, u "I"), (16, u "cons"), (0, u "Ljava/io/Console;"), (77, .class_ 110), (1, u "java/lang/System$CallersHolder"), (43, u "initialErrStream"), (0, u "Ljava/io/PrintStream;"), (19, u "security"), (0, u "Ljava/lang/SecurityManager;"), (31, .class_ 209), (0, u "java/lang/System$1"), (7, u "props"), (0, u "Ljava/util/Properties;"), (2, u "lineSeparator"), (0, u "Ljava/lang/String;"), (96, .class_ 321), (1, u "java/lang/System$LoggerFinder"), (5, .class_ 328), (0, u "java/lang/System$Logger"), (67, u "err"), (2, u "out"), (91, u "notSupportedJnuEncoding"), (15, u "in"), (17, u "initialIn"), (0, u "Ljava/io/InputStream;"), (35, u "bootLayer"), (0, u "Ljava/lang/ModuleLayer;"), (99, .class_ 664), (0, u "java/lang/System$2"), (9, u "NEVER"), (2, u "MAYBE"), (49, u "arraycopy"), (0, u "(Ljava/lang/Object;ILjava/lang/Object;II)V"), (72, .class_ 802), (0, u "java/lang/System$Logger$Level")] 31

def k5m0 : Method := { name := "<init>", desc := "()V", sig := { parameters := [], returnType := none }, accessFlags := 2, code := none }
def k5m1 : Method := { name := "arraycopy", desc := "(Ljava/lang/Object;ILjava/lang/Object;II)V", sig := { parameters := [(.object "java/lang/Object"), .int, (.object "java/lang/Object"), .int, .int], returnType := none }, accessFlags := 265, code := none }
/-- java/lang/System -/
def k5 : Class := { plain "java/lang/System" (some 0) with
  accessFlags := 49
  interfaces := #[]
  cf := some (fileOf pool5 8 #[.nestMembers #[319, 327, 801, 108, 663, 208]] #[{ accessFlags := 2, nameIndex := 5, descriptorIndex := 6, attributes := #[] }, { accessFlags := 265, nameIndex := 727, descriptorIndex := 728, attributes := #[] }] 49 2 #[] #[{ accessFlags := 25, nameIndex := 507, descriptorIndex := 526, attributes := #[] }, { accessFlags := 25, nameIndex := 399, descriptorIndex := 155, attributes := #[] }, { accessFlags := 25, nameIndex := 396, descriptorIndex := 155, attributes := #[] }, { accessFlags := 10, nameIndex := 525, descriptorIndex := 526, attributes := #[] }, { accessFlags := 26, nameIndex := 674, descriptorIndex := 12, attributes := #[] }, { accessFlags := 26, nameIndex := 677, descriptorIndex := 12, attributes := #[] }, { accessFlags := 10, nameIndex := 11, descriptorIndex := 12, attributes := #[] }, { accessFlags := 74, nameIndex := 175, descriptorIndex := 176, attributes := #[] }, { accessFlags := 10, nameIndex := 491, descriptorIndex := 222, attributes := #[] }, { accessFlags := 74, nameIndex := 29, descriptorIndex := 30, attributes := #[] }, { accessFlags := 74, nameIndex := 154, descriptorIndex := 155, attributes := #[] }, { accessFlags := 10, nameIndex := 217, descriptorIndex := 218, attributes := #[] }, { accessFlags := 10, nameIndex := 221, descriptorIndex := 222, attributes := #[] }, { accessFlags := 8, nameIndex := 562, descriptorIndex := 563, attributes := #[] }])
  fields := #[{ name := "in", type := (.object "java/io/InputStream"), accessFlags := 25, slot := 0, constantValue := 0 }, { name := "out", type := (.object "java/io/PrintStream"), accessFlags := 25, slot := 1, constantValue := 0 }, { name := "err", type := (.object "java/io/PrintStream"), accessFlags := 25, slot := 2, constantValue := 0 }, { name := "initialIn", type := (.object "java/io/InputStream"), accessFlags := 10, slot := 3, constantValue := 0 }, { name := "NEVER", type := .int, accessFlags := 26, slot := 4, constantValue := 0 }, { name := "MAYBE", type := .int, accessFlags := 26, slot := 5, constantValue := 0 }, { name := "allowSecurityManager", type := .int, accessFlags := 10, slot := 6, constantValue := 0 }, { name := "security", type := (.object "java/lang/SecurityManager"), accessFlags := 74, slot := 7, constantValue := 0 }, { name := "notSupportedJnuEncoding", type := (.object "java/lang/String"), accessFlags := 10, slot := 8, constantValue := 0 }, { name := "cons", type := (.object "java/io/Console"), accessFlags := 74, slot := 9, constantValue := 0 }, { name := "initialErrStream", type := (.object "java/io/PrintStream"), accessFlags := 74, slot := 10, constantValue := 0 }, { name := "props", type := (.object "java/util/Properties"), accessFlags := 10, slot := 11, constantValue := 0 }, { name := "lineSeparator", type := (.object "java/lang/String"), accessFlags := 10, slot := 12, constantValue := 0 }, { name := "bootLayer", type := (.object "java/lang/ModuleLayer"), accessFlags := 8, slot := 13, constantValue := 0 }]
  methods := #[k5m0, k5m1]
  instanceTypes := #[]
  staticTypes := #[(.object "java/io/InputStream"), (.object "java/io/PrintStream"), (.object "java/io/PrintStream"), (.object "java/io/InputStream"), .int, .int, .int, (.object "java/lang/SecurityManager"), (.object "java/lang/String"), (.object "java/io/Console"), (.object "java/io/PrintStream"), (.object "java/util/Properties"), (.object "java/lang/String"), (.object "java/lang/ModuleLayer")]
  resolved := Array.replicate 834 none
  statics := none }

def pool6 : Array CpInfo := pool [(1, u "java/lang/Cloneable"), (0, .class_ 1), (0, u "java/lang/Object"), (0, .class_ 3)] 3

/-- java/lang/Cloneable -/
def k6 : Class := { plain "java/lang/Cloneable" (some 0) with
  accessFlags := 1537
  interfaces := #[]
  cf := some (fileOf pool6 2 #[] #[] 1537 4 #[] #[])
  fields := #[]
  methods := #[]
  instanceTypes := #[]
  staticTypes := #[]
  resolved := Array.replicate 8 none
  statics := none }

def pool7 : Array CpInfo := pool [(1, u "java/io/Serializable"), (0, .class_ 1), (0, u "java/lang/Object"), (0, .class_ 3)] 3

/-- java/io/Serializable -/
def k7 : Class := { plain "java/io/Serializable" (some 0) with
  accessFlags := 1537
  interfaces := #[]
  cf := some (fileOf pool7 2 #[] #[] 1537 4 #[] #[])
  fields := #[]
  methods := #[]
  instanceTypes := #[]
  staticTypes := #[]
  resolved := Array.replicate 8 none
  statics := none }

/-- the primitive byte -/
def k8 : Class := { plain "byte" none with kind := .primitive 'B', accessFlags := 0x411 }
/-- [B -/
def k9 : Class := { plain "[B" (some 0) with kind := .array 8 .byte, interfaces := #[6, 7], accessFlags := 1041 }

/-- the primitive int -/
def k10 : Class := { plain "int" none with kind := .primitive 'I', accessFlags := 0x411 }
/-- [I -/
def k11 : Class := { plain "[I" (some 0) with kind := .array 10 .int, interfaces := #[6, 7], accessFlags := 1041 }

def heap : Heap := #[]
def classes : Array Class := #[k0, k1, k2, k3, k4, k5, k6, k7, k8, k9, k10, k11]
def interned : List (Array UInt16 × Addr) := []
def slotsUsed : Nat := 0
def theMethod : MethodId := ⟨1, 1⟩
def args0 : Array Value := #[.int 5, .int 7, .int 6, .int 9]
def aboutOver (below : List Frame) : State where
  vm := { classes := classes, interned := interned.toArray }
  heap := heap
  slotsUsed := slotsUsed
  threads := #[{ frames := .invoking theMethod args0 :: below }]
def below0 : List Frame := [.native { method := ⟨0, 0⟩, args := #[] }]
def about1 : State := aboutOver below0
def p0 : Program := .bare "" "" ""
def e0 : Env := launch0.env 0 0 0
theorem w_frames : about1.frames = Frame.invoking theMethod args0 :: below0 := rfl
set_option maxRecDepth 65536 in
theorem w_args : argsFit about1.vm theMethod args0 = true := by decide +kernel
set_option maxRecDepth 65536 in
theorem w_heap : heapFits about1 = true := by decide +kernel
set_option maxRecDepth 65536 in
theorem w_runnable : about1.curStatus? = some .runnable := by decide +kernel
set_option maxRecDepth 65536 in
theorem w_alone : about1.alone = true := by decide +kernel
set_option maxRecDepth 65536 in
theorem w_named : about1.methodNamed? x = some theMethod := by decide +kernel
set_option maxRecDepth 65536 in
theorem w_hears : about1.hears theMethod below0 = true := by decide +kernel
set_option maxRecDepth 65536 in
theorem w_ripe : about1.ripe theMethod args0 below0 = true := by decide +kernel
theorem w_running : about1.status = .running := rfl
set_option maxRecDepth 65536 in
theorem w_room : about1.hasRoom e0.platform room_1 = true :=
  launch0.hasRoom_least _ room_1 (by decide +kernel) (by decide +kernel) (by decide +kernel) (by decide +kernel) (by decide +kernel) (by decide +kernel)
theorem allAtoms_all (ts : List Jvm.Cond) (a : Array Jvm.Value) (st : Jvm.State) : (allAtoms ts).before a st = ts.all (fun c => c.before a st) := by
  induction ts with
  | nil => rfl
  | cons c t ih =>
    show (Jvm.Cond.and c (allAtoms t)).before a st = _
    rw [Jvm.Cond.before_and, ih, List.all_cons]
def words1 : List Jvm.Cond := Jvm.Cond.code x code maxLocals ret :: tables_1
/-- a 'code' word, met by the world's own term for the bytes: nothing is compared byte by byte -/
theorem code_word {y : MethodName} {bytes : ByteArray} {mx : Nat} {rt : Option FieldType} {a : Array Value} {s : State} {m : MethodId} {meth : Method} {c : Code} (h1 : s.methodNamed? y = some m) (h2 : s.vm.method? m = some meth) (h3 : meth.code = some c) (h4 : c.code = bytes)
    (h5 : (c.maxLocals == mx && c.exceptionTable.isEmpty && decide (c.maxStack ≤ mostOperands) && decide (meth.sig.returnType = rt) && !meth.locks && decide (parseMethodDescriptor y.desc = some meth.sig)) = true) : (Jvm.Cond.code y bytes mx rt).before a s = true := by
  simp only [Bool.and_eq_true, beq_iff_eq, Bool.not_eq_true', decide_eq_true_eq] at h5
  obtain ⟨⟨⟨⟨⟨g1, g2⟩, g3⟩, g4⟩, g5⟩, g6⟩ := h5
  simp [Cond.before, Cond.holds, Cond.value, h1, h2, h3, h4, g1, g2, g3, g4, g5, g6]
def isCode : Jvm.Cond → Bool
  | .code _ _ _ _ => true
  | _ => false
theorem all_split {L : List Jvm.Cond} {P : Jvm.Cond → Bool} (h1 : L.all (fun c => isCode c || P c) = true) (h2 : ∀ c ∈ L.filter isCode, P c = true) : L.all P = true := by
  refine List.all_eq_true.mpr fun c hc => ?_
  have h := List.all_eq_true.mp h1 c hc
  rcases Bool.eq_false_or_eq_true (isCode c) with hi | hi
  · exact h2 c (List.mem_filter.mpr ⟨hc, hi⟩)
  · simpa [hi] using h
set_option maxRecDepth 65536 in
theorem w_c0 : (Jvm.Cond.code x code maxLocals ret).before args0 about1 = true := code_word (m := ⟨1, 1⟩) (meth := k1m1) (c := k1c1) (by decide +kernel) rfl rfl rfl (by decide +kernel)
set_option maxRecDepth 65536 in
theorem w_c1 : (Jvm.Cond.code ({ cls := "com/example/meddle/meddle/ClassFile$Bytes", name := "<init>", desc := "()V" } : Jvm.MethodName) prog_4_method_1_code (1 : Nat) (Option.none : Option Jvm.ClassFile.FieldType)).before args0 about1 = true := code_word (m := ⟨2, 0⟩) (meth := k2m0) (c := k2c0) (by decide +kernel) rfl rfl rfl (by decide +kernel)
set_option maxRecDepth 65536 in
theorem w_c2 : (Jvm.Cond.code ({ cls := "java/lang/Object", name := "<init>", desc := "()V" } : Jvm.MethodName) object_method_1_code (1 : Nat) (Option.none : Option Jvm.ClassFile.FieldType)).before args0 about1 = true := code_word (m := ⟨0, 0⟩) (meth := k0m0) (c := k0c0) (by decide +kernel) rfl rfl rfl (by decide +kernel)
set_option maxRecDepth 65536 in
theorem w_c3 : (Jvm.Cond.code ({ cls := "com/example/meddle/meddle/ClassFile$Bytes", name := "u4", desc := "(I)V" } : Jvm.MethodName) prog_4_method_5_code (2 : Nat) (Option.none : Option Jvm.ClassFile.FieldType)).before args0 about1 = true := code_word (m := ⟨2, 2⟩) (meth := k2m2) (c := k2c2) (by decide +kernel) rfl rfl rfl (by decide +kernel)
set_option maxRecDepth 65536 in
theorem w_c4 : (Jvm.Cond.code ({ cls := "com/example/meddle/meddle/ClassFile$Bytes", name := "ensure", desc := "(I)V" } : Jvm.MethodName) prog_4_method_10_code (2 : Nat) (Option.none : Option Jvm.ClassFile.FieldType)).before args0 about1 = true := code_word (m := ⟨2, 4⟩) (meth := k2m4) (c := k2c4) (by decide +kernel) rfl rfl rfl (by decide +kernel)
set_option maxRecDepth 65536 in
theorem w_c5 : (Jvm.Cond.code ({ cls := "com/example/meddle/meddle/ClassFile$Bytes", name := "set2", desc := "(II)V" } : Jvm.MethodName) prog_4_method_7_code (3 : Nat) (Option.none : Option Jvm.ClassFile.FieldType)).before args0 about1 = true := code_word (m := ⟨2, 3⟩) (meth := k2m3) (c := k2c3) (by decide +kernel) rfl rfl rfl (by decide +kernel)
set_option maxRecDepth 65536 in
theorem w_c6 : (Jvm.Cond.code ({ cls := "com/example/meddle/meddle/ClassFile$Bytes", name := "toArray", desc := "()[B" } : Jvm.MethodName) prog_4_method_11_code (1 : Nat) (Option.some (Jvm.ClassFile.FieldType.array Jvm.ClassFile.FieldType.byte))).before args0 about1 = true := code_word (m := ⟨2, 5⟩) (meth := k2m5) (c := k2c5) (by decide +kernel) rfl rfl rfl (by decide +kernel)
set_option maxRecDepth 65536 in
theorem w_c7 : (Jvm.Cond.code ({ cls := "java/util/Arrays", name := "copyOf", desc := "([BI)[B" } : Jvm.MethodName) jdk_65_method_121_code (3 : Nat) (Option.some (Jvm.ClassFile.FieldType.array Jvm.ClassFile.FieldType.byte))).before args0 about1 = true := code_word (m := ⟨3, 1⟩) (meth := k3m1) (c := k3c1) (by decide +kernel) rfl rfl rfl (by decide +kernel)
set_option maxRecDepth 65536 in
theorem w_c8 : (Jvm.Cond.code ({ cls := "java/lang/Math", name := "min", desc := "(II)I" } : Jvm.MethodName) jdk_29_method_69_code (2 : Nat) (Option.some Jvm.ClassFile.FieldType.int)).before args0 about1 = true := code_word (m := ⟨4, 1⟩) (meth := k4m1) (c := k4c1) (by decide +kernel) rfl rfl rfl (by decide +kernel)
set_option maxRecDepth 65536 in
theorem w_c9 : (Jvm.Cond.code ({ cls := "com/example/meddle/meddle/ClassFile$Bytes", name := "length", desc := "()I" } : Jvm.MethodName) prog_4_method_2_code (1 : Nat) (Option.some Jvm.ClassFile.FieldType.int)).before args0 about1 = true := code_word (m := ⟨2, 1⟩) (meth := k2m1) (c := k2c1) (by decide +kernel) rfl rfl rfl (by decide +kernel)
set_option maxRecDepth 65536 in
theorem w_c10 : (Jvm.Cond.code ({ cls := "com/example/meddle/meddle/BytesSet2PinLaw", name := "at", desc := "([BIIIII)Z" } : Jvm.MethodName) method_5_code (6 : Nat) (Option.some Jvm.ClassFile.FieldType.boolean)).before args0 about1 = true := code_word (m := ⟨1, 4⟩) (meth := k1m4) (c := k1c4) (by decide +kernel) rfl rfl rfl (by decide +kernel)
set_option maxRecDepth 65536 in
theorem w_c11 : (Jvm.Cond.code ({ cls := "com/example/meddle/meddle/BytesSet2PinLaw", name := "expected", desc := "(IIIII)I" } : Jvm.MethodName) method_4_code (5 : Nat) (Option.some Jvm.ClassFile.FieldType.int)).before args0 about1 = true := code_word (m := ⟨1, 3⟩) (meth := k1m3) (c := k1c3) (by decide +kernel) rfl rfl rfl (by decide +kernel)
set_option maxRecDepth 65536 in
theorem w_c12 : (Jvm.Cond.code ({ cls := "com/example/meddle/meddle/BytesSet2PinLaw", name := "original", desc := "(III)I" } : Jvm.MethodName) method_3_code (5 : Nat) (Option.some Jvm.ClassFile.FieldType.int)).before args0 about1 = true := code_word (m := ⟨1, 2⟩) (meth := k1m2) (c := k1c2) (by decide +kernel) rfl rfl rfl (by decide +kernel)
def codes1 : List Jvm.Cond := [Jvm.Cond.code x code maxLocals ret, Jvm.Cond.code ({ cls := "com/example/meddle/meddle/ClassFile$Bytes", name := "<init>", desc := "()V" } : Jvm.MethodName) prog_4_method_1_code (1 : Nat) (Option.none : Option Jvm.ClassFile.FieldType), Jvm.Cond.code ({ cls := "java/lang/Object", name := "<init>", desc := "()V" } : Jvm.MethodName) object_method_1_code (1 : Nat) (Option.none : Option Jvm.ClassFile.FieldType), Jvm.Cond.code ({ cls := "com/example/meddle/meddle/ClassFile$Bytes", name := "u4", desc := "(I)V" } : Jvm.MethodName) prog_4_method_5_code (2 : Nat) (Option.none : Option Jvm.ClassFile.FieldType), Jvm.Cond.code ({ cls := "com/example/meddle/meddle/ClassFile$Bytes", name := "ensure", desc := "(I)V" } : Jvm.MethodName) prog_4_method_10_code (2 : Nat) (Option.none : Option Jvm.ClassFile.FieldType), Jvm.Cond.code ({ cls := "com/example/meddle/meddle/ClassFile$Bytes", name := "set2", desc := "(II)V" } : Jvm.MethodName) prog_4_method_7_code (3 : Nat) (Option.none : Option Jvm.ClassFile.FieldType), Jvm.Cond.code ({ cls := "com/example/meddle/meddle/ClassFile$Bytes", name := "toArray", desc := "()[B" } : Jvm.MethodName) prog_4_method_11_code (1 : Nat) (Option.some (Jvm.ClassFile.FieldType.array Jvm.ClassFile.FieldType.byte)), Jvm.Cond.code ({ cls := "java/util/Arrays", name := "copyOf", desc := "([BI)[B" } : Jvm.MethodName) jdk_65_method_121_code (3 : Nat) (Option.some (Jvm.ClassFile.FieldType.array Jvm.ClassFile.FieldType.byte)), Jvm.Cond.code ({ cls := "java/lang/Math", name := "min", desc := "(II)I" } : Jvm.MethodName) jdk_29_method_69_code (2 : Nat) (Option.some Jvm.ClassFile.FieldType.int), Jvm.Cond.code ({ cls := "com/example/meddle/meddle/ClassFile$Bytes", name := "length", desc := "()I" } : Jvm.MethodName) prog_4_method_2_code (1 : Nat) (Option.some Jvm.ClassFile.FieldType.int), Jvm.Cond.code ({ cls := "com/example/meddle/meddle/BytesSet2PinLaw", name := "at", desc := "([BIIIII)Z" } : Jvm.MethodName) method_5_code (6 : Nat) (Option.some Jvm.ClassFile.FieldType.boolean), Jvm.Cond.code ({ cls := "com/example/meddle/meddle/BytesSet2PinLaw", name := "expected", desc := "(IIIII)I" } : Jvm.MethodName) method_4_code (5 : Nat) (Option.some Jvm.ClassFile.FieldType.int), Jvm.Cond.code ({ cls := "com/example/meddle/meddle/BytesSet2PinLaw", name := "original", desc := "(III)I" } : Jvm.MethodName) method_3_code (5 : Nat) (Option.some Jvm.ClassFile.FieldType.int)]
set_option maxRecDepth 65536 in
theorem codes_eq : words1.filter isCode = codes1 := rfl
theorem w_codes : ∀ c ∈ words1.filter isCode, c.before args0 about1 = true := by
  rw [codes_eq]
  intro c hc
  simp only [codes1, List.mem_cons, List.not_mem_nil, or_false] at hc
  rcases hc with rfl | rfl | rfl | rfl | rfl | rfl | rfl | rfl | rfl | rfl | rfl | rfl | rfl
  · exact w_c0
  · exact w_c1
  · exact w_c2
  · exact w_c3
  · exact w_c4
  · exact w_c5
  · exact w_c6
  · exact w_c7
  · exact w_c8
  · exact w_c9
  · exact w_c10
  · exact w_c11
  · exact w_c12
set_option maxRecDepth 65536 in
theorem w_t1 : (words1.take 24).all (fun c => isCode c || c.before args0 about1) = true := by decide +kernel
set_option maxRecDepth 65536 in
theorem w_t2 : ((words1.drop 24).take 24).all (fun c => isCode c || c.before args0 about1) = true := by decide +kernel
set_option maxRecDepth 65536 in
theorem w_t3 : ((words1.drop 24).drop 24).all (fun c => isCode c || c.before args0 about1) = true := by decide +kernel
theorem w_tables : (allAtoms (Jvm.Cond.code x code maxLocals ret :: tables_1)).before args0 about1 = true := by
  rw [allAtoms_all]
  show words1.all (fun c => c.before args0 about1) = true
  refine all_split ?_ w_codes
  rw [← List.take_append_drop 24 words1, List.all_append, w_t1, ← List.take_append_drop 24 (words1.drop 24), List.all_append, w_t2, w_t3]
  rfl
set_option maxRecDepth 65536 in
theorem w_case : (Jvm.Cond.and given_1 narrow_1).before args0 about1 = true := by decide +kernel
theorem w_applies : (headSpec (Jvm.Cond.code x code maxLocals ret :: tables_1) room_1).applies x e0.platform about1 = true :=
  (Spec.applies_iff w_frames).mpr ⟨w_running, w_runnable, w_alone, w_named, w_hears, w_ripe, w_room, w_tables⟩
theorem atStart : AtStart classFile x code maxLocals ret World_1 tables_1 room_1 Calls_1 rest_1 Pre_1 launch0 p0 e0 about1 theMethod args0 below0 :=
  ⟨lists_1, trivial, launch0.admits_env _ _ _, launch0.least_env, fairChoices_fair.cas, fairChoices_fair.clock, w_frames, w_args, w_heap, w_applies, trivial, trivial, w_case⟩
end start1
theorem witness_1 : WitnessClaimed_1 := ⟨start1.p0, start1.e0, start1.about1, start1.theMethod, start1.args0, start1.below0, start1.atStart⟩
end Jvm.Pilot.@@N@@
