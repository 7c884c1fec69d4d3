import JvmDerived
import JvmDerived.Pilot.@@N@@Statement
import JvmDerived.Pilot.@@N@@Code
set_option linter.unusedVariables false
set_option linter.unusedSimpArgs false
namespace Jvm.Pilot.@@N@@
open Jvm Jvm.ClassFile Sem Op Lib Jvm.Free Jvm.Stand Jvm.LawKit Jvm.RoadKit Bundle Jvm.Pilot.@@N@@.Jvm.D
/-! own kit: walks in the form 'what is left from this frame on', so that a walk may fork and join -/
section OwnKit
def b01 : Bool → Int32 | true => 1 | false => 0
def i01 (A : Prop) [Decidable A] : Int32 := if A then 1 else 0
theorem i01_t {A : Prop} [Decidable A] (h : A) : i01 A = 1 := if_pos h
theorem i01_f {A : Prop} [Decidable A] (h : ¬ A) : i01 A = 0 := if_neg h
theorem i01_0 {A : Prop} [Decidable A] : i01 A = 0 ↔ ¬ A := by unfold i01; by_cases h : A <;> simp [h]
theorem i01_b {A : Prop} [Decidable A] : i01 A = b01 (decide A) := by unfold i01; by_cases h : A <;> simp [h, b01]
theorem i01_n {A : Prop} [Decidable A] (h : ¬ i01 A = 0) : A := Decidable.not_not.mp fun q => h (i01_0.mpr q)
theorem b01_0 {b : Bool} : b01 b = 0 ↔ b = false := by cases b <;> simp [b01]
theorem b01_n {b : Bool} (h : ¬ b01 b = 0) : b = true := by cases b <;> first | rfl | exact absurd rfl h
theorem b01_inj {a b : Bool} : b01 a = b01 b ↔ a = b := by cases a <;> cases b <;> simp [b01]
theorem b01_nar (b : Bool) : nar .boolean (b01 b) = b01 b := by cases b <;> rfl
theorem i01_nar {A : Prop} [Decidable A] : nar .boolean (i01 A) = i01 A := by rw [i01_b]; exact b01_nar _
variable {p : Program} {l : Launch} {e : Env} {R : Room} {s : State} {m : MethodId} {args : Array Value} {below : List Frame} {meth : Method} {c : Code} {T T' : State} {locs : List Loc} {cells slots : Nat} {Z : State} {a0 : Array Value} {h : Heap}
/-- from the frame g over T the run comes to an end of which P holds -/
def Go (p : Program) (e : Env) (below : List Frame) (P : State → Outcome → Prop) (T : State) (g : JFrame) : Prop :=
  ∃ (u : State) (o : Outcome), Steps p.tables e below (T.setTop g) u ∧ u.status = .running ∧ Ended u below o ∧ P u o
variable {P : State → Outcome → Prop}
theorem Go.via {g g' : JFrame} (st : ∀ t, Steps p.tables e below (T'.setTop g') t → Steps p.tables e below (T.setTop g) t) (k : Go p e below P T' g') : Go p e below P T g := by
  obtain ⟨u, o, hs, r⟩ := k
  exact ⟨u, o, st u hs, r⟩
theorem Go.cut {g g' : JFrame} (k1 : Go p e below P T' g' → Go p e below P T g) (k2 : Go p e below P T' g') : Go p e below P T g := k1 k2
theorem Go.cutA {α : Type} {g : JFrame} {g' : α → JFrame} (k1 : (∀ q, Go p e below P T' (g' q)) → Go p e below P T g) (k2 : ∀ q, Go p e below P T' (g' q)) : Go p e below P T g := k1 k2
theorem Go.cutE {α : Type} {v : α} {g : JFrame} {g' : α → JFrame} (k1 : (∀ q, q = v → Go p e below P T' (g' q)) → Go p e below P T g) (k2 : Go p e below P T' (g' v)) : Go p e below P T g := k1 fun q hq => hq ▸ k2
theorem Go.cast {g g' : JFrame} (q : g = g') (k : Go p e below P T g') : Go p e below P T g := q ▸ k
/-- what a contract says of its end -/
def GoEnd (s : State) (Q : Option Value → Heap → List Loc → Prop) (cs sl : Nat) (u : State) (o : Outcome) : Prop := ∃ (v : Option Value) (L : List Loc), o = .returned v ∧ Q v u.heap L ∧ FrameEnd s o u L cs sl
variable {Q : Option Value → Heap → List Loc → Prop} {cs sl : Nat}
theorem Go.retN (X : Stand p l e R s m args below meth c T locs cells slots) (hx : p.tables.exec = Jvm.exec) (hk : meth.locks = false) {pc : Nat} {Ls : Array Slot} {z : Int32} {t : FieldType} {rest : List Value} (hret : meth.sig.returnType = some t) (ht : t = .boolean ∨ t = .byte ∨ t = .char ∨ t = .short)
    (hd : decode c.code pc = .ok (.ireturn, 1)) (hc : cells ≤ cs) (hl : slots ≤ sl) (hq : Q (some (.int (nar t z))) T.heap locs) : Go p e below (GoEnd s Q cs sl) T (mkF m pc Ls (.int z :: rest)) := by
  obtain ⟨fs, hr, hrun, hended, hW, hsame⟩ := X.leave (v := some (.int (nar t z))) (fun q => by rw [hret] at q; cases q) hk
  exact ⟨_, _, Jvm.RoadKit.retN X hx hret ht hd hr, hrun, hended, _, _, rfl, hq, ⟨_, rfl⟩, hW, hsame.mono hc hl⟩
theorem Go.retA (X : Stand p l e R s m args below meth c T locs cells slots) (hx : p.tables.exec = Jvm.exec) (hk : meth.locks = false) {pc : Nat} {Ls : Array Slot} {w : Value} {t : FieldType} {i : Instr} {rest : List Value} (hret : meth.sig.returnType = some t) (hn : narrow t w = w)
    (hi : (i = .ireturn ∧ (t = .int ∨ t = .boolean ∨ t = .byte ∨ t = .char ∨ t = .short) ∧ ∃ z, w = .int z) ∨ (i = .lreturn ∧ t = .long ∧ ∃ z, w = .long z) ∨ (i = .dreturn ∧ t = .double ∧ ∃ z, w = .double z) ∨ (i = .freturn ∧ t = .float ∧ ∃ z, w = .float z) ∨ (i = .areturn ∧ t.isReference = true ∧ w.isRef = true))
    (hd : decode c.code pc = .ok (i, 1)) (hc : cells ≤ cs) (hl : slots ≤ sl) (hq : Q (some w) T.heap locs) : Go p e below (GoEnd s Q cs sl) T (mkF m pc Ls (w :: rest)) := by
  obtain ⟨fs, hr, hrun, hended, hW, hsame⟩ := X.leave (v := some w) (fun q => by rw [hret] at q; cases q) hk
  exact ⟨_, _, Jvm.RoadKit.retOut X hx hret hn hi hd hr, hrun, hended, _, _, rfl, hq, ⟨_, rfl⟩, hW, hsame.mono hc hl⟩
theorem Go.retI (X : Stand p l e R s m args below meth c T locs cells slots) (hx : p.tables.exec = Jvm.exec) (hk : meth.locks = false) {pc : Nat} {Ls : Array Slot} {z : Int32} {rest : List Value} (hret : meth.sig.returnType = some .int)
    (hd : decode c.code pc = .ok (.ireturn, 1)) (hc : cells ≤ cs) (hl : slots ≤ sl) (hq : Q (some (.int z)) T.heap locs) : Go p e below (GoEnd s Q cs sl) T (mkF m pc Ls (.int z :: rest)) :=
  Go.retA X hx hk hret rfl (Or.inl ⟨rfl, Or.inl rfl, z, rfl⟩) hd hc hl hq
theorem Go.retJ (X : Stand p l e R s m args below meth c T locs cells slots) (hx : p.tables.exec = Jvm.exec) (hk : meth.locks = false) {pc : Nat} {Ls : Array Slot} {z : Int64} {rest : List Value} (hret : meth.sig.returnType = some .long)
    (hd : decode c.code pc = .ok (.lreturn, 1)) (hc : cells ≤ cs) (hl : slots ≤ sl) (hq : Q (some (.long z)) T.heap locs) : Go p e below (GoEnd s Q cs sl) T (mkF m pc Ls (.long z :: rest)) :=
  Go.retA X hx hk hret rfl (Or.inr (Or.inl ⟨rfl, rfl, z, rfl⟩)) hd hc hl hq
theorem Go.retV (X : Stand p l e R s m args below meth c T locs cells slots) (hx : p.tables.exec = Jvm.exec) (hk : meth.locks = false) {pc : Nat} {Ls : Array Slot} (hret : meth.sig.returnType = none)
    (hd : decode c.code pc = .ok (.return_, 1)) (hc : cells ≤ cs) (hl : slots ≤ sl) (hq : Q none T.heap locs) : Go p e below (GoEnd s Q cs sl) T (mkF m pc Ls []) := by
  obtain ⟨fs, hr, hrun, hended, hW, hsame⟩ := X.leave (v := none) (fun _ => rfl) hk
  exact ⟨_, _, X.returnOut hx hret hd hr, hrun, hended, _, _, rfl, hq, ⟨_, rfl⟩, hW, hsame.mono hc hl⟩
/-- a method's contract: called with as' over the heap h it ends and Q holds -/
abbrev Met (l : Launch) (Z : State) (y : MethodName) (bytes : ByteArray) (maxL : Nat) (ret : Option FieldType) (ws : List Jvm.Cond) (rm : Room) (as' : Array Value) (h : Heap) (Q : Option Value → Heap → List Loc → Prop) : Prop :=
  MetFree l y (head1 (Jvm.Cond.code y bytes maxL ret :: ws) rm) (fun a U => a = as' ∧ Z.Warmed39 U.vm ∧ U.heap = h) (fun _ _ _ _ _ => True) (fun _ U o U' => GoEnd U Q rm.cells rm.slots U' o)
variable {y : MethodName} {bytes : ByteArray} {maxL : Nat} {ret : Option FieldType} {ws : List Jvm.Cond} {rm : Room} {as' : Array Value}
/-- a body's own walk makes its contract -/
theorem Met.of (hp : plainFor y = true)
    (body : ∀ (p : Program) (e : Env) (s : State) (m : MethodId) (below : List Frame) (meth : Method) (c : Code) (T : State), p.tables.exec = Jvm.exec → c.code = bytes → c.maxLocals = maxL → meth.locks = false → meth.sig.returnType = ret → meth.name = y.name → s.vm.findClass y.cls = some m.cls → Z.Warmed39 s.vm →
      Stand p l e rm s m as' below meth c T [] 0 0 → T.heap = h → Go p e below (GoEnd s Q rm.cells rm.slots) T (entryFrame m as' maxL)) : Met l Z y bytes maxL ret ws rm as' h Q := by
  refine MetFree.of_bodySF hp hisR ?_
  intro p e s m args below meth c s₁ Bd hml hP hK
  obtain ⟨rfl, hZ, hh⟩ := hP
  exact body p e s m below meth c s₁ Bd.exec Bd.bytes hml (BodyLoose.notSynchronized Bd) Bd.returns (name_of_methodNamed Bd.named Bd.method).1 (findClass_of_methodNamed Bd.named) hZ (Stand.of_body Bd) (by rw [← hh, Bd.state]; rfl)
/-- a static call by its contract -/
theorem Go.callS (X : Stand p l e R s m args below meth c T locs cells slots) (hx : p.tables.exec = Jvm.exec) (hZ : Z.Warmed39 s.vm) {own : String} {index : Nat} (hown : s.vm.findClass own = some m.cls) (eT : T.heap = h)
    (w1 : (Cond.methodLink own index y).before a0 Z = true) (w2 : (Cond.static y).before a0 Z = true) (w3 : (Cond.initialized y.cls).before a0 Z = true) (w4 : (Cond.code y bytes maxL ret).before a0 Z = true) (hy : y.cls ≠ "java/lang/invoke/MethodHandle" ∧ y.cls ≠ "java/lang/invoke/VarHandle")
    (M : Met l Z y bytes maxL ret [] rm as' h Q) {pc : Nat} {Ls : Array Slot} {argsL rest : List Value} {ps : List FieldType} {r : Option FieldType} (hpd : parseMethodDescriptor y.desc = some ⟨ps, r⟩) (hn : argsL.length = ps.length) (has : argsL.toArray = as') (hsize : Ls.size = c.maxLocals)
    (hd : decode c.code pc = .ok (.invokestatic index, 3)) {W : Nat} (hW : (rest.map fun v => v.category).sum ≤ W) (hf : rm.frames + 1 ≤ R.frames) (hl : W + (maxL + 11) + rm.locals ≤ R.locals) (hc : cells + rm.cells ≤ R.cells) (hs : slots + rm.slots ≤ R.slots) :
    ∃ (v : Option Value) (T' : State) (L : List Loc), Stand p l e R s m args below meth c T' (locs ++ L) (cells + rm.cells) (slots + rm.slots) ∧ Q v T'.heap L ∧ ∀ {P : State → Outcome → Prop}, Go p e below P T' (mkF m (pc + 3) Ls (v.toList ++ rest)) → Go p e below P T (mkF m pc Ls (argsL.reverse ++ rest)) := by
  obtain ⟨v, vm₁, ⟨T', L', k', n'⟩, -, X', ⟨L, hQ, l1, l2, l3⟩, st⟩ := Jvm.LawKit.callS X hx hown (mvT hZ w1) (mvT hZ w2) (mvT hZ w3) (mvT hZ w4) hy (backOf (W := W) M hZ w4 w3 hf hl) (g := mkF m pc Ls (argsL.reverse ++ rest)) rfl hsize (lenOf hpd hn) rfl (by show 2 * 0 + _ ≤ _; omega) hd (fun _ _ => ⟨has, eT, hc, hs⟩)
  dsimp only [Pt.U, Pt.locs, Pt.cells, Pt.slots] at X' l1 l2 l3 st hQ
  subst l1 l2 l3
  exact ⟨v, T', L, X', hQ, fun k => Go.via st k⟩
/-- a constructor by its contract -/
theorem Go.callN (X : Stand p l e R s m args below meth c T locs cells slots) (hx : p.tables.exec = Jvm.exec) (hZ : Z.Warmed39 s.vm) {own : String} {index : Nat} (hown : s.vm.findClass own = some m.cls) (eT : T.heap = h) (hy1 : y.name = "<init>")
    (w1 : (Cond.methodLink own index y).before a0 Z = true) (w2 : (Cond.instanceMethod y).before a0 Z = true) (w3 : (Cond.initialized y.cls).before a0 Z = true) (w4 : (Cond.code y bytes maxL none).before a0 Z = true) (hy : y.cls ≠ "java/lang/invoke/MethodHandle" ∧ y.cls ≠ "java/lang/invoke/VarHandle")
    (M : Met l Z y bytes maxL none [] rm as' h Q) {pc : Nat} {Ls : Array Slot} {a : Addr} {argsL rest : List Value} {ps : List FieldType} {r : Option FieldType} (hpd : parseMethodDescriptor y.desc = some ⟨ps, r⟩) (hn : argsL.length = ps.length) (has : (.ref a :: argsL).toArray = as') (hsize : Ls.size = c.maxLocals)
    (hd : decode c.code pc = .ok (.invokespecial index, 3)) {W : Nat} (hW : (rest.map fun v => v.category).sum ≤ W) (hf : rm.frames + 1 ≤ R.frames) (hl : W + (maxL + 11) + rm.locals ≤ R.locals) (hc : cells + rm.cells ≤ R.cells) (hs : slots + rm.slots ≤ R.slots) :
    ∃ (v : Option Value) (T' : State) (L : List Loc), Stand p l e R s m args below meth c T' (locs ++ L) (cells + rm.cells) (slots + rm.slots) ∧ Q v T'.heap L ∧ ∀ {P : State → Outcome → Prop}, Go p e below P T' (mkF m (pc + 3) Ls (v.toList ++ rest)) → Go p e below P T (mkF m pc Ls (argsL.reverse ++ .ref a :: rest)) := by
  obtain ⟨v, vm₁, ⟨T', L', k', n'⟩, -, X', ⟨L, hQ, l1, l2, l3⟩, st⟩ := X.specialBack hx hy1 hown (mvT hZ w1) (mvT hZ w2) (mvT hZ w4) hy (backOf (W := W) M hZ w4 w3 hf hl) (g := mkF m pc Ls (argsL.reverse ++ .ref a :: rest)) rfl hsize (Steps.refl _) (lenOf hpd hn) rfl (by show 2 * 0 + _ ≤ _; omega) hd (fun _ _ => ⟨has, eT, hc, hs⟩)
  dsimp only [Pt.U, Pt.locs, Pt.cells, Pt.slots] at X' l1 l2 l3 st hQ
  subst l1 l2 l3
  exact ⟨v, T', L, X', hQ, fun k => Go.via (fun t k => st.trans k) k⟩
/-- an instance method by its contract -/
theorem Go.callV (X : Stand p l e R s m args below meth c T locs cells slots) (hx : p.tables.exec = Jvm.exec) (hZ : Z.Warmed39 s.vm) {own C : String} {index : Nat} (hown : s.vm.findClass own = some m.cls) (eT : T.heap = h)
    (w1 : (Cond.methodLink own index y).before a0 Z = true) (w2 : (Cond.declares y).before a0 Z = true) (w6 : (Cond.selects C y y).before a0 Z = true) (w7 : (Cond.instanceMethod y).before a0 Z = true) (w3 : (Cond.initialized y.cls).before a0 Z = true) (w4 : (Cond.code y bytes maxL ret).before a0 Z = true) (hy : y.cls ≠ "java/lang/invoke/MethodHandle" ∧ y.cls ≠ "java/lang/invoke/VarHandle")
    {a : Addr} (Ea : Exa Z h a C)
    (M : Met l Z y bytes maxL ret [] rm as' h Q) {pc : Nat} {Ls : Array Slot} {argsL rest : List Value} {ps : List FieldType} {r : Option FieldType} (hpd : parseMethodDescriptor y.desc = some ⟨ps, r⟩) (hn : argsL.length = ps.length) (has : (.ref a :: argsL).toArray = as') (hsize : Ls.size = c.maxLocals)
    (hd : decode c.code pc = .ok (.invokevirtual index, 3)) {W : Nat} (hW : (rest.map fun v => v.category).sum ≤ W) (hf : rm.frames + 1 ≤ R.frames) (hl : W + (maxL + 11) + rm.locals ≤ R.locals) (hc : cells + rm.cells ≤ R.cells) (hs : slots + rm.slots ≤ R.slots) :
    ∃ (v : Option Value) (T' : State) (L : List Loc), Stand p l e R s m args below meth c T' (locs ++ L) (cells + rm.cells) (slots + rm.slots) ∧ Q v T'.heap L ∧ ∀ {P : State → Outcome → Prop}, Go p e below P T' (mkF m (pc + 3) Ls (v.toList ++ rest)) → Go p e below P T (mkF m pc Ls (argsL.reverse ++ .ref a :: rest)) := by
  obtain ⟨cq, kq, qa, qb, qc⟩ := isOf hZ eT Ea
  obtain ⟨v, vm₁, ⟨T', L', k', n'⟩, -, X', ⟨L, hQ, l1, l2, l3⟩, st⟩ := X.virtualBack hx hown (mvT hZ w1) (mvT hZ w2) (notFace_of_selects (args := #[]) (mvT hZ w6)) (mvT hZ w6) (mvT hZ w7) hy (backOf (W := W) M hZ w4 w3 hf hl) qa qc (g := mkF m pc Ls (argsL.reverse ++ .ref a :: rest)) rfl hsize (Steps.refl _) (lenOf hpd hn) rfl (by show 2 * 0 + _ ≤ _; omega) hd (fun _ _ => ⟨has, eT, hc, hs⟩)
  dsimp only [Pt.U, Pt.locs, Pt.cells, Pt.slots] at X' l1 l2 l3 st hQ
  subst l1 l2 l3
  exact ⟨v, T', L, X', hQ, fun k => Go.via (fun t k => st.trans k) k⟩
end OwnKit
theorem own_pd0 : parseMethodDescriptor "(I)Z" = some ⟨[.int], some .boolean⟩ := by decide +kernel
def own_su (x : Int32) : Int32 := if x &&& 32768 = 0 then 0 else 1
theorem own_su_t {x : Int32} (h : x &&& 32768 = 0) : own_su x = 0 := if_pos h
theorem own_su_f {x : Int32} (h : ¬ x &&& 32768 = 0) : own_su x = 1 := if_neg h
theorem own_xd (a b c : BitVec 32) : (a ^^^ b) &&& c = (a &&& c) ^^^ (b &&& c) := by
  apply BitVec.eq_of_getLsbD_eq
  intro i hi
  simp only [BitVec.getLsbD_and, BitVec.getLsbD_xor, Bool.and_xor_distrib_right]
theorem own_l1 (x y : Int32) : (x ^^^ (y &&& (-32769 : Int32))) &&& 32768 = x &&& 32768 := by
  rw [← Int32.toBitVec_inj]
  simp only [Int32.toBitVec_and, Int32.toBitVec_xor]
  have h : ((-32769 : Int32).toBitVec &&& (32768 : Int32).toBitVec) = 0 := by decide
  rw [own_xd, BitVec.and_assoc, h]
  simp
theorem own_l2 (x : Int32) : (x ^^^ 32768) &&& 32768 = (x &&& 32768) ^^^ 32768 := by
  rw [← Int32.toBitVec_inj]
  simp only [Int32.toBitVec_and, Int32.toBitVec_xor]
  rw [own_xd, BitVec.and_self]
theorem own_same (x y : Int32) : own_su (x ^^^ (y &&& (-32769 : Int32))) = own_su x := by simp only [own_su, own_l1]
theorem own_bit (b : BitVec 32) : b &&& 32768#32 = if b.getLsbD 15 = true then 32768#32 else 0#32 := by
  apply BitVec.eq_of_getLsbD_eq
  intro i hi
  rw [BitVec.getLsbD_and, show (32768#32 : BitVec 32) = BitVec.twoPow 32 15 by decide, BitVec.getLsbD_twoPow]
  by_cases hq : 15 = i
  · subst hq; cases hb : b.getLsbD 15 <;> simp
  · cases hb : b.getLsbD 15 <;> simp [hq]
theorem own_and (x : Int32) : x &&& 32768 = 0 ∨ x &&& 32768 = 32768 := by
  have h := own_bit x.toBitVec
  cases hb : x.toBitVec.getLsbD 15
  · left; rw [← Int32.toBitVec_inj]; rw [hb] at h; exact h
  · right; rw [← Int32.toBitVec_inj]; rw [hb] at h; exact h
theorem own_flip (x : Int32) : ¬ own_su (x ^^^ 32768) = own_su x := by
  simp only [own_su, own_l2]
  rcases own_and x with h | h <;> rw [h] <;> decide
theorem own_low (x : Int32) : (x &&& 65535 < 32768) ↔ x &&& 32768 = 0 := by
  have e1 := c_mask x 65535 16 (by decide) (by decide)
  have hb : x.toBitVec.getLsbD 15 = decide (32768 ≤ x.toBitVec.toNat % 65536) := by
    rw [BitVec.getLsbD, Nat.testBit_eq_decide_div_mod_eq]
    congr 1
    apply propext
    omega
  have ht : x.toInt % 65536 = ((x.toBitVec.toNat % 65536 : Nat) : Int) := by
    have : x.toInt = x.toBitVec.toInt := rfl
    rw [this, BitVec.toInt_eq_toNat_bmod]
    have := Int.bmod_emod (x := (x.toBitVec.toNat : Int)) (m := 2 ^ 32)
    omega
  have h := own_bit x.toBitVec
  rw [Int32.lt_iff_toInt_lt, e1, show ((2 ^ 16 : Nat) : Int) = 65536 from rfl, ht, show (32768 : Int32).toInt = 32768 from rfl]
  have hx : x &&& 32768 = 0 ↔ x.toBitVec &&& 32768#32 = 0#32 := by rw [← Int32.toBitVec_inj]; rfl
  rw [hx, h, hb]
  by_cases q : 32768 ≤ x.toBitVec.toNat % 65536
  · simp only [q, decide_true, if_true]
    constructor
    · intro r; omega
    · intro r; exact absurd r (by decide)
  · simp only [q, decide_false]
    constructor
    · intro _; rfl
    · intro _; omega
theorem own_exp_t {x : Int32} (h : x &&& 65535 < 32768) : own_su x = 0 := own_su_t ((own_low x).mp h)
theorem own_exp_f {x : Int32} (h : ¬ x &&& 65535 < 32768) : own_su x = 1 := own_su_f fun q => h ((own_low x).mpr q)
theorem own_d1_0 : decode prog_61_method_2_code 0 = .ok (.iload_n 0, 1) := by decide +kernel
theorem own_d1_1 : decode prog_61_method_2_code 1 = .ok (.ldc 9, 2) := by decide +kernel
theorem own_d1_3 : decode prog_61_method_2_code 3 = .ok (.iand, 1) := by decide +kernel
theorem own_d1_4 : decode prog_61_method_2_code 4 = .ok (.ifCond .eq 7, 3) := by decide +kernel
theorem own_d1_7 : decode prog_61_method_2_code 7 = .ok (.iconst 1, 1) := by decide +kernel
theorem own_d1_8 : decode prog_61_method_2_code 8 = .ok (.goto 4, 3) := by decide +kernel
theorem own_d1_11 : decode prog_61_method_2_code 11 = .ok (.iconst 0, 1) := by decide +kernel
theorem own_d1_12 : decode prog_61_method_2_code 12 = .ok (.ireturn, 1) := by decide +kernel
theorem own_pn0 : plainName "com/example/quintet/quintet/sim/NotificationCode" = true := by first | (simp [plainName, overriddenIn]; done) | decide +kernel
theorem ef_own_m1 (m : MethodId) (p1 : Int32) : entryFrame m #[(.int p1)] 1 = mkF m 0 #[.val (.int p1)] [] := by first | (simp [entryFrame, mkF, argsToLocals, Value.category]; done) | rfl
set_option maxRecDepth 65536 in
set_option maxHeartbeats 40000000 in
theorem own_m1 (l : Launch) (Z : State) (a0 : Array Value) (hw : ∀ d ∈ tables_1, d.before a0 Z = true) (ws : List Jvm.Cond) (p1 : Int32)  (h0 : Heap) (n0 : Nat) (Z0 : n0 ≤ h0.size)  :
    Met l Z (⟨"com/example/quintet/quintet/sim/NotificationCode", "success", "(I)Z"⟩ : MethodName) prog_61_method_2_code 1 (some .boolean) ws ({ frames := 0, cells := 0, slots := 0, locals := 0 } : Room) #[(.int p1)] h0 (fun v h L => v = some (.int (own_su p1)) ∧ Fr n0 L ∧ h = h0) := by
  refine Met.of (plainFor_of_name own_pn0) ?_
  intro p e s m below meth c T0 hx hby hml hk hret hnm hown hZ X0 e0
  have N0 := Fr.nil n0
  refine Go.cast (ef_own_m1 m p1) ?_
  show Go p e below _ T0 (mkF m 0 #[.val (.int p1)] [])
  refine Go.via (fun _ k => XS.iloadN X0.here hx rfl (hb hby own_d1_0) rfl  k) ?_
  show Go p e below _ T0 (mkF m 1 #[.val (.int p1)] [(.int p1)])
  refine Go.via (fun _ k => Stand.ldcInt X0 hx hown (mvT hZ (hw _ (List.mem_of_getElem? (i := 6) rfl))) (g := (mkF m 1 #[.val (.int p1)] [(.int p1)])) rfl (hb hby own_d1_1) _ k) ?_
  show Go p e below _ T0 (mkF m 3 #[.val (.int p1)] [(.int (32768 : Int32)), (.int p1)])
  refine Go.via (fun _ k => XS.iand X0.here hx rfl (hb hby own_d1_3) rfl k) ?_
  show Go p e below _ T0 (mkF m 4 #[.val (.int p1)] [(.int (p1 &&& (32768 : Int32)))])
  by_cases hc4 : (p1 &&& (32768 : Int32)) = (0 : Int32)
  · skip
    refine Go.via (fun _ k => XS.ifYes X0.here hx rfl (pc0 := 4) (pc' := 11) rfl (hb hby own_d1_4) rfl ((if0 _ _).trans (teq hc4).1) (by decide) (by decide) k) ?_
    show Go p e below _ T0 (mkF m 11 #[.val (.int p1)] [])
    refine Go.via (fun _ k => XS.iconst X0.here hx rfl (hb hby own_d1_11) k) ?_
    show Go p e below _ T0 (mkF m 12 #[.val (.int p1)] [(.int (0 : Int32))])
    refine Go.retN X0 hx hk (hret : meth.sig.returnType = some .boolean) (t := .boolean) (by simp) (hb hby own_d1_12) (by decide) (by decide) ?_
    exact ⟨by rw [own_su_t hc4]; rfl, N0, e0⟩
  · skip
    refine Go.via (fun _ k => XS.ifNo X0.here hx rfl (hb hby own_d1_4) rfl ((if0 _ _).trans (feq hc4).1) k) ?_
    show Go p e below _ T0 (mkF m 7 #[.val (.int p1)] [])
    refine Go.via (fun _ k => XS.iconst X0.here hx rfl (hb hby own_d1_7) k) ?_
    show Go p e below _ T0 (mkF m 8 #[.val (.int p1)] [(.int (1 : Int32))])
    refine Go.via (fun _ k => XS.goto X0.here hx rfl (pc0 := 8) (pc' := 12) rfl (hb hby own_d1_8) (by decide) (by decide) k) ?_
    show Go p e below _ T0 (mkF m 12 #[.val (.int p1)] [(.int (1 : Int32))])
    refine Go.retN X0 hx hk (hret : meth.sig.returnType = some .boolean) (t := .boolean) (by simp) (hb hby own_d1_12) (by decide) (by decide) ?_
    exact ⟨by rw [own_su_f hc4]; rfl, N0, e0⟩
theorem own_pn1 : plainName "com/example/quintet/quintet/sim/NotificationCodeSuccessPinLaw" = true := by first | (simp [plainName, overriddenIn]; done) | decide +kernel
theorem ef_own_m0 (m : MethodId) (p1 : Int32) (p2 : Int32) : entryFrame m #[(.int p1), (.int p2)] maxLocals = mkF m 0 #[.val (.int p1), .val (.int p2), .unset, .unset, .unset, .unset, .unset] [] := by first | (simp [entryFrame, mkF, argsToLocals, Value.category, maxLocals]; done) | rfl
set_option maxRecDepth 65536 in
set_option maxHeartbeats 40000000 in
theorem own_m0 (l : Launch) (Z : State) (a0 : Array Value) (hw : ∀ d ∈ tables_1, d.before a0 Z = true) (ws : List Jvm.Cond) (p1 : Int32) (p2 : Int32)  (h0 : Heap) (n0 : Nat) (Z0 : n0 ≤ h0.size)  :
    Met l Z x code maxLocals ret ws room_1 #[(.int p1), (.int p2)] h0 (fun v h L => v = some (.int 1) ∧ Fr n0 L) := by
  refine Met.of (plainFor_of_name own_pn1) ?_
  intro p e s m below meth c T0 hx hby hml hk hret hnm hown hZ X0 e0
  have N0 := Fr.nil n0
  refine Go.cast (ef_own_m0 m p1 p2) ?_
  show Go p e below _ T0 (mkF m 0 #[.val (.int p1), .val (.int p2), .unset, .unset, .unset, .unset, .unset] [])
  refine Go.via (fun _ k => XS.iloadN X0.here hx rfl (hb hby at_0) rfl  k) ?_
  show Go p e below _ T0 (mkF m 1 #[.val (.int p1), .val (.int p2), .unset, .unset, .unset, .unset, .unset] [(.int p1)])
  refine Go.via (fun _ k => Stand.ldcInt X0 hx hown (mvT hZ (hw _ (List.mem_of_getElem? (i := 0) rfl))) (g := (mkF m 1 #[.val (.int p1), .val (.int p2), .unset, .unset, .unset, .unset, .unset] [(.int p1)])) rfl (hb hby at_1) _ k) ?_
  show Go p e below _ T0 (mkF m 3 #[.val (.int p1), .val (.int p2), .unset, .unset, .unset, .unset, .unset] [(.int (65535 : Int32)), (.int p1)])
  refine Go.via (fun _ k => XS.iand X0.here hx rfl (hb hby at_3) rfl k) ?_
  show Go p e below _ T0 (mkF m 4 #[.val (.int p1), .val (.int p2), .unset, .unset, .unset, .unset, .unset] [(.int (p1 &&& (65535 : Int32)))])
  refine Go.via (fun _ k => XS.istoreN X0.here hx rfl (hb hby at_4) rfl (l' := #[.val (.int p1), .val (.int p2), .val (.int (p1 &&& (65535 : Int32))), .unset, .unset, .unset, .unset]) rfl k) ?_
  show Go p e below _ T0 (mkF m 5 #[.val (.int p1), .val (.int p2), .val (.int (p1 &&& (65535 : Int32))), .unset, .unset, .unset, .unset] [])
  refine Go.via (fun _ k => XS.iloadN X0.here hx rfl (hb hby at_5) rfl  k) ?_
  show Go p e below _ T0 (mkF m 6 #[.val (.int p1), .val (.int p2), .val (.int (p1 &&& (65535 : Int32))), .unset, .unset, .unset, .unset] [(.int (p1 &&& (65535 : Int32)))])
  refine Go.via (fun _ k => Stand.ldcInt X0 hx hown (mvT hZ (hw _ (List.mem_of_getElem? (i := 1) rfl))) (g := (mkF m 6 #[.val (.int p1), .val (.int p2), .val (.int (p1 &&& (65535 : Int32))), .unset, .unset, .unset, .unset] [(.int (p1 &&& (65535 : Int32)))])) rfl (hb hby at_6) _ k) ?_
  show Go p e below _ T0 (mkF m 8 #[.val (.int p1), .val (.int p2), .val (.int (p1 &&& (65535 : Int32))), .unset, .unset, .unset, .unset] [(.int (32768 : Int32)), (.int (p1 &&& (65535 : Int32)))])
  by_cases hc8 : (p1 &&& (65535 : Int32)) < (32768 : Int32)
  · skip
    refine Go.via (fun _ k => XS.icmpYes X0.here hx rfl (pc0 := 8) (pc' := 15) rfl (hb hby at_8) rfl (tlt hc8).1 (by decide) (by decide) k) ?_
    show Go p e below _ T0 (mkF m 15 #[.val (.int p1), .val (.int p2), .val (.int (p1 &&& (65535 : Int32))), .unset, .unset, .unset, .unset] [])
    refine Go.via (fun _ k => XS.iconst X0.here hx rfl (hb hby at_15) k) ?_
    show Go p e below _ T0 (mkF m 16 #[.val (.int p1), .val (.int p2), .val (.int (p1 &&& (65535 : Int32))), .unset, .unset, .unset, .unset] [(.int (0 : Int32))])
    refine Go.via (fun _ k => XS.istoreN X0.here hx rfl (hb hby at_16) rfl (l' := #[.val (.int p1), .val (.int p2), .val (.int (p1 &&& (65535 : Int32))), .val (.int (0 : Int32)), .unset, .unset, .unset]) rfl k) ?_
    show Go p e below _ T0 (mkF m 17 #[.val (.int p1), .val (.int p2), .val (.int (p1 &&& (65535 : Int32))), .val (.int (0 : Int32)), .unset, .unset, .unset] [])
    refine Go.via (fun _ k => XS.iloadN X0.here hx rfl (hb hby at_17) rfl  k) ?_
    show Go p e below _ T0 (mkF m 18 #[.val (.int p1), .val (.int p2), .val (.int (p1 &&& (65535 : Int32))), .val (.int (0 : Int32)), .unset, .unset, .unset] [(.int p1)])
    obtain ⟨v1, T1, L1, X1, ⟨rfl, Nq1, eq1⟩, st1⟩ := Go.callS X0 hx hZ hown e0 (hw _ (List.mem_of_getElem? (i := 2) rfl)) (hw _ (List.mem_of_getElem? (i := 3) rfl)) (hw _ (List.mem_of_getElem? (i := 4) rfl)) (hw _ (List.mem_of_getElem? (i := 5) rfl)) (by decide) (own_m1 l Z a0 hw [] p1  h0 n0 Z0 ) (pc := 18) (Ls := #[.val (.int p1), .val (.int p2), .val (.int (p1 &&& (65535 : Int32))), .val (.int (0 : Int32)), .unset, .unset, .unset]) (argsL := [(.int p1)]) (rest := []) own_pd0 rfl rfl (by rw [hml]; rfl) (hb hby at_18) (W := 0) (Nat.le_of_eq rfl) (by decide) (by decide) (by decide) (by decide)
    refine st1 ?_
    have N1 := Fr.app N0 Nq1
    show Go p e below _ T1 (mkF m 21 #[.val (.int p1), .val (.int p2), .val (.int (p1 &&& (65535 : Int32))), .val (.int (0 : Int32)), .unset, .unset, .unset] [(.int (own_su p1))])
    refine Go.via (fun _ k => XS.istore X1.here hx rfl (hb hby at_21) rfl (l' := #[.val (.int p1), .val (.int p2), .val (.int (p1 &&& (65535 : Int32))), .val (.int (0 : Int32)), .val (.int (own_su p1)), .unset, .unset]) rfl k) ?_
    show Go p e below _ T1 (mkF m 23 #[.val (.int p1), .val (.int p2), .val (.int (p1 &&& (65535 : Int32))), .val (.int (0 : Int32)), .val (.int (own_su p1)), .unset, .unset] [])
    refine Go.via (fun _ k => XS.iload X1.here hx rfl (hb hby at_23) rfl  k) ?_
    show Go p e below _ T1 (mkF m 25 #[.val (.int p1), .val (.int p2), .val (.int (p1 &&& (65535 : Int32))), .val (.int (0 : Int32)), .val (.int (own_su p1)), .unset, .unset] [(.int (own_su p1))])
    refine Go.via (fun _ k => XS.iloadN X1.here hx rfl (hb hby at_25) rfl  k) ?_
    show Go p e below _ T1 (mkF m 26 #[.val (.int p1), .val (.int p2), .val (.int (p1 &&& (65535 : Int32))), .val (.int (0 : Int32)), .val (.int (own_su p1)), .unset, .unset] [(.int (0 : Int32)), (.int (own_su p1))])
    have hc26 : (own_su p1) = (0 : Int32) := own_exp_t hc8
    refine Go.via (fun _ k => XS.icmpNo X1.here hx rfl (hb hby at_26) rfl (teq hc26).2 k) ?_
    show Go p e below _ T1 (mkF m 29 #[.val (.int p1), .val (.int p2), .val (.int (p1 &&& (65535 : Int32))), .val (.int (0 : Int32)), .val (.int (own_su p1)), .unset, .unset] [])
    refine Go.via (fun _ k => XS.iconst X1.here hx rfl (hb hby at_29) k) ?_
    show Go p e below _ T1 (mkF m 30 #[.val (.int p1), .val (.int p2), .val (.int (p1 &&& (65535 : Int32))), .val (.int (0 : Int32)), .val (.int (own_su p1)), .unset, .unset] [(.int (1 : Int32))])
    refine Go.via (fun _ k => XS.goto X1.here hx rfl (pc0 := 30) (pc' := 34) rfl (hb hby at_30) (by decide) (by decide) k) ?_
    show Go p e below _ T1 (mkF m 34 #[.val (.int p1), .val (.int p2), .val (.int (p1 &&& (65535 : Int32))), .val (.int (0 : Int32)), .val (.int (own_su p1)), .unset, .unset] [(.int (1 : Int32))])
    refine Go.via (fun _ k => XS.istore X1.here hx rfl (hb hby at_34) rfl (l' := #[.val (.int p1), .val (.int p2), .val (.int (p1 &&& (65535 : Int32))), .val (.int (0 : Int32)), .val (.int (own_su p1)), .val (.int (1 : Int32)), .unset]) rfl k) ?_
    show Go p e below _ T1 (mkF m 36 #[.val (.int p1), .val (.int p2), .val (.int (p1 &&& (65535 : Int32))), .val (.int (0 : Int32)), .val (.int (own_su p1)), .val (.int (1 : Int32)), .unset] [])
    refine Go.via (fun _ k => XS.iload X1.here hx rfl (hb hby at_36) rfl  k) ?_
    show Go p e below _ T1 (mkF m 38 #[.val (.int p1), .val (.int p2), .val (.int (p1 &&& (65535 : Int32))), .val (.int (0 : Int32)), .val (.int (own_su p1)), .val (.int (1 : Int32)), .unset] [(.int (1 : Int32))])
    have hc38 : ¬ ((1 : Int32) = (0 : Int32)) := (by decide)
    refine Go.via (fun _ k => XS.ifNo X1.here hx rfl (hb hby at_38) rfl ((if0 _ _).trans (feq hc38).1) k) ?_
    show Go p e below _ T1 (mkF m 41 #[.val (.int p1), .val (.int p2), .val (.int (p1 &&& (65535 : Int32))), .val (.int (0 : Int32)), .val (.int (own_su p1)), .val (.int (1 : Int32)), .unset] [])
    refine Go.via (fun _ k => XS.iloadN X1.here hx rfl (hb hby at_41) rfl  k) ?_
    show Go p e below _ T1 (mkF m 42 #[.val (.int p1), .val (.int p2), .val (.int (p1 &&& (65535 : Int32))), .val (.int (0 : Int32)), .val (.int (own_su p1)), .val (.int (1 : Int32)), .unset] [(.int p1)])
    refine Go.via (fun _ k => Stand.ldcInt X1 hx hown (mvT hZ (hw _ (List.mem_of_getElem? (i := 1) rfl))) (g := (mkF m 42 #[.val (.int p1), .val (.int p2), .val (.int (p1 &&& (65535 : Int32))), .val (.int (0 : Int32)), .val (.int (own_su p1)), .val (.int (1 : Int32)), .unset] [(.int p1)])) rfl (hb hby at_42) _ k) ?_
    show Go p e below _ T1 (mkF m 44 #[.val (.int p1), .val (.int p2), .val (.int (p1 &&& (65535 : Int32))), .val (.int (0 : Int32)), .val (.int (own_su p1)), .val (.int (1 : Int32)), .unset] [(.int (32768 : Int32)), (.int p1)])
    refine Go.via (fun _ k => XS.ixor X1.here hx rfl (hb hby at_44) rfl k) ?_
    show Go p e below _ T1 (mkF m 45 #[.val (.int p1), .val (.int p2), .val (.int (p1 &&& (65535 : Int32))), .val (.int (0 : Int32)), .val (.int (own_su p1)), .val (.int (1 : Int32)), .unset] [(.int (p1 ^^^ (32768 : Int32)))])
    obtain ⟨v2, T2, L2, X2, ⟨rfl, Nq2, eq2⟩, st2⟩ := Go.callS X1 hx hZ hown eq1 (hw _ (List.mem_of_getElem? (i := 2) rfl)) (hw _ (List.mem_of_getElem? (i := 3) rfl)) (hw _ (List.mem_of_getElem? (i := 4) rfl)) (hw _ (List.mem_of_getElem? (i := 5) rfl)) (by decide) (own_m1 l Z a0 hw [] (p1 ^^^ (32768 : Int32))  h0 n0 Z0 ) (pc := 45) (Ls := #[.val (.int p1), .val (.int p2), .val (.int (p1 &&& (65535 : Int32))), .val (.int (0 : Int32)), .val (.int (own_su p1)), .val (.int (1 : Int32)), .unset]) (argsL := [(.int (p1 ^^^ (32768 : Int32)))]) (rest := []) own_pd0 rfl rfl (by rw [hml]; rfl) (hb hby at_45) (W := 0) (Nat.le_of_eq rfl) (by decide) (by decide) (by decide) (by decide)
    refine st2 ?_
    have N2 := Fr.app N1 Nq2
    show Go p e below _ T2 (mkF m 48 #[.val (.int p1), .val (.int p2), .val (.int (p1 &&& (65535 : Int32))), .val (.int (0 : Int32)), .val (.int (own_su p1)), .val (.int (1 : Int32)), .unset] [(.int (own_su (p1 ^^^ (32768 : Int32))))])
    refine Go.via (fun _ k => XS.iload X2.here hx rfl (hb hby at_48) rfl  k) ?_
    show Go p e below _ T2 (mkF m 50 #[.val (.int p1), .val (.int p2), .val (.int (p1 &&& (65535 : Int32))), .val (.int (0 : Int32)), .val (.int (own_su p1)), .val (.int (1 : Int32)), .unset] [(.int (own_su p1)), (.int (own_su (p1 ^^^ (32768 : Int32))))])
    have hc50 : ¬ ((own_su (p1 ^^^ (32768 : Int32))) = (own_su p1)) := own_flip _
    refine Go.via (fun _ k => XS.icmpNo X2.here hx rfl (hb hby at_50) rfl (feq hc50).1 k) ?_
    show Go p e below _ T2 (mkF m 53 #[.val (.int p1), .val (.int p2), .val (.int (p1 &&& (65535 : Int32))), .val (.int (0 : Int32)), .val (.int (own_su p1)), .val (.int (1 : Int32)), .unset] [])
    refine Go.via (fun _ k => XS.iconst X2.here hx rfl (hb hby at_53) k) ?_
    show Go p e below _ T2 (mkF m 54 #[.val (.int p1), .val (.int p2), .val (.int (p1 &&& (65535 : Int32))), .val (.int (0 : Int32)), .val (.int (own_su p1)), .val (.int (1 : Int32)), .unset] [(.int (1 : Int32))])
    refine Go.via (fun _ k => XS.goto X2.here hx rfl (pc0 := 54) (pc' := 58) rfl (hb hby at_54) (by decide) (by decide) k) ?_
    show Go p e below _ T2 (mkF m 58 #[.val (.int p1), .val (.int p2), .val (.int (p1 &&& (65535 : Int32))), .val (.int (0 : Int32)), .val (.int (own_su p1)), .val (.int (1 : Int32)), .unset] [(.int (1 : Int32))])
    refine Go.via (fun _ k => XS.istore X2.here hx rfl (hb hby at_58) rfl (l' := #[.val (.int p1), .val (.int p2), .val (.int (p1 &&& (65535 : Int32))), .val (.int (0 : Int32)), .val (.int (own_su p1)), .val (.int (1 : Int32)), .unset]) rfl k) ?_
    show Go p e below _ T2 (mkF m 60 #[.val (.int p1), .val (.int p2), .val (.int (p1 &&& (65535 : Int32))), .val (.int (0 : Int32)), .val (.int (own_su p1)), .val (.int (1 : Int32)), .unset] [])
    refine Go.via (fun _ k => XS.iloadN X2.here hx rfl (hb hby at_60) rfl  k) ?_
    show Go p e below _ T2 (mkF m 61 #[.val (.int p1), .val (.int p2), .val (.int (p1 &&& (65535 : Int32))), .val (.int (0 : Int32)), .val (.int (own_su p1)), .val (.int (1 : Int32)), .unset] [(.int p2)])
    refine Go.via (fun _ k => Stand.ldcInt X2 hx hown (mvT hZ (hw _ (List.mem_of_getElem? (i := 7) rfl))) (g := (mkF m 61 #[.val (.int p1), .val (.int p2), .val (.int (p1 &&& (65535 : Int32))), .val (.int (0 : Int32)), .val (.int (own_su p1)), .val (.int (1 : Int32)), .unset] [(.int p2)])) rfl (hb hby at_61) _ k) ?_
    show Go p e below _ T2 (mkF m 63 #[.val (.int p1), .val (.int p2), .val (.int (p1 &&& (65535 : Int32))), .val (.int (0 : Int32)), .val (.int (own_su p1)), .val (.int (1 : Int32)), .unset] [(.int (-32769 : Int32)), (.int p2)])
    refine Go.via (fun _ k => XS.iand X2.here hx rfl (hb hby at_63) rfl k) ?_
    show Go p e below _ T2 (mkF m 64 #[.val (.int p1), .val (.int p2), .val (.int (p1 &&& (65535 : Int32))), .val (.int (0 : Int32)), .val (.int (own_su p1)), .val (.int (1 : Int32)), .unset] [(.int (p2 &&& (-32769 : Int32)))])
    refine Go.via (fun _ k => XS.istore X2.here hx rfl (hb hby at_64) rfl (l' := #[.val (.int p1), .val (.int p2), .val (.int (p1 &&& (65535 : Int32))), .val (.int (0 : Int32)), .val (.int (own_su p1)), .val (.int (1 : Int32)), .val (.int (p2 &&& (-32769 : Int32)))]) rfl k) ?_
    show Go p e below _ T2 (mkF m 66 #[.val (.int p1), .val (.int p2), .val (.int (p1 &&& (65535 : Int32))), .val (.int (0 : Int32)), .val (.int (own_su p1)), .val (.int (1 : Int32)), .val (.int (p2 &&& (-32769 : Int32)))] [])
    refine Go.via (fun _ k => XS.iload X2.here hx rfl (hb hby at_66) rfl  k) ?_
    show Go p e below _ T2 (mkF m 68 #[.val (.int p1), .val (.int p2), .val (.int (p1 &&& (65535 : Int32))), .val (.int (0 : Int32)), .val (.int (own_su p1)), .val (.int (1 : Int32)), .val (.int (p2 &&& (-32769 : Int32)))] [(.int (1 : Int32))])
    have hc68 : ¬ ((1 : Int32) = (0 : Int32)) := (by decide)
    refine Go.via (fun _ k => XS.ifNo X2.here hx rfl (hb hby at_68) rfl ((if0 _ _).trans (feq hc68).1) k) ?_
    show Go p e below _ T2 (mkF m 71 #[.val (.int p1), .val (.int p2), .val (.int (p1 &&& (65535 : Int32))), .val (.int (0 : Int32)), .val (.int (own_su p1)), .val (.int (1 : Int32)), .val (.int (p2 &&& (-32769 : Int32)))] [])
    refine Go.via (fun _ k => XS.iloadN X2.here hx rfl (hb hby at_71) rfl  k) ?_
    show Go p e below _ T2 (mkF m 72 #[.val (.int p1), .val (.int p2), .val (.int (p1 &&& (65535 : Int32))), .val (.int (0 : Int32)), .val (.int (own_su p1)), .val (.int (1 : Int32)), .val (.int (p2 &&& (-32769 : Int32)))] [(.int p1)])
    refine Go.via (fun _ k => XS.iload X2.here hx rfl (hb hby at_72) rfl  k) ?_
    show Go p e below _ T2 (mkF m 74 #[.val (.int p1), .val (.int p2), .val (.int (p1 &&& (65535 : Int32))), .val (.int (0 : Int32)), .val (.int (own_su p1)), .val (.int (1 : Int32)), .val (.int (p2 &&& (-32769 : Int32)))] [(.int (p2 &&& (-32769 : Int32))), (.int p1)])
    refine Go.via (fun _ k => XS.ixor X2.here hx rfl (hb hby at_74) rfl k) ?_
    show Go p e below _ T2 (mkF m 75 #[.val (.int p1), .val (.int p2), .val (.int (p1 &&& (65535 : Int32))), .val (.int (0 : Int32)), .val (.int (own_su p1)), .val (.int (1 : Int32)), .val (.int (p2 &&& (-32769 : Int32)))] [(.int (p1 ^^^ (p2 &&& (-32769 : Int32))))])
    obtain ⟨v3, T3, L3, X3, ⟨rfl, Nq3, eq3⟩, st3⟩ := Go.callS X2 hx hZ hown eq2 (hw _ (List.mem_of_getElem? (i := 2) rfl)) (hw _ (List.mem_of_getElem? (i := 3) rfl)) (hw _ (List.mem_of_getElem? (i := 4) rfl)) (hw _ (List.mem_of_getElem? (i := 5) rfl)) (by decide) (own_m1 l Z a0 hw [] (p1 ^^^ (p2 &&& (-32769 : Int32)))  h0 n0 Z0 ) (pc := 75) (Ls := #[.val (.int p1), .val (.int p2), .val (.int (p1 &&& (65535 : Int32))), .val (.int (0 : Int32)), .val (.int (own_su p1)), .val (.int (1 : Int32)), .val (.int (p2 &&& (-32769 : Int32)))]) (argsL := [(.int (p1 ^^^ (p2 &&& (-32769 : Int32))))]) (rest := []) own_pd0 rfl rfl (by rw [hml]; rfl) (hb hby at_75) (W := 0) (Nat.le_of_eq rfl) (by decide) (by decide) (by decide) (by decide)
    refine st3 ?_
    have N3 := Fr.app N2 Nq3
    show Go p e below _ T3 (mkF m 78 #[.val (.int p1), .val (.int p2), .val (.int (p1 &&& (65535 : Int32))), .val (.int (0 : Int32)), .val (.int (own_su p1)), .val (.int (1 : Int32)), .val (.int (p2 &&& (-32769 : Int32)))] [(.int (own_su (p1 ^^^ (p2 &&& (-32769 : Int32)))))])
    refine Go.via (fun _ k => XS.iload X3.here hx rfl (hb hby at_78) rfl  k) ?_
    show Go p e below _ T3 (mkF m 80 #[.val (.int p1), .val (.int p2), .val (.int (p1 &&& (65535 : Int32))), .val (.int (0 : Int32)), .val (.int (own_su p1)), .val (.int (1 : Int32)), .val (.int (p2 &&& (-32769 : Int32)))] [(.int (own_su p1)), (.int (own_su (p1 ^^^ (p2 &&& (-32769 : Int32)))))])
    have hc80 : (own_su (p1 ^^^ (p2 &&& (-32769 : Int32)))) = (own_su p1) := own_same _ _
    refine Go.via (fun _ k => XS.icmpNo X3.here hx rfl (hb hby at_80) rfl (teq hc80).2 k) ?_
    show Go p e below _ T3 (mkF m 83 #[.val (.int p1), .val (.int p2), .val (.int (p1 &&& (65535 : Int32))), .val (.int (0 : Int32)), .val (.int (own_su p1)), .val (.int (1 : Int32)), .val (.int (p2 &&& (-32769 : Int32)))] [])
    refine Go.via (fun _ k => XS.iconst X3.here hx rfl (hb hby at_83) k) ?_
    show Go p e below _ T3 (mkF m 84 #[.val (.int p1), .val (.int p2), .val (.int (p1 &&& (65535 : Int32))), .val (.int (0 : Int32)), .val (.int (own_su p1)), .val (.int (1 : Int32)), .val (.int (p2 &&& (-32769 : Int32)))] [(.int (1 : Int32))])
    refine Go.via (fun _ k => XS.goto X3.here hx rfl (pc0 := 84) (pc' := 88) rfl (hb hby at_84) (by decide) (by decide) k) ?_
    show Go p e below _ T3 (mkF m 88 #[.val (.int p1), .val (.int p2), .val (.int (p1 &&& (65535 : Int32))), .val (.int (0 : Int32)), .val (.int (own_su p1)), .val (.int (1 : Int32)), .val (.int (p2 &&& (-32769 : Int32)))] [(.int (1 : Int32))])
    refine Go.via (fun _ k => XS.istore X3.here hx rfl (hb hby at_88) rfl (l' := #[.val (.int p1), .val (.int p2), .val (.int (p1 &&& (65535 : Int32))), .val (.int (0 : Int32)), .val (.int (own_su p1)), .val (.int (1 : Int32)), .val (.int (p2 &&& (-32769 : Int32)))]) rfl k) ?_
    show Go p e below _ T3 (mkF m 90 #[.val (.int p1), .val (.int p2), .val (.int (p1 &&& (65535 : Int32))), .val (.int (0 : Int32)), .val (.int (own_su p1)), .val (.int (1 : Int32)), .val (.int (p2 &&& (-32769 : Int32)))] [])
    refine Go.via (fun _ k => XS.iload X3.here hx rfl (hb hby at_90) rfl  k) ?_
    show Go p e below _ T3 (mkF m 92 #[.val (.int p1), .val (.int p2), .val (.int (p1 &&& (65535 : Int32))), .val (.int (0 : Int32)), .val (.int (own_su p1)), .val (.int (1 : Int32)), .val (.int (p2 &&& (-32769 : Int32)))] [(.int (1 : Int32))])
    have hc92 : ¬ ((1 : Int32) = (0 : Int32)) := (by decide)
    refine Go.via (fun _ k => XS.ifNo X3.here hx rfl (hb hby at_92) rfl ((if0 _ _).trans (feq hc92).1) k) ?_
    show Go p e below _ T3 (mkF m 95 #[.val (.int p1), .val (.int p2), .val (.int (p1 &&& (65535 : Int32))), .val (.int (0 : Int32)), .val (.int (own_su p1)), .val (.int (1 : Int32)), .val (.int (p2 &&& (-32769 : Int32)))] [])
    refine Go.via (fun _ k => Stand.ldcInt X3 hx hown (mvT hZ (hw _ (List.mem_of_getElem? (i := 1) rfl))) (g := (mkF m 95 #[.val (.int p1), .val (.int p2), .val (.int (p1 &&& (65535 : Int32))), .val (.int (0 : Int32)), .val (.int (own_su p1)), .val (.int (1 : Int32)), .val (.int (p2 &&& (-32769 : Int32)))] [])) rfl (hb hby at_95) _ k) ?_
    show Go p e below _ T3 (mkF m 97 #[.val (.int p1), .val (.int p2), .val (.int (p1 &&& (65535 : Int32))), .val (.int (0 : Int32)), .val (.int (own_su p1)), .val (.int (1 : Int32)), .val (.int (p2 &&& (-32769 : Int32)))] [(.int (32768 : Int32))])
    obtain ⟨v4, T4, L4, X4, ⟨rfl, Nq4, eq4⟩, st4⟩ := Go.callS X3 hx hZ hown eq3 (hw _ (List.mem_of_getElem? (i := 2) rfl)) (hw _ (List.mem_of_getElem? (i := 3) rfl)) (hw _ (List.mem_of_getElem? (i := 4) rfl)) (hw _ (List.mem_of_getElem? (i := 5) rfl)) (by decide) (own_m1 l Z a0 hw [] (32768 : Int32)  h0 n0 Z0 ) (pc := 97) (Ls := #[.val (.int p1), .val (.int p2), .val (.int (p1 &&& (65535 : Int32))), .val (.int (0 : Int32)), .val (.int (own_su p1)), .val (.int (1 : Int32)), .val (.int (p2 &&& (-32769 : Int32)))]) (argsL := [(.int (32768 : Int32))]) (rest := []) own_pd0 rfl rfl (by rw [hml]; rfl) (hb hby at_97) (W := 0) (Nat.le_of_eq rfl) (by decide) (by decide) (by decide) (by decide)
    refine st4 ?_
    have N4 := Fr.app N3 Nq4
    show Go p e below _ T4 (mkF m 100 #[.val (.int p1), .val (.int p2), .val (.int (p1 &&& (65535 : Int32))), .val (.int (0 : Int32)), .val (.int (own_su p1)), .val (.int (1 : Int32)), .val (.int (p2 &&& (-32769 : Int32)))] [(.int (own_su (32768 : Int32)))])
    have hc100 : ¬ ((own_su (32768 : Int32)) = (0 : Int32)) := by decide
    refine Go.via (fun _ k => XS.ifNo X4.here hx rfl (hb hby at_100) rfl ((if0 _ _).trans (feq hc100).1) k) ?_
    show Go p e below _ T4 (mkF m 103 #[.val (.int p1), .val (.int p2), .val (.int (p1 &&& (65535 : Int32))), .val (.int (0 : Int32)), .val (.int (own_su p1)), .val (.int (1 : Int32)), .val (.int (p2 &&& (-32769 : Int32)))] [])
    refine Go.via (fun _ k => XS.iconst X4.here hx rfl (hb hby at_103) k) ?_
    show Go p e below _ T4 (mkF m 104 #[.val (.int p1), .val (.int p2), .val (.int (p1 &&& (65535 : Int32))), .val (.int (0 : Int32)), .val (.int (own_su p1)), .val (.int (1 : Int32)), .val (.int (p2 &&& (-32769 : Int32)))] [(.int (1 : Int32))])
    refine Go.via (fun _ k => XS.goto X4.here hx rfl (pc0 := 104) (pc' := 108) rfl (hb hby at_104) (by decide) (by decide) k) ?_
    show Go p e below _ T4 (mkF m 108 #[.val (.int p1), .val (.int p2), .val (.int (p1 &&& (65535 : Int32))), .val (.int (0 : Int32)), .val (.int (own_su p1)), .val (.int (1 : Int32)), .val (.int (p2 &&& (-32769 : Int32)))] [(.int (1 : Int32))])
    refine Go.via (fun _ k => XS.istore X4.here hx rfl (hb hby at_108) rfl (l' := #[.val (.int p1), .val (.int p2), .val (.int (p1 &&& (65535 : Int32))), .val (.int (0 : Int32)), .val (.int (own_su p1)), .val (.int (1 : Int32)), .val (.int (p2 &&& (-32769 : Int32)))]) rfl k) ?_
    show Go p e below _ T4 (mkF m 110 #[.val (.int p1), .val (.int p2), .val (.int (p1 &&& (65535 : Int32))), .val (.int (0 : Int32)), .val (.int (own_su p1)), .val (.int (1 : Int32)), .val (.int (p2 &&& (-32769 : Int32)))] [])
    refine Go.via (fun _ k => XS.iload X4.here hx rfl (hb hby at_110) rfl  k) ?_
    show Go p e below _ T4 (mkF m 112 #[.val (.int p1), .val (.int p2), .val (.int (p1 &&& (65535 : Int32))), .val (.int (0 : Int32)), .val (.int (own_su p1)), .val (.int (1 : Int32)), .val (.int (p2 &&& (-32769 : Int32)))] [(.int (1 : Int32))])
    have hc112 : ¬ ((1 : Int32) = (0 : Int32)) := (by decide)
    refine Go.via (fun _ k => XS.ifNo X4.here hx rfl (hb hby at_112) rfl ((if0 _ _).trans (feq hc112).1) k) ?_
    show Go p e below _ T4 (mkF m 115 #[.val (.int p1), .val (.int p2), .val (.int (p1 &&& (65535 : Int32))), .val (.int (0 : Int32)), .val (.int (own_su p1)), .val (.int (1 : Int32)), .val (.int (p2 &&& (-32769 : Int32)))] [])
    refine Go.via (fun _ k => XS.sipush X4.here hx rfl (hb hby at_115) k) ?_
    show Go p e below _ T4 (mkF m 118 #[.val (.int p1), .val (.int p2), .val (.int (p1 &&& (65535 : Int32))), .val (.int (0 : Int32)), .val (.int (own_su p1)), .val (.int (1 : Int32)), .val (.int (p2 &&& (-32769 : Int32)))] [(.int (16384 : Int32))])
    obtain ⟨v5, T5, L5, X5, ⟨rfl, Nq5, eq5⟩, st5⟩ := Go.callS X4 hx hZ hown eq4 (hw _ (List.mem_of_getElem? (i := 2) rfl)) (hw _ (List.mem_of_getElem? (i := 3) rfl)) (hw _ (List.mem_of_getElem? (i := 4) rfl)) (hw _ (List.mem_of_getElem? (i := 5) rfl)) (by decide) (own_m1 l Z a0 hw [] (16384 : Int32)  h0 n0 Z0 ) (pc := 118) (Ls := #[.val (.int p1), .val (.int p2), .val (.int (p1 &&& (65535 : Int32))), .val (.int (0 : Int32)), .val (.int (own_su p1)), .val (.int (1 : Int32)), .val (.int (p2 &&& (-32769 : Int32)))]) (argsL := [(.int (16384 : Int32))]) (rest := []) own_pd0 rfl rfl (by rw [hml]; rfl) (hb hby at_118) (W := 0) (Nat.le_of_eq rfl) (by decide) (by decide) (by decide) (by decide)
    refine st5 ?_
    have N5 := Fr.app N4 Nq5
    show Go p e below _ T5 (mkF m 121 #[.val (.int p1), .val (.int p2), .val (.int (p1 &&& (65535 : Int32))), .val (.int (0 : Int32)), .val (.int (own_su p1)), .val (.int (1 : Int32)), .val (.int (p2 &&& (-32769 : Int32)))] [(.int (own_su (16384 : Int32)))])
    have hc121 : (own_su (16384 : Int32)) = (0 : Int32) := by decide
    refine Go.via (fun _ k => XS.ifNo X5.here hx rfl (hb hby at_121) rfl ((if0 _ _).trans (teq hc121).2) k) ?_
    show Go p e below _ T5 (mkF m 124 #[.val (.int p1), .val (.int p2), .val (.int (p1 &&& (65535 : Int32))), .val (.int (0 : Int32)), .val (.int (own_su p1)), .val (.int (1 : Int32)), .val (.int (p2 &&& (-32769 : Int32)))] [])
    refine Go.via (fun _ k => XS.iconst X5.here hx rfl (hb hby at_124) k) ?_
    show Go p e below _ T5 (mkF m 125 #[.val (.int p1), .val (.int p2), .val (.int (p1 &&& (65535 : Int32))), .val (.int (0 : Int32)), .val (.int (own_su p1)), .val (.int (1 : Int32)), .val (.int (p2 &&& (-32769 : Int32)))] [(.int (1 : Int32))])
    refine Go.via (fun _ k => XS.goto X5.here hx rfl (pc0 := 125) (pc' := 129) rfl (hb hby at_125) (by decide) (by decide) k) ?_
    show Go p e below _ T5 (mkF m 129 #[.val (.int p1), .val (.int p2), .val (.int (p1 &&& (65535 : Int32))), .val (.int (0 : Int32)), .val (.int (own_su p1)), .val (.int (1 : Int32)), .val (.int (p2 &&& (-32769 : Int32)))] [(.int (1 : Int32))])
    refine Go.via (fun _ k => XS.istore X5.here hx rfl (hb hby at_129) rfl (l' := #[.val (.int p1), .val (.int p2), .val (.int (p1 &&& (65535 : Int32))), .val (.int (0 : Int32)), .val (.int (own_su p1)), .val (.int (1 : Int32)), .val (.int (p2 &&& (-32769 : Int32)))]) rfl k) ?_
    show Go p e below _ T5 (mkF m 131 #[.val (.int p1), .val (.int p2), .val (.int (p1 &&& (65535 : Int32))), .val (.int (0 : Int32)), .val (.int (own_su p1)), .val (.int (1 : Int32)), .val (.int (p2 &&& (-32769 : Int32)))] [])
    refine Go.via (fun _ k => XS.iload X5.here hx rfl (hb hby at_131) rfl  k) ?_
    show Go p e below _ T5 (mkF m 133 #[.val (.int p1), .val (.int p2), .val (.int (p1 &&& (65535 : Int32))), .val (.int (0 : Int32)), .val (.int (own_su p1)), .val (.int (1 : Int32)), .val (.int (p2 &&& (-32769 : Int32)))] [(.int (1 : Int32))])
    refine Go.retN X5 hx hk (hret : meth.sig.returnType = some .boolean) (t := .boolean) (by simp) (hb hby at_133) (by decide) (by decide) ?_
    exact ⟨rfl, N5⟩
  · skip
    refine Go.via (fun _ k => XS.icmpNo X0.here hx rfl (hb hby at_8) rfl (flt hc8).1 k) ?_
    show Go p e below _ T0 (mkF m 11 #[.val (.int p1), .val (.int p2), .val (.int (p1 &&& (65535 : Int32))), .unset, .unset, .unset, .unset] [])
    refine Go.via (fun _ k => XS.iconst X0.here hx rfl (hb hby at_11) k) ?_
    show Go p e below _ T0 (mkF m 12 #[.val (.int p1), .val (.int p2), .val (.int (p1 &&& (65535 : Int32))), .unset, .unset, .unset, .unset] [(.int (1 : Int32))])
    refine Go.via (fun _ k => XS.goto X0.here hx rfl (pc0 := 12) (pc' := 16) rfl (hb hby at_12) (by decide) (by decide) k) ?_
    show Go p e below _ T0 (mkF m 16 #[.val (.int p1), .val (.int p2), .val (.int (p1 &&& (65535 : Int32))), .unset, .unset, .unset, .unset] [(.int (1 : Int32))])
    refine Go.via (fun _ k => XS.istoreN X0.here hx rfl (hb hby at_16) rfl (l' := #[.val (.int p1), .val (.int p2), .val (.int (p1 &&& (65535 : Int32))), .val (.int (1 : Int32)), .unset, .unset, .unset]) rfl k) ?_
    show Go p e below _ T0 (mkF m 17 #[.val (.int p1), .val (.int p2), .val (.int (p1 &&& (65535 : Int32))), .val (.int (1 : Int32)), .unset, .unset, .unset] [])
    refine Go.via (fun _ k => XS.iloadN X0.here hx rfl (hb hby at_17) rfl  k) ?_
    show Go p e below _ T0 (mkF m 18 #[.val (.int p1), .val (.int p2), .val (.int (p1 &&& (65535 : Int32))), .val (.int (1 : Int32)), .unset, .unset, .unset] [(.int p1)])
    obtain ⟨v6, T6, L6, X6, ⟨rfl, Nq6, eq6⟩, st6⟩ := Go.callS X0 hx hZ hown e0 (hw _ (List.mem_of_getElem? (i := 2) rfl)) (hw _ (List.mem_of_getElem? (i := 3) rfl)) (hw _ (List.mem_of_getElem? (i := 4) rfl)) (hw _ (List.mem_of_getElem? (i := 5) rfl)) (by decide) (own_m1 l Z a0 hw [] p1  h0 n0 Z0 ) (pc := 18) (Ls := #[.val (.int p1), .val (.int p2), .val (.int (p1 &&& (65535 : Int32))), .val (.int (1 : Int32)), .unset, .unset, .unset]) (argsL := [(.int p1)]) (rest := []) own_pd0 rfl rfl (by rw [hml]; rfl) (hb hby at_18) (W := 0) (Nat.le_of_eq rfl) (by decide) (by decide) (by decide) (by decide)
    refine st6 ?_
    have N6 := Fr.app N0 Nq6
    show Go p e below _ T6 (mkF m 21 #[.val (.int p1), .val (.int p2), .val (.int (p1 &&& (65535 : Int32))), .val (.int (1 : Int32)), .unset, .unset, .unset] [(.int (own_su p1))])
    refine Go.via (fun _ k => XS.istore X6.here hx rfl (hb hby at_21) rfl (l' := #[.val (.int p1), .val (.int p2), .val (.int (p1 &&& (65535 : Int32))), .val (.int (1 : Int32)), .val (.int (own_su p1)), .unset, .unset]) rfl k) ?_
    show Go p e below _ T6 (mkF m 23 #[.val (.int p1), .val (.int p2), .val (.int (p1 &&& (65535 : Int32))), .val (.int (1 : Int32)), .val (.int (own_su p1)), .unset, .unset] [])
    refine Go.via (fun _ k => XS.iload X6.here hx rfl (hb hby at_23) rfl  k) ?_
    show Go p e below _ T6 (mkF m 25 #[.val (.int p1), .val (.int p2), .val (.int (p1 &&& (65535 : Int32))), .val (.int (1 : Int32)), .val (.int (own_su p1)), .unset, .unset] [(.int (own_su p1))])
    refine Go.via (fun _ k => XS.iloadN X6.here hx rfl (hb hby at_25) rfl  k) ?_
    show Go p e below _ T6 (mkF m 26 #[.val (.int p1), .val (.int p2), .val (.int (p1 &&& (65535 : Int32))), .val (.int (1 : Int32)), .val (.int (own_su p1)), .unset, .unset] [(.int (1 : Int32)), (.int (own_su p1))])
    have hc26 : (own_su p1) = (1 : Int32) := own_exp_f hc8
    refine Go.via (fun _ k => XS.icmpNo X6.here hx rfl (hb hby at_26) rfl (teq hc26).2 k) ?_
    show Go p e below _ T6 (mkF m 29 #[.val (.int p1), .val (.int p2), .val (.int (p1 &&& (65535 : Int32))), .val (.int (1 : Int32)), .val (.int (own_su p1)), .unset, .unset] [])
    refine Go.via (fun _ k => XS.iconst X6.here hx rfl (hb hby at_29) k) ?_
    show Go p e below _ T6 (mkF m 30 #[.val (.int p1), .val (.int p2), .val (.int (p1 &&& (65535 : Int32))), .val (.int (1 : Int32)), .val (.int (own_su p1)), .unset, .unset] [(.int (1 : Int32))])
    refine Go.via (fun _ k => XS.goto X6.here hx rfl (pc0 := 30) (pc' := 34) rfl (hb hby at_30) (by decide) (by decide) k) ?_
    show Go p e below _ T6 (mkF m 34 #[.val (.int p1), .val (.int p2), .val (.int (p1 &&& (65535 : Int32))), .val (.int (1 : Int32)), .val (.int (own_su p1)), .unset, .unset] [(.int (1 : Int32))])
    refine Go.via (fun _ k => XS.istore X6.here hx rfl (hb hby at_34) rfl (l' := #[.val (.int p1), .val (.int p2), .val (.int (p1 &&& (65535 : Int32))), .val (.int (1 : Int32)), .val (.int (own_su p1)), .val (.int (1 : Int32)), .unset]) rfl k) ?_
    show Go p e below _ T6 (mkF m 36 #[.val (.int p1), .val (.int p2), .val (.int (p1 &&& (65535 : Int32))), .val (.int (1 : Int32)), .val (.int (own_su p1)), .val (.int (1 : Int32)), .unset] [])
    refine Go.via (fun _ k => XS.iload X6.here hx rfl (hb hby at_36) rfl  k) ?_
    show Go p e below _ T6 (mkF m 38 #[.val (.int p1), .val (.int p2), .val (.int (p1 &&& (65535 : Int32))), .val (.int (1 : Int32)), .val (.int (own_su p1)), .val (.int (1 : Int32)), .unset] [(.int (1 : Int32))])
    have hc38 : ¬ ((1 : Int32) = (0 : Int32)) := (by decide)
    refine Go.via (fun _ k => XS.ifNo X6.here hx rfl (hb hby at_38) rfl ((if0 _ _).trans (feq hc38).1) k) ?_
    show Go p e below _ T6 (mkF m 41 #[.val (.int p1), .val (.int p2), .val (.int (p1 &&& (65535 : Int32))), .val (.int (1 : Int32)), .val (.int (own_su p1)), .val (.int (1 : Int32)), .unset] [])
    refine Go.via (fun _ k => XS.iloadN X6.here hx rfl (hb hby at_41) rfl  k) ?_
    show Go p e below _ T6 (mkF m 42 #[.val (.int p1), .val (.int p2), .val (.int (p1 &&& (65535 : Int32))), .val (.int (1 : Int32)), .val (.int (own_su p1)), .val (.int (1 : Int32)), .unset] [(.int p1)])
    refine Go.via (fun _ k => Stand.ldcInt X6 hx hown (mvT hZ (hw _ (List.mem_of_getElem? (i := 1) rfl))) (g := (mkF m 42 #[.val (.int p1), .val (.int p2), .val (.int (p1 &&& (65535 : Int32))), .val (.int (1 : Int32)), .val (.int (own_su p1)), .val (.int (1 : Int32)), .unset] [(.int p1)])) rfl (hb hby at_42) _ k) ?_
    show Go p e below _ T6 (mkF m 44 #[.val (.int p1), .val (.int p2), .val (.int (p1 &&& (65535 : Int32))), .val (.int (1 : Int32)), .val (.int (own_su p1)), .val (.int (1 : Int32)), .unset] [(.int (32768 : Int32)), (.int p1)])
    refine Go.via (fun _ k => XS.ixor X6.here hx rfl (hb hby at_44) rfl k) ?_
    show Go p e below _ T6 (mkF m 45 #[.val (.int p1), .val (.int p2), .val (.int (p1 &&& (65535 : Int32))), .val (.int (1 : Int32)), .val (.int (own_su p1)), .val (.int (1 : Int32)), .unset] [(.int (p1 ^^^ (32768 : Int32)))])
    obtain ⟨v7, T7, L7, X7, ⟨rfl, Nq7, eq7⟩, st7⟩ := Go.callS X6 hx hZ hown eq6 (hw _ (List.mem_of_getElem? (i := 2) rfl)) (hw _ (List.mem_of_getElem? (i := 3) rfl)) (hw _ (List.mem_of_getElem? (i := 4) rfl)) (hw _ (List.mem_of_getElem? (i := 5) rfl)) (by decide) (own_m1 l Z a0 hw [] (p1 ^^^ (32768 : Int32))  h0 n0 Z0 ) (pc := 45) (Ls := #[.val (.int p1), .val (.int p2), .val (.int (p1 &&& (65535 : Int32))), .val (.int (1 : Int32)), .val (.int (own_su p1)), .val (.int (1 : Int32)), .unset]) (argsL := [(.int (p1 ^^^ (32768 : Int32)))]) (rest := []) own_pd0 rfl rfl (by rw [hml]; rfl) (hb hby at_45) (W := 0) (Nat.le_of_eq rfl) (by decide) (by decide) (by decide) (by decide)
    refine st7 ?_
    have N7 := Fr.app N6 Nq7
    show Go p e below _ T7 (mkF m 48 #[.val (.int p1), .val (.int p2), .val (.int (p1 &&& (65535 : Int32))), .val (.int (1 : Int32)), .val (.int (own_su p1)), .val (.int (1 : Int32)), .unset] [(.int (own_su (p1 ^^^ (32768 : Int32))))])
    refine Go.via (fun _ k => XS.iload X7.here hx rfl (hb hby at_48) rfl  k) ?_
    show Go p e below _ T7 (mkF m 50 #[.val (.int p1), .val (.int p2), .val (.int (p1 &&& (65535 : Int32))), .val (.int (1 : Int32)), .val (.int (own_su p1)), .val (.int (1 : Int32)), .unset] [(.int (own_su p1)), (.int (own_su (p1 ^^^ (32768 : Int32))))])
    have hc50 : ¬ ((own_su (p1 ^^^ (32768 : Int32))) = (own_su p1)) := own_flip _
    refine Go.via (fun _ k => XS.icmpNo X7.here hx rfl (hb hby at_50) rfl (feq hc50).1 k) ?_
    show Go p e below _ T7 (mkF m 53 #[.val (.int p1), .val (.int p2), .val (.int (p1 &&& (65535 : Int32))), .val (.int (1 : Int32)), .val (.int (own_su p1)), .val (.int (1 : Int32)), .unset] [])
    refine Go.via (fun _ k => XS.iconst X7.here hx rfl (hb hby at_53) k) ?_
    show Go p e below _ T7 (mkF m 54 #[.val (.int p1), .val (.int p2), .val (.int (p1 &&& (65535 : Int32))), .val (.int (1 : Int32)), .val (.int (own_su p1)), .val (.int (1 : Int32)), .unset] [(.int (1 : Int32))])
    refine Go.via (fun _ k => XS.goto X7.here hx rfl (pc0 := 54) (pc' := 58) rfl (hb hby at_54) (by decide) (by decide) k) ?_
    show Go p e below _ T7 (mkF m 58 #[.val (.int p1), .val (.int p2), .val (.int (p1 &&& (65535 : Int32))), .val (.int (1 : Int32)), .val (.int (own_su p1)), .val (.int (1 : Int32)), .unset] [(.int (1 : Int32))])
    refine Go.via (fun _ k => XS.istore X7.here hx rfl (hb hby at_58) rfl (l' := #[.val (.int p1), .val (.int p2), .val (.int (p1 &&& (65535 : Int32))), .val (.int (1 : Int32)), .val (.int (own_su p1)), .val (.int (1 : Int32)), .unset]) rfl k) ?_
    show Go p e below _ T7 (mkF m 60 #[.val (.int p1), .val (.int p2), .val (.int (p1 &&& (65535 : Int32))), .val (.int (1 : Int32)), .val (.int (own_su p1)), .val (.int (1 : Int32)), .unset] [])
    refine Go.via (fun _ k => XS.iloadN X7.here hx rfl (hb hby at_60) rfl  k) ?_
    show Go p e below _ T7 (mkF m 61 #[.val (.int p1), .val (.int p2), .val (.int (p1 &&& (65535 : Int32))), .val (.int (1 : Int32)), .val (.int (own_su p1)), .val (.int (1 : Int32)), .unset] [(.int p2)])
    refine Go.via (fun _ k => Stand.ldcInt X7 hx hown (mvT hZ (hw _ (List.mem_of_getElem? (i := 7) rfl))) (g := (mkF m 61 #[.val (.int p1), .val (.int p2), .val (.int (p1 &&& (65535 : Int32))), .val (.int (1 : Int32)), .val (.int (own_su p1)), .val (.int (1 : Int32)), .unset] [(.int p2)])) rfl (hb hby at_61) _ k) ?_
    show Go p e below _ T7 (mkF m 63 #[.val (.int p1), .val (.int p2), .val (.int (p1 &&& (65535 : Int32))), .val (.int (1 : Int32)), .val (.int (own_su p1)), .val (.int (1 : Int32)), .unset] [(.int (-32769 : Int32)), (.int p2)])
    refine Go.via (fun _ k => XS.iand X7.here hx rfl (hb hby at_63) rfl k) ?_
    show Go p e below _ T7 (mkF m 64 #[.val (.int p1), .val (.int p2), .val (.int (p1 &&& (65535 : Int32))), .val (.int (1 : Int32)), .val (.int (own_su p1)), .val (.int (1 : Int32)), .unset] [(.int (p2 &&& (-32769 : Int32)))])
    refine Go.via (fun _ k => XS.istore X7.here hx rfl (hb hby at_64) rfl (l' := #[.val (.int p1), .val (.int p2), .val (.int (p1 &&& (65535 : Int32))), .val (.int (1 : Int32)), .val (.int (own_su p1)), .val (.int (1 : Int32)), .val (.int (p2 &&& (-32769 : Int32)))]) rfl k) ?_
    show Go p e below _ T7 (mkF m 66 #[.val (.int p1), .val (.int p2), .val (.int (p1 &&& (65535 : Int32))), .val (.int (1 : Int32)), .val (.int (own_su p1)), .val (.int (1 : Int32)), .val (.int (p2 &&& (-32769 : Int32)))] [])
    refine Go.via (fun _ k => XS.iload X7.here hx rfl (hb hby at_66) rfl  k) ?_
    show Go p e below _ T7 (mkF m 68 #[.val (.int p1), .val (.int p2), .val (.int (p1 &&& (65535 : Int32))), .val (.int (1 : Int32)), .val (.int (own_su p1)), .val (.int (1 : Int32)), .val (.int (p2 &&& (-32769 : Int32)))] [(.int (1 : Int32))])
    have hc68 : ¬ ((1 : Int32) = (0 : Int32)) := (by decide)
    refine Go.via (fun _ k => XS.ifNo X7.here hx rfl (hb hby at_68) rfl ((if0 _ _).trans (feq hc68).1) k) ?_
    show Go p e below _ T7 (mkF m 71 #[.val (.int p1), .val (.int p2), .val (.int (p1 &&& (65535 : Int32))), .val (.int (1 : Int32)), .val (.int (own_su p1)), .val (.int (1 : Int32)), .val (.int (p2 &&& (-32769 : Int32)))] [])
    refine Go.via (fun _ k => XS.iloadN X7.here hx rfl (hb hby at_71) rfl  k) ?_
    show Go p e below _ T7 (mkF m 72 #[.val (.int p1), .val (.int p2), .val (.int (p1 &&& (65535 : Int32))), .val (.int (1 : Int32)), .val (.int (own_su p1)), .val (.int (1 : Int32)), .val (.int (p2 &&& (-32769 : Int32)))] [(.int p1)])
    refine Go.via (fun _ k => XS.iload X7.here hx rfl (hb hby at_72) rfl  k) ?_
    show Go p e below _ T7 (mkF m 74 #[.val (.int p1), .val (.int p2), .val (.int (p1 &&& (65535 : Int32))), .val (.int (1 : Int32)), .val (.int (own_su p1)), .val (.int (1 : Int32)), .val (.int (p2 &&& (-32769 : Int32)))] [(.int (p2 &&& (-32769 : Int32))), (.int p1)])
    refine Go.via (fun _ k => XS.ixor X7.here hx rfl (hb hby at_74) rfl k) ?_
    show Go p e below _ T7 (mkF m 75 #[.val (.int p1), .val (.int p2), .val (.int (p1 &&& (65535 : Int32))), .val (.int (1 : Int32)), .val (.int (own_su p1)), .val (.int (1 : Int32)), .val (.int (p2 &&& (-32769 : Int32)))] [(.int (p1 ^^^ (p2 &&& (-32769 : Int32))))])
    obtain ⟨v8, T8, L8, X8, ⟨rfl, Nq8, eq8⟩, st8⟩ := Go.callS X7 hx hZ hown eq7 (hw _ (List.mem_of_getElem? (i := 2) rfl)) (hw _ (List.mem_of_getElem? (i := 3) rfl)) (hw _ (List.mem_of_getElem? (i := 4) rfl)) (hw _ (List.mem_of_getElem? (i := 5) rfl)) (by decide) (own_m1 l Z a0 hw [] (p1 ^^^ (p2 &&& (-32769 : Int32)))  h0 n0 Z0 ) (pc := 75) (Ls := #[.val (.int p1), .val (.int p2), .val (.int (p1 &&& (65535 : Int32))), .val (.int (1 : Int32)), .val (.int (own_su p1)), .val (.int (1 : Int32)), .val (.int (p2 &&& (-32769 : Int32)))]) (argsL := [(.int (p1 ^^^ (p2 &&& (-32769 : Int32))))]) (rest := []) own_pd0 rfl rfl (by rw [hml]; rfl) (hb hby at_75) (W := 0) (Nat.le_of_eq rfl) (by decide) (by decide) (by decide) (by decide)
    refine st8 ?_
    have N8 := Fr.app N7 Nq8
    show Go p e below _ T8 (mkF m 78 #[.val (.int p1), .val (.int p2), .val (.int (p1 &&& (65535 : Int32))), .val (.int (1 : Int32)), .val (.int (own_su p1)), .val (.int (1 : Int32)), .val (.int (p2 &&& (-32769 : Int32)))] [(.int (own_su (p1 ^^^ (p2 &&& (-32769 : Int32)))))])
    refine Go.via (fun _ k => XS.iload X8.here hx rfl (hb hby at_78) rfl  k) ?_
    show Go p e below _ T8 (mkF m 80 #[.val (.int p1), .val (.int p2), .val (.int (p1 &&& (65535 : Int32))), .val (.int (1 : Int32)), .val (.int (own_su p1)), .val (.int (1 : Int32)), .val (.int (p2 &&& (-32769 : Int32)))] [(.int (own_su p1)), (.int (own_su (p1 ^^^ (p2 &&& (-32769 : Int32)))))])
    have hc80 : (own_su (p1 ^^^ (p2 &&& (-32769 : Int32)))) = (own_su p1) := own_same _ _
    refine Go.via (fun _ k => XS.icmpNo X8.here hx rfl (hb hby at_80) rfl (teq hc80).2 k) ?_
    show Go p e below _ T8 (mkF m 83 #[.val (.int p1), .val (.int p2), .val (.int (p1 &&& (65535 : Int32))), .val (.int (1 : Int32)), .val (.int (own_su p1)), .val (.int (1 : Int32)), .val (.int (p2 &&& (-32769 : Int32)))] [])
    refine Go.via (fun _ k => XS.iconst X8.here hx rfl (hb hby at_83) k) ?_
    show Go p e below _ T8 (mkF m 84 #[.val (.int p1), .val (.int p2), .val (.int (p1 &&& (65535 : Int32))), .val (.int (1 : Int32)), .val (.int (own_su p1)), .val (.int (1 : Int32)), .val (.int (p2 &&& (-32769 : Int32)))] [(.int (1 : Int32))])
    refine Go.via (fun _ k => XS.goto X8.here hx rfl (pc0 := 84) (pc' := 88) rfl (hb hby at_84) (by decide) (by decide) k) ?_
    show Go p e below _ T8 (mkF m 88 #[.val (.int p1), .val (.int p2), .val (.int (p1 &&& (65535 : Int32))), .val (.int (1 : Int32)), .val (.int (own_su p1)), .val (.int (1 : Int32)), .val (.int (p2 &&& (-32769 : Int32)))] [(.int (1 : Int32))])
    refine Go.via (fun _ k => XS.istore X8.here hx rfl (hb hby at_88) rfl (l' := #[.val (.int p1), .val (.int p2), .val (.int (p1 &&& (65535 : Int32))), .val (.int (1 : Int32)), .val (.int (own_su p1)), .val (.int (1 : Int32)), .val (.int (p2 &&& (-32769 : Int32)))]) rfl k) ?_
    show Go p e below _ T8 (mkF m 90 #[.val (.int p1), .val (.int p2), .val (.int (p1 &&& (65535 : Int32))), .val (.int (1 : Int32)), .val (.int (own_su p1)), .val (.int (1 : Int32)), .val (.int (p2 &&& (-32769 : Int32)))] [])
    refine Go.via (fun _ k => XS.iload X8.here hx rfl (hb hby at_90) rfl  k) ?_
    show Go p e below _ T8 (mkF m 92 #[.val (.int p1), .val (.int p2), .val (.int (p1 &&& (65535 : Int32))), .val (.int (1 : Int32)), .val (.int (own_su p1)), .val (.int (1 : Int32)), .val (.int (p2 &&& (-32769 : Int32)))] [(.int (1 : Int32))])
    have hc92 : ¬ ((1 : Int32) = (0 : Int32)) := (by decide)
    refine Go.via (fun _ k => XS.ifNo X8.here hx rfl (hb hby at_92) rfl ((if0 _ _).trans (feq hc92).1) k) ?_
    show Go p e below _ T8 (mkF m 95 #[.val (.int p1), .val (.int p2), .val (.int (p1 &&& (65535 : Int32))), .val (.int (1 : Int32)), .val (.int (own_su p1)), .val (.int (1 : Int32)), .val (.int (p2 &&& (-32769 : Int32)))] [])
    refine Go.via (fun _ k => Stand.ldcInt X8 hx hown (mvT hZ (hw _ (List.mem_of_getElem? (i := 1) rfl))) (g := (mkF m 95 #[.val (.int p1), .val (.int p2), .val (.int (p1 &&& (65535 : Int32))), .val (.int (1 : Int32)), .val (.int (own_su p1)), .val (.int (1 : Int32)), .val (.int (p2 &&& (-32769 : Int32)))] [])) rfl (hb hby at_95) _ k) ?_
    show Go p e below _ T8 (mkF m 97 #[.val (.int p1), .val (.int p2), .val (.int (p1 &&& (65535 : Int32))), .val (.int (1 : Int32)), .val (.int (own_su p1)), .val (.int (1 : Int32)), .val (.int (p2 &&& (-32769 : Int32)))] [(.int (32768 : Int32))])
    obtain ⟨v9, T9, L9, X9, ⟨rfl, Nq9, eq9⟩, st9⟩ := Go.callS X8 hx hZ hown eq8 (hw _ (List.mem_of_getElem? (i := 2) rfl)) (hw _ (List.mem_of_getElem? (i := 3) rfl)) (hw _ (List.mem_of_getElem? (i := 4) rfl)) (hw _ (List.mem_of_getElem? (i := 5) rfl)) (by decide) (own_m1 l Z a0 hw [] (32768 : Int32)  h0 n0 Z0 ) (pc := 97) (Ls := #[.val (.int p1), .val (.int p2), .val (.int (p1 &&& (65535 : Int32))), .val (.int (1 : Int32)), .val (.int (own_su p1)), .val (.int (1 : Int32)), .val (.int (p2 &&& (-32769 : Int32)))]) (argsL := [(.int (32768 : Int32))]) (rest := []) own_pd0 rfl rfl (by rw [hml]; rfl) (hb hby at_97) (W := 0) (Nat.le_of_eq rfl) (by decide) (by decide) (by decide) (by decide)
    refine st9 ?_
    have N9 := Fr.app N8 Nq9
    show Go p e below _ T9 (mkF m 100 #[.val (.int p1), .val (.int p2), .val (.int (p1 &&& (65535 : Int32))), .val (.int (1 : Int32)), .val (.int (own_su p1)), .val (.int (1 : Int32)), .val (.int (p2 &&& (-32769 : Int32)))] [(.int (own_su (32768 : Int32)))])
    have hc100 : ¬ ((own_su (32768 : Int32)) = (0 : Int32)) := by decide
    refine Go.via (fun _ k => XS.ifNo X9.here hx rfl (hb hby at_100) rfl ((if0 _ _).trans (feq hc100).1) k) ?_
    show Go p e below _ T9 (mkF m 103 #[.val (.int p1), .val (.int p2), .val (.int (p1 &&& (65535 : Int32))), .val (.int (1 : Int32)), .val (.int (own_su p1)), .val (.int (1 : Int32)), .val (.int (p2 &&& (-32769 : Int32)))] [])
    refine Go.via (fun _ k => XS.iconst X9.here hx rfl (hb hby at_103) k) ?_
    show Go p e below _ T9 (mkF m 104 #[.val (.int p1), .val (.int p2), .val (.int (p1 &&& (65535 : Int32))), .val (.int (1 : Int32)), .val (.int (own_su p1)), .val (.int (1 : Int32)), .val (.int (p2 &&& (-32769 : Int32)))] [(.int (1 : Int32))])
    refine Go.via (fun _ k => XS.goto X9.here hx rfl (pc0 := 104) (pc' := 108) rfl (hb hby at_104) (by decide) (by decide) k) ?_
    show Go p e below _ T9 (mkF m 108 #[.val (.int p1), .val (.int p2), .val (.int (p1 &&& (65535 : Int32))), .val (.int (1 : Int32)), .val (.int (own_su p1)), .val (.int (1 : Int32)), .val (.int (p2 &&& (-32769 : Int32)))] [(.int (1 : Int32))])
    refine Go.via (fun _ k => XS.istore X9.here hx rfl (hb hby at_108) rfl (l' := #[.val (.int p1), .val (.int p2), .val (.int (p1 &&& (65535 : Int32))), .val (.int (1 : Int32)), .val (.int (own_su p1)), .val (.int (1 : Int32)), .val (.int (p2 &&& (-32769 : Int32)))]) rfl k) ?_
    show Go p e below _ T9 (mkF m 110 #[.val (.int p1), .val (.int p2), .val (.int (p1 &&& (65535 : Int32))), .val (.int (1 : Int32)), .val (.int (own_su p1)), .val (.int (1 : Int32)), .val (.int (p2 &&& (-32769 : Int32)))] [])
    refine Go.via (fun _ k => XS.iload X9.here hx rfl (hb hby at_110) rfl  k) ?_
    show Go p e below _ T9 (mkF m 112 #[.val (.int p1), .val (.int p2), .val (.int (p1 &&& (65535 : Int32))), .val (.int (1 : Int32)), .val (.int (own_su p1)), .val (.int (1 : Int32)), .val (.int (p2 &&& (-32769 : Int32)))] [(.int (1 : Int32))])
    have hc112 : ¬ ((1 : Int32) = (0 : Int32)) := (by decide)
    refine Go.via (fun _ k => XS.ifNo X9.here hx rfl (hb hby at_112) rfl ((if0 _ _).trans (feq hc112).1) k) ?_
    show Go p e below _ T9 (mkF m 115 #[.val (.int p1), .val (.int p2), .val (.int (p1 &&& (65535 : Int32))), .val (.int (1 : Int32)), .val (.int (own_su p1)), .val (.int (1 : Int32)), .val (.int (p2 &&& (-32769 : Int32)))] [])
    refine Go.via (fun _ k => XS.sipush X9.here hx rfl (hb hby at_115) k) ?_
    show Go p e below _ T9 (mkF m 118 #[.val (.int p1), .val (.int p2), .val (.int (p1 &&& (65535 : Int32))), .val (.int (1 : Int32)), .val (.int (own_su p1)), .val (.int (1 : Int32)), .val (.int (p2 &&& (-32769 : Int32)))] [(.int (16384 : Int32))])
    obtain ⟨v10, T10, L10, X10, ⟨rfl, Nq10, eq10⟩, st10⟩ := Go.callS X9 hx hZ hown eq9 (hw _ (List.mem_of_getElem? (i := 2) rfl)) (hw _ (List.mem_of_getElem? (i := 3) rfl)) (hw _ (List.mem_of_getElem? (i := 4) rfl)) (hw _ (List.mem_of_getElem? (i := 5) rfl)) (by decide) (own_m1 l Z a0 hw [] (16384 : Int32)  h0 n0 Z0 ) (pc := 118) (Ls := #[.val (.int p1), .val (.int p2), .val (.int (p1 &&& (65535 : Int32))), .val (.int (1 : Int32)), .val (.int (own_su p1)), .val (.int (1 : Int32)), .val (.int (p2 &&& (-32769 : Int32)))]) (argsL := [(.int (16384 : Int32))]) (rest := []) own_pd0 rfl rfl (by rw [hml]; rfl) (hb hby at_118) (W := 0) (Nat.le_of_eq rfl) (by decide) (by decide) (by decide) (by decide)
    refine st10 ?_
    have N10 := Fr.app N9 Nq10
    show Go p e below _ T10 (mkF m 121 #[.val (.int p1), .val (.int p2), .val (.int (p1 &&& (65535 : Int32))), .val (.int (1 : Int32)), .val (.int (own_su p1)), .val (.int (1 : Int32)), .val (.int (p2 &&& (-32769 : Int32)))] [(.int (own_su (16384 : Int32)))])
    have hc121 : (own_su (16384 : Int32)) = (0 : Int32) := by decide
    refine Go.via (fun _ k => XS.ifNo X10.here hx rfl (hb hby at_121) rfl ((if0 _ _).trans (teq hc121).2) k) ?_
    show Go p e below _ T10 (mkF m 124 #[.val (.int p1), .val (.int p2), .val (.int (p1 &&& (65535 : Int32))), .val (.int (1 : Int32)), .val (.int (own_su p1)), .val (.int (1 : Int32)), .val (.int (p2 &&& (-32769 : Int32)))] [])
    refine Go.via (fun _ k => XS.iconst X10.here hx rfl (hb hby at_124) k) ?_
    show Go p e below _ T10 (mkF m 125 #[.val (.int p1), .val (.int p2), .val (.int (p1 &&& (65535 : Int32))), .val (.int (1 : Int32)), .val (.int (own_su p1)), .val (.int (1 : Int32)), .val (.int (p2 &&& (-32769 : Int32)))] [(.int (1 : Int32))])
    refine Go.via (fun _ k => XS.goto X10.here hx rfl (pc0 := 125) (pc' := 129) rfl (hb hby at_125) (by decide) (by decide) k) ?_
    show Go p e below _ T10 (mkF m 129 #[.val (.int p1), .val (.int p2), .val (.int (p1 &&& (65535 : Int32))), .val (.int (1 : Int32)), .val (.int (own_su p1)), .val (.int (1 : Int32)), .val (.int (p2 &&& (-32769 : Int32)))] [(.int (1 : Int32))])
    refine Go.via (fun _ k => XS.istore X10.here hx rfl (hb hby at_129) rfl (l' := #[.val (.int p1), .val (.int p2), .val (.int (p1 &&& (65535 : Int32))), .val (.int (1 : Int32)), .val (.int (own_su p1)), .val (.int (1 : Int32)), .val (.int (p2 &&& (-32769 : Int32)))]) rfl k) ?_
    show Go p e below _ T10 (mkF m 131 #[.val (.int p1), .val (.int p2), .val (.int (p1 &&& (65535 : Int32))), .val (.int (1 : Int32)), .val (.int (own_su p1)), .val (.int (1 : Int32)), .val (.int (p2 &&& (-32769 : Int32)))] [])
    refine Go.via (fun _ k => XS.iload X10.here hx rfl (hb hby at_131) rfl  k) ?_
    show Go p e below _ T10 (mkF m 133 #[.val (.int p1), .val (.int p2), .val (.int (p1 &&& (65535 : Int32))), .val (.int (1 : Int32)), .val (.int (own_su p1)), .val (.int (1 : Int32)), .val (.int (p2 &&& (-32769 : Int32)))] [(.int (1 : Int32))])
    refine Go.retN X10 hx hk (hret : meth.sig.returnType = some .boolean) (t := .boolean) (by simp) (hb hby at_133) (by decide) (by decide) ?_
    exact ⟨rfl, N10⟩
set_option maxRecDepth 65536 in
set_option maxHeartbeats 40000000 in
theorem comes_1 {Post : Tables → Env → Array Value → State → Outcome → State → Prop} (hpost : ∀ tb e args s v u, (limb_1_1.after args s (.returned v) u = true ∧ limb_1_2.after args s (.returned v) u = true ∧ True) → FrameEnd s (.returned v) u (Jvm.fieldLocs frame_1_writes args s ++ Jvm.arrayLocs frame_1_arrays args s ++ Jvm.staticLocs frame_1_statics s) 0 0 → Post tb e args s (.returned v) u) :
    ArmFor flags0 classFile x code maxLocals ret World_1 tables_1 room_1 Calls_1 rest_1 Pre_1 Post := by
  intro l hfl _ _ p e ha hc hk s m args below hf hA hF happ hP
  obtain ⟨hcalls, hrest, hpre⟩ := hP
  obtain ⟨-, -, -, hnamed, -, -, -, hat⟩ := (Spec.applies_iff hf).mp happ
  obtain ⟨hg, hn⟩ := and_e (Cond.before_iff.mp (show (Jvm.Cond.and given_1 narrow_1).before args s = true from hpre))
  obtain ⟨hcnt, hg0⟩ := and_e hg
  obtain ⟨w0, w1, rfl⟩ : ∃ w0 w1 : Value, args = #[w0, w1] := by
    have hs : args.size = 2 := by simpa [Cond.value, given_1] using hcnt
    obtain ⟨L⟩ := args
    match L, hs with
    | [w0, w1], _ => exact ⟨w0, w1, rfl⟩
  have hw := fun d (hd : d ∈ tables_1) => atoms_spec (ws := Jvm.Cond.code x code maxLocals ret :: tables_1) hat d (List.mem_cons_of_mem _ hd)
  have hfit : Fit s := fun {y c} hc i hi => by
    obtain ⟨ha, rfl⟩ := Array.getElem?_eq_some_iff.mp hc
    have q := List.all_eq_true.mp ((Array.all_eq_true_iff_forall_mem.mp hF) _ (Array.getElem_mem ha)) i (List.mem_range.mpr hi)
    simpa [Array.getElem?_eq_getElem hi] using q
  obtain ⟨hi0, hg1⟩ := and_e hg0
  have hi1 := hg1
  obtain ⟨i0, hv0⟩ := is_v hi0
  obtain rfl : w0 = (.int i0) := Option.some.inj hv0
  obtain ⟨i1, hv1⟩ := is_v hi1
  obtain rfl : w1 = (.int i1) := Option.some.inj hv1
  obtain ⟨n, o, h1, h2, h3, _, L, rfl, ⟨rfl, N⟩, hq⟩ := own_m0 l s _ hw tables_1 i0 i1 s.heap s.heap.size (Nat.le_refl _) p e ha hc hk s m _ below hf ((Spec.applies_iff_loose hf).mp happ).1 ⟨rfl, State.Warmed39.refl s, rfl⟩ trivial
  refine ⟨n, _, h1, h2, h3, hpost _ _ _ _ _ _ ⟨Cond.after_iff.mpr rfl, Cond.after_iff.mpr (eq_i res_at (Term.int_eval (1)) rfl), trivial⟩ ⟨hq.1, hq.2.1, (hq.2.2.sift fun y hy => Or.inr (N y hy)).mono (by decide) (by decide)⟩⟩
theorem main_1_1 : Claimed_1_1 := comes_1 fun _ _ _ _ _ _ h hF => ⟨h.1, hF⟩
theorem main_1_2 : Claimed_1_2 := comes_1 fun _ _ _ _ _ _ h hF => ⟨h.2.1, hF⟩
end Jvm.Pilot.@@N@@
namespace Jvm.Pilot.@@N@@
open Jvm Jvm.ClassFile Sem Op Lib Jvm.Free Jvm.Stand Jvm.Pilot.@@N@@.Jvm.D
/-! MADE BY PROGRAM (witnessworld.py) out of the Statement's table words and the real class files: 9 classes; the members and pool entries that the words name. The judged class is class 1, her method 1. -/
namespace start1
open Jvm.ClassFile
def u (s : String) : CpInfo := .utf8 (stringToUtf16 s)
/-- a pool by its gaps: so many unusable entries, then the entry; so many at the end -/
def gap : Nat → List CpInfo → List CpInfo
  | 0, r => r
  | n + 1, r => .unusable :: gap n r
def poolList (es : List (Nat × CpInfo)) (last : Nat) : List CpInfo := es.foldr (fun e r => gap e.1 (e.2 :: r)) (gap last [])
def pool (es : List (Nat × CpInfo)) (last : Nat) : Array CpInfo := ⟨poolList es last⟩
def fileOf (pool : Array CpInfo) (this : Nat) (attrs : Array Attribute := #[]) (ms : Array MethodInfo := #[]) (fl : Nat := 33) (sup : Nat := 0) (ifs : Array Nat := #[]) (fds : Array FieldInfo := #[]) : ClassFile where
  minorVersion := 0
  majorVersion := 65
  constantPool := pool
  accessFlags := fl
  thisClass := this
  superClass := sup
  interfaces := ifs
  fields := fds
  methods := ms
  attributes := attrs
def plain (name : String) (sup : Option ClassId) : Class where
  name := name
  kind := .ordinary
  loader := none
  accessFlags := 33
  super := sup
  interfaces := #[]
  cf := none
  fields := #[]
  methods := #[]
  instanceTypes := #[]
  staticTypes := #[]
  resolved := #[]
  callSites := []
  init := .initialized
  statics := none
  mirror := none

def pool0 : Array CpInfo := pool [(5, u "<init>"), (0, u "()V"), (1, .class_ 10), (1, u "java/lang/Object")] 113

def k0m0 : Method := { name := "<init>", desc := "()V", sig := { parameters := [], returnType := none }, accessFlags := 1, code := none }
/-- java/lang/Object -/
def k0 : Class := { plain "java/lang/Object" none with
  accessFlags := 33
  interfaces := #[]
  cf := some (fileOf pool0 8 #[] #[{ accessFlags := 1, nameIndex := 5, descriptorIndex := 6, attributes := #[] }] 33 0 #[] #[])
  fields := #[]
  methods := #[k0m0]
  instanceTypes := #[]
  staticTypes := #[]
  resolved := Array.replicate 124 none
  statics := none }

def pool1 : Array CpInfo := pool [(2, .class_ 4), (1, u "java/lang/Object"), (0, u "<init>"), (0, u "()V"), (0, .integer 65535), (0, .integer 32768), (0, .methodref 10 11), (0, .class_ 12), (0, .nameAndType 13 14), (0, u "com/example/quintet/quintet/sim/NotificationCode"), (0, u "success"), (0, u "(I)Z"), (0, .integer 4294934527), (0, .class_ 17), (0, u "com/example/quintet/quintet/sim/NotificationCodeSuccessPinLaw"), (2, u "law"), (0, u "(II)Z")] 3

def k1m0 : Method := { name := "<init>", desc := "()V", sig := { parameters := [], returnType := none }, accessFlags := 2, code := none }
def k1c1 : Code := { maxStack := 2, maxLocals := 7, code := code, exceptionTable := #[], attributes := #[] }
def k1m1 : Method := { name := "law", desc := "(II)Z", sig := { parameters := [.int, .int], returnType := some .boolean }, accessFlags := 9, code := some k1c1 }
/-- com/example/quintet/quintet/sim/NotificationCodeSuccessPinLaw -/
def k1 : Class := { plain "com/example/quintet/quintet/sim/NotificationCodeSuccessPinLaw" (some 0) with
  accessFlags := 49
  interfaces := #[]
  cf := some (fileOf pool1 16 #[] #[{ accessFlags := 2, nameIndex := 5, descriptorIndex := 6, attributes := #[] }, { accessFlags := 9, nameIndex := 20, descriptorIndex := 21, attributes := #[] }] 49 2 #[] #[])
  fields := #[]
  methods := #[k1m0, k1m1]
  instanceTypes := #[]
  staticTypes := #[]
  resolved := Array.replicate 25 none
  statics := none }

def pool2 : Array CpInfo := pool [(2, .class_ 4), (1, u "java/lang/Object"), (0, u "<init>"), (0, u "()V"), (0, .class_ 8), (0, u "com/example/quintet/quintet/sim/NotificationCode"), (0, .integer 32768), (0, u "GENERAL_FAILURE_BEFORE_AUTHENTICATION"), (0, u "I"), (2, u "SUCCESS"), (0, u "S_BIT"), (0, u "P_BIT"), (2, u "success"), (0, u "(I)Z")] 4

def k2m0 : Method := { name := "<init>", desc := "()V", sig := { parameters := [], returnType := none }, accessFlags := 2, code := none }
def k2c1 : Code := { maxStack := 2, maxLocals := 1, code := prog_61_method_2_code, exceptionTable := #[], attributes := #[] }
def k2m1 : Method := { name := "success", desc := "(I)Z", sig := { parameters := [.int], returnType := some .boolean }, accessFlags := 9, code := some k2c1 }
/-- com/example/quintet/quintet/sim/NotificationCode -/
def k2 : Class := { plain "com/example/quintet/quintet/sim/NotificationCode" (some 0) with
  accessFlags := 49
  interfaces := #[]
  cf := some (fileOf pool2 7 #[] #[{ accessFlags := 2, nameIndex := 5, descriptorIndex := 6, attributes := #[] }, { accessFlags := 9, nameIndex := 19, descriptorIndex := 20, attributes := #[] }] 49 2 #[] #[{ accessFlags := 25, nameIndex := 10, descriptorIndex := 11, attributes := #[] }, { accessFlags := 25, nameIndex := 14, descriptorIndex := 11, attributes := #[] }, { accessFlags := 26, nameIndex := 15, descriptorIndex := 11, attributes := #[] }, { accessFlags := 26, nameIndex := 16, descriptorIndex := 11, attributes := #[] }])
  fields := #[{ name := "GENERAL_FAILURE_BEFORE_AUTHENTICATION", type := .int, accessFlags := 25, slot := 0, constantValue := 0 }, { name := "SUCCESS", type := .int, accessFlags := 25, slot := 1, constantValue := 0 }, { name := "S_BIT", type := .int, accessFlags := 26, slot := 2, constantValue := 0 }, { name := "P_BIT", type := .int, accessFlags := 26, slot := 3, constantValue := 0 }]
  methods := #[k2m0, k2m1]
  instanceTypes := #[]
  staticTypes := #[.int, .int, .int, .int]
  resolved := Array.replicate 25 none
  statics := none }

def pool3 : Array CpInfo := pool [(1, u "java/lang/Cloneable"), (0, .class_ 1), (0, u "java/lang/Object"), (0, .class_ 3)] 3

/-- java/lang/Cloneable -/
def k3 : Class := { plain "java/lang/Cloneable" (some 0) with
  accessFlags := 1537
  interfaces := #[]
  cf := some (fileOf pool3 2 #[] #[] 1537 4 #[] #[])
  fields := #[]
  methods := #[]
  instanceTypes := #[]
  staticTypes := #[]
  resolved := Array.replicate 8 none
  statics := none }

def pool4 : Array CpInfo := pool [(1, u "java/io/Serializable"), (0, .class_ 1), (0, u "java/lang/Object"), (0, .class_ 3)] 3

/-- java/io/Serializable -/
def k4 : Class := { plain "java/io/Serializable" (some 0) with
  accessFlags := 1537
  interfaces := #[]
  cf := some (fileOf pool4 2 #[] #[] 1537 4 #[] #[])
  fields := #[]
  methods := #[]
  instanceTypes := #[]
  staticTypes := #[]
  resolved := Array.replicate 8 none
  statics := none }

/-- the primitive byte -/
def k5 : Class := { plain "byte" none with kind := .primitive 'B', accessFlags := 0x411 }
/-- [B -/
def k6 : Class := { plain "[B" (some 0) with kind := .array 5 .byte, interfaces := #[3, 4], accessFlags := 1041 }

/-- the primitive int -/
def k7 : Class := { plain "int" none with kind := .primitive 'I', accessFlags := 0x411 }
/-- [I -/
def k8 : Class := { plain "[I" (some 0) with kind := .array 7 .int, interfaces := #[3, 4], accessFlags := 1041 }

def heap : Heap := #[]
def classes : Array Class := #[k0, k1, k2, k3, k4, k5, k6, k7, k8]
def interned : List (Array UInt16 × Addr) := []
def slotsUsed : Nat := 0
def theMethod : MethodId := ⟨1, 1⟩
def args0 : Array Value := #[.int 5, .int 7]
def aboutOver (below : List Frame) : State where
  vm := { classes := classes, interned := interned.toArray }
  heap := heap
  slotsUsed := slotsUsed
  threads := #[{ frames := .invoking theMethod args0 :: below }]
def below0 : List Frame := [.native { method := ⟨0, 0⟩, args := #[] }]
def about1 : State := aboutOver below0
def p0 : Program := .bare "" "" ""
def e0 : Env := launch0.env 0 0 0
theorem w_frames : about1.frames = Frame.invoking theMethod args0 :: below0 := rfl
set_option maxRecDepth 65536 in
theorem w_args : argsFit about1.vm theMethod args0 = true := by decide +kernel
set_option maxRecDepth 65536 in
theorem w_heap : heapFits about1 = true := by decide +kernel
set_option maxRecDepth 65536 in
theorem w_runnable : about1.curStatus? = some .runnable := by decide +kernel
set_option maxRecDepth 65536 in
theorem w_alone : about1.alone = true := by decide +kernel
set_option maxRecDepth 65536 in
theorem w_named : about1.methodNamed? x = some theMethod := by decide +kernel
set_option maxRecDepth 65536 in
theorem w_hears : about1.hears theMethod below0 = true := by decide +kernel
set_option maxRecDepth 65536 in
theorem w_ripe : about1.ripe theMethod args0 below0 = true := by decide +kernel
theorem w_running : about1.status = .running := rfl
set_option maxRecDepth 65536 in
theorem w_room : about1.hasRoom e0.platform room_1 = true :=
  launch0.hasRoom_least _ room_1 (by decide +kernel) (by decide +kernel) (by decide +kernel) (by decide +kernel) (by decide +kernel) (by decide +kernel)
theorem allAtoms_all (ts : List Jvm.Cond) (a : Array Jvm.Value) (st : Jvm.State) : (allAtoms ts).before a st = ts.all (fun c => c.before a st) := by
  induction ts with
  | nil => rfl
  | cons c t ih =>
    show (Jvm.Cond.and c (allAtoms t)).before a st = _
    rw [Jvm.Cond.before_and, ih, List.all_cons]
def words1 : List Jvm.Cond := Jvm.Cond.code x code maxLocals ret :: tables_1
/-- a 'code' word, met by the world's own term for the bytes: nothing is compared byte by byte -/
theorem code_word {y : MethodName} {bytes : ByteArray} {mx : Nat} {rt : Option FieldType} {a : Array Value} {s : State} {m : MethodId} {meth : Method} {c : Code} (h1 : s.methodNamed? y = some m) (h2 : s.vm.method? m = some meth) (h3 : meth.code = some c) (h4 : c.code = bytes)
    (h5 : (c.maxLocals == mx && c.exceptionTable.isEmpty && decide (c.maxStack ≤ mostOperands) && decide (meth.sig.returnType = rt) && !meth.locks && decide (parseMethodDescriptor y.desc = some meth.sig)) = true) : (Jvm.Cond.code y bytes mx rt).before a s = true := by
  simp only [Bool.and_eq_true, beq_iff_eq, Bool.not_eq_true', decide_eq_true_eq] at h5
  obtain ⟨⟨⟨⟨⟨g1, g2⟩, g3⟩, g4⟩, g5⟩, g6⟩ := h5
  simp [Cond.before, Cond.holds, Cond.value, h1, h2, h3, h4, g1, g2, g3, g4, g5, g6]
def isCode : Jvm.Cond → Bool
  | .code _ _ _ _ => true
  | _ => false
theorem all_split {L : List Jvm.Cond} {P : Jvm.Cond → Bool} (h1 : L.all (fun c => isCode c || P c) = true) (h2 : ∀ c ∈ L.filter isCode, P c = true) : L.all P = true := by
  refine List.all_eq_true.mpr fun c hc => ?_
  have h := List.all_eq_true.mp h1 c hc
  rcases Bool.eq_false_or_eq_true (isCode c) with hi | hi
  · exact h2 c (List.mem_filter.mpr ⟨hc, hi⟩)
  · simpa [hi] using h
set_option maxRecDepth 65536 in
theorem w_c0 : (Jvm.Cond.code x code maxLocals ret).before args0 about1 = true := code_word (m := ⟨1, 1⟩) (meth := k1m1) (c := k1c1) (by decide +kernel) rfl rfl rfl (by decide +kernel)
set_option maxRecDepth 65536 in
theorem w_c1 : (Jvm.Cond.code ({ cls := "com/example/quintet/quintet/sim/NotificationCode", name := "success", desc := "(I)Z" } : Jvm.MethodName) prog_61_method_2_code (1 : Nat) (Option.some Jvm.ClassFile.FieldType.boolean)).before args0 about1 = true := code_word (m := ⟨2, 1⟩) (meth := k2m1) (c := k2c1) (by decide +kernel) rfl rfl rfl (by decide +kernel)
def codes1 : List Jvm.Cond := [Jvm.Cond.code x code maxLocals ret, Jvm.Cond.code ({ cls := "com/example/quintet/quintet/sim/NotificationCode", name := "success", desc := "(I)Z" } : Jvm.MethodName) prog_61_method_2_code (1 : Nat) (Option.some Jvm.ClassFile.FieldType.boolean)]
set_option maxRecDepth 65536 in
theorem codes_eq : words1.filter isCode = codes1 := rfl
theorem w_codes : ∀ c ∈ words1.filter isCode, c.before args0 about1 = true := by
  rw [codes_eq]
  intro c hc
  simp only [codes1, List.mem_cons, List.not_mem_nil, or_false] at hc
  rcases hc with rfl | rfl
  · exact w_c0
  · exact w_c1
set_option maxRecDepth 65536 in
theorem w_t1 : words1.all (fun c => isCode c || c.before args0 about1) = true := by decide +kernel
theorem w_tables : (allAtoms (Jvm.Cond.code x code maxLocals ret :: tables_1)).before args0 about1 = true := by
  rw [allAtoms_all]
  show words1.all (fun c => c.before args0 about1) = true
  refine all_split ?_ w_codes
  rw [w_t1]
set_option maxRecDepth 65536 in
theorem w_case : (Jvm.Cond.and given_1 narrow_1).before args0 about1 = true := by decide +kernel
theorem w_applies : (headSpec (Jvm.Cond.code x code maxLocals ret :: tables_1) room_1).applies x e0.platform about1 = true :=
  (Spec.applies_iff w_frames).mpr ⟨w_running, w_runnable, w_alone, w_named, w_hears, w_ripe, w_room, w_tables⟩
theorem atStart : AtStart classFile x code maxLocals ret World_1 tables_1 room_1 Calls_1 rest_1 Pre_1 launch0 p0 e0 about1 theMethod args0 below0 :=
  ⟨lists_1, trivial, launch0.admits_env _ _ _, launch0.least_env, fairChoices_fair.cas, fairChoices_fair.clock, w_frames, w_args, w_heap, w_applies, trivial, trivial, w_case⟩
end start1
theorem witness_1 : WitnessClaimed_1 := ⟨start1.p0, start1.e0, start1.about1, start1.theMethod, start1.args0, start1.below0, start1.atStart⟩
end Jvm.Pilot.@@N@@
