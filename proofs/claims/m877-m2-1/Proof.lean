import JvmDerived
import JvmDerived.Pilot.@@N@@Statement
import JvmDerived.Pilot.@@N@@Code
set_option linter.unusedVariables false
set_option linter.unusedSimpArgs false
namespace Jvm.Pilot.@@N@@
open Jvm Jvm.ClassFile Sem Op Lib Jvm.Free Jvm.Stand Jvm.LawKit Jvm.RoadKit Bundle Jvm.Pilot.@@N@@.Jvm.D
/-! own kit: walks in the form 'what is left from this frame on', so that a walk may fork and join -/
section OwnKit
def b01 : Bool → Int32 | true => 1 | false => 0
def i01 (A : Prop) [Decidable A] : Int32 := if A then 1 else 0
theorem i01_t {A : Prop} [Decidable A] (h : A) : i01 A = 1 := if_pos h
theorem i01_f {A : Prop} [Decidable A] (h : ¬ A) : i01 A = 0 := if_neg h
theorem i01_0 {A : Prop} [Decidable A] : i01 A = 0 ↔ ¬ A := by unfold i01; by_cases h : A <;> simp [h]
theorem i01_b {A : Prop} [Decidable A] : i01 A = b01 (decide A) := by unfold i01; by_cases h : A <;> simp [h, b01]
theorem i01_n {A : Prop} [Decidable A] (h : ¬ i01 A = 0) : A := Decidable.not_not.mp fun q => h (i01_0.mpr q)
theorem b01_0 {b : Bool} : b01 b = 0 ↔ b = false := by cases b <;> simp [b01]
theorem b01_inj {a b : Bool} : b01 a = b01 b ↔ a = b := by cases a <;> cases b <;> simp [b01]
theorem b01_nar (b : Bool) : nar .boolean (b01 b) = b01 b := by cases b <;> rfl
theorem i01_nar {A : Prop} [Decidable A] : nar .boolean (i01 A) = i01 A := by rw [i01_b]; exact b01_nar _
variable {p : Program} {l : Launch} {e : Env} {R : Room} {s : State} {m : MethodId} {args : Array Value} {below : List Frame} {meth : Method} {c : Code} {T T' : State} {locs : List Loc} {cells slots : Nat} {Z : State} {a0 : Array Value} {h : Heap}
/-- from the frame g over T the run comes to an end of which P holds -/
def Go (p : Program) (e : Env) (below : List Frame) (P : State → Outcome → Prop) (T : State) (g : JFrame) : Prop :=
  ∃ (u : State) (o : Outcome), Steps p.tables e below (T.setTop g) u ∧ u.status = .running ∧ Ended u below o ∧ P u o
variable {P : State → Outcome → Prop}
theorem Go.via {g g' : JFrame} (st : ∀ t, Steps p.tables e below (T'.setTop g') t → Steps p.tables e below (T.setTop g) t) (k : Go p e below P T' g') : Go p e below P T g := by
  obtain ⟨u, o, hs, r⟩ := k
  exact ⟨u, o, st u hs, r⟩
theorem Go.cut {g g' : JFrame} (k1 : Go p e below P T' g' → Go p e below P T g) (k2 : Go p e below P T' g') : Go p e below P T g := k1 k2
theorem Go.cutA {α : Type} {g : JFrame} {g' : α → JFrame} (k1 : (∀ q, Go p e below P T' (g' q)) → Go p e below P T g) (k2 : ∀ q, Go p e below P T' (g' q)) : Go p e below P T g := k1 k2
theorem Go.cast {g g' : JFrame} (q : g = g') (k : Go p e below P T g') : Go p e below P T g := q ▸ k
/-- what a contract says of its end -/
def GoEnd (s : State) (Q : Option Value → Heap → List Loc → Prop) (cs sl : Nat) (u : State) (o : Outcome) : Prop := ∃ (v : Option Value) (L : List Loc), o = .returned v ∧ Q v u.heap L ∧ FrameEnd s o u L cs sl
variable {Q : Option Value → Heap → List Loc → Prop} {cs sl : Nat}
theorem Go.retN (X : Stand p l e R s m args below meth c T locs cells slots) (hx : p.tables.exec = Jvm.exec) (hk : meth.locks = false) {pc : Nat} {Ls : Array Slot} {z : Int32} {t : FieldType} {rest : List Value} (hret : meth.sig.returnType = some t) (ht : t = .boolean ∨ t = .byte ∨ t = .char ∨ t = .short)
    (hd : decode c.code pc = .ok (.ireturn, 1)) (hc : cells ≤ cs) (hl : slots ≤ sl) (hq : Q (some (.int (nar t z))) T.heap locs) : Go p e below (GoEnd s Q cs sl) T (mkF m pc Ls (.int z :: rest)) := by
  obtain ⟨fs, hr, hrun, hended, hW, hsame⟩ := X.leave (v := some (.int (nar t z))) (fun q => by rw [hret] at q; cases q) hk
  exact ⟨_, _, Jvm.RoadKit.retN X hx hret ht hd hr, hrun, hended, _, _, rfl, hq, ⟨_, rfl⟩, hW, hsame.mono hc hl⟩
theorem Go.retA (X : Stand p l e R s m args below meth c T locs cells slots) (hx : p.tables.exec = Jvm.exec) (hk : meth.locks = false) {pc : Nat} {Ls : Array Slot} {w : Value} {t : FieldType} {i : Instr} {rest : List Value} (hret : meth.sig.returnType = some t) (hn : narrow t w = w)
    (hi : (i = .ireturn ∧ (t = .int ∨ t = .boolean ∨ t = .byte ∨ t = .char ∨ t = .short) ∧ ∃ z, w = .int z) ∨ (i = .lreturn ∧ t = .long ∧ ∃ z, w = .long z) ∨ (i = .dreturn ∧ t = .double ∧ ∃ z, w = .double z) ∨ (i = .freturn ∧ t = .float ∧ ∃ z, w = .float z) ∨ (i = .areturn ∧ t.isReference = true ∧ w.isRef = true))
    (hd : decode c.code pc = .ok (i, 1)) (hc : cells ≤ cs) (hl : slots ≤ sl) (hq : Q (some w) T.heap locs) : Go p e below (GoEnd s Q cs sl) T (mkF m pc Ls (w :: rest)) := by
  obtain ⟨fs, hr, hrun, hended, hW, hsame⟩ := X.leave (v := some w) (fun q => by rw [hret] at q; cases q) hk
  exact ⟨_, _, Jvm.RoadKit.retOut X hx hret hn hi hd hr, hrun, hended, _, _, rfl, hq, ⟨_, rfl⟩, hW, hsame.mono hc hl⟩
theorem Go.retI (X : Stand p l e R s m args below meth c T locs cells slots) (hx : p.tables.exec = Jvm.exec) (hk : meth.locks = false) {pc : Nat} {Ls : Array Slot} {z : Int32} {rest : List Value} (hret : meth.sig.returnType = some .int)
    (hd : decode c.code pc = .ok (.ireturn, 1)) (hc : cells ≤ cs) (hl : slots ≤ sl) (hq : Q (some (.int z)) T.heap locs) : Go p e below (GoEnd s Q cs sl) T (mkF m pc Ls (.int z :: rest)) :=
  Go.retA X hx hk hret rfl (Or.inl ⟨rfl, Or.inl rfl, z, rfl⟩) hd hc hl hq
theorem Go.retJ (X : Stand p l e R s m args below meth c T locs cells slots) (hx : p.tables.exec = Jvm.exec) (hk : meth.locks = false) {pc : Nat} {Ls : Array Slot} {z : Int64} {rest : List Value} (hret : meth.sig.returnType = some .long)
    (hd : decode c.code pc = .ok (.lreturn, 1)) (hc : cells ≤ cs) (hl : slots ≤ sl) (hq : Q (some (.long z)) T.heap locs) : Go p e below (GoEnd s Q cs sl) T (mkF m pc Ls (.long z :: rest)) :=
  Go.retA X hx hk hret rfl (Or.inr (Or.inl ⟨rfl, rfl, z, rfl⟩)) hd hc hl hq
theorem Go.retV (X : Stand p l e R s m args below meth c T locs cells slots) (hx : p.tables.exec = Jvm.exec) (hk : meth.locks = false) {pc : Nat} {Ls : Array Slot} (hret : meth.sig.returnType = none)
    (hd : decode c.code pc = .ok (.return_, 1)) (hc : cells ≤ cs) (hl : slots ≤ sl) (hq : Q none T.heap locs) : Go p e below (GoEnd s Q cs sl) T (mkF m pc Ls []) := by
  obtain ⟨fs, hr, hrun, hended, hW, hsame⟩ := X.leave (v := none) (fun _ => rfl) hk
  exact ⟨_, _, X.returnOut hx hret hd hr, hrun, hended, _, _, rfl, hq, ⟨_, rfl⟩, hW, hsame.mono hc hl⟩
/-- a method's contract: called with as' over the heap h it ends and Q holds -/
abbrev Met (l : Launch) (Z : State) (y : MethodName) (bytes : ByteArray) (maxL : Nat) (ret : Option FieldType) (ws : List Jvm.Cond) (rm : Room) (as' : Array Value) (h : Heap) (Q : Option Value → Heap → List Loc → Prop) : Prop :=
  MetFree l y (head1 (Jvm.Cond.code y bytes maxL ret :: ws) rm) (fun a U => a = as' ∧ Z.Warmed39 U.vm ∧ U.heap = h) (fun _ _ _ _ _ => True) (fun _ U o U' => GoEnd U Q rm.cells rm.slots U' o)
variable {y : MethodName} {bytes : ByteArray} {maxL : Nat} {ret : Option FieldType} {ws : List Jvm.Cond} {rm : Room} {as' : Array Value}
/-- a body's own walk makes its contract -/
theorem Met.of (hp : plainFor y = true)
    (body : ∀ (p : Program) (e : Env) (s : State) (m : MethodId) (below : List Frame) (meth : Method) (c : Code) (T : State), p.tables.exec = Jvm.exec → c.code = bytes → c.maxLocals = maxL → meth.locks = false → meth.sig.returnType = ret → meth.name = y.name → s.vm.findClass y.cls = some m.cls → Z.Warmed39 s.vm →
      Stand p l e rm s m as' below meth c T [] 0 0 → T.heap = h → Go p e below (GoEnd s Q rm.cells rm.slots) T (entryFrame m as' maxL)) : Met l Z y bytes maxL ret ws rm as' h Q := by
  refine MetFree.of_bodySF hp hisR ?_
  intro p e s m args below meth c s₁ Bd hml hP hK
  obtain ⟨rfl, hZ, hh⟩ := hP
  exact body p e s m below meth c s₁ Bd.exec Bd.bytes hml (BodyLoose.notSynchronized Bd) Bd.returns (name_of_methodNamed Bd.named Bd.method).1 (findClass_of_methodNamed Bd.named) hZ (Stand.of_body Bd) (by rw [← hh, Bd.state]; rfl)
/-- a static call by its contract -/
theorem Go.callS (X : Stand p l e R s m args below meth c T locs cells slots) (hx : p.tables.exec = Jvm.exec) (hZ : Z.Warmed39 s.vm) {own : String} {index : Nat} (hown : s.vm.findClass own = some m.cls) (eT : T.heap = h)
    (w1 : (Cond.methodLink own index y).before a0 Z = true) (w2 : (Cond.static y).before a0 Z = true) (w3 : (Cond.initialized y.cls).before a0 Z = true) (w4 : (Cond.code y bytes maxL ret).before a0 Z = true) (hy : y.cls ≠ "java/lang/invoke/MethodHandle" ∧ y.cls ≠ "java/lang/invoke/VarHandle")
    (M : Met l Z y bytes maxL ret [] rm as' h Q) {pc : Nat} {Ls : Array Slot} {argsL rest : List Value} {ps : List FieldType} {r : Option FieldType} (hpd : parseMethodDescriptor y.desc = some ⟨ps, r⟩) (hn : argsL.length = ps.length) (has : argsL.toArray = as') (hsize : Ls.size = c.maxLocals)
    (hd : decode c.code pc = .ok (.invokestatic index, 3)) {W : Nat} (hW : (rest.map fun v => v.category).sum ≤ W) (hf : rm.frames + 1 ≤ R.frames) (hl : W + (maxL + 11) + rm.locals ≤ R.locals) (hc : cells + rm.cells ≤ R.cells) (hs : slots + rm.slots ≤ R.slots) :
    ∃ (v : Option Value) (T' : State) (L : List Loc), Stand p l e R s m args below meth c T' (locs ++ L) (cells + rm.cells) (slots + rm.slots) ∧ Q v T'.heap L ∧ ∀ {P : State → Outcome → Prop}, Go p e below P T' (mkF m (pc + 3) Ls (v.toList ++ rest)) → Go p e below P T (mkF m pc Ls (argsL.reverse ++ rest)) := by
  obtain ⟨v, vm₁, ⟨T', L', k', n'⟩, -, X', ⟨L, hQ, l1, l2, l3⟩, st⟩ := Jvm.LawKit.callS X hx hown (mvT hZ w1) (mvT hZ w2) (mvT hZ w3) (mvT hZ w4) hy (backOf (W := W) M hZ w4 w3 hf hl) (g := mkF m pc Ls (argsL.reverse ++ rest)) rfl hsize (lenOf hpd hn) rfl (by show 2 * 0 + _ ≤ _; omega) hd (fun _ _ => ⟨has, eT, hc, hs⟩)
  dsimp only [Pt.U, Pt.locs, Pt.cells, Pt.slots] at X' l1 l2 l3 st hQ
  subst l1 l2 l3
  exact ⟨v, T', L, X', hQ, fun k => Go.via st k⟩
/-- a constructor by its contract -/
theorem Go.callN (X : Stand p l e R s m args below meth c T locs cells slots) (hx : p.tables.exec = Jvm.exec) (hZ : Z.Warmed39 s.vm) {own : String} {index : Nat} (hown : s.vm.findClass own = some m.cls) (eT : T.heap = h) (hy1 : y.name = "<init>")
    (w1 : (Cond.methodLink own index y).before a0 Z = true) (w2 : (Cond.instanceMethod y).before a0 Z = true) (w3 : (Cond.initialized y.cls).before a0 Z = true) (w4 : (Cond.code y bytes maxL none).before a0 Z = true) (hy : y.cls ≠ "java/lang/invoke/MethodHandle" ∧ y.cls ≠ "java/lang/invoke/VarHandle")
    (M : Met l Z y bytes maxL none [] rm as' h Q) {pc : Nat} {Ls : Array Slot} {a : Addr} {argsL rest : List Value} {ps : List FieldType} {r : Option FieldType} (hpd : parseMethodDescriptor y.desc = some ⟨ps, r⟩) (hn : argsL.length = ps.length) (has : (.ref a :: argsL).toArray = as') (hsize : Ls.size = c.maxLocals)
    (hd : decode c.code pc = .ok (.invokespecial index, 3)) {W : Nat} (hW : (rest.map fun v => v.category).sum ≤ W) (hf : rm.frames + 1 ≤ R.frames) (hl : W + (maxL + 11) + rm.locals ≤ R.locals) (hc : cells + rm.cells ≤ R.cells) (hs : slots + rm.slots ≤ R.slots) :
    ∃ (v : Option Value) (T' : State) (L : List Loc), Stand p l e R s m args below meth c T' (locs ++ L) (cells + rm.cells) (slots + rm.slots) ∧ Q v T'.heap L ∧ ∀ {P : State → Outcome → Prop}, Go p e below P T' (mkF m (pc + 3) Ls (v.toList ++ rest)) → Go p e below P T (mkF m pc Ls (argsL.reverse ++ .ref a :: rest)) := by
  obtain ⟨v, vm₁, ⟨T', L', k', n'⟩, -, X', ⟨L, hQ, l1, l2, l3⟩, st⟩ := X.specialBack hx hy1 hown (mvT hZ w1) (mvT hZ w2) (mvT hZ w4) hy (backOf (W := W) M hZ w4 w3 hf hl) (g := mkF m pc Ls (argsL.reverse ++ .ref a :: rest)) rfl hsize (Steps.refl _) (lenOf hpd hn) rfl (by show 2 * 0 + _ ≤ _; omega) hd (fun _ _ => ⟨has, eT, hc, hs⟩)
  dsimp only [Pt.U, Pt.locs, Pt.cells, Pt.slots] at X' l1 l2 l3 st hQ
  subst l1 l2 l3
  exact ⟨v, T', L, X', hQ, fun k => Go.via (fun t k => st.trans k) k⟩
/-- an instance method by its contract -/
theorem Go.callV (X : Stand p l e R s m args below meth c T locs cells slots) (hx : p.tables.exec = Jvm.exec) (hZ : Z.Warmed39 s.vm) {own C : String} {index : Nat} (hown : s.vm.findClass own = some m.cls) (eT : T.heap = h)
    (w1 : (Cond.methodLink own index y).before a0 Z = true) (w2 : (Cond.declares y).before a0 Z = true) (w6 : (Cond.selects C y y).before a0 Z = true) (w7 : (Cond.instanceMethod y).before a0 Z = true) (w3 : (Cond.initialized y.cls).before a0 Z = true) (w4 : (Cond.code y bytes maxL ret).before a0 Z = true) (hy : y.cls ≠ "java/lang/invoke/MethodHandle" ∧ y.cls ≠ "java/lang/invoke/VarHandle")
    {a : Addr} (Ea : Exa Z h a C)
    (M : Met l Z y bytes maxL ret [] rm as' h Q) {pc : Nat} {Ls : Array Slot} {argsL rest : List Value} {ps : List FieldType} {r : Option FieldType} (hpd : parseMethodDescriptor y.desc = some ⟨ps, r⟩) (hn : argsL.length = ps.length) (has : (.ref a :: argsL).toArray = as') (hsize : Ls.size = c.maxLocals)
    (hd : decode c.code pc = .ok (.invokevirtual index, 3)) {W : Nat} (hW : (rest.map fun v => v.category).sum ≤ W) (hf : rm.frames + 1 ≤ R.frames) (hl : W + (maxL + 11) + rm.locals ≤ R.locals) (hc : cells + rm.cells ≤ R.cells) (hs : slots + rm.slots ≤ R.slots) :
    ∃ (v : Option Value) (T' : State) (L : List Loc), Stand p l e R s m args below meth c T' (locs ++ L) (cells + rm.cells) (slots + rm.slots) ∧ Q v T'.heap L ∧ ∀ {P : State → Outcome → Prop}, Go p e below P T' (mkF m (pc + 3) Ls (v.toList ++ rest)) → Go p e below P T (mkF m pc Ls (argsL.reverse ++ .ref a :: rest)) := by
  obtain ⟨cq, kq, qa, qb, qc⟩ := isOf hZ eT Ea
  obtain ⟨v, vm₁, ⟨T', L', k', n'⟩, -, X', ⟨L, hQ, l1, l2, l3⟩, st⟩ := X.virtualBack hx hown (mvT hZ w1) (mvT hZ w2) (notFace_of_selects (args := #[]) (mvT hZ w6)) (mvT hZ w6) (mvT hZ w7) hy (backOf (W := W) M hZ w4 w3 hf hl) qa qc (g := mkF m pc Ls (argsL.reverse ++ .ref a :: rest)) rfl hsize (Steps.refl _) (lenOf hpd hn) rfl (by show 2 * 0 + _ ≤ _; omega) hd (fun _ _ => ⟨has, eT, hc, hs⟩)
  dsimp only [Pt.U, Pt.locs, Pt.cells, Pt.slots] at X' l1 l2 l3 st hQ
  subst l1 l2 l3
  exact ⟨v, T', L, X', hQ, fun k => Go.via (fun t k => st.trans k) k⟩
end OwnKit
theorem own_pd0 : parseMethodDescriptor "()V" = some ⟨[], none⟩ := by decide +kernel
theorem own_pd1 : parseMethodDescriptor "(II)V" = some ⟨[.int, .int], none⟩ := by decide +kernel
theorem own_pd2 : parseMethodDescriptor "(II)J" = some ⟨[.int, .int], some .long⟩ := by decide +kernel
theorem own_pd3 : parseMethodDescriptor "(Lcom/example/safe_packet_runtime/safepacketruntime/lang/Position;)Z" = some ⟨[(.object "com/example/safe_packet_runtime/safepacketruntime/lang/Position")], some .boolean⟩ := by decide +kernel
def own_key (l k : Int32) : Int64 := ((l.toInt64) <<< ((32 : Int32) &&& 0x3f).toInt64) ||| (((k ^^^ (-2147483648 : Int32)).toInt64) &&& (4294967295 : Int64))
abbrev own_bf (l1 c1 l2 c2 : Int32) : Prop := l1 < l2 ∨ (l1 = l2 ∧ c1 < c2)
theorem own_xorb (b : BitVec 32) : b ^^^ 0x80000000#32 = b + 0x80000000#32 := by
  apply BitVec.eq_of_getLsbD_eq
  intro i hi
  have hc : BitVec.carry i b 0x80000000#32 false = false := by
    have h1 : (0x80000000#32 : BitVec 32).toNat % 2 ^ i = 0 := Nat.mod_eq_zero_of_dvd (show 2 ^ i ∣ 2 ^ 31 from Nat.pow_dvd_pow 2 (by omega))
    have h2 : b.toNat % 2 ^ i < 2 ^ i := Nat.mod_lt _ (Nat.two_pow_pos i)
    simp only [BitVec.carry, h1, Bool.toNat_false, decide_eq_false_iff_not]
    omega
  rw [BitVec.getLsbD_xor, BitVec.getLsbD_add hi, hc, Bool.xor_false]
theorem own_xor (k : Int32) : (k ^^^ (-2147483648 : Int32)) = k + (-2147483648 : Int32) := by
  rw [← Int32.toBitVec_inj]
  exact own_xorb k.toBitVec
theorem own_lo (k : Int32) : ((((k ^^^ (-2147483648 : Int32)).toInt64) &&& (4294967295 : Int64))).toInt = k.toInt + 2147483648 := by
  rw [c_maskL _ 4294967295 32 (by decide) (by decide), Int32.toInt_toInt64, own_xor]
  have h := c_iadd k (-2147483648)
  have h1 := k.le_toInt
  have h2 := k.toInt_lt
  rw [show (-2147483648 : Int32).toInt = -2147483648 from rfl] at h
  show (k + (-2147483648 : Int32)).toInt % 4294967296 = _
  omega
theorem own_keyI (l k : Int32) : (own_key l k).toInt = l.toInt * 4294967296 + (k.toInt + 2147483648) := by
  have h1 := l.le_toInt
  have h2 := l.toInt_lt
  have h3 := k.le_toInt
  have h4 := k.toInt_lt
  have e1 := c_lshl l.toInt64 32 32 (by decide)
  have e2 := own_lo k
  have e3 := rng64 ((l.toInt64) <<< ((32 : Int32) &&& 0x3f).toInt64)
  have e4 := rng64 (own_key l k)
  rw [Int32.toInt_toInt64, show ((2 ^ 32 : Nat) : Int) = 4294967296 from rfl] at e1
  have e5 : ((l.toInt64) <<< ((32 : Int32) &&& 0x3f).toInt64).toInt = l.toInt * 4294967296 := by omega
  have e6 := c_orL ((l.toInt64) <<< ((32 : Int32) &&& 0x3f).toInt64) (((k ^^^ (-2147483648 : Int32)).toInt64) &&& (4294967295 : Int64)) 32 (by decide) 4294967296 rfl (by rw [e5]; omega) (by rw [e2]; omega) (by rw [e2]; omega)
  rw [e5, e2] at e6
  show (((l.toInt64) <<< ((32 : Int32) &&& 0x3f).toInt64) ||| (((k ^^^ (-2147483648 : Int32)).toInt64) &&& (4294967295 : Int64))).toInt = _
  have e7 : (own_key l k).toInt = (((l.toInt64) <<< ((32 : Int32) &&& 0x3f).toInt64) ||| (((k ^^^ (-2147483648 : Int32)).toInt64) &&& (4294967295 : Int64))).toInt := rfl
  omega
theorem own_k (l1 c1 l2 c2 : Int32) : own_bf l1 c1 l2 c2 ↔ own_key l1 c1 < own_key l2 c2 := by
  have h1 := c1.le_toInt
  have h2 := c1.toInt_lt
  have h3 := c2.le_toInt
  have h4 := c2.toInt_lt
  simp only [own_bf, Int32.lt_iff_toInt_lt, Int64.lt_iff_toInt_lt, own_keyI, ← Int32.toInt_inj]
  omega
theorem own_ik (l1 c1 l2 c2 : Int32) : i01 (own_bf l1 c1 l2 c2) = i01 (own_key l1 c1 < own_key l2 c2) := by
  simp only [i01_b, own_k]
theorem own_irr (l1 c1 : Int32) : i01 (own_bf l1 c1 l1 c1) = 0 := by
  rw [i01_0, own_k, Int64.lt_iff_toInt_lt]; omega
theorem own_d2_0 : decode jdk_30_method_1_code 0 = .ok (.aload_n 0, 1) := by decide +kernel
theorem own_d2_1 : decode jdk_30_method_1_code 1 = .ok (.invokespecial 1, 3) := by decide +kernel
theorem own_d2_4 : decode jdk_30_method_1_code 4 = .ok (.return_, 1) := by decide +kernel
theorem own_pn0 : plainName "java/lang/Record" = true := by first | (simp [plainName, overriddenIn]; done) | decide +kernel
theorem ef_own_rec (m : MethodId) (a1 : Addr) : entryFrame m #[(.ref a1)] 1 = mkF m 0 #[.val (.ref a1)] [] := by first | (simp [entryFrame, mkF, argsToLocals, Value.category]; done) | rfl
set_option maxRecDepth 65536 in
set_option maxHeartbeats 40000000 in
theorem own_rec (l : Launch) (Z : State) (a0 : Array Value) (hw : ∀ d ∈ tables_1, d.before a0 Z = true) (ws : List Jvm.Cond) (a1 : Addr)  (h0 : Heap) (n0 : Nat) (Z0 : n0 ≤ h0.size)  :
    Met l Z (⟨"java/lang/Record", "<init>", "()V"⟩ : MethodName) jdk_30_method_1_code 1 none ws ({ frames := 1, cells := 0, slots := 0, locals := 12 } : Room) #[(.ref a1)] h0 (fun v h L => v = none ∧ Fr n0 L ∧ h = h0) := by
  refine Met.of (plainFor_of_name own_pn0) ?_
  intro p e s m below meth c T0 hx hby hml hk hret hnm hown hZ X0 e0
  have N0 := Fr.nil n0
  refine Go.cast (ef_own_rec m a1) ?_
  show Go p e below _ T0 (mkF m 0 #[.val (.ref a1)] [])
  refine Go.via (fun _ k => XS.aloadN X0.here hx rfl (hb hby own_d2_0) rfl (by rfl) k) ?_
  show Go p e below _ T0 (mkF m 1 #[.val (.ref a1)] [(.ref a1)])
  obtain ⟨T1, X1, e1, st1⟩ := initO X0 hx hZ hown (hw _ (List.mem_of_getElem? (i := 11) rfl)) (hw _ (List.mem_of_getElem? (i := 12) rfl)) (hw _ (List.mem_of_getElem? (i := 13) rfl)) e0 (g := (mkF m 1 #[.val (.ref a1)] [(.ref a1)])) rfl (by rw [hml]; rfl) rfl (hb hby own_d2_1) (by decide) (W := 0) (by show 2 * 0 + _ ≤ _; exact Nat.le_of_eq rfl) (by decide)
  refine Go.via (fun _ k => st1 _ k) ?_
  show Go p e below _ T1 (mkF m 4 #[.val (.ref a1)] [])
  refine Go.retV X1 hx hk hret (hb hby own_d2_4) (by decide) (by decide) ?_
  exact ⟨rfl, N0, e1⟩
theorem own_d1_0 : decode prog_51_method_1_code 0 = .ok (.aload_n 0, 1) := by decide +kernel
theorem own_d1_1 : decode prog_51_method_1_code 1 = .ok (.invokespecial 1, 3) := by decide +kernel
theorem own_d1_4 : decode prog_51_method_1_code 4 = .ok (.aload_n 0, 1) := by decide +kernel
theorem own_d1_5 : decode prog_51_method_1_code 5 = .ok (.iload_n 1, 1) := by decide +kernel
theorem own_d1_6 : decode prog_51_method_1_code 6 = .ok (.putfield 7, 3) := by decide +kernel
theorem own_d1_9 : decode prog_51_method_1_code 9 = .ok (.aload_n 0, 1) := by decide +kernel
theorem own_d1_10 : decode prog_51_method_1_code 10 = .ok (.iload_n 2, 1) := by decide +kernel
theorem own_d1_11 : decode prog_51_method_1_code 11 = .ok (.putfield 13, 3) := by decide +kernel
theorem own_d1_14 : decode prog_51_method_1_code 14 = .ok (.return_, 1) := by decide +kernel
theorem own_pn1 : plainName "com/example/safe_packet_runtime/safepacketruntime/lang/Position" = true := by first | (simp [plainName, overriddenIn]; done) | decide +kernel
theorem ef_own_init (m : MethodId) (a1 : Addr) (p2 : Int32) (p3 : Int32) : entryFrame m #[(.ref a1), (.int p2), (.int p3)] 3 = mkF m 0 #[.val (.ref a1), .val (.int p2), .val (.int p3)] [] := by first | (simp [entryFrame, mkF, argsToLocals, Value.category]; done) | rfl
set_option maxRecDepth 65536 in
set_option maxHeartbeats 40000000 in
theorem own_init (l : Launch) (Z : State) (a0 : Array Value) (hw : ∀ d ∈ tables_1, d.before a0 Z = true) (ws : List Jvm.Cond) (a1 : Addr) (p2 : Int32) (p3 : Int32)  (h0 : Heap) (n0 : Nat) (Z0 : n0 ≤ h0.size) (E_a1 : Exa Z h0 a1 "com/example/safe_packet_runtime/safepacketruntime/lang/Position") (F_line : Fld Z h0 a1 "com/example/safe_packet_runtime/safepacketruntime/lang/Position" "line" "I" (.int (0 : Int32))) (F_column : Fld Z h0 a1 "com/example/safe_packet_runtime/safepacketruntime/lang/Position" "column" "I" (.int (0 : Int32))) (g_a : n0 ≤ a1) :
    Met l Z (⟨"com/example/safe_packet_runtime/safepacketruntime/lang/Position", "<init>", "(II)V"⟩ : MethodName) prog_51_method_1_code 3 none ws ({ frames := 2, cells := 0, slots := 0, locals := 24 } : Room) #[(.ref a1), (.int p2), (.int p3)] h0 (fun v h L => v = none ∧ Fr n0 L ∧ Keep h0 h [a1] ∧ Exa Z h a1 "com/example/safe_packet_runtime/safepacketruntime/lang/Position" ∧ Fld Z h a1 "com/example/safe_packet_runtime/safepacketruntime/lang/Position" "line" "I" (.int p2) ∧ Fld Z h a1 "com/example/safe_packet_runtime/safepacketruntime/lang/Position" "column" "I" (.int p3)) := by
  refine Met.of (plainFor_of_name own_pn1) ?_
  intro p e s m below meth c T0 hx hby hml hk hret hnm hown hZ X0 e0
  have N0 := Fr.nil n0
  refine Go.cast (ef_own_init m a1 p2 p3) ?_
  have K0 := Keep.refl h0 [a1]
  show Go p e below _ T0 (mkF m 0 #[.val (.ref a1), .val (.int p2), .val (.int p3)] [])
  refine Go.via (fun _ k => XS.aloadN X0.here hx rfl (hb hby own_d1_0) rfl (by rfl) k) ?_
  show Go p e below _ T0 (mkF m 1 #[.val (.ref a1), .val (.int p2), .val (.int p3)] [(.ref a1)])
  obtain ⟨v1, T1, L1, X1, ⟨rfl, Nq1, eq1⟩, st1⟩ := Go.callN X0 hx hZ hown e0 rfl (hw _ (List.mem_of_getElem? (i := 6) rfl)) (hw _ (List.mem_of_getElem? (i := 7) rfl)) (hw _ (List.mem_of_getElem? (i := 9) rfl)) (hw _ (List.mem_of_getElem? (i := 10) rfl)) (by decide) (own_rec l Z a0 hw [] a1  h0 n0 Z0 ) (pc := 1) (Ls := #[.val (.ref a1), .val (.int p2), .val (.int p3)]) (a := a1) (argsL := []) (rest := []) own_pd0 rfl rfl (by rw [hml]; rfl) (hb hby own_d1_1) (W := 0) (Nat.le_of_eq rfl) (by decide) (by decide) (by decide) (by decide)
  refine st1 ?_
  have N1 := Fr.app N0 Nq1
  show Go p e below _ T1 (mkF m 4 #[.val (.ref a1), .val (.int p2), .val (.int p3)] [])
  refine Go.via (fun _ k => XS.aloadN X1.here hx rfl (hb hby own_d1_4) rfl (by rfl) k) ?_
  show Go p e below _ T1 (mkF m 5 #[.val (.ref a1), .val (.int p2), .val (.int p3)] [(.ref a1)])
  refine Go.via (fun _ k => XS.iloadN X1.here hx rfl (hb hby own_d1_5) rfl  k) ?_
  show Go p e below _ T1 (mkF m 6 #[.val (.ref a1), .val (.int p2), .val (.int p3)] [(.int p2), (.ref a1)])
  obtain ⟨T2, h2, X2, e2, W2, st2⟩ := putF X1 hx hZ hown (host := "") (Or.inl (hw _ (List.mem_of_getElem? (i := 14) rfl))) Via.refl eq1 F_line E_a1 (Or.inr ⟨(hw _ (List.mem_of_getElem? (i := 15) rfl)), rfl, hnm⟩) (hw _ (List.mem_of_getElem? (i := 1) rfl)) (ty := .int) (by decide) rfl rfl (g := (mkF m 6 #[.val (.ref a1), .val (.int p2), .val (.int p3)] [(.int p2), (.ref a1)])) rfl rfl (hb hby own_d1_6)
  refine Go.via (fun _ k => st2 _ k) ?_
  have Z2 : n0 ≤ h2.size := by rw [W2.size]; exact Z0
  have N2 := Fr.snoc X2 N1 g_a
  have E_a1_2 := E_a1.wr W2
  have K0_2 := K0.wr W2 (Or.inl (by simp))
  have F_line_2 := F_line.same W2
  have F_column_2 := F_column.other W2 (Or.inr (slot_ne (t := .int) (t' := .int) (Or.inr (hw _ (List.mem_of_getElem? (i := 17) rfl))) (Or.inr (hw _ (List.mem_of_getElem? (i := 15) rfl))) (by decide) (by decide) (by decide)))
  show Go p e below _ T2 (mkF m 9 #[.val (.ref a1), .val (.int p2), .val (.int p3)] [])
  refine Go.via (fun _ k => XS.aloadN X2.here hx rfl (hb hby own_d1_9) rfl (by rfl) k) ?_
  show Go p e below _ T2 (mkF m 10 #[.val (.ref a1), .val (.int p2), .val (.int p3)] [(.ref a1)])
  refine Go.via (fun _ k => XS.iloadN X2.here hx rfl (hb hby own_d1_10) rfl  k) ?_
  show Go p e below _ T2 (mkF m 11 #[.val (.ref a1), .val (.int p2), .val (.int p3)] [(.int p3), (.ref a1)])
  obtain ⟨T3, h3, X3, e3, W3, st3⟩ := putF X2 hx hZ hown (host := "") (Or.inl (hw _ (List.mem_of_getElem? (i := 16) rfl))) Via.refl e2 F_column_2 E_a1_2 (Or.inr ⟨(hw _ (List.mem_of_getElem? (i := 17) rfl)), rfl, hnm⟩) (hw _ (List.mem_of_getElem? (i := 1) rfl)) (ty := .int) (by decide) rfl rfl (g := (mkF m 11 #[.val (.ref a1), .val (.int p2), .val (.int p3)] [(.int p3), (.ref a1)])) rfl rfl (hb hby own_d1_11)
  refine Go.via (fun _ k => st3 _ k) ?_
  have Z3 : n0 ≤ h3.size := by rw [W3.size]; exact Z2
  have N3 := Fr.snoc X3 N2 g_a
  have E_a1_2_3 := E_a1_2.wr W3
  have K0_2_3 := K0_2.wr W3 (Or.inl (by simp))
  have F_line_2_3 := F_line_2.other W3 (Or.inr (slot_ne (t := .int) (t' := .int) (Or.inr (hw _ (List.mem_of_getElem? (i := 15) rfl))) (Or.inr (hw _ (List.mem_of_getElem? (i := 17) rfl))) (by decide) (by decide) (by decide)))
  have F_column_2_3 := F_column_2.same W3
  show Go p e below _ T3 (mkF m 14 #[.val (.ref a1), .val (.int p2), .val (.int p3)] [])
  refine Go.retV X3 hx hk hret (hb hby own_d1_14) (by decide) (by decide) ?_
  rw [e3]
  exact ⟨rfl, N3, K0_2_3, E_a1_2_3, F_line_2_3, F_column_2_3⟩
theorem own_d4_0 : decode method_2_code 0 = .ok (.iload_n 0, 1) := by decide +kernel
theorem own_d4_1 : decode method_2_code 1 = .ok (.i2l, 1) := by decide +kernel
theorem own_d4_2 : decode method_2_code 2 = .ok (.bipush 32, 2) := by decide +kernel
theorem own_d4_4 : decode method_2_code 4 = .ok (.lshl, 1) := by decide +kernel
theorem own_d4_5 : decode method_2_code 5 = .ok (.iload_n 1, 1) := by decide +kernel
theorem own_d4_6 : decode method_2_code 6 = .ok (.ldc 7, 2) := by decide +kernel
theorem own_d4_8 : decode method_2_code 8 = .ok (.ixor, 1) := by decide +kernel
theorem own_d4_9 : decode method_2_code 9 = .ok (.i2l, 1) := by decide +kernel
theorem own_d4_10 : decode method_2_code 10 = .ok (.ldc2_w 8, 3) := by decide +kernel
theorem own_d4_13 : decode method_2_code 13 = .ok (.land, 1) := by decide +kernel
theorem own_d4_14 : decode method_2_code 14 = .ok (.lor, 1) := by decide +kernel
theorem own_d4_15 : decode method_2_code 15 = .ok (.lreturn, 1) := by decide +kernel
theorem own_pn2 : plainName "com/example/safe_packet_runtime/safepacketruntime/lang/PositionIsBeforePinLaw" = true := by first | (simp [plainName, overriddenIn]; done) | decide +kernel
theorem ef_own_mkey (m : MethodId) (p1 : Int32) (p2 : Int32) : entryFrame m #[(.int p1), (.int p2)] 2 = mkF m 0 #[.val (.int p1), .val (.int p2)] [] := by first | (simp [entryFrame, mkF, argsToLocals, Value.category]; done) | rfl
set_option maxRecDepth 65536 in
set_option maxHeartbeats 40000000 in
theorem own_mkey (l : Launch) (Z : State) (a0 : Array Value) (hw : ∀ d ∈ tables_1, d.before a0 Z = true) (ws : List Jvm.Cond) (p1 : Int32) (p2 : Int32)  (h0 : Heap) (n0 : Nat) (Z0 : n0 ≤ h0.size)  :
    Met l Z (⟨"com/example/safe_packet_runtime/safepacketruntime/lang/PositionIsBeforePinLaw", "key", "(II)J"⟩ : MethodName) method_2_code 2 (some .long) ws ({ frames := 0, cells := 0, slots := 0, locals := 0 } : Room) #[(.int p1), (.int p2)] h0 (fun v h L => v = some (.long (own_key p1 p2)) ∧ Fr n0 L ∧ h = h0) := by
  refine Met.of (plainFor_of_name own_pn2) ?_
  intro p e s m below meth c T0 hx hby hml hk hret hnm hown hZ X0 e0
  have N0 := Fr.nil n0
  refine Go.cast (ef_own_mkey m p1 p2) ?_
  show Go p e below _ T0 (mkF m 0 #[.val (.int p1), .val (.int p2)] [])
  refine Go.via (fun _ k => XS.iloadN X0.here hx rfl (hb hby own_d4_0) rfl  k) ?_
  show Go p e below _ T0 (mkF m 1 #[.val (.int p1), .val (.int p2)] [(.int p1)])
  refine Go.via (fun _ k => XS.i2l X0.here hx rfl (hb hby own_d4_1) rfl k) ?_
  show Go p e below _ T0 (mkF m 2 #[.val (.int p1), .val (.int p2)] [(.long (p1.toInt64))])
  refine Go.via (fun _ k => XS.bipush X0.here hx rfl (hb hby own_d4_2) k) ?_
  show Go p e below _ T0 (mkF m 4 #[.val (.int p1), .val (.int p2)] [(.int (32 : Int32)), (.long (p1.toInt64))])
  refine Go.via (fun _ k => XS.lshl X0.here hx rfl (hb hby own_d4_4) rfl k) ?_
  show Go p e below _ T0 (mkF m 5 #[.val (.int p1), .val (.int p2)] [(.long ((p1.toInt64) <<< ((32 : Int32) &&& 0x3f).toInt64))])
  refine Go.via (fun _ k => XS.iloadN X0.here hx rfl (hb hby own_d4_5) rfl  k) ?_
  show Go p e below _ T0 (mkF m 6 #[.val (.int p1), .val (.int p2)] [(.int p2), (.long ((p1.toInt64) <<< ((32 : Int32) &&& 0x3f).toInt64))])
  refine Go.via (fun _ k => Stand.ldcInt X0 hx hown (mvT hZ (hw _ (List.mem_of_getElem? (i := 22) rfl))) (g := (mkF m 6 #[.val (.int p1), .val (.int p2)] [(.int p2), (.long ((p1.toInt64) <<< ((32 : Int32) &&& 0x3f).toInt64))])) rfl (hb hby own_d4_6) _ k) ?_
  show Go p e below _ T0 (mkF m 8 #[.val (.int p1), .val (.int p2)] [(.int (-2147483648 : Int32)), (.int p2), (.long ((p1.toInt64) <<< ((32 : Int32) &&& 0x3f).toInt64))])
  refine Go.via (fun _ k => XS.ixor X0.here hx rfl (hb hby own_d4_8) rfl k) ?_
  show Go p e below _ T0 (mkF m 9 #[.val (.int p1), .val (.int p2)] [(.int (p2 ^^^ (-2147483648 : Int32))), (.long ((p1.toInt64) <<< ((32 : Int32) &&& 0x3f).toInt64))])
  refine Go.via (fun _ k => XS.i2l X0.here hx rfl (hb hby own_d4_9) rfl k) ?_
  show Go p e below _ T0 (mkF m 10 #[.val (.int p1), .val (.int p2)] [(.long ((p2 ^^^ (-2147483648 : Int32)).toInt64)), (.long ((p1.toInt64) <<< ((32 : Int32) &&& 0x3f).toInt64))])
  refine Go.via (fun _ k => Stand.ldc2Long X0 hx hown (mvT hZ (hw _ (List.mem_of_getElem? (i := 23) rfl))) (g := (mkF m 10 #[.val (.int p1), .val (.int p2)] [(.long ((p2 ^^^ (-2147483648 : Int32)).toInt64)), (.long ((p1.toInt64) <<< ((32 : Int32) &&& 0x3f).toInt64))])) rfl (hb hby own_d4_10) _ k) ?_
  show Go p e below _ T0 (mkF m 13 #[.val (.int p1), .val (.int p2)] [(.long (4294967295 : Int64)), (.long ((p2 ^^^ (-2147483648 : Int32)).toInt64)), (.long ((p1.toInt64) <<< ((32 : Int32) &&& 0x3f).toInt64))])
  refine Go.via (fun _ k => XS.land X0.here hx rfl (hb hby own_d4_13) rfl k) ?_
  show Go p e below _ T0 (mkF m 14 #[.val (.int p1), .val (.int p2)] [(.long (((p2 ^^^ (-2147483648 : Int32)).toInt64) &&& (4294967295 : Int64))), (.long ((p1.toInt64) <<< ((32 : Int32) &&& 0x3f).toInt64))])
  refine Go.via (fun _ k => XS.lor X0.here hx rfl (hb hby own_d4_14) rfl k) ?_
  show Go p e below _ T0 (mkF m 15 #[.val (.int p1), .val (.int p2)] [(.long (((p1.toInt64) <<< ((32 : Int32) &&& 0x3f).toInt64) ||| (((p2 ^^^ (-2147483648 : Int32)).toInt64) &&& (4294967295 : Int64))))])
  refine Go.retJ X0 hx hk hret (hb hby own_d4_15) (by decide) (by decide) ?_
  exact ⟨rfl, N0, e0⟩
theorem own_d5_0 : decode prog_51_method_2_code 0 = .ok (.aload_n 0, 1) := by decide +kernel
theorem own_d5_1 : decode prog_51_method_2_code 1 = .ok (.getfield 7, 3) := by decide +kernel
theorem own_d5_4 : decode prog_51_method_2_code 4 = .ok (.aload_n 1, 1) := by decide +kernel
theorem own_d5_5 : decode prog_51_method_2_code 5 = .ok (.getfield 7, 3) := by decide +kernel
theorem own_d5_8 : decode prog_51_method_2_code 8 = .ok (.if_icmp .lt 25, 3) := by decide +kernel
theorem own_d5_11 : decode prog_51_method_2_code 11 = .ok (.aload_n 0, 1) := by decide +kernel
theorem own_d5_12 : decode prog_51_method_2_code 12 = .ok (.getfield 7, 3) := by decide +kernel
theorem own_d5_15 : decode prog_51_method_2_code 15 = .ok (.aload_n 1, 1) := by decide +kernel
theorem own_d5_16 : decode prog_51_method_2_code 16 = .ok (.getfield 7, 3) := by decide +kernel
theorem own_d5_19 : decode prog_51_method_2_code 19 = .ok (.if_icmp .ne 18, 3) := by decide +kernel
theorem own_d5_22 : decode prog_51_method_2_code 22 = .ok (.aload_n 0, 1) := by decide +kernel
theorem own_d5_23 : decode prog_51_method_2_code 23 = .ok (.getfield 13, 3) := by decide +kernel
theorem own_d5_26 : decode prog_51_method_2_code 26 = .ok (.aload_n 1, 1) := by decide +kernel
theorem own_d5_27 : decode prog_51_method_2_code 27 = .ok (.getfield 13, 3) := by decide +kernel
theorem own_d5_30 : decode prog_51_method_2_code 30 = .ok (.if_icmp .ge 7, 3) := by decide +kernel
theorem own_d5_33 : decode prog_51_method_2_code 33 = .ok (.iconst 1, 1) := by decide +kernel
theorem own_d5_34 : decode prog_51_method_2_code 34 = .ok (.goto 4, 3) := by decide +kernel
theorem own_d5_37 : decode prog_51_method_2_code 37 = .ok (.iconst 0, 1) := by decide +kernel
theorem own_d5_38 : decode prog_51_method_2_code 38 = .ok (.ireturn, 1) := by decide +kernel
theorem ef_own_isb (m : MethodId) (a1 : Addr) (a2 : Addr) : entryFrame m #[(.ref a1), (.ref a2)] 2 = mkF m 0 #[.val (.ref a1), .val (.ref a2)] [] := by first | (simp [entryFrame, mkF, argsToLocals, Value.category]; done) | rfl
set_option maxRecDepth 65536 in
set_option maxHeartbeats 40000000 in
theorem own_isb (l : Launch) (Z : State) (a0 : Array Value) (hw : ∀ d ∈ tables_1, d.before a0 Z = true) (ws : List Jvm.Cond) (a1 : Addr) (a2 : Addr) (l1 c1 l2 c2 : Int32) (h0 : Heap) (n0 : Nat) (Z0 : n0 ≤ h0.size) (F_line_a1 : Fld Z h0 a1 "com/example/safe_packet_runtime/safepacketruntime/lang/Position" "line" "I" (.int l1)) (F_column_a1 : Fld Z h0 a1 "com/example/safe_packet_runtime/safepacketruntime/lang/Position" "column" "I" (.int c1)) (F_line_a2 : Fld Z h0 a2 "com/example/safe_packet_runtime/safepacketruntime/lang/Position" "line" "I" (.int l2)) (F_column_a2 : Fld Z h0 a2 "com/example/safe_packet_runtime/safepacketruntime/lang/Position" "column" "I" (.int c2)) :
    Met l Z (⟨"com/example/safe_packet_runtime/safepacketruntime/lang/Position", "isBefore", "(Lcom/example/safe_packet_runtime/safepacketruntime/lang/Position;)Z"⟩ : MethodName) prog_51_method_2_code 2 (some .boolean) ws ({ frames := 0, cells := 0, slots := 0, locals := 0 } : Room) #[(.ref a1), (.ref a2)] h0 (fun v h L => v = some (.int (i01 (own_bf l1 c1 l2 c2))) ∧ Fr n0 L ∧ h = h0) := by
  refine Met.of (plainFor_of_name own_pn1) ?_
  intro p e s m below meth c T0 hx hby hml hk hret hnm hown hZ X0 e0
  have N0 := Fr.nil n0
  refine Go.cast (ef_own_isb m a1 a2) ?_
  show Go p e below _ T0 (mkF m 0 #[.val (.ref a1), .val (.ref a2)] [])
  refine Go.via (fun _ k => XS.aloadN X0.here hx rfl (hb hby own_d5_0) rfl (by rfl) k) ?_
  show Go p e below _ T0 (mkF m 1 #[.val (.ref a1), .val (.ref a2)] [(.ref a1)])
  obtain ⟨T1, X1, e1, st1⟩ := getF X0 hx hZ hown (host := "") (Or.inl (hw _ (List.mem_of_getElem? (i := 14) rfl))) Via.refl e0 F_line_a1 (g := (mkF m 1 #[.val (.ref a1), .val (.ref a2)] [(.ref a1)])) rfl rfl (hb hby own_d5_1)
  refine Go.via (fun _ k => st1 _ k) ?_
  show Go p e below _ T1 (mkF m 4 #[.val (.ref a1), .val (.ref a2)] [(.int l1)])
  refine Go.via (fun _ k => XS.aloadN X1.here hx rfl (hb hby own_d5_4) rfl (by rfl) k) ?_
  show Go p e below _ T1 (mkF m 5 #[.val (.ref a1), .val (.ref a2)] [(.ref a2), (.int l1)])
  obtain ⟨T2, X2, e2, st2⟩ := getF X1 hx hZ hown (host := "") (Or.inl (hw _ (List.mem_of_getElem? (i := 14) rfl))) Via.refl e1 F_line_a2 (g := (mkF m 5 #[.val (.ref a1), .val (.ref a2)] [(.ref a2), (.int l1)])) rfl rfl (hb hby own_d5_5)
  refine Go.via (fun _ k => st2 _ k) ?_
  show Go p e below _ T2 (mkF m 8 #[.val (.ref a1), .val (.ref a2)] [(.int l2), (.int l1)])
  by_cases hc8 : l1 < l2
  · skip
    refine Go.via (fun _ k => XS.icmpYes X2.here hx rfl (pc0 := 8) (pc' := 33) rfl (hb hby own_d5_8) rfl (tlt hc8).1 (by decide) (by decide) k) ?_
    show Go p e below _ T2 (mkF m 33 #[.val (.ref a1), .val (.ref a2)] [])
    refine Go.via (fun _ k => XS.iconst X2.here hx rfl (hb hby own_d5_33) k) ?_
    show Go p e below _ T2 (mkF m 34 #[.val (.ref a1), .val (.ref a2)] [(.int (1 : Int32))])
    refine Go.via (fun _ k => XS.goto X2.here hx rfl (pc0 := 34) (pc' := 38) rfl (hb hby own_d5_34) (by decide) (by decide) k) ?_
    show Go p e below _ T2 (mkF m 38 #[.val (.ref a1), .val (.ref a2)] [(.int (1 : Int32))])
    refine Go.retN X2 hx hk (hret : meth.sig.returnType = some .boolean) (t := .boolean) (by simp) (hb hby own_d5_38) (by decide) (by decide) ?_
    exact ⟨by rw [show i01 (own_bf l1 c1 l2 c2) = _ from i01_t (Or.inl hc8)]; rfl, N0, e2⟩
  · skip
    refine Go.via (fun _ k => XS.icmpNo X2.here hx rfl (hb hby own_d5_8) rfl (flt hc8).1 k) ?_
    show Go p e below _ T2 (mkF m 11 #[.val (.ref a1), .val (.ref a2)] [])
    refine Go.via (fun _ k => XS.aloadN X2.here hx rfl (hb hby own_d5_11) rfl (by rfl) k) ?_
    show Go p e below _ T2 (mkF m 12 #[.val (.ref a1), .val (.ref a2)] [(.ref a1)])
    obtain ⟨T3, X3, e3, st3⟩ := getF X2 hx hZ hown (host := "") (Or.inl (hw _ (List.mem_of_getElem? (i := 14) rfl))) Via.refl e2 F_line_a1 (g := (mkF m 12 #[.val (.ref a1), .val (.ref a2)] [(.ref a1)])) rfl rfl (hb hby own_d5_12)
    refine Go.via (fun _ k => st3 _ k) ?_
    show Go p e below _ T3 (mkF m 15 #[.val (.ref a1), .val (.ref a2)] [(.int l1)])
    refine Go.via (fun _ k => XS.aloadN X3.here hx rfl (hb hby own_d5_15) rfl (by rfl) k) ?_
    show Go p e below _ T3 (mkF m 16 #[.val (.ref a1), .val (.ref a2)] [(.ref a2), (.int l1)])
    obtain ⟨T4, X4, e4, st4⟩ := getF X3 hx hZ hown (host := "") (Or.inl (hw _ (List.mem_of_getElem? (i := 14) rfl))) Via.refl e3 F_line_a2 (g := (mkF m 16 #[.val (.ref a1), .val (.ref a2)] [(.ref a2), (.int l1)])) rfl rfl (hb hby own_d5_16)
    refine Go.via (fun _ k => st4 _ k) ?_
    show Go p e below _ T4 (mkF m 19 #[.val (.ref a1), .val (.ref a2)] [(.int l2), (.int l1)])
    by_cases hc19 : l1 = l2
    · skip
      refine Go.via (fun _ k => XS.icmpNo X4.here hx rfl (hb hby own_d5_19) rfl (teq hc19).2 k) ?_
      show Go p e below _ T4 (mkF m 22 #[.val (.ref a1), .val (.ref a2)] [])
      refine Go.via (fun _ k => XS.aloadN X4.here hx rfl (hb hby own_d5_22) rfl (by rfl) k) ?_
      show Go p e below _ T4 (mkF m 23 #[.val (.ref a1), .val (.ref a2)] [(.ref a1)])
      obtain ⟨T5, X5, e5, st5⟩ := getF X4 hx hZ hown (host := "") (Or.inl (hw _ (List.mem_of_getElem? (i := 16) rfl))) Via.refl e4 F_column_a1 (g := (mkF m 23 #[.val (.ref a1), .val (.ref a2)] [(.ref a1)])) rfl rfl (hb hby own_d5_23)
      refine Go.via (fun _ k => st5 _ k) ?_
      show Go p e below _ T5 (mkF m 26 #[.val (.ref a1), .val (.ref a2)] [(.int c1)])
      refine Go.via (fun _ k => XS.aloadN X5.here hx rfl (hb hby own_d5_26) rfl (by rfl) k) ?_
      show Go p e below _ T5 (mkF m 27 #[.val (.ref a1), .val (.ref a2)] [(.ref a2), (.int c1)])
      obtain ⟨T6, X6, e6, st6⟩ := getF X5 hx hZ hown (host := "") (Or.inl (hw _ (List.mem_of_getElem? (i := 16) rfl))) Via.refl e5 F_column_a2 (g := (mkF m 27 #[.val (.ref a1), .val (.ref a2)] [(.ref a2), (.int c1)])) rfl rfl (hb hby own_d5_27)
      refine Go.via (fun _ k => st6 _ k) ?_
      show Go p e below _ T6 (mkF m 30 #[.val (.ref a1), .val (.ref a2)] [(.int c2), (.int c1)])
      by_cases hc30 : c1 < c2
      · skip
        refine Go.via (fun _ k => XS.icmpNo X6.here hx rfl (hb hby own_d5_30) rfl (tlt hc30).2.1 k) ?_
        show Go p e below _ T6 (mkF m 33 #[.val (.ref a1), .val (.ref a2)] [])
        refine Go.via (fun _ k => XS.iconst X6.here hx rfl (hb hby own_d5_33) k) ?_
        show Go p e below _ T6 (mkF m 34 #[.val (.ref a1), .val (.ref a2)] [(.int (1 : Int32))])
        refine Go.via (fun _ k => XS.goto X6.here hx rfl (pc0 := 34) (pc' := 38) rfl (hb hby own_d5_34) (by decide) (by decide) k) ?_
        show Go p e below _ T6 (mkF m 38 #[.val (.ref a1), .val (.ref a2)] [(.int (1 : Int32))])
        refine Go.retN X6 hx hk (hret : meth.sig.returnType = some .boolean) (t := .boolean) (by simp) (hb hby own_d5_38) (by decide) (by decide) ?_
        exact ⟨by rw [show i01 (own_bf l1 c1 l2 c2) = _ from i01_t (Or.inr ⟨hc19, hc30⟩)]; rfl, N0, e6⟩
      · skip
        refine Go.via (fun _ k => XS.icmpYes X6.here hx rfl (pc0 := 30) (pc' := 37) rfl (hb hby own_d5_30) rfl (flt hc30).2.1 (by decide) (by decide) k) ?_
        show Go p e below _ T6 (mkF m 37 #[.val (.ref a1), .val (.ref a2)] [])
        refine Go.via (fun _ k => XS.iconst X6.here hx rfl (hb hby own_d5_37) k) ?_
        show Go p e below _ T6 (mkF m 38 #[.val (.ref a1), .val (.ref a2)] [(.int (0 : Int32))])
        refine Go.retN X6 hx hk (hret : meth.sig.returnType = some .boolean) (t := .boolean) (by simp) (hb hby own_d5_38) (by decide) (by decide) ?_
        exact ⟨by rw [show i01 (own_bf l1 c1 l2 c2) = _ from i01_f (fun q => q.elim hc8 (fun u => hc30 u.2))]; rfl, N0, e6⟩
    · skip
      refine Go.via (fun _ k => XS.icmpYes X4.here hx rfl (pc0 := 19) (pc' := 37) rfl (hb hby own_d5_19) rfl (feq hc19).2 (by decide) (by decide) k) ?_
      show Go p e below _ T4 (mkF m 37 #[.val (.ref a1), .val (.ref a2)] [])
      refine Go.via (fun _ k => XS.iconst X4.here hx rfl (hb hby own_d5_37) k) ?_
      show Go p e below _ T4 (mkF m 38 #[.val (.ref a1), .val (.ref a2)] [(.int (0 : Int32))])
      refine Go.retN X4 hx hk (hret : meth.sig.returnType = some .boolean) (t := .boolean) (by simp) (hb hby own_d5_38) (by decide) (by decide) ?_
      exact ⟨by rw [show i01 (own_bf l1 c1 l2 c2) = _ from i01_f (fun q => q.elim hc8 (fun u => hc19 u.1))]; rfl, N0, e4⟩
theorem ef_own_m0 (m : MethodId) (p1 : Int32) (p2 : Int32) (p3 : Int32) (p4 : Int32) (p5 : Int32) : entryFrame m #[(.int p1), (.int p2), (.int p3), (.int p4), (.int p5)] maxLocals = mkF m 0 #[.val (.int p1), .val (.int p2), .val (.int p3), .val (.int p4), .val (.int p5), .unset, .unset, .unset, .unset, .unset, .unset, .unset, .unset, .unset, .unset, .unset] [] := by first | (simp [entryFrame, mkF, argsToLocals, Value.category, maxLocals]; done) | rfl
set_option maxRecDepth 65536 in
set_option maxHeartbeats 40000000 in
theorem own_m0 (l : Launch) (Z : State) (a0 : Array Value) (hw : ∀ d ∈ tables_1, d.before a0 Z = true) (ws : List Jvm.Cond) (p1 : Int32) (p2 : Int32) (p3 : Int32) (p4 : Int32) (p5 : Int32)  (h0 : Heap) (n0 : Nat) (Z0 : n0 ≤ h0.size)  :
    Met l Z x code maxLocals ret ws room_1 #[(.int p1), (.int p2), (.int p3), (.int p4), (.int p5)] h0 (fun v h L => v = some (.int 1) ∧ Fr n0 L) := by
  refine Met.of (plainFor_of_name own_pn2) ?_
  intro p e s m below meth c T0 hx hby hml hk hret hnm hown hZ X0 e0
  have N0 := Fr.nil n0
  refine Go.cast (ef_own_m0 m p1 p2 p3 p4 p5) ?_
  refine Go.cutA (α := Int32) (T' := T0) (g' := fun q1 => (mkF m 12 #[.val (.int p1), .val (.int p2), .val (.int p3), .val (.int p4), .val (.int p5), .unset, .unset, .unset, .unset, .unset, .unset, .unset, .unset, .unset, .unset, .unset] [(.int q1)])) (fun J1 => ?_) (fun q1 => ?_)
  · skip
    show Go p e below _ T0 (mkF m 0 #[.val (.int p1), .val (.int p2), .val (.int p3), .val (.int p4), .val (.int p5), .unset, .unset, .unset, .unset, .unset, .unset, .unset, .unset, .unset, .unset, .unset] [])
    refine Go.via (fun _ k => XS.iload X0.here hx rfl (hb hby at_0) rfl  k) ?_
    show Go p e below _ T0 (mkF m 2 #[.val (.int p1), .val (.int p2), .val (.int p3), .val (.int p4), .val (.int p5), .unset, .unset, .unset, .unset, .unset, .unset, .unset, .unset, .unset, .unset, .unset] [(.int p5)])
    refine Go.via (fun _ k => XS.iconst X0.here hx rfl (hb hby at_2) k) ?_
    show Go p e below _ T0 (mkF m 3 #[.val (.int p1), .val (.int p2), .val (.int p3), .val (.int p4), .val (.int p5), .unset, .unset, .unset, .unset, .unset, .unset, .unset, .unset, .unset, .unset, .unset] [(.int (1 : Int32)), (.int p5)])
    refine Go.via (fun _ k => XS.iand X0.here hx rfl (hb hby at_3) rfl k) ?_
    show Go p e below _ T0 (mkF m 4 #[.val (.int p1), .val (.int p2), .val (.int p3), .val (.int p4), .val (.int p5), .unset, .unset, .unset, .unset, .unset, .unset, .unset, .unset, .unset, .unset, .unset] [(.int (p5 &&& (1 : Int32)))])
    by_cases hc4 : (p5 &&& (1 : Int32)) = (0 : Int32)
    · skip
      refine Go.via (fun _ k => XS.ifYes X0.here hx rfl (pc0 := 4) (pc' := 11) rfl (hb hby at_4) rfl ((if0 _ _).trans (teq hc4).1) (by decide) (by decide) k) ?_
      show Go p e below _ T0 (mkF m 11 #[.val (.int p1), .val (.int p2), .val (.int p3), .val (.int p4), .val (.int p5), .unset, .unset, .unset, .unset, .unset, .unset, .unset, .unset, .unset, .unset, .unset] [])
      refine Go.via (fun _ k => XS.iloadN X0.here hx rfl (hb hby at_11) rfl  k) ?_
      exact J1 _
    · skip
      refine Go.via (fun _ k => XS.ifNo X0.here hx rfl (hb hby at_4) rfl ((if0 _ _).trans (feq hc4).1) k) ?_
      show Go p e below _ T0 (mkF m 7 #[.val (.int p1), .val (.int p2), .val (.int p3), .val (.int p4), .val (.int p5), .unset, .unset, .unset, .unset, .unset, .unset, .unset, .unset, .unset, .unset, .unset] [])
      refine Go.via (fun _ k => XS.iloadN X0.here hx rfl (hb hby at_7) rfl  k) ?_
      show Go p e below _ T0 (mkF m 8 #[.val (.int p1), .val (.int p2), .val (.int p3), .val (.int p4), .val (.int p5), .unset, .unset, .unset, .unset, .unset, .unset, .unset, .unset, .unset, .unset, .unset] [(.int p1)])
      refine Go.via (fun _ k => XS.goto X0.here hx rfl (pc0 := 8) (pc' := 12) rfl (hb hby at_8) (by decide) (by decide) k) ?_
      exact J1 _
  show Go p e below _ T0 (mkF m 12 #[.val (.int p1), .val (.int p2), .val (.int p3), .val (.int p4), .val (.int p5), .unset, .unset, .unset, .unset, .unset, .unset, .unset, .unset, .unset, .unset, .unset] [(.int q1)])
  refine Go.via (fun _ k => XS.istore X0.here hx rfl (hb hby at_12) rfl (l' := #[.val (.int p1), .val (.int p2), .val (.int p3), .val (.int p4), .val (.int p5), .val (.int q1), .unset, .unset, .unset, .unset, .unset, .unset, .unset, .unset, .unset, .unset]) rfl k) ?_
  refine Go.cutA (α := Int32) (T' := T0) (g' := fun q2 => (mkF m 26 #[.val (.int p1), .val (.int p2), .val (.int p3), .val (.int p4), .val (.int p5), .val (.int q1), .unset, .unset, .unset, .unset, .unset, .unset, .unset, .unset, .unset, .unset] [(.int q2)])) (fun J2 => ?_) (fun q2 => ?_)
  · skip
    show Go p e below _ T0 (mkF m 14 #[.val (.int p1), .val (.int p2), .val (.int p3), .val (.int p4), .val (.int p5), .val (.int q1), .unset, .unset, .unset, .unset, .unset, .unset, .unset, .unset, .unset, .unset] [])
    refine Go.via (fun _ k => XS.iload X0.here hx rfl (hb hby at_14) rfl  k) ?_
    show Go p e below _ T0 (mkF m 16 #[.val (.int p1), .val (.int p2), .val (.int p3), .val (.int p4), .val (.int p5), .val (.int q1), .unset, .unset, .unset, .unset, .unset, .unset, .unset, .unset, .unset, .unset] [(.int p5)])
    refine Go.via (fun _ k => XS.iconst X0.here hx rfl (hb hby at_16) k) ?_
    show Go p e below _ T0 (mkF m 17 #[.val (.int p1), .val (.int p2), .val (.int p3), .val (.int p4), .val (.int p5), .val (.int q1), .unset, .unset, .unset, .unset, .unset, .unset, .unset, .unset, .unset, .unset] [(.int (2 : Int32)), (.int p5)])
    refine Go.via (fun _ k => XS.iand X0.here hx rfl (hb hby at_17) rfl k) ?_
    show Go p e below _ T0 (mkF m 18 #[.val (.int p1), .val (.int p2), .val (.int p3), .val (.int p4), .val (.int p5), .val (.int q1), .unset, .unset, .unset, .unset, .unset, .unset, .unset, .unset, .unset, .unset] [(.int (p5 &&& (2 : Int32)))])
    by_cases hc18 : (p5 &&& (2 : Int32)) = (0 : Int32)
    · skip
      refine Go.via (fun _ k => XS.ifYes X0.here hx rfl (pc0 := 18) (pc' := 25) rfl (hb hby at_18) rfl ((if0 _ _).trans (teq hc18).1) (by decide) (by decide) k) ?_
      show Go p e below _ T0 (mkF m 25 #[.val (.int p1), .val (.int p2), .val (.int p3), .val (.int p4), .val (.int p5), .val (.int q1), .unset, .unset, .unset, .unset, .unset, .unset, .unset, .unset, .unset, .unset] [])
      refine Go.via (fun _ k => XS.iloadN X0.here hx rfl (hb hby at_25) rfl  k) ?_
      exact J2 _
    · skip
      refine Go.via (fun _ k => XS.ifNo X0.here hx rfl (hb hby at_18) rfl ((if0 _ _).trans (feq hc18).1) k) ?_
      show Go p e below _ T0 (mkF m 21 #[.val (.int p1), .val (.int p2), .val (.int p3), .val (.int p4), .val (.int p5), .val (.int q1), .unset, .unset, .unset, .unset, .unset, .unset, .unset, .unset, .unset, .unset] [])
      refine Go.via (fun _ k => XS.iloadN X0.here hx rfl (hb hby at_21) rfl  k) ?_
      show Go p e below _ T0 (mkF m 22 #[.val (.int p1), .val (.int p2), .val (.int p3), .val (.int p4), .val (.int p5), .val (.int q1), .unset, .unset, .unset, .unset, .unset, .unset, .unset, .unset, .unset, .unset] [(.int p2)])
      refine Go.via (fun _ k => XS.goto X0.here hx rfl (pc0 := 22) (pc' := 26) rfl (hb hby at_22) (by decide) (by decide) k) ?_
      exact J2 _
  show Go p e below _ T0 (mkF m 26 #[.val (.int p1), .val (.int p2), .val (.int p3), .val (.int p4), .val (.int p5), .val (.int q1), .unset, .unset, .unset, .unset, .unset, .unset, .unset, .unset, .unset, .unset] [(.int q2)])
  refine Go.via (fun _ k => XS.istore X0.here hx rfl (hb hby at_26) rfl (l' := #[.val (.int p1), .val (.int p2), .val (.int p3), .val (.int p4), .val (.int p5), .val (.int q1), .val (.int q2), .unset, .unset, .unset, .unset, .unset, .unset, .unset, .unset, .unset]) rfl k) ?_
  show Go p e below _ T0 (mkF m 28 #[.val (.int p1), .val (.int p2), .val (.int p3), .val (.int p4), .val (.int p5), .val (.int q1), .val (.int q2), .unset, .unset, .unset, .unset, .unset, .unset, .unset, .unset, .unset] [])
  obtain ⟨T3, h3, X3, e3, E3, A3, D3, -, st3⟩ := newO X0 hx hZ hown (hw _ (List.mem_of_getElem? (i := 0) rfl)) (hw _ (List.mem_of_getElem? (i := 1) rfl)) (hw _ (List.mem_of_getElem? (i := 2) rfl)) e0 (g := (mkF m 28 #[.val (.int p1), .val (.int p2), .val (.int p3), .val (.int p4), .val (.int p5), .val (.int q1), .val (.int q2), .unset, .unset, .unset, .unset, .unset, .unset, .unset, .unset, .unset] [])) rfl (hb hby at_28) (by decide) (by decide)
  obtain ⟨b3, g3⟩ : ∃ z, z = h0.size := ⟨_, rfl⟩
  rw [← g3] at A3 D3 st3
  refine Go.via (fun _ k => st3 _ k) ?_
  have ge_b3 : n0 ≤ b3 := Nat.le_trans Z0 (Nat.le_of_eq g3.symm)
  have Z3 : n0 ≤ h3.size := Nat.le_trans Z0 E3.1
  have F_line_3 : Fld Z h3 b3 "com/example/safe_packet_runtime/safepacketruntime/lang/Position" "line" "I" (.int (0 : Int32)) := D3 (Or.inr (hw _ (List.mem_of_getElem? (i := 15) rfl))) (ty := .int) (by decide)
  have F_column_3 : Fld Z h3 b3 "com/example/safe_packet_runtime/safepacketruntime/lang/Position" "column" "I" (.int (0 : Int32)) := D3 (Or.inr (hw _ (List.mem_of_getElem? (i := 17) rfl))) (ty := .int) (by decide)
  show Go p e below _ T3 (mkF m 31 #[.val (.int p1), .val (.int p2), .val (.int p3), .val (.int p4), .val (.int p5), .val (.int q1), .val (.int q2), .unset, .unset, .unset, .unset, .unset, .unset, .unset, .unset, .unset] [(.ref b3)])
  refine Go.via (fun _ k => XS.dup X3.here hx rfl (hb hby at_31) rfl (by rfl) k) ?_
  show Go p e below _ T3 (mkF m 32 #[.val (.int p1), .val (.int p2), .val (.int p3), .val (.int p4), .val (.int p5), .val (.int q1), .val (.int q2), .unset, .unset, .unset, .unset, .unset, .unset, .unset, .unset, .unset] [(.ref b3), (.ref b3)])
  refine Go.via (fun _ k => XS.iloadN X3.here hx rfl (hb hby at_32) rfl  k) ?_
  show Go p e below _ T3 (mkF m 33 #[.val (.int p1), .val (.int p2), .val (.int p3), .val (.int p4), .val (.int p5), .val (.int q1), .val (.int q2), .unset, .unset, .unset, .unset, .unset, .unset, .unset, .unset, .unset] [(.int p1), (.ref b3), (.ref b3)])
  refine Go.via (fun _ k => XS.iloadN X3.here hx rfl (hb hby at_33) rfl  k) ?_
  show Go p e below _ T3 (mkF m 34 #[.val (.int p1), .val (.int p2), .val (.int p3), .val (.int p4), .val (.int p5), .val (.int q1), .val (.int q2), .unset, .unset, .unset, .unset, .unset, .unset, .unset, .unset, .unset] [(.int p2), (.int p1), (.ref b3), (.ref b3)])
  obtain ⟨v4, T4, L4, X4, ⟨rfl, Nq4, K4, G0_4, G1_4, G2_4⟩, st4⟩ := Go.callN X3 hx hZ hown e3 rfl (hw _ (List.mem_of_getElem? (i := 3) rfl)) (hw _ (List.mem_of_getElem? (i := 4) rfl)) (hw _ (List.mem_of_getElem? (i := 2) rfl)) (hw _ (List.mem_of_getElem? (i := 5) rfl)) (by decide) (own_init l Z a0 hw [] b3 p1 p2  h3 n0 Z3 A3 F_line_3 F_column_3 ge_b3) (pc := 34) (Ls := #[.val (.int p1), .val (.int p2), .val (.int p3), .val (.int p4), .val (.int p5), .val (.int q1), .val (.int q2), .unset, .unset, .unset, .unset, .unset, .unset, .unset, .unset, .unset]) (a := b3) (argsL := [(.int p1), (.int p2)]) (rest := [(.ref b3)]) own_pd1 rfl rfl (by rw [hml]; rfl) (hb hby at_34) (W := 1) (Nat.le_of_eq rfl) (by decide) (by decide) (by decide) (by decide)
  refine st4 ?_
  have N4 := Fr.app N0 Nq4
  have Z4 : n0 ≤ T4.heap.size := Nat.le_trans Z3 K4.1
  have e4 : T4.heap = T4.heap := rfl
  show Go p e below _ T4 (mkF m 37 #[.val (.int p1), .val (.int p2), .val (.int p3), .val (.int p4), .val (.int p5), .val (.int q1), .val (.int q2), .unset, .unset, .unset, .unset, .unset, .unset, .unset, .unset, .unset] [(.ref b3)])
  refine Go.via (fun _ k => XS.astore X4.here hx rfl (hb hby at_37) rfl (by rfl) (l' := #[.val (.int p1), .val (.int p2), .val (.int p3), .val (.int p4), .val (.int p5), .val (.int q1), .val (.int q2), .val (.ref b3), .unset, .unset, .unset, .unset, .unset, .unset, .unset, .unset]) rfl k) ?_
  show Go p e below _ T4 (mkF m 39 #[.val (.int p1), .val (.int p2), .val (.int p3), .val (.int p4), .val (.int p5), .val (.int q1), .val (.int q2), .val (.ref b3), .unset, .unset, .unset, .unset, .unset, .unset, .unset, .unset] [])
  obtain ⟨T5, h5, X5, e5, E5, A5, D5, -, st5⟩ := newO X4 hx hZ hown (hw _ (List.mem_of_getElem? (i := 0) rfl)) (hw _ (List.mem_of_getElem? (i := 1) rfl)) (hw _ (List.mem_of_getElem? (i := 2) rfl)) e4 (g := (mkF m 39 #[.val (.int p1), .val (.int p2), .val (.int p3), .val (.int p4), .val (.int p5), .val (.int q1), .val (.int q2), .val (.ref b3), .unset, .unset, .unset, .unset, .unset, .unset, .unset, .unset] [])) rfl (hb hby at_39) (by decide) (by decide)
  obtain ⟨b5, g5⟩ : ∃ z, z = T4.heap.size := ⟨_, rfl⟩
  rw [← g5] at A5 D5 st5
  refine Go.via (fun _ k => st5 _ k) ?_
  have ge_b5 : n0 ≤ b5 := Nat.le_trans Z4 (Nat.le_of_eq g5.symm)
  have Z5 : n0 ≤ h5.size := Nat.le_trans Z4 E5.1
  have G0_4_5 := G0_4.ext E5
  have ne_b3_b5 : b3 ≠ b5 := fun q => Nat.lt_irrefl _ (Nat.lt_of_lt_of_le G0_4.lt (Nat.le_of_eq (g5.symm.trans q.symm)))
  have G1_4_5 := G1_4.ext E5
  have G2_4_5 := G2_4.ext E5
  have F_line_5 : Fld Z h5 b5 "com/example/safe_packet_runtime/safepacketruntime/lang/Position" "line" "I" (.int (0 : Int32)) := D5 (Or.inr (hw _ (List.mem_of_getElem? (i := 15) rfl))) (ty := .int) (by decide)
  have F_column_5 : Fld Z h5 b5 "com/example/safe_packet_runtime/safepacketruntime/lang/Position" "column" "I" (.int (0 : Int32)) := D5 (Or.inr (hw _ (List.mem_of_getElem? (i := 17) rfl))) (ty := .int) (by decide)
  show Go p e below _ T5 (mkF m 42 #[.val (.int p1), .val (.int p2), .val (.int p3), .val (.int p4), .val (.int p5), .val (.int q1), .val (.int q2), .val (.ref b3), .unset, .unset, .unset, .unset, .unset, .unset, .unset, .unset] [(.ref b5)])
  refine Go.via (fun _ k => XS.dup X5.here hx rfl (hb hby at_42) rfl (by rfl) k) ?_
  show Go p e below _ T5 (mkF m 43 #[.val (.int p1), .val (.int p2), .val (.int p3), .val (.int p4), .val (.int p5), .val (.int q1), .val (.int q2), .val (.ref b3), .unset, .unset, .unset, .unset, .unset, .unset, .unset, .unset] [(.ref b5), (.ref b5)])
  refine Go.via (fun _ k => XS.iload X5.here hx rfl (hb hby at_43) rfl  k) ?_
  show Go p e below _ T5 (mkF m 45 #[.val (.int p1), .val (.int p2), .val (.int p3), .val (.int p4), .val (.int p5), .val (.int q1), .val (.int q2), .val (.ref b3), .unset, .unset, .unset, .unset, .unset, .unset, .unset, .unset] [(.int q1), (.ref b5), (.ref b5)])
  refine Go.via (fun _ k => XS.iload X5.here hx rfl (hb hby at_45) rfl  k) ?_
  show Go p e below _ T5 (mkF m 47 #[.val (.int p1), .val (.int p2), .val (.int p3), .val (.int p4), .val (.int p5), .val (.int q1), .val (.int q2), .val (.ref b3), .unset, .unset, .unset, .unset, .unset, .unset, .unset, .unset] [(.int q2), (.int q1), (.ref b5), (.ref b5)])
  obtain ⟨v6, T6, L6, X6, ⟨rfl, Nq6, K6, G0_6, G1_6, G2_6⟩, st6⟩ := Go.callN X5 hx hZ hown e5 rfl (hw _ (List.mem_of_getElem? (i := 3) rfl)) (hw _ (List.mem_of_getElem? (i := 4) rfl)) (hw _ (List.mem_of_getElem? (i := 2) rfl)) (hw _ (List.mem_of_getElem? (i := 5) rfl)) (by decide) (own_init l Z a0 hw [] b5 q1 q2  h5 n0 Z5 A5 F_line_5 F_column_5 ge_b5) (pc := 47) (Ls := #[.val (.int p1), .val (.int p2), .val (.int p3), .val (.int p4), .val (.int p5), .val (.int q1), .val (.int q2), .val (.ref b3), .unset, .unset, .unset, .unset, .unset, .unset, .unset, .unset]) (a := b5) (argsL := [(.int q1), (.int q2)]) (rest := [(.ref b5)]) own_pd1 rfl rfl (by rw [hml]; rfl) (hb hby at_47) (W := 1) (Nat.le_of_eq rfl) (by decide) (by decide) (by decide) (by decide)
  refine st6 ?_
  have N6 := Fr.app N4 Nq6
  have Z6 : n0 ≤ T6.heap.size := Nat.le_trans Z5 K6.1
  have G0_4_5_6 := G0_4_5.keep K6
  have G1_4_5_6 := G1_4_5.keep K6 (ninS ne_b3_b5 (nin0))
  have G2_4_5_6 := G2_4_5.keep K6 (ninS ne_b3_b5 (nin0))
  have e6 : T6.heap = T6.heap := rfl
  show Go p e below _ T6 (mkF m 50 #[.val (.int p1), .val (.int p2), .val (.int p3), .val (.int p4), .val (.int p5), .val (.int q1), .val (.int q2), .val (.ref b3), .unset, .unset, .unset, .unset, .unset, .unset, .unset, .unset] [(.ref b5)])
  refine Go.via (fun _ k => XS.astore X6.here hx rfl (hb hby at_50) rfl (by rfl) (l' := #[.val (.int p1), .val (.int p2), .val (.int p3), .val (.int p4), .val (.int p5), .val (.int q1), .val (.int q2), .val (.ref b3), .val (.ref b5), .unset, .unset, .unset, .unset, .unset, .unset, .unset]) rfl k) ?_
  show Go p e below _ T6 (mkF m 52 #[.val (.int p1), .val (.int p2), .val (.int p3), .val (.int p4), .val (.int p5), .val (.int q1), .val (.int q2), .val (.ref b3), .val (.ref b5), .unset, .unset, .unset, .unset, .unset, .unset, .unset] [])
  refine Go.via (fun _ k => XS.iloadN X6.here hx rfl (hb hby at_52) rfl  k) ?_
  show Go p e below _ T6 (mkF m 53 #[.val (.int p1), .val (.int p2), .val (.int p3), .val (.int p4), .val (.int p5), .val (.int q1), .val (.int q2), .val (.ref b3), .val (.ref b5), .unset, .unset, .unset, .unset, .unset, .unset, .unset] [(.int p1)])
  refine Go.via (fun _ k => XS.iloadN X6.here hx rfl (hb hby at_53) rfl  k) ?_
  show Go p e below _ T6 (mkF m 54 #[.val (.int p1), .val (.int p2), .val (.int p3), .val (.int p4), .val (.int p5), .val (.int q1), .val (.int q2), .val (.ref b3), .val (.ref b5), .unset, .unset, .unset, .unset, .unset, .unset, .unset] [(.int p2), (.int p1)])
  obtain ⟨v7, T7, L7, X7, ⟨rfl, Nq7, eq7⟩, st7⟩ := Go.callS X6 hx hZ hown e6 (hw _ (List.mem_of_getElem? (i := 18) rfl)) (hw _ (List.mem_of_getElem? (i := 19) rfl)) (hw _ (List.mem_of_getElem? (i := 20) rfl)) (hw _ (List.mem_of_getElem? (i := 21) rfl)) (by decide) (own_mkey l Z a0 hw [] p1 p2  T6.heap n0 Z6 ) (pc := 54) (Ls := #[.val (.int p1), .val (.int p2), .val (.int p3), .val (.int p4), .val (.int p5), .val (.int q1), .val (.int q2), .val (.ref b3), .val (.ref b5), .unset, .unset, .unset, .unset, .unset, .unset, .unset]) (argsL := [(.int p1), (.int p2)]) (rest := []) own_pd2 rfl rfl (by rw [hml]; rfl) (hb hby at_54) (W := 0) (Nat.le_of_eq rfl) (by decide) (by decide) (by decide) (by decide)
  refine st7 ?_
  have N7 := Fr.app N6 Nq7
  show Go p e below _ T7 (mkF m 57 #[.val (.int p1), .val (.int p2), .val (.int p3), .val (.int p4), .val (.int p5), .val (.int q1), .val (.int q2), .val (.ref b3), .val (.ref b5), .unset, .unset, .unset, .unset, .unset, .unset, .unset] [(.long (own_key p1 p2))])
  refine Go.via (fun _ k => XS.lstore X7.here hx rfl (hb hby at_57) rfl (l' := #[.val (.int p1), .val (.int p2), .val (.int p3), .val (.int p4), .val (.int p5), .val (.int q1), .val (.int q2), .val (.ref b3), .val (.ref b5), .val (.long (own_key p1 p2)), .second, .unset, .unset, .unset, .unset, .unset]) rfl k) ?_
  show Go p e below _ T7 (mkF m 59 #[.val (.int p1), .val (.int p2), .val (.int p3), .val (.int p4), .val (.int p5), .val (.int q1), .val (.int q2), .val (.ref b3), .val (.ref b5), .val (.long (own_key p1 p2)), .second, .unset, .unset, .unset, .unset, .unset] [])
  refine Go.via (fun _ k => XS.iload X7.here hx rfl (hb hby at_59) rfl  k) ?_
  show Go p e below _ T7 (mkF m 61 #[.val (.int p1), .val (.int p2), .val (.int p3), .val (.int p4), .val (.int p5), .val (.int q1), .val (.int q2), .val (.ref b3), .val (.ref b5), .val (.long (own_key p1 p2)), .second, .unset, .unset, .unset, .unset, .unset] [(.int q1)])
  refine Go.via (fun _ k => XS.iload X7.here hx rfl (hb hby at_61) rfl  k) ?_
  show Go p e below _ T7 (mkF m 63 #[.val (.int p1), .val (.int p2), .val (.int p3), .val (.int p4), .val (.int p5), .val (.int q1), .val (.int q2), .val (.ref b3), .val (.ref b5), .val (.long (own_key p1 p2)), .second, .unset, .unset, .unset, .unset, .unset] [(.int q2), (.int q1)])
  obtain ⟨v8, T8, L8, X8, ⟨rfl, Nq8, eq8⟩, st8⟩ := Go.callS X7 hx hZ hown eq7 (hw _ (List.mem_of_getElem? (i := 18) rfl)) (hw _ (List.mem_of_getElem? (i := 19) rfl)) (hw _ (List.mem_of_getElem? (i := 20) rfl)) (hw _ (List.mem_of_getElem? (i := 21) rfl)) (by decide) (own_mkey l Z a0 hw [] q1 q2  T6.heap n0 Z6 ) (pc := 63) (Ls := #[.val (.int p1), .val (.int p2), .val (.int p3), .val (.int p4), .val (.int p5), .val (.int q1), .val (.int q2), .val (.ref b3), .val (.ref b5), .val (.long (own_key p1 p2)), .second, .unset, .unset, .unset, .unset, .unset]) (argsL := [(.int q1), (.int q2)]) (rest := []) own_pd2 rfl rfl (by rw [hml]; rfl) (hb hby at_63) (W := 0) (Nat.le_of_eq rfl) (by decide) (by decide) (by decide) (by decide)
  refine st8 ?_
  have N8 := Fr.app N7 Nq8
  show Go p e below _ T8 (mkF m 66 #[.val (.int p1), .val (.int p2), .val (.int p3), .val (.int p4), .val (.int p5), .val (.int q1), .val (.int q2), .val (.ref b3), .val (.ref b5), .val (.long (own_key p1 p2)), .second, .unset, .unset, .unset, .unset, .unset] [(.long (own_key q1 q2))])
  refine Go.via (fun _ k => XS.lstore X8.here hx rfl (hb hby at_66) rfl (l' := #[.val (.int p1), .val (.int p2), .val (.int p3), .val (.int p4), .val (.int p5), .val (.int q1), .val (.int q2), .val (.ref b3), .val (.ref b5), .val (.long (own_key p1 p2)), .second, .val (.long (own_key q1 q2)), .second, .unset, .unset, .unset]) rfl k) ?_
  show Go p e below _ T8 (mkF m 68 #[.val (.int p1), .val (.int p2), .val (.int p3), .val (.int p4), .val (.int p5), .val (.int q1), .val (.int q2), .val (.ref b3), .val (.ref b5), .val (.long (own_key p1 p2)), .second, .val (.long (own_key q1 q2)), .second, .unset, .unset, .unset] [])
  refine Go.via (fun _ k => XS.aload X8.here hx rfl (hb hby at_68) rfl (by rfl) k) ?_
  show Go p e below _ T8 (mkF m 70 #[.val (.int p1), .val (.int p2), .val (.int p3), .val (.int p4), .val (.int p5), .val (.int q1), .val (.int q2), .val (.ref b3), .val (.ref b5), .val (.long (own_key p1 p2)), .second, .val (.long (own_key q1 q2)), .second, .unset, .unset, .unset] [(.ref b3)])
  refine Go.via (fun _ k => XS.aload X8.here hx rfl (hb hby at_70) rfl (by rfl) k) ?_
  show Go p e below _ T8 (mkF m 72 #[.val (.int p1), .val (.int p2), .val (.int p3), .val (.int p4), .val (.int p5), .val (.int q1), .val (.int q2), .val (.ref b3), .val (.ref b5), .val (.long (own_key p1 p2)), .second, .val (.long (own_key q1 q2)), .second, .unset, .unset, .unset] [(.ref b5), (.ref b3)])
  obtain ⟨v9, T9, L9, X9, ⟨rfl, Nq9, eq9⟩, st9⟩ := Go.callV X8 hx hZ hown eq8 (hw _ (List.mem_of_getElem? (i := 24) rfl)) (hw _ (List.mem_of_getElem? (i := 25) rfl)) (hw _ (List.mem_of_getElem? (i := 27) rfl)) (hw _ (List.mem_of_getElem? (i := 26) rfl)) (hw _ (List.mem_of_getElem? (i := 2) rfl)) (hw _ (List.mem_of_getElem? (i := 28) rfl)) (by decide) G0_4_5_6 (own_isb l Z a0 hw [] b3 b5 p1 p2 q1 q2 T6.heap n0 Z6 G1_4_5_6 G2_4_5_6 G1_6 G2_6) (pc := 72) (Ls := #[.val (.int p1), .val (.int p2), .val (.int p3), .val (.int p4), .val (.int p5), .val (.int q1), .val (.int q2), .val (.ref b3), .val (.ref b5), .val (.long (own_key p1 p2)), .second, .val (.long (own_key q1 q2)), .second, .unset, .unset, .unset]) (argsL := [(.ref b5)]) (rest := []) own_pd3 rfl rfl (by rw [hml]; rfl) (hb hby at_72) (W := 0) (Nat.le_of_eq rfl) (by decide) (by decide) (by decide) (by decide)
  refine st9 ?_
  have N9 := Fr.app N8 Nq9
  show Go p e below _ T9 (mkF m 75 #[.val (.int p1), .val (.int p2), .val (.int p3), .val (.int p4), .val (.int p5), .val (.int q1), .val (.int q2), .val (.ref b3), .val (.ref b5), .val (.long (own_key p1 p2)), .second, .val (.long (own_key q1 q2)), .second, .unset, .unset, .unset] [(.int (i01 (own_bf p1 p2 q1 q2)))])
  refine Go.via (fun _ k => XS.istore X9.here hx rfl (hb hby at_75) rfl (l' := #[.val (.int p1), .val (.int p2), .val (.int p3), .val (.int p4), .val (.int p5), .val (.int q1), .val (.int q2), .val (.ref b3), .val (.ref b5), .val (.long (own_key p1 p2)), .second, .val (.long (own_key q1 q2)), .second, .val (.int (i01 (own_bf p1 p2 q1 q2))), .unset, .unset]) rfl k) ?_
  show Go p e below _ T9 (mkF m 77 #[.val (.int p1), .val (.int p2), .val (.int p3), .val (.int p4), .val (.int p5), .val (.int q1), .val (.int q2), .val (.ref b3), .val (.ref b5), .val (.long (own_key p1 p2)), .second, .val (.long (own_key q1 q2)), .second, .val (.int (i01 (own_bf p1 p2 q1 q2))), .unset, .unset] [])
  refine Go.via (fun _ k => XS.aload X9.here hx rfl (hb hby at_77) rfl (by rfl) k) ?_
  show Go p e below _ T9 (mkF m 79 #[.val (.int p1), .val (.int p2), .val (.int p3), .val (.int p4), .val (.int p5), .val (.int q1), .val (.int q2), .val (.ref b3), .val (.ref b5), .val (.long (own_key p1 p2)), .second, .val (.long (own_key q1 q2)), .second, .val (.int (i01 (own_bf p1 p2 q1 q2))), .unset, .unset] [(.ref b5)])
  refine Go.via (fun _ k => XS.aload X9.here hx rfl (hb hby at_79) rfl (by rfl) k) ?_
  show Go p e below _ T9 (mkF m 81 #[.val (.int p1), .val (.int p2), .val (.int p3), .val (.int p4), .val (.int p5), .val (.int q1), .val (.int q2), .val (.ref b3), .val (.ref b5), .val (.long (own_key p1 p2)), .second, .val (.long (own_key q1 q2)), .second, .val (.int (i01 (own_bf p1 p2 q1 q2))), .unset, .unset] [(.ref b3), (.ref b5)])
  obtain ⟨v10, T10, L10, X10, ⟨rfl, Nq10, eq10⟩, st10⟩ := Go.callV X9 hx hZ hown eq9 (hw _ (List.mem_of_getElem? (i := 24) rfl)) (hw _ (List.mem_of_getElem? (i := 25) rfl)) (hw _ (List.mem_of_getElem? (i := 27) rfl)) (hw _ (List.mem_of_getElem? (i := 26) rfl)) (hw _ (List.mem_of_getElem? (i := 2) rfl)) (hw _ (List.mem_of_getElem? (i := 28) rfl)) (by decide) G0_6 (own_isb l Z a0 hw [] b5 b3 q1 q2 p1 p2 T6.heap n0 Z6 G1_6 G2_6 G1_4_5_6 G2_4_5_6) (pc := 81) (Ls := #[.val (.int p1), .val (.int p2), .val (.int p3), .val (.int p4), .val (.int p5), .val (.int q1), .val (.int q2), .val (.ref b3), .val (.ref b5), .val (.long (own_key p1 p2)), .second, .val (.long (own_key q1 q2)), .second, .val (.int (i01 (own_bf p1 p2 q1 q2))), .unset, .unset]) (argsL := [(.ref b3)]) (rest := []) own_pd3 rfl rfl (by rw [hml]; rfl) (hb hby at_81) (W := 0) (Nat.le_of_eq rfl) (by decide) (by decide) (by decide) (by decide)
  refine st10 ?_
  have N10 := Fr.app N9 Nq10
  show Go p e below _ T10 (mkF m 84 #[.val (.int p1), .val (.int p2), .val (.int p3), .val (.int p4), .val (.int p5), .val (.int q1), .val (.int q2), .val (.ref b3), .val (.ref b5), .val (.long (own_key p1 p2)), .second, .val (.long (own_key q1 q2)), .second, .val (.int (i01 (own_bf p1 p2 q1 q2))), .unset, .unset] [(.int (i01 (own_bf q1 q2 p1 p2)))])
  refine Go.via (fun _ k => XS.istore X10.here hx rfl (hb hby at_84) rfl (l' := #[.val (.int p1), .val (.int p2), .val (.int p3), .val (.int p4), .val (.int p5), .val (.int q1), .val (.int q2), .val (.ref b3), .val (.ref b5), .val (.long (own_key p1 p2)), .second, .val (.long (own_key q1 q2)), .second, .val (.int (i01 (own_bf p1 p2 q1 q2))), .val (.int (i01 (own_bf q1 q2 p1 p2))), .unset]) rfl k) ?_
  show Go p e below _ T10 (mkF m 86 #[.val (.int p1), .val (.int p2), .val (.int p3), .val (.int p4), .val (.int p5), .val (.int q1), .val (.int q2), .val (.ref b3), .val (.ref b5), .val (.long (own_key p1 p2)), .second, .val (.long (own_key q1 q2)), .second, .val (.int (i01 (own_bf p1 p2 q1 q2))), .val (.int (i01 (own_bf q1 q2 p1 p2))), .unset] [])
  refine Go.via (fun _ k => XS.aload X10.here hx rfl (hb hby at_86) rfl (by rfl) k) ?_
  show Go p e below _ T10 (mkF m 88 #[.val (.int p1), .val (.int p2), .val (.int p3), .val (.int p4), .val (.int p5), .val (.int q1), .val (.int q2), .val (.ref b3), .val (.ref b5), .val (.long (own_key p1 p2)), .second, .val (.long (own_key q1 q2)), .second, .val (.int (i01 (own_bf p1 p2 q1 q2))), .val (.int (i01 (own_bf q1 q2 p1 p2))), .unset] [(.ref b3)])
  refine Go.via (fun _ k => XS.aload X10.here hx rfl (hb hby at_88) rfl (by rfl) k) ?_
  show Go p e below _ T10 (mkF m 90 #[.val (.int p1), .val (.int p2), .val (.int p3), .val (.int p4), .val (.int p5), .val (.int q1), .val (.int q2), .val (.ref b3), .val (.ref b5), .val (.long (own_key p1 p2)), .second, .val (.long (own_key q1 q2)), .second, .val (.int (i01 (own_bf p1 p2 q1 q2))), .val (.int (i01 (own_bf q1 q2 p1 p2))), .unset] [(.ref b3), (.ref b3)])
  obtain ⟨v11, T11, L11, X11, ⟨rfl, Nq11, eq11⟩, st11⟩ := Go.callV X10 hx hZ hown eq10 (hw _ (List.mem_of_getElem? (i := 24) rfl)) (hw _ (List.mem_of_getElem? (i := 25) rfl)) (hw _ (List.mem_of_getElem? (i := 27) rfl)) (hw _ (List.mem_of_getElem? (i := 26) rfl)) (hw _ (List.mem_of_getElem? (i := 2) rfl)) (hw _ (List.mem_of_getElem? (i := 28) rfl)) (by decide) G0_4_5_6 (own_isb l Z a0 hw [] b3 b3 p1 p2 p1 p2 T6.heap n0 Z6 G1_4_5_6 G2_4_5_6 G1_4_5_6 G2_4_5_6) (pc := 90) (Ls := #[.val (.int p1), .val (.int p2), .val (.int p3), .val (.int p4), .val (.int p5), .val (.int q1), .val (.int q2), .val (.ref b3), .val (.ref b5), .val (.long (own_key p1 p2)), .second, .val (.long (own_key q1 q2)), .second, .val (.int (i01 (own_bf p1 p2 q1 q2))), .val (.int (i01 (own_bf q1 q2 p1 p2))), .unset]) (argsL := [(.ref b3)]) (rest := []) own_pd3 rfl rfl (by rw [hml]; rfl) (hb hby at_90) (W := 0) (Nat.le_of_eq rfl) (by decide) (by decide) (by decide) (by decide)
  refine st11 ?_
  have N11 := Fr.app N10 Nq11
  show Go p e below _ T11 (mkF m 93 #[.val (.int p1), .val (.int p2), .val (.int p3), .val (.int p4), .val (.int p5), .val (.int q1), .val (.int q2), .val (.ref b3), .val (.ref b5), .val (.long (own_key p1 p2)), .second, .val (.long (own_key q1 q2)), .second, .val (.int (i01 (own_bf p1 p2 q1 q2))), .val (.int (i01 (own_bf q1 q2 p1 p2))), .unset] [(.int (i01 (own_bf p1 p2 p1 p2)))])
  refine Go.via (fun _ k => XS.istore X11.here hx rfl (hb hby at_93) rfl (l' := #[.val (.int p1), .val (.int p2), .val (.int p3), .val (.int p4), .val (.int p5), .val (.int q1), .val (.int q2), .val (.ref b3), .val (.ref b5), .val (.long (own_key p1 p2)), .second, .val (.long (own_key q1 q2)), .second, .val (.int (i01 (own_bf p1 p2 q1 q2))), .val (.int (i01 (own_bf q1 q2 p1 p2))), .val (.int (i01 (own_bf p1 p2 p1 p2)))]) rfl k) ?_
  show Go p e below _ T11 (mkF m 95 #[.val (.int p1), .val (.int p2), .val (.int p3), .val (.int p4), .val (.int p5), .val (.int q1), .val (.int q2), .val (.ref b3), .val (.ref b5), .val (.long (own_key p1 p2)), .second, .val (.long (own_key q1 q2)), .second, .val (.int (i01 (own_bf p1 p2 q1 q2))), .val (.int (i01 (own_bf q1 q2 p1 p2))), .val (.int (i01 (own_bf p1 p2 p1 p2)))] [])
  refine Go.via (fun _ k => XS.iload X11.here hx rfl (hb hby at_95) rfl  k) ?_
  refine Go.cut (T' := T11) (g' := (mkF m 110 #[.val (.int p1), .val (.int p2), .val (.int p3), .val (.int p4), .val (.int p5), .val (.int q1), .val (.int q2), .val (.ref b3), .val (.ref b5), .val (.long (own_key p1 p2)), .second, .val (.long (own_key q1 q2)), .second, .val (.int (i01 (own_bf p1 p2 q1 q2))), .val (.int (i01 (own_bf q1 q2 p1 p2))), .val (.int (i01 (own_bf p1 p2 p1 p2)))] [(.int (i01 ((own_key p1 p2) < (own_key q1 q2)))), (.int (i01 (own_bf p1 p2 q1 q2)))])) (fun J12 => ?_) ?_
  · skip
    show Go p e below _ T11 (mkF m 97 #[.val (.int p1), .val (.int p2), .val (.int p3), .val (.int p4), .val (.int p5), .val (.int q1), .val (.int q2), .val (.ref b3), .val (.ref b5), .val (.long (own_key p1 p2)), .second, .val (.long (own_key q1 q2)), .second, .val (.int (i01 (own_bf p1 p2 q1 q2))), .val (.int (i01 (own_bf q1 q2 p1 p2))), .val (.int (i01 (own_bf p1 p2 p1 p2)))] [(.int (i01 (own_bf p1 p2 q1 q2)))])
    refine Go.via (fun _ k => XS.lload X11.here hx rfl (hb hby at_97) rfl  k) ?_
    show Go p e below _ T11 (mkF m 99 #[.val (.int p1), .val (.int p2), .val (.int p3), .val (.int p4), .val (.int p5), .val (.int q1), .val (.int q2), .val (.ref b3), .val (.ref b5), .val (.long (own_key p1 p2)), .second, .val (.long (own_key q1 q2)), .second, .val (.int (i01 (own_bf p1 p2 q1 q2))), .val (.int (i01 (own_bf q1 q2 p1 p2))), .val (.int (i01 (own_bf p1 p2 p1 p2)))] [(.long (own_key p1 p2)), (.int (i01 (own_bf p1 p2 q1 q2)))])
    refine Go.via (fun _ k => XS.lload X11.here hx rfl (hb hby at_99) rfl  k) ?_
    show Go p e below _ T11 (mkF m 101 #[.val (.int p1), .val (.int p2), .val (.int p3), .val (.int p4), .val (.int p5), .val (.int q1), .val (.int q2), .val (.ref b3), .val (.ref b5), .val (.long (own_key p1 p2)), .second, .val (.long (own_key q1 q2)), .second, .val (.int (i01 (own_bf p1 p2 q1 q2))), .val (.int (i01 (own_bf q1 q2 p1 p2))), .val (.int (i01 (own_bf p1 p2 p1 p2)))] [(.long (own_key q1 q2)), (.long (own_key p1 p2)), (.int (i01 (own_bf p1 p2 q1 q2)))])
    refine Go.via (fun _ k => XS.lcmp X11.here hx rfl (hb hby at_101) rfl k) ?_
    show Go p e below _ T11 (mkF m 102 #[.val (.int p1), .val (.int p2), .val (.int p3), .val (.int p4), .val (.int p5), .val (.int q1), .val (.int q2), .val (.ref b3), .val (.ref b5), .val (.long (own_key p1 p2)), .second, .val (.long (own_key q1 q2)), .second, .val (.int (i01 (own_bf p1 p2 q1 q2))), .val (.int (i01 (own_bf q1 q2 p1 p2))), .val (.int (i01 (own_bf p1 p2 p1 p2)))] [(.int (lcmpW (own_key p1 p2) (own_key q1 q2))), (.int (i01 (own_bf p1 p2 q1 q2)))])
    by_cases hc102 : (own_key p1 p2) < (own_key q1 q2)
    · skip
      refine Go.via (fun _ k => XS.ifNo X11.here hx rfl (hb hby at_102) rfl ((if0 _ _).trans (tlt ((lw_lt _ _).mpr hc102)).2.1) k) ?_
      show Go p e below _ T11 (mkF m 105 #[.val (.int p1), .val (.int p2), .val (.int p3), .val (.int p4), .val (.int p5), .val (.int q1), .val (.int q2), .val (.ref b3), .val (.ref b5), .val (.long (own_key p1 p2)), .second, .val (.long (own_key q1 q2)), .second, .val (.int (i01 (own_bf p1 p2 q1 q2))), .val (.int (i01 (own_bf q1 q2 p1 p2))), .val (.int (i01 (own_bf p1 p2 p1 p2)))] [(.int (i01 (own_bf p1 p2 q1 q2)))])
      refine Go.via (fun _ k => XS.iconst X11.here hx rfl (hb hby at_105) k) ?_
      show Go p e below _ T11 (mkF m 106 #[.val (.int p1), .val (.int p2), .val (.int p3), .val (.int p4), .val (.int p5), .val (.int q1), .val (.int q2), .val (.ref b3), .val (.ref b5), .val (.long (own_key p1 p2)), .second, .val (.long (own_key q1 q2)), .second, .val (.int (i01 (own_bf p1 p2 q1 q2))), .val (.int (i01 (own_bf q1 q2 p1 p2))), .val (.int (i01 (own_bf p1 p2 p1 p2)))] [(.int (1 : Int32)), (.int (i01 (own_bf p1 p2 q1 q2)))])
      refine Go.via (fun _ k => XS.goto X11.here hx rfl (pc0 := 106) (pc' := 110) rfl (hb hby at_106) (by decide) (by decide) k) ?_
      rw [show (i01 ((own_key p1 p2) < (own_key q1 q2))) = (1 : Int32) from i01_t hc102] at J12
      exact J12
    · skip
      refine Go.via (fun _ k => XS.ifYes X11.here hx rfl (pc0 := 102) (pc' := 109) rfl (hb hby at_102) rfl ((if0 _ _).trans (flt (fun q => hc102 ((lw_lt _ _).mp q))).2.1) (by decide) (by decide) k) ?_
      show Go p e below _ T11 (mkF m 109 #[.val (.int p1), .val (.int p2), .val (.int p3), .val (.int p4), .val (.int p5), .val (.int q1), .val (.int q2), .val (.ref b3), .val (.ref b5), .val (.long (own_key p1 p2)), .second, .val (.long (own_key q1 q2)), .second, .val (.int (i01 (own_bf p1 p2 q1 q2))), .val (.int (i01 (own_bf q1 q2 p1 p2))), .val (.int (i01 (own_bf p1 p2 p1 p2)))] [(.int (i01 (own_bf p1 p2 q1 q2)))])
      refine Go.via (fun _ k => XS.iconst X11.here hx rfl (hb hby at_109) k) ?_
      rw [show (i01 ((own_key p1 p2) < (own_key q1 q2))) = (0 : Int32) from i01_f hc102] at J12
      exact J12
  show Go p e below _ T11 (mkF m 110 #[.val (.int p1), .val (.int p2), .val (.int p3), .val (.int p4), .val (.int p5), .val (.int q1), .val (.int q2), .val (.ref b3), .val (.ref b5), .val (.long (own_key p1 p2)), .second, .val (.long (own_key q1 q2)), .second, .val (.int (i01 (own_bf p1 p2 q1 q2))), .val (.int (i01 (own_bf q1 q2 p1 p2))), .val (.int (i01 (own_bf p1 p2 p1 p2)))] [(.int (i01 ((own_key p1 p2) < (own_key q1 q2)))), (.int (i01 (own_bf p1 p2 q1 q2)))])
  have hc110 : (i01 (own_bf p1 p2 q1 q2)) = (i01 ((own_key p1 p2) < (own_key q1 q2))) := own_ik _ _ _ _
  refine Go.via (fun _ k => XS.icmpNo X11.here hx rfl (hb hby at_110) rfl (teq hc110).2 k) ?_
  show Go p e below _ T11 (mkF m 113 #[.val (.int p1), .val (.int p2), .val (.int p3), .val (.int p4), .val (.int p5), .val (.int q1), .val (.int q2), .val (.ref b3), .val (.ref b5), .val (.long (own_key p1 p2)), .second, .val (.long (own_key q1 q2)), .second, .val (.int (i01 (own_bf p1 p2 q1 q2))), .val (.int (i01 (own_bf q1 q2 p1 p2))), .val (.int (i01 (own_bf p1 p2 p1 p2)))] [])
  refine Go.via (fun _ k => XS.iload X11.here hx rfl (hb hby at_113) rfl  k) ?_
  refine Go.cut (T' := T11) (g' := (mkF m 128 #[.val (.int p1), .val (.int p2), .val (.int p3), .val (.int p4), .val (.int p5), .val (.int q1), .val (.int q2), .val (.ref b3), .val (.ref b5), .val (.long (own_key p1 p2)), .second, .val (.long (own_key q1 q2)), .second, .val (.int (i01 (own_bf p1 p2 q1 q2))), .val (.int (i01 (own_bf q1 q2 p1 p2))), .val (.int (i01 (own_bf p1 p2 p1 p2)))] [(.int (i01 ((own_key q1 q2) < (own_key p1 p2)))), (.int (i01 (own_bf q1 q2 p1 p2)))])) (fun J13 => ?_) ?_
  · skip
    show Go p e below _ T11 (mkF m 115 #[.val (.int p1), .val (.int p2), .val (.int p3), .val (.int p4), .val (.int p5), .val (.int q1), .val (.int q2), .val (.ref b3), .val (.ref b5), .val (.long (own_key p1 p2)), .second, .val (.long (own_key q1 q2)), .second, .val (.int (i01 (own_bf p1 p2 q1 q2))), .val (.int (i01 (own_bf q1 q2 p1 p2))), .val (.int (i01 (own_bf p1 p2 p1 p2)))] [(.int (i01 (own_bf q1 q2 p1 p2)))])
    refine Go.via (fun _ k => XS.lload X11.here hx rfl (hb hby at_115) rfl  k) ?_
    show Go p e below _ T11 (mkF m 117 #[.val (.int p1), .val (.int p2), .val (.int p3), .val (.int p4), .val (.int p5), .val (.int q1), .val (.int q2), .val (.ref b3), .val (.ref b5), .val (.long (own_key p1 p2)), .second, .val (.long (own_key q1 q2)), .second, .val (.int (i01 (own_bf p1 p2 q1 q2))), .val (.int (i01 (own_bf q1 q2 p1 p2))), .val (.int (i01 (own_bf p1 p2 p1 p2)))] [(.long (own_key q1 q2)), (.int (i01 (own_bf q1 q2 p1 p2)))])
    refine Go.via (fun _ k => XS.lload X11.here hx rfl (hb hby at_117) rfl  k) ?_
    show Go p e below _ T11 (mkF m 119 #[.val (.int p1), .val (.int p2), .val (.int p3), .val (.int p4), .val (.int p5), .val (.int q1), .val (.int q2), .val (.ref b3), .val (.ref b5), .val (.long (own_key p1 p2)), .second, .val (.long (own_key q1 q2)), .second, .val (.int (i01 (own_bf p1 p2 q1 q2))), .val (.int (i01 (own_bf q1 q2 p1 p2))), .val (.int (i01 (own_bf p1 p2 p1 p2)))] [(.long (own_key p1 p2)), (.long (own_key q1 q2)), (.int (i01 (own_bf q1 q2 p1 p2)))])
    refine Go.via (fun _ k => XS.lcmp X11.here hx rfl (hb hby at_119) rfl k) ?_
    show Go p e below _ T11 (mkF m 120 #[.val (.int p1), .val (.int p2), .val (.int p3), .val (.int p4), .val (.int p5), .val (.int q1), .val (.int q2), .val (.ref b3), .val (.ref b5), .val (.long (own_key p1 p2)), .second, .val (.long (own_key q1 q2)), .second, .val (.int (i01 (own_bf p1 p2 q1 q2))), .val (.int (i01 (own_bf q1 q2 p1 p2))), .val (.int (i01 (own_bf p1 p2 p1 p2)))] [(.int (lcmpW (own_key q1 q2) (own_key p1 p2))), (.int (i01 (own_bf q1 q2 p1 p2)))])
    by_cases hc120 : (own_key q1 q2) < (own_key p1 p2)
    · skip
      refine Go.via (fun _ k => XS.ifNo X11.here hx rfl (hb hby at_120) rfl ((if0 _ _).trans (tlt ((lw_lt _ _).mpr hc120)).2.1) k) ?_
      show Go p e below _ T11 (mkF m 123 #[.val (.int p1), .val (.int p2), .val (.int p3), .val (.int p4), .val (.int p5), .val (.int q1), .val (.int q2), .val (.ref b3), .val (.ref b5), .val (.long (own_key p1 p2)), .second, .val (.long (own_key q1 q2)), .second, .val (.int (i01 (own_bf p1 p2 q1 q2))), .val (.int (i01 (own_bf q1 q2 p1 p2))), .val (.int (i01 (own_bf p1 p2 p1 p2)))] [(.int (i01 (own_bf q1 q2 p1 p2)))])
      refine Go.via (fun _ k => XS.iconst X11.here hx rfl (hb hby at_123) k) ?_
      show Go p e below _ T11 (mkF m 124 #[.val (.int p1), .val (.int p2), .val (.int p3), .val (.int p4), .val (.int p5), .val (.int q1), .val (.int q2), .val (.ref b3), .val (.ref b5), .val (.long (own_key p1 p2)), .second, .val (.long (own_key q1 q2)), .second, .val (.int (i01 (own_bf p1 p2 q1 q2))), .val (.int (i01 (own_bf q1 q2 p1 p2))), .val (.int (i01 (own_bf p1 p2 p1 p2)))] [(.int (1 : Int32)), (.int (i01 (own_bf q1 q2 p1 p2)))])
      refine Go.via (fun _ k => XS.goto X11.here hx rfl (pc0 := 124) (pc' := 128) rfl (hb hby at_124) (by decide) (by decide) k) ?_
      rw [show (i01 ((own_key q1 q2) < (own_key p1 p2))) = (1 : Int32) from i01_t hc120] at J13
      exact J13
    · skip
      refine Go.via (fun _ k => XS.ifYes X11.here hx rfl (pc0 := 120) (pc' := 127) rfl (hb hby at_120) rfl ((if0 _ _).trans (flt (fun q => hc120 ((lw_lt _ _).mp q))).2.1) (by decide) (by decide) k) ?_
      show Go p e below _ T11 (mkF m 127 #[.val (.int p1), .val (.int p2), .val (.int p3), .val (.int p4), .val (.int p5), .val (.int q1), .val (.int q2), .val (.ref b3), .val (.ref b5), .val (.long (own_key p1 p2)), .second, .val (.long (own_key q1 q2)), .second, .val (.int (i01 (own_bf p1 p2 q1 q2))), .val (.int (i01 (own_bf q1 q2 p1 p2))), .val (.int (i01 (own_bf p1 p2 p1 p2)))] [(.int (i01 (own_bf q1 q2 p1 p2)))])
      refine Go.via (fun _ k => XS.iconst X11.here hx rfl (hb hby at_127) k) ?_
      rw [show (i01 ((own_key q1 q2) < (own_key p1 p2))) = (0 : Int32) from i01_f hc120] at J13
      exact J13
  show Go p e below _ T11 (mkF m 128 #[.val (.int p1), .val (.int p2), .val (.int p3), .val (.int p4), .val (.int p5), .val (.int q1), .val (.int q2), .val (.ref b3), .val (.ref b5), .val (.long (own_key p1 p2)), .second, .val (.long (own_key q1 q2)), .second, .val (.int (i01 (own_bf p1 p2 q1 q2))), .val (.int (i01 (own_bf q1 q2 p1 p2))), .val (.int (i01 (own_bf p1 p2 p1 p2)))] [(.int (i01 ((own_key q1 q2) < (own_key p1 p2)))), (.int (i01 (own_bf q1 q2 p1 p2)))])
  have hc128 : (i01 (own_bf q1 q2 p1 p2)) = (i01 ((own_key q1 q2) < (own_key p1 p2))) := own_ik _ _ _ _
  refine Go.via (fun _ k => XS.icmpNo X11.here hx rfl (hb hby at_128) rfl (teq hc128).2 k) ?_
  show Go p e below _ T11 (mkF m 131 #[.val (.int p1), .val (.int p2), .val (.int p3), .val (.int p4), .val (.int p5), .val (.int q1), .val (.int q2), .val (.ref b3), .val (.ref b5), .val (.long (own_key p1 p2)), .second, .val (.long (own_key q1 q2)), .second, .val (.int (i01 (own_bf p1 p2 q1 q2))), .val (.int (i01 (own_bf q1 q2 p1 p2))), .val (.int (i01 (own_bf p1 p2 p1 p2)))] [])
  refine Go.via (fun _ k => XS.iload X11.here hx rfl (hb hby at_131) rfl  k) ?_
  show Go p e below _ T11 (mkF m 133 #[.val (.int p1), .val (.int p2), .val (.int p3), .val (.int p4), .val (.int p5), .val (.int q1), .val (.int q2), .val (.ref b3), .val (.ref b5), .val (.long (own_key p1 p2)), .second, .val (.long (own_key q1 q2)), .second, .val (.int (i01 (own_bf p1 p2 q1 q2))), .val (.int (i01 (own_bf q1 q2 p1 p2))), .val (.int (i01 (own_bf p1 p2 p1 p2)))] [(.int (i01 (own_bf p1 p2 p1 p2)))])
  have hc133 : (i01 (own_bf p1 p2 p1 p2)) = (0 : Int32) := own_irr _ _
  refine Go.via (fun _ k => XS.ifNo X11.here hx rfl (hb hby at_133) rfl ((if0 _ _).trans (teq hc133).2) k) ?_
  show Go p e below _ T11 (mkF m 136 #[.val (.int p1), .val (.int p2), .val (.int p3), .val (.int p4), .val (.int p5), .val (.int q1), .val (.int q2), .val (.ref b3), .val (.ref b5), .val (.long (own_key p1 p2)), .second, .val (.long (own_key q1 q2)), .second, .val (.int (i01 (own_bf p1 p2 q1 q2))), .val (.int (i01 (own_bf q1 q2 p1 p2))), .val (.int (i01 (own_bf p1 p2 p1 p2)))] [])
  refine Go.via (fun _ k => XS.iconst X11.here hx rfl (hb hby at_136) k) ?_
  show Go p e below _ T11 (mkF m 137 #[.val (.int p1), .val (.int p2), .val (.int p3), .val (.int p4), .val (.int p5), .val (.int q1), .val (.int q2), .val (.ref b3), .val (.ref b5), .val (.long (own_key p1 p2)), .second, .val (.long (own_key q1 q2)), .second, .val (.int (i01 (own_bf p1 p2 q1 q2))), .val (.int (i01 (own_bf q1 q2 p1 p2))), .val (.int (i01 (own_bf p1 p2 p1 p2)))] [(.int (1 : Int32))])
  refine Go.via (fun _ k => XS.goto X11.here hx rfl (pc0 := 137) (pc' := 141) rfl (hb hby at_137) (by decide) (by decide) k) ?_
  show Go p e below _ T11 (mkF m 141 #[.val (.int p1), .val (.int p2), .val (.int p3), .val (.int p4), .val (.int p5), .val (.int q1), .val (.int q2), .val (.ref b3), .val (.ref b5), .val (.long (own_key p1 p2)), .second, .val (.long (own_key q1 q2)), .second, .val (.int (i01 (own_bf p1 p2 q1 q2))), .val (.int (i01 (own_bf q1 q2 p1 p2))), .val (.int (i01 (own_bf p1 p2 p1 p2)))] [(.int (1 : Int32))])
  refine Go.retN X11 hx hk (hret : meth.sig.returnType = some .boolean) (t := .boolean) (by simp) (hb hby at_141) (by decide) (by decide) ?_
  exact ⟨rfl, N11⟩
set_option maxRecDepth 65536 in
set_option maxHeartbeats 40000000 in
theorem comes_1 {Post : Tables → Env → Array Value → State → Outcome → State → Prop} (hpost : ∀ tb e args s v u, (limb_1_1.after args s (.returned v) u = true ∧ limb_1_2.after args s (.returned v) u = true ∧ True) → FrameEnd s (.returned v) u (Jvm.fieldLocs frame_1_writes args s ++ Jvm.arrayLocs frame_1_arrays args s ++ Jvm.staticLocs frame_1_statics s) 16 128 → Post tb e args s (.returned v) u) :
    ArmFor flags0 classFile x code maxLocals ret World_1 tables_1 room_1 Calls_1 rest_1 Pre_1 Post := by
  intro l hfl _ _ p e ha hc hk s m args below hf hA hF happ hP
  obtain ⟨hcalls, hrest, hpre⟩ := hP
  obtain ⟨-, -, -, hnamed, -, -, -, hat⟩ := (Spec.applies_iff hf).mp happ
  obtain ⟨hg, hn⟩ := and_e (Cond.before_iff.mp (show (Jvm.Cond.and given_1 narrow_1).before args s = true from hpre))
  obtain ⟨hcnt, hg0⟩ := and_e hg
  obtain ⟨w0, w1, w2, w3, w4, rfl⟩ : ∃ w0 w1 w2 w3 w4 : Value, args = #[w0, w1, w2, w3, w4] := by
    have hs : args.size = 5 := by simpa [Cond.value, given_1] using hcnt
    obtain ⟨L⟩ := args
    match L, hs with
    | [w0, w1, w2, w3, w4], _ => exact ⟨w0, w1, w2, w3, w4, rfl⟩
  have hw := fun d (hd : d ∈ tables_1) => atoms_spec (ws := Jvm.Cond.code x code maxLocals ret :: tables_1) hat d (List.mem_cons_of_mem _ hd)
  have hfit : Fit s := fun {y c} hc i hi => by
    obtain ⟨ha, rfl⟩ := Array.getElem?_eq_some_iff.mp hc
    have q := List.all_eq_true.mp ((Array.all_eq_true_iff_forall_mem.mp hF) _ (Array.getElem_mem ha)) i (List.mem_range.mpr hi)
    simpa [Array.getElem?_eq_getElem hi] using q
  obtain ⟨hi0, hg1⟩ := and_e hg0
  obtain ⟨hi1, hg2⟩ := and_e hg1
  obtain ⟨hi2, hg3⟩ := and_e hg2
  obtain ⟨hi3, hg4⟩ := and_e hg3
  have hi4 := hg4
  obtain ⟨i0, hv0⟩ := is_v hi0
  obtain rfl : w0 = (.int i0) := Option.some.inj hv0
  obtain ⟨i1, hv1⟩ := is_v hi1
  obtain rfl : w1 = (.int i1) := Option.some.inj hv1
  obtain ⟨i2, hv2⟩ := is_v hi2
  obtain rfl : w2 = (.int i2) := Option.some.inj hv2
  obtain ⟨i3, hv3⟩ := is_v hi3
  obtain rfl : w3 = (.int i3) := Option.some.inj hv3
  obtain ⟨i4, hv4⟩ := is_v hi4
  obtain rfl : w4 = (.int i4) := Option.some.inj hv4
  obtain ⟨n, o, h1, h2, h3, _, L, rfl, ⟨rfl, N⟩, hq⟩ := own_m0 l s _ hw tables_1 i0 i1 i2 i3 i4 s.heap s.heap.size (Nat.le_refl _) p e ha hc hk s m _ below hf ((Spec.applies_iff_loose hf).mp happ).1 ⟨rfl, State.Warmed39.refl s, rfl⟩ trivial
  refine ⟨n, _, h1, h2, h3, hpost _ _ _ _ _ _ ⟨Cond.after_iff.mpr rfl, Cond.after_iff.mpr (eq_i res_at (Term.int_eval (1)) rfl), trivial⟩ ⟨hq.1, hq.2.1, (hq.2.2.sift fun y hy => Or.inr (N y hy)).mono (by decide) (by decide)⟩⟩
theorem main_1_1 : Claimed_1_1 := comes_1 fun _ _ _ _ _ _ h hF => ⟨h.1, hF⟩
theorem main_1_2 : Claimed_1_2 := comes_1 fun _ _ _ _ _ _ h hF => ⟨h.2.1, hF⟩
end Jvm.Pilot.@@N@@
namespace Jvm.Pilot.@@N@@
open Jvm Jvm.ClassFile Sem Op Lib Jvm.Free Jvm.Stand Jvm.Pilot.@@N@@.Jvm.D
/-! MADE BY PROGRAM (witnessworld.py) out of the Statement's table words and the real class files: 10 classes; the members and pool entries that the words name. The judged class is class 1, her method 2. -/
namespace start1
open Jvm.ClassFile
def u (s : String) : CpInfo := .utf8 (stringToUtf16 s)
/-- a pool by its gaps: so many unusable entries, then the entry; so many at the end -/
def gap : Nat → List CpInfo → List CpInfo
  | 0, r => r
  | n + 1, r => .unusable :: gap n r
def poolList (es : List (Nat × CpInfo)) (last : Nat) : List CpInfo := es.foldr (fun e r => gap e.1 (e.2 :: r)) (gap last [])
def pool (es : List (Nat × CpInfo)) (last : Nat) : Array CpInfo := ⟨poolList es last⟩
def fileOf (pool : Array CpInfo) (this : Nat) (attrs : Array Attribute := #[]) (ms : Array MethodInfo := #[]) (fl : Nat := 33) (sup : Nat := 0) (ifs : Array Nat := #[]) (fds : Array FieldInfo := #[]) : ClassFile where
  minorVersion := 0
  majorVersion := 65
  constantPool := pool
  accessFlags := fl
  thisClass := this
  superClass := sup
  interfaces := ifs
  fields := fds
  methods := ms
  attributes := attrs
def plain (name : String) (sup : Option ClassId) : Class where
  name := name
  kind := .ordinary
  loader := none
  accessFlags := 33
  super := sup
  interfaces := #[]
  cf := none
  fields := #[]
  methods := #[]
  instanceTypes := #[]
  staticTypes := #[]
  resolved := #[]
  callSites := []
  init := .initialized
  statics := none
  mirror := none

def pool0 : Array CpInfo := pool [(5, u "<init>"), (0, u "()V"), (1, .class_ 10), (1, u "java/lang/Object")] 113

def k0c0 : Code := { maxStack := 0, maxLocals := 1, code := object_method_1_code, exceptionTable := #[], attributes := #[] }
def k0m0 : Method := { name := "<init>", desc := "()V", sig := { parameters := [], returnType := none }, accessFlags := 1, code := some k0c0 }
/-- java/lang/Object -/
def k0 : Class := { plain "java/lang/Object" none with
  accessFlags := 33
  interfaces := #[]
  cf := some (fileOf pool0 8 #[] #[{ accessFlags := 1, nameIndex := 5, descriptorIndex := 6, attributes := #[] }] 33 0 #[] #[])
  fields := #[]
  methods := #[k0m0]
  instanceTypes := #[]
  staticTypes := #[]
  resolved := Array.replicate 124 none
  statics := none }

def pool1 : Array CpInfo := pool [(2, .class_ 4), (1, u "java/lang/Object"), (0, u "<init>"), (0, u "()V"), (0, .integer 2147483648), (0, .long 4294967295), (1, .class_ 11), (0, u "com/example/safe_packet_runtime/safepacketruntime/lang/Position"), (0, .methodref 10 13), (0, .nameAndType 5 14), (0, u "(II)V"), (0, .methodref 16 17), (0, .class_ 18), (0, .nameAndType 19 20), (0, u "com/example/safe_packet_runtime/safepacketruntime/lang/PositionIsBeforePinLaw"), (0, u "key"), (0, u "(II)J"), (0, .methodref 10 22), (0, .nameAndType 23 24), (0, u "isBefore"), (0, u "(Lcom/example/safe_packet_runtime/safepacketruntime/lang/Position;)Z"), (2, u "law"), (0, u "(IIIII)Z")] 3

def k1m0 : Method := { name := "<init>", desc := "()V", sig := { parameters := [], returnType := none }, accessFlags := 1, code := none }
def k1c1 : Code := { maxStack := 6, maxLocals := 2, code := method_2_code, exceptionTable := #[], attributes := #[] }
def k1m1 : Method := { name := "key", desc := "(II)J", sig := { parameters := [.int, .int], returnType := some .long }, accessFlags := 10, code := some k1c1 }
def k1c2 : Code := { maxStack := 5, maxLocals := 16, code := code, exceptionTable := #[], attributes := #[] }
def k1m2 : Method := { name := "law", desc := "(IIIII)Z", sig := { parameters := [.int, .int, .int, .int, .int], returnType := some .boolean }, accessFlags := 9, code := some k1c2 }
/-- com/example/safe_packet_runtime/safepacketruntime/lang/PositionIsBeforePinLaw -/
def k1 : Class := { plain "com/example/safe_packet_runtime/safepacketruntime/lang/PositionIsBeforePinLaw" (some 0) with
  accessFlags := 49
  interfaces := #[]
  cf := some (fileOf pool1 16 #[] #[{ accessFlags := 1, nameIndex := 5, descriptorIndex := 6, attributes := #[] }, { accessFlags := 10, nameIndex := 19, descriptorIndex := 20, attributes := #[] }, { accessFlags := 9, nameIndex := 27, descriptorIndex := 28, attributes := #[] }] 49 2 #[] #[])
  fields := #[]
  methods := #[k1m0, k1m1, k1m2]
  instanceTypes := #[]
  staticTypes := #[]
  resolved := Array.replicate 32 none
  statics := none }

def pool2 : Array CpInfo := pool [(1, .methodref 2 3), (0, .class_ 4), (0, .nameAndType 5 6), (0, u "java/lang/Object"), (0, u "<init>"), (0, u "()V"), (0, .class_ 8), (0, u "java/lang/Record")] 13

def k2c0 : Code := { maxStack := 1, maxLocals := 1, code := jdk_30_method_1_code, exceptionTable := #[], attributes := #[] }
def k2m0 : Method := { name := "<init>", desc := "()V", sig := { parameters := [], returnType := none }, accessFlags := 4, code := some k2c0 }
/-- java/lang/Record -/
def k2 : Class := { plain "java/lang/Record" (some 0) with
  accessFlags := 1057
  interfaces := #[]
  cf := some (fileOf pool2 7 #[] #[{ accessFlags := 4, nameIndex := 5, descriptorIndex := 6, attributes := #[] }] 1057 2 #[] #[])
  fields := #[]
  methods := #[k2m0]
  instanceTypes := #[]
  staticTypes := #[]
  resolved := Array.replicate 22 none
  statics := none }

def pool3 : Array CpInfo := pool [(1, .methodref 2 3), (0, .class_ 4), (0, .nameAndType 5 6), (0, u "java/lang/Record"), (0, u "<init>"), (0, u "()V"), (0, .fieldref 8 9), (0, .class_ 10), (0, .nameAndType 11 12), (0, u "com/example/safe_packet_runtime/safepacketruntime/lang/Position"), (0, u "line"), (0, u "I"), (0, .fieldref 8 14), (0, .nameAndType 15 12), (0, u "column"), (12, u "(II)V"), (3, u "isBefore"), (0, u "(Lcom/example/safe_packet_runtime/safepacketruntime/lang/Position;)Z")] 34

def k3c0 : Code := { maxStack := 2, maxLocals := 3, code := prog_51_method_1_code, exceptionTable := #[], attributes := #[] }
def k3m0 : Method := { name := "<init>", desc := "(II)V", sig := { parameters := [.int, .int], returnType := none }, accessFlags := 1, code := some k3c0 }
def k3c1 : Code := { maxStack := 2, maxLocals := 2, code := prog_51_method_2_code, exceptionTable := #[], attributes := #[] }
def k3m1 : Method := { name := "isBefore", desc := "(Lcom/example/safe_packet_runtime/safepacketruntime/lang/Position;)Z", sig := { parameters := [(.object "com/example/safe_packet_runtime/safepacketruntime/lang/Position")], returnType := some .boolean }, accessFlags := 1, code := some k3c1 }
/-- com/example/safe_packet_runtime/safepacketruntime/lang/Position -/
def k3 : Class := { plain "com/example/safe_packet_runtime/safepacketruntime/lang/Position" (some 2) with
  accessFlags := 49
  interfaces := #[]
  cf := some (fileOf pool3 8 #[] #[{ accessFlags := 1, nameIndex := 5, descriptorIndex := 28, attributes := #[] }, { accessFlags := 1, nameIndex := 32, descriptorIndex := 33, attributes := #[] }] 49 2 #[] #[{ accessFlags := 18, nameIndex := 11, descriptorIndex := 12, attributes := #[] }, { accessFlags := 18, nameIndex := 15, descriptorIndex := 12, attributes := #[] }])
  fields := #[{ name := "line", type := .int, accessFlags := 18, slot := 0, constantValue := 0 }, { name := "column", type := .int, accessFlags := 18, slot := 1, constantValue := 0 }]
  methods := #[k3m0, k3m1]
  instanceTypes := #[.int, .int]
  staticTypes := #[]
  resolved := Array.replicate 68 none
  statics := none }

def pool4 : Array CpInfo := pool [(1, u "java/lang/Cloneable"), (0, .class_ 1), (0, u "java/lang/Object"), (0, .class_ 3)] 3

/-- java/lang/Cloneable -/
def k4 : Class := { plain "java/lang/Cloneable" (some 0) with
  accessFlags := 1537
  interfaces := #[]
  cf := some (fileOf pool4 2 #[] #[] 1537 4 #[] #[])
  fields := #[]
  methods := #[]
  instanceTypes := #[]
  staticTypes := #[]
  resolved := Array.replicate 8 none
  statics := none }

def pool5 : Array CpInfo := pool [(1, u "java/io/Serializable"), (0, .class_ 1), (0, u "java/lang/Object"), (0, .class_ 3)] 3

/-- java/io/Serializable -/
def k5 : Class := { plain "java/io/Serializable" (some 0) with
  accessFlags := 1537
  interfaces := #[]
  cf := some (fileOf pool5 2 #[] #[] 1537 4 #[] #[])
  fields := #[]
  methods := #[]
  instanceTypes := #[]
  staticTypes := #[]
  resolved := Array.replicate 8 none
  statics := none }

/-- the primitive byte -/
def k6 : Class := { plain "byte" none with kind := .primitive 'B', accessFlags := 0x411 }
/-- [B -/
def k7 : Class := { plain "[B" (some 0) with kind := .array 6 .byte, interfaces := #[4, 5], accessFlags := 1041 }

/-- the primitive int -/
def k8 : Class := { plain "int" none with kind := .primitive 'I', accessFlags := 0x411 }
/-- [I -/
def k9 : Class := { plain "[I" (some 0) with kind := .array 8 .int, interfaces := #[4, 5], accessFlags := 1041 }

def heap : Heap := #[]
def classes : Array Class := #[k0, k1, k2, k3, k4, k5, k6, k7, k8, k9]
def interned : List (Array UInt16 × Addr) := []
def slotsUsed : Nat := 0
def theMethod : MethodId := ⟨1, 2⟩
def args0 : Array Value := #[.int 1, .int 2, .int 3, .int 4, .int 0]
def aboutOver (below : List Frame) : State where
  vm := { classes := classes, interned := interned.toArray }
  heap := heap
  slotsUsed := slotsUsed
  threads := #[{ frames := .invoking theMethod args0 :: below }]
def below0 : List Frame := [.native { method := ⟨0, 0⟩, args := #[] }]
def about1 : State := aboutOver below0
def p0 : Program := .bare "" "" ""
def e0 : Env := launch0.env 0 0 0
theorem w_frames : about1.frames = Frame.invoking theMethod args0 :: below0 := rfl
set_option maxRecDepth 65536 in
theorem w_args : argsFit about1.vm theMethod args0 = true := by decide +kernel
set_option maxRecDepth 65536 in
theorem w_heap : heapFits about1 = true := by decide +kernel
set_option maxRecDepth 65536 in
theorem w_runnable : about1.curStatus? = some .runnable := by decide +kernel
set_option maxRecDepth 65536 in
theorem w_alone : about1.alone = true := by decide +kernel
set_option maxRecDepth 65536 in
theorem w_named : about1.methodNamed? x = some theMethod := by decide +kernel
set_option maxRecDepth 65536 in
theorem w_hears : about1.hears theMethod below0 = true := by decide +kernel
set_option maxRecDepth 65536 in
theorem w_ripe : about1.ripe theMethod args0 below0 = true := by decide +kernel
theorem w_running : about1.status = .running := rfl
set_option maxRecDepth 65536 in
theorem w_room : about1.hasRoom e0.platform room_1 = true :=
  launch0.hasRoom_least _ room_1 (by decide +kernel) (by decide +kernel) (by decide +kernel) (by decide +kernel) (by decide +kernel) (by decide +kernel)
theorem allAtoms_all (ts : List Jvm.Cond) (a : Array Jvm.Value) (st : Jvm.State) : (allAtoms ts).before a st = ts.all (fun c => c.before a st) := by
  induction ts with
  | nil => rfl
  | cons c t ih =>
    show (Jvm.Cond.and c (allAtoms t)).before a st = _
    rw [Jvm.Cond.before_and, ih, List.all_cons]
def words1 : List Jvm.Cond := Jvm.Cond.code x code maxLocals ret :: tables_1
/-- a 'code' word, met by the world's own term for the bytes: nothing is compared byte by byte -/
theorem code_word {y : MethodName} {bytes : ByteArray} {mx : Nat} {rt : Option FieldType} {a : Array Value} {s : State} {m : MethodId} {meth : Method} {c : Code} (h1 : s.methodNamed? y = some m) (h2 : s.vm.method? m = some meth) (h3 : meth.code = some c) (h4 : c.code = bytes)
    (h5 : (c.maxLocals == mx && c.exceptionTable.isEmpty && decide (c.maxStack ≤ mostOperands) && decide (meth.sig.returnType = rt) && !meth.locks && decide (parseMethodDescriptor y.desc = some meth.sig)) = true) : (Jvm.Cond.code y bytes mx rt).before a s = true := by
  simp only [Bool.and_eq_true, beq_iff_eq, Bool.not_eq_true', decide_eq_true_eq] at h5
  obtain ⟨⟨⟨⟨⟨g1, g2⟩, g3⟩, g4⟩, g5⟩, g6⟩ := h5
  simp [Cond.before, Cond.holds, Cond.value, h1, h2, h3, h4, g1, g2, g3, g4, g5, g6]
def isCode : Jvm.Cond → Bool
  | .code _ _ _ _ => true
  | _ => false
theorem all_split {L : List Jvm.Cond} {P : Jvm.Cond → Bool} (h1 : L.all (fun c => isCode c || P c) = true) (h2 : ∀ c ∈ L.filter isCode, P c = true) : L.all P = true := by
  refine List.all_eq_true.mpr fun c hc => ?_
  have h := List.all_eq_true.mp h1 c hc
  rcases Bool.eq_false_or_eq_true (isCode c) with hi | hi
  · exact h2 c (List.mem_filter.mpr ⟨hc, hi⟩)
  · simpa [hi] using h
set_option maxRecDepth 65536 in
theorem w_c0 : (Jvm.Cond.code x code maxLocals ret).before args0 about1 = true := code_word (m := ⟨1, 2⟩) (meth := k1m2) (c := k1c2) (by decide +kernel) rfl rfl rfl (by decide +kernel)
set_option maxRecDepth 65536 in
theorem w_c1 : (Jvm.Cond.code ({ cls := "com/example/safe_packet_runtime/safepacketruntime/lang/Position", name := "<init>", desc := "(II)V" } : Jvm.MethodName) prog_51_method_1_code (3 : Nat) (Option.none : Option Jvm.ClassFile.FieldType)).before args0 about1 = true := code_word (m := ⟨3, 0⟩) (meth := k3m0) (c := k3c0) (by decide +kernel) rfl rfl rfl (by decide +kernel)
set_option maxRecDepth 65536 in
theorem w_c2 : (Jvm.Cond.code ({ cls := "java/lang/Record", name := "<init>", desc := "()V" } : Jvm.MethodName) jdk_30_method_1_code (1 : Nat) (Option.none : Option Jvm.ClassFile.FieldType)).before args0 about1 = true := code_word (m := ⟨2, 0⟩) (meth := k2m0) (c := k2c0) (by decide +kernel) rfl rfl rfl (by decide +kernel)
set_option maxRecDepth 65536 in
theorem w_c3 : (Jvm.Cond.code ({ cls := "java/lang/Object", name := "<init>", desc := "()V" } : Jvm.MethodName) object_method_1_code (1 : Nat) (Option.none : Option Jvm.ClassFile.FieldType)).before args0 about1 = true := code_word (m := ⟨0, 0⟩) (meth := k0m0) (c := k0c0) (by decide +kernel) rfl rfl rfl (by decide +kernel)
set_option maxRecDepth 65536 in
theorem w_c4 : (Jvm.Cond.code ({ cls := "com/example/safe_packet_runtime/safepacketruntime/lang/PositionIsBeforePinLaw", name := "key", desc := "(II)J" } : Jvm.MethodName) method_2_code (2 : Nat) (Option.some Jvm.ClassFile.FieldType.long)).before args0 about1 = true := code_word (m := ⟨1, 1⟩) (meth := k1m1) (c := k1c1) (by decide +kernel) rfl rfl rfl (by decide +kernel)
set_option maxRecDepth 65536 in
theorem w_c5 : (Jvm.Cond.code ({ cls := "com/example/safe_packet_runtime/safepacketruntime/lang/Position", name := "isBefore", desc := "(Lcom/example/safe_packet_runtime/safepacketruntime/lang/Position;)Z" } : Jvm.MethodName) prog_51_method_2_code (2 : Nat) (Option.some Jvm.ClassFile.FieldType.boolean)).before args0 about1 = true := code_word (m := ⟨3, 1⟩) (meth := k3m1) (c := k3c1) (by decide +kernel) rfl rfl rfl (by decide +kernel)
def codes1 : List Jvm.Cond := [Jvm.Cond.code x code maxLocals ret, Jvm.Cond.code ({ cls := "com/example/safe_packet_runtime/safepacketruntime/lang/Position", name := "<init>", desc := "(II)V" } : Jvm.MethodName) prog_51_method_1_code (3 : Nat) (Option.none : Option Jvm.ClassFile.FieldType), Jvm.Cond.code ({ cls := "java/lang/Record", name := "<init>", desc := "()V" } : Jvm.MethodName) jdk_30_method_1_code (1 : Nat) (Option.none : Option Jvm.ClassFile.FieldType), Jvm.Cond.code ({ cls := "java/lang/Object", name := "<init>", desc := "()V" } : Jvm.MethodName) object_method_1_code (1 : Nat) (Option.none : Option Jvm.ClassFile.FieldType), Jvm.Cond.code ({ cls := "com/example/safe_packet_runtime/safepacketruntime/lang/PositionIsBeforePinLaw", name := "key", desc := "(II)J" } : Jvm.MethodName) method_2_code (2 : Nat) (Option.some Jvm.ClassFile.FieldType.long), Jvm.Cond.code ({ cls := "com/example/safe_packet_runtime/safepacketruntime/lang/Position", name := "isBefore", desc := "(Lcom/example/safe_packet_runtime/safepacketruntime/lang/Position;)Z" } : Jvm.MethodName) prog_51_method_2_code (2 : Nat) (Option.some Jvm.ClassFile.FieldType.boolean)]
set_option maxRecDepth 65536 in
theorem codes_eq : words1.filter isCode = codes1 := rfl
theorem w_codes : ∀ c ∈ words1.filter isCode, c.before args0 about1 = true := by
  rw [codes_eq]
  intro c hc
  simp only [codes1, List.mem_cons, List.not_mem_nil, or_false] at hc
  rcases hc with rfl | rfl | rfl | rfl | rfl | rfl
  · exact w_c0
  · exact w_c1
  · exact w_c2
  · exact w_c3
  · exact w_c4
  · exact w_c5
set_option maxRecDepth 65536 in
theorem w_t1 : (words1.take 24).all (fun c => isCode c || c.before args0 about1) = true := by decide +kernel
set_option maxRecDepth 65536 in
theorem w_t2 : (words1.drop 24).all (fun c => isCode c || c.before args0 about1) = true := by decide +kernel
theorem w_tables : (allAtoms (Jvm.Cond.code x code maxLocals ret :: tables_1)).before args0 about1 = true := by
  rw [allAtoms_all]
  show words1.all (fun c => c.before args0 about1) = true
  refine all_split ?_ w_codes
  rw [← List.take_append_drop 24 words1, List.all_append, w_t1, w_t2]
  rfl
set_option maxRecDepth 65536 in
theorem w_case : (Jvm.Cond.and given_1 narrow_1).before args0 about1 = true := by decide +kernel
theorem w_applies : (headSpec (Jvm.Cond.code x code maxLocals ret :: tables_1) room_1).applies x e0.platform about1 = true :=
  (Spec.applies_iff w_frames).mpr ⟨w_running, w_runnable, w_alone, w_named, w_hears, w_ripe, w_room, w_tables⟩
theorem atStart : AtStart classFile x code maxLocals ret World_1 tables_1 room_1 Calls_1 rest_1 Pre_1 launch0 p0 e0 about1 theMethod args0 below0 :=
  ⟨lists_1, trivial, launch0.admits_env _ _ _, launch0.least_env, fairChoices_fair.cas, fairChoices_fair.clock, w_frames, w_args, w_heap, w_applies, trivial, trivial, w_case⟩
end start1
theorem witness_1 : WitnessClaimed_1 := ⟨start1.p0, start1.e0, start1.about1, start1.theMethod, start1.args0, start1.below0, start1.atStart⟩
end Jvm.Pilot.@@N@@
