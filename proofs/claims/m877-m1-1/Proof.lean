import JvmDerived
import JvmDerived.Pilot.@@N@@Statement
import JvmDerived.Pilot.@@N@@Code
set_option linter.unusedVariables false
set_option linter.unusedSimpArgs false
namespace Jvm.Pilot.@@N@@
open Jvm Jvm.ClassFile Sem Op Lib Jvm.Free Jvm.Stand Jvm.LawKit Jvm.RoadKit Bundle Jvm.Pilot.@@N@@.Jvm.D
/-! own kit: walks in the form 'what is left from this frame on', so that a walk may fork and join -/
section OwnKit
def b01 : Bool → Int32 | true => 1 | false => 0
def i01 (A : Prop) [Decidable A] : Int32 := if A then 1 else 0
theorem i01_t {A : Prop} [Decidable A] (h : A) : i01 A = 1 := if_pos h
theorem i01_f {A : Prop} [Decidable A] (h : ¬ A) : i01 A = 0 := if_neg h
theorem i01_0 {A : Prop} [Decidable A] : i01 A = 0 ↔ ¬ A := by unfold i01; by_cases h : A <;> simp [h]
theorem i01_b {A : Prop} [Decidable A] : i01 A = b01 (decide A) := by unfold i01; by_cases h : A <;> simp [h, b01]
theorem i01_n {A : Prop} [Decidable A] (h : ¬ i01 A = 0) : A := Decidable.not_not.mp fun q => h (i01_0.mpr q)
theorem b01_0 {b : Bool} : b01 b = 0 ↔ b = false := by cases b <;> simp [b01]
theorem b01_inj {a b : Bool} : b01 a = b01 b ↔ a = b := by cases a <;> cases b <;> simp [b01]
theorem b01_nar (b : Bool) : nar .boolean (b01 b) = b01 b := by cases b <;> rfl
theorem i01_nar {A : Prop} [Decidable A] : nar .boolean (i01 A) = i01 A := by rw [i01_b]; exact b01_nar _
variable {p : Program} {l : Launch} {e : Env} {R : Room} {s : State} {m : MethodId} {args : Array Value} {below : List Frame} {meth : Method} {c : Code} {T T' : State} {locs : List Loc} {cells slots : Nat} {Z : State} {a0 : Array Value} {h : Heap}
/-- from the frame g over T the run comes to an end of which P holds -/
def Go (p : Program) (e : Env) (below : List Frame) (P : State → Outcome → Prop) (T : State) (g : JFrame) : Prop :=
  ∃ (u : State) (o : Outcome), Steps p.tables e below (T.setTop g) u ∧ u.status = .running ∧ Ended u below o ∧ P u o
variable {P : State → Outcome → Prop}
theorem Go.via {g g' : JFrame} (st : ∀ t, Steps p.tables e below (T'.setTop g') t → Steps p.tables e below (T.setTop g) t) (k : Go p e below P T' g') : Go p e below P T g := by
  obtain ⟨u, o, hs, r⟩ := k
  exact ⟨u, o, st u hs, r⟩
theorem Go.cut {g g' : JFrame} (k1 : Go p e below P T' g' → Go p e below P T g) (k2 : Go p e below P T' g') : Go p e below P T g := k1 k2
theorem Go.cutA {α : Type} {g : JFrame} {g' : α → JFrame} (k1 : (∀ q, Go p e below P T' (g' q)) → Go p e below P T g) (k2 : ∀ q, Go p e below P T' (g' q)) : Go p e below P T g := k1 k2
theorem Go.cast {g g' : JFrame} (q : g = g') (k : Go p e below P T g') : Go p e below P T g := q ▸ k
/-- what a contract says of its end -/
def GoEnd (s : State) (Q : Option Value → Heap → List Loc → Prop) (cs sl : Nat) (u : State) (o : Outcome) : Prop := ∃ (v : Option Value) (L : List Loc), o = .returned v ∧ Q v u.heap L ∧ FrameEnd s o u L cs sl
variable {Q : Option Value → Heap → List Loc → Prop} {cs sl : Nat}
theorem Go.retN (X : Stand p l e R s m args below meth c T locs cells slots) (hx : p.tables.exec = Jvm.exec) (hk : meth.locks = false) {pc : Nat} {Ls : Array Slot} {z : Int32} {t : FieldType} {rest : List Value} (hret : meth.sig.returnType = some t) (ht : t = .boolean ∨ t = .byte ∨ t = .char ∨ t = .short)
    (hd : decode c.code pc = .ok (.ireturn, 1)) (hc : cells ≤ cs) (hl : slots ≤ sl) (hq : Q (some (.int (nar t z))) T.heap locs) : Go p e below (GoEnd s Q cs sl) T (mkF m pc Ls (.int z :: rest)) := by
  obtain ⟨fs, hr, hrun, hended, hW, hsame⟩ := X.leave (v := some (.int (nar t z))) (fun q => by rw [hret] at q; cases q) hk
  exact ⟨_, _, Jvm.RoadKit.retN X hx hret ht hd hr, hrun, hended, _, _, rfl, hq, ⟨_, rfl⟩, hW, hsame.mono hc hl⟩
theorem Go.retA (X : Stand p l e R s m args below meth c T locs cells slots) (hx : p.tables.exec = Jvm.exec) (hk : meth.locks = false) {pc : Nat} {Ls : Array Slot} {w : Value} {t : FieldType} {i : Instr} {rest : List Value} (hret : meth.sig.returnType = some t) (hn : narrow t w = w)
    (hi : (i = .ireturn ∧ (t = .int ∨ t = .boolean ∨ t = .byte ∨ t = .char ∨ t = .short) ∧ ∃ z, w = .int z) ∨ (i = .lreturn ∧ t = .long ∧ ∃ z, w = .long z) ∨ (i = .dreturn ∧ t = .double ∧ ∃ z, w = .double z) ∨ (i = .freturn ∧ t = .float ∧ ∃ z, w = .float z) ∨ (i = .areturn ∧ t.isReference = true ∧ w.isRef = true))
    (hd : decode c.code pc = .ok (i, 1)) (hc : cells ≤ cs) (hl : slots ≤ sl) (hq : Q (some w) T.heap locs) : Go p e below (GoEnd s Q cs sl) T (mkF m pc Ls (w :: rest)) := by
  obtain ⟨fs, hr, hrun, hended, hW, hsame⟩ := X.leave (v := some w) (fun q => by rw [hret] at q; cases q) hk
  exact ⟨_, _, Jvm.RoadKit.retOut X hx hret hn hi hd hr, hrun, hended, _, _, rfl, hq, ⟨_, rfl⟩, hW, hsame.mono hc hl⟩
theorem Go.retI (X : Stand p l e R s m args below meth c T locs cells slots) (hx : p.tables.exec = Jvm.exec) (hk : meth.locks = false) {pc : Nat} {Ls : Array Slot} {z : Int32} {rest : List Value} (hret : meth.sig.returnType = some .int)
    (hd : decode c.code pc = .ok (.ireturn, 1)) (hc : cells ≤ cs) (hl : slots ≤ sl) (hq : Q (some (.int z)) T.heap locs) : Go p e below (GoEnd s Q cs sl) T (mkF m pc Ls (.int z :: rest)) :=
  Go.retA X hx hk hret rfl (Or.inl ⟨rfl, Or.inl rfl, z, rfl⟩) hd hc hl hq
theorem Go.retJ (X : Stand p l e R s m args below meth c T locs cells slots) (hx : p.tables.exec = Jvm.exec) (hk : meth.locks = false) {pc : Nat} {Ls : Array Slot} {z : Int64} {rest : List Value} (hret : meth.sig.returnType = some .long)
    (hd : decode c.code pc = .ok (.lreturn, 1)) (hc : cells ≤ cs) (hl : slots ≤ sl) (hq : Q (some (.long z)) T.heap locs) : Go p e below (GoEnd s Q cs sl) T (mkF m pc Ls (.long z :: rest)) :=
  Go.retA X hx hk hret rfl (Or.inr (Or.inl ⟨rfl, rfl, z, rfl⟩)) hd hc hl hq
theorem Go.retV (X : Stand p l e R s m args below meth c T locs cells slots) (hx : p.tables.exec = Jvm.exec) (hk : meth.locks = false) {pc : Nat} {Ls : Array Slot} (hret : meth.sig.returnType = none)
    (hd : decode c.code pc = .ok (.return_, 1)) (hc : cells ≤ cs) (hl : slots ≤ sl) (hq : Q none T.heap locs) : Go p e below (GoEnd s Q cs sl) T (mkF m pc Ls []) := by
  obtain ⟨fs, hr, hrun, hended, hW, hsame⟩ := X.leave (v := none) (fun _ => rfl) hk
  exact ⟨_, _, X.returnOut hx hret hd hr, hrun, hended, _, _, rfl, hq, ⟨_, rfl⟩, hW, hsame.mono hc hl⟩
/-- a method's contract: called with as' over the heap h it ends and Q holds -/
abbrev Met (l : Launch) (Z : State) (y : MethodName) (bytes : ByteArray) (maxL : Nat) (ret : Option FieldType) (ws : List Jvm.Cond) (rm : Room) (as' : Array Value) (h : Heap) (Q : Option Value → Heap → List Loc → Prop) : Prop :=
  MetFree l y (head1 (Jvm.Cond.code y bytes maxL ret :: ws) rm) (fun a U => a = as' ∧ Z.Warmed39 U.vm ∧ U.heap = h) (fun _ _ _ _ _ => True) (fun _ U o U' => GoEnd U Q rm.cells rm.slots U' o)
variable {y : MethodName} {bytes : ByteArray} {maxL : Nat} {ret : Option FieldType} {ws : List Jvm.Cond} {rm : Room} {as' : Array Value}
/-- a body's own walk makes its contract -/
theorem Met.of (hp : plainFor y = true)
    (body : ∀ (p : Program) (e : Env) (s : State) (m : MethodId) (below : List Frame) (meth : Method) (c : Code) (T : State), p.tables.exec = Jvm.exec → c.code = bytes → c.maxLocals = maxL → meth.locks = false → meth.sig.returnType = ret → meth.name = y.name → s.vm.findClass y.cls = some m.cls → Z.Warmed39 s.vm →
      Stand p l e rm s m as' below meth c T [] 0 0 → T.heap = h → Go p e below (GoEnd s Q rm.cells rm.slots) T (entryFrame m as' maxL)) : Met l Z y bytes maxL ret ws rm as' h Q := by
  refine MetFree.of_bodySF hp hisR ?_
  intro p e s m args below meth c s₁ Bd hml hP hK
  obtain ⟨rfl, hZ, hh⟩ := hP
  exact body p e s m below meth c s₁ Bd.exec Bd.bytes hml (BodyLoose.notSynchronized Bd) Bd.returns (name_of_methodNamed Bd.named Bd.method).1 (findClass_of_methodNamed Bd.named) hZ (Stand.of_body Bd) (by rw [← hh, Bd.state]; rfl)
/-- a static call by its contract -/
theorem Go.callS (X : Stand p l e R s m args below meth c T locs cells slots) (hx : p.tables.exec = Jvm.exec) (hZ : Z.Warmed39 s.vm) {own : String} {index : Nat} (hown : s.vm.findClass own = some m.cls) (eT : T.heap = h)
    (w1 : (Cond.methodLink own index y).before a0 Z = true) (w2 : (Cond.static y).before a0 Z = true) (w3 : (Cond.initialized y.cls).before a0 Z = true) (w4 : (Cond.code y bytes maxL ret).before a0 Z = true) (hy : y.cls ≠ "java/lang/invoke/MethodHandle" ∧ y.cls ≠ "java/lang/invoke/VarHandle")
    (M : Met l Z y bytes maxL ret [] rm as' h Q) {pc : Nat} {Ls : Array Slot} {argsL rest : List Value} {ps : List FieldType} {r : Option FieldType} (hpd : parseMethodDescriptor y.desc = some ⟨ps, r⟩) (hn : argsL.length = ps.length) (has : argsL.toArray = as') (hsize : Ls.size = c.maxLocals)
    (hd : decode c.code pc = .ok (.invokestatic index, 3)) {W : Nat} (hW : (rest.map fun v => v.category).sum ≤ W) (hf : rm.frames + 1 ≤ R.frames) (hl : W + (maxL + 11) + rm.locals ≤ R.locals) (hc : cells + rm.cells ≤ R.cells) (hs : slots + rm.slots ≤ R.slots) :
    ∃ (v : Option Value) (T' : State) (L : List Loc), Stand p l e R s m args below meth c T' (locs ++ L) (cells + rm.cells) (slots + rm.slots) ∧ Q v T'.heap L ∧ ∀ {P : State → Outcome → Prop}, Go p e below P T' (mkF m (pc + 3) Ls (v.toList ++ rest)) → Go p e below P T (mkF m pc Ls (argsL.reverse ++ rest)) := by
  obtain ⟨v, vm₁, ⟨T', L', k', n'⟩, -, X', ⟨L, hQ, l1, l2, l3⟩, st⟩ := Jvm.LawKit.callS X hx hown (mvT hZ w1) (mvT hZ w2) (mvT hZ w3) (mvT hZ w4) hy (backOf (W := W) M hZ w4 w3 hf hl) (g := mkF m pc Ls (argsL.reverse ++ rest)) rfl hsize (lenOf hpd hn) rfl (by show 2 * 0 + _ ≤ _; omega) hd (fun _ _ => ⟨has, eT, hc, hs⟩)
  dsimp only [Pt.U, Pt.locs, Pt.cells, Pt.slots] at X' l1 l2 l3 st hQ
  subst l1 l2 l3
  exact ⟨v, T', L, X', hQ, fun k => Go.via st k⟩
/-- a constructor by its contract -/
theorem Go.callN (X : Stand p l e R s m args below meth c T locs cells slots) (hx : p.tables.exec = Jvm.exec) (hZ : Z.Warmed39 s.vm) {own : String} {index : Nat} (hown : s.vm.findClass own = some m.cls) (eT : T.heap = h) (hy1 : y.name = "<init>")
    (w1 : (Cond.methodLink own index y).before a0 Z = true) (w2 : (Cond.instanceMethod y).before a0 Z = true) (w3 : (Cond.initialized y.cls).before a0 Z = true) (w4 : (Cond.code y bytes maxL none).before a0 Z = true) (hy : y.cls ≠ "java/lang/invoke/MethodHandle" ∧ y.cls ≠ "java/lang/invoke/VarHandle")
    (M : Met l Z y bytes maxL none [] rm as' h Q) {pc : Nat} {Ls : Array Slot} {a : Addr} {argsL rest : List Value} {ps : List FieldType} {r : Option FieldType} (hpd : parseMethodDescriptor y.desc = some ⟨ps, r⟩) (hn : argsL.length = ps.length) (has : (.ref a :: argsL).toArray = as') (hsize : Ls.size = c.maxLocals)
    (hd : decode c.code pc = .ok (.invokespecial index, 3)) {W : Nat} (hW : (rest.map fun v => v.category).sum ≤ W) (hf : rm.frames + 1 ≤ R.frames) (hl : W + (maxL + 11) + rm.locals ≤ R.locals) (hc : cells + rm.cells ≤ R.cells) (hs : slots + rm.slots ≤ R.slots) :
    ∃ (v : Option Value) (T' : State) (L : List Loc), Stand p l e R s m args below meth c T' (locs ++ L) (cells + rm.cells) (slots + rm.slots) ∧ Q v T'.heap L ∧ ∀ {P : State → Outcome → Prop}, Go p e below P T' (mkF m (pc + 3) Ls (v.toList ++ rest)) → Go p e below P T (mkF m pc Ls (argsL.reverse ++ .ref a :: rest)) := by
  obtain ⟨v, vm₁, ⟨T', L', k', n'⟩, -, X', ⟨L, hQ, l1, l2, l3⟩, st⟩ := X.specialBack hx hy1 hown (mvT hZ w1) (mvT hZ w2) (mvT hZ w4) hy (backOf (W := W) M hZ w4 w3 hf hl) (g := mkF m pc Ls (argsL.reverse ++ .ref a :: rest)) rfl hsize (Steps.refl _) (lenOf hpd hn) rfl (by show 2 * 0 + _ ≤ _; omega) hd (fun _ _ => ⟨has, eT, hc, hs⟩)
  dsimp only [Pt.U, Pt.locs, Pt.cells, Pt.slots] at X' l1 l2 l3 st hQ
  subst l1 l2 l3
  exact ⟨v, T', L, X', hQ, fun k => Go.via (fun t k => st.trans k) k⟩
/-- an instance method by its contract -/
theorem Go.callV (X : Stand p l e R s m args below meth c T locs cells slots) (hx : p.tables.exec = Jvm.exec) (hZ : Z.Warmed39 s.vm) {own C : String} {index : Nat} (hown : s.vm.findClass own = some m.cls) (eT : T.heap = h)
    (w1 : (Cond.methodLink own index y).before a0 Z = true) (w2 : (Cond.declares y).before a0 Z = true) (w6 : (Cond.selects C y y).before a0 Z = true) (w7 : (Cond.instanceMethod y).before a0 Z = true) (w3 : (Cond.initialized y.cls).before a0 Z = true) (w4 : (Cond.code y bytes maxL ret).before a0 Z = true) (hy : y.cls ≠ "java/lang/invoke/MethodHandle" ∧ y.cls ≠ "java/lang/invoke/VarHandle")
    {a : Addr} (Ea : Exa Z h a C)
    (M : Met l Z y bytes maxL ret [] rm as' h Q) {pc : Nat} {Ls : Array Slot} {argsL rest : List Value} {ps : List FieldType} {r : Option FieldType} (hpd : parseMethodDescriptor y.desc = some ⟨ps, r⟩) (hn : argsL.length = ps.length) (has : (.ref a :: argsL).toArray = as') (hsize : Ls.size = c.maxLocals)
    (hd : decode c.code pc = .ok (.invokevirtual index, 3)) {W : Nat} (hW : (rest.map fun v => v.category).sum ≤ W) (hf : rm.frames + 1 ≤ R.frames) (hl : W + (maxL + 11) + rm.locals ≤ R.locals) (hc : cells + rm.cells ≤ R.cells) (hs : slots + rm.slots ≤ R.slots) :
    ∃ (v : Option Value) (T' : State) (L : List Loc), Stand p l e R s m args below meth c T' (locs ++ L) (cells + rm.cells) (slots + rm.slots) ∧ Q v T'.heap L ∧ ∀ {P : State → Outcome → Prop}, Go p e below P T' (mkF m (pc + 3) Ls (v.toList ++ rest)) → Go p e below P T (mkF m pc Ls (argsL.reverse ++ .ref a :: rest)) := by
  obtain ⟨cq, kq, qa, qb, qc⟩ := isOf hZ eT Ea
  obtain ⟨v, vm₁, ⟨T', L', k', n'⟩, -, X', ⟨L, hQ, l1, l2, l3⟩, st⟩ := X.virtualBack hx hown (mvT hZ w1) (mvT hZ w2) (notFace_of_selects (args := #[]) (mvT hZ w6)) (mvT hZ w6) (mvT hZ w7) hy (backOf (W := W) M hZ w4 w3 hf hl) qa qc (g := mkF m pc Ls (argsL.reverse ++ .ref a :: rest)) rfl hsize (Steps.refl _) (lenOf hpd hn) rfl (by show 2 * 0 + _ ≤ _; omega) hd (fun _ _ => ⟨has, eT, hc, hs⟩)
  dsimp only [Pt.U, Pt.locs, Pt.cells, Pt.slots] at X' l1 l2 l3 st hQ
  subst l1 l2 l3
  exact ⟨v, T', L, X', hQ, fun k => Go.via (fun t k => st.trans k) k⟩
end OwnKit
theorem own_pd0 : parseMethodDescriptor "()V" = some ⟨[], none⟩ := by decide +kernel
theorem own_pd1 : parseMethodDescriptor "(JJ)J" = some ⟨[.long, .long], some .long⟩ := by decide +kernel
theorem own_pd2 : parseMethodDescriptor "(JJ)V" = some ⟨[.long, .long], none⟩ := by decide +kernel
theorem own_pd3 : parseMethodDescriptor "(J)Z" = some ⟨[.long], some .boolean⟩ := by decide +kernel
theorem own_pd4 : parseMethodDescriptor "(JJJ)Z" = some ⟨[.long, .long, .long], some .boolean⟩ := by decide +kernel
def own_min (a b : Int64) : Int64 := if b < a then b else a
def own_max (a b : Int64) : Int64 := if a < b then b else a
abbrev own_cov (nb na t : Int64) : Prop := ¬ t + (30 : Int64) < nb ∧ ¬ na < t - (30 : Int64) ∧ ¬ na < nb
abbrev own_lo (nb t : Int64) : Prop := ¬ t < nb ∨ ((0 : Int64) < nb - t ∧ ¬ (30 : Int64) < nb - t)
abbrev own_up (na t : Int64) : Prop := ¬ na < t ∨ ((0 : Int64) < t - na ∧ ¬ (30 : Int64) < t - na)
abbrev own_exp (nb na t : Int64) : Prop := own_lo nb t ∧ own_up na t ∧ ¬ na < nb
theorem own_now (n : Int64) : (-9223372036854775778 : Int) ≤ (own_max (-9223372036854775778 : Int64) (own_min (9223372036854775777 : Int64) n)).toInt ∧ (own_max (-9223372036854775778 : Int64) (own_min (9223372036854775777 : Int64) n)).toInt ≤ 9223372036854775777 := by
  have e1 : (-9223372036854775778 : Int64).toInt = -9223372036854775778 := rfl
  have e2 : (9223372036854775777 : Int64).toInt = 9223372036854775777 := rfl
  unfold own_max own_min
  split <;> split <;> simp_all only [Int64.lt_iff_toInt_lt] <;> omega
theorem own_ce {nb na t : Int64} (h1 : (-9223372036854775778 : Int) ≤ t.toInt) (h2 : t.toInt ≤ 9223372036854775777) : own_cov nb na t ↔ own_exp nb na t := by
  have a1 := nb.le_toInt
  have a2 := nb.toInt_lt
  have b1 := na.le_toInt
  have b2 := na.toInt_lt
  have e30 : (30 : Int64).toInt = 30 := rfl
  have e0 : (0 : Int64).toInt = 0 := rfl
  have p1 : (t + 30).toInt = t.toInt + 30 := by rw [Int64.toInt_add, e30, Int.bmod_eq_of_le (by omega) (by omega)]
  have p2 : (t - 30).toInt = t.toInt - 30 := by rw [Int64.toInt_sub, e30, Int.bmod_eq_of_le (by omega) (by omega)]
  have p3 := bm64 (nb.toInt - t.toInt)
  have p4 := bm64 (t.toInt - na.toInt)
  have p5 := rng64 (nb - t)
  have p6 := rng64 (t - na)
  rw [← Int64.toInt_sub] at p3 p4
  simp only [own_cov, own_exp, own_lo, own_up, Int64.lt_iff_toInt_lt, p1, p2, e30, e0]
  omega
theorem own_law (nb na n : Int64) : i01 (own_cov nb na (own_max (-9223372036854775778 : Int64) (own_min (9223372036854775777 : Int64) n))) = i01 (own_exp nb na (own_max (-9223372036854775778 : Int64) (own_min (9223372036854775777 : Int64) n))) := by
  simp only [i01_b, own_ce (own_now n).1 (own_now n).2]
theorem own_d4_0 : decode jdk_30_method_1_code 0 = .ok (.aload_n 0, 1) := by decide +kernel
theorem own_d4_1 : decode jdk_30_method_1_code 1 = .ok (.invokespecial 1, 3) := by decide +kernel
theorem own_d4_4 : decode jdk_30_method_1_code 4 = .ok (.return_, 1) := by decide +kernel
theorem own_pn0 : plainName "java/lang/Record" = true := by first | (simp [plainName, overriddenIn]; done) | decide +kernel
theorem ef_own_rec (m : MethodId) (a1 : Addr) : entryFrame m #[(.ref a1)] 1 = mkF m 0 #[.val (.ref a1)] [] := by first | (simp [entryFrame, mkF, argsToLocals, Value.category]; done) | rfl
set_option maxRecDepth 65536 in
set_option maxHeartbeats 40000000 in
theorem own_rec (l : Launch) (Z : State) (a0 : Array Value) (hw : ∀ d ∈ tables_1, d.before a0 Z = true) (ws : List Jvm.Cond) (a1 : Addr)  (h0 : Heap) (n0 : Nat) (Z0 : n0 ≤ h0.size)  :
    Met l Z (⟨"java/lang/Record", "<init>", "()V"⟩ : MethodName) jdk_30_method_1_code 1 none ws ({ frames := 1, cells := 0, slots := 0, locals := 12 } : Room) #[(.ref a1)] h0 (fun v h L => v = none ∧ Fr n0 L ∧ h = h0) := by
  refine Met.of (plainFor_of_name own_pn0) ?_
  intro p e s m below meth c T0 hx hby hml hk hret hnm hown hZ X0 e0
  have N0 := Fr.nil n0
  refine Go.cast (ef_own_rec m a1) ?_
  show Go p e below _ T0 (mkF m 0 #[.val (.ref a1)] [])
  refine Go.via (fun _ k => XS.aloadN X0.here hx rfl (hb hby own_d4_0) rfl (by rfl) k) ?_
  show Go p e below _ T0 (mkF m 1 #[.val (.ref a1)] [(.ref a1)])
  obtain ⟨T1, X1, e1, st1⟩ := initO X0 hx hZ hown (hw _ (List.mem_of_getElem? (i := 20) rfl)) (hw _ (List.mem_of_getElem? (i := 21) rfl)) (hw _ (List.mem_of_getElem? (i := 22) rfl)) e0 (g := (mkF m 1 #[.val (.ref a1)] [(.ref a1)])) rfl (by rw [hml]; rfl) rfl (hb hby own_d4_1) (by decide) (W := 0) (by show 2 * 0 + _ ≤ _; exact Nat.le_of_eq rfl) (by decide)
  refine Go.via (fun _ k => st1 _ k) ?_
  show Go p e below _ T1 (mkF m 4 #[.val (.ref a1)] [])
  refine Go.retV X1 hx hk hret (hb hby own_d4_4) (by decide) (by decide) ?_
  exact ⟨rfl, N0, e1⟩
theorem own_d1_0 : decode jdk_29_method_70_code 0 = .ok (.lload_n 0, 1) := by decide +kernel
theorem own_d1_1 : decode jdk_29_method_70_code 1 = .ok (.lload_n 2, 1) := by decide +kernel
theorem own_d1_2 : decode jdk_29_method_70_code 2 = .ok (.lcmp, 1) := by decide +kernel
theorem own_d1_3 : decode jdk_29_method_70_code 3 = .ok (.ifCond .gt 7, 3) := by decide +kernel
theorem own_d1_6 : decode jdk_29_method_70_code 6 = .ok (.lload_n 0, 1) := by decide +kernel
theorem own_d1_7 : decode jdk_29_method_70_code 7 = .ok (.goto 4, 3) := by decide +kernel
theorem own_d1_10 : decode jdk_29_method_70_code 10 = .ok (.lload_n 2, 1) := by decide +kernel
theorem own_d1_11 : decode jdk_29_method_70_code 11 = .ok (.lreturn, 1) := by decide +kernel
theorem ef_own_mmin (m : MethodId) (p1 : Int64) (p2 : Int64) : entryFrame m #[(.long p1), (.long p2)] 4 = mkF m 0 #[.val (.long p1), .second, .val (.long p2), .second] [] := by first | (simp [entryFrame, mkF, argsToLocals, Value.category]; done) | rfl
set_option maxRecDepth 65536 in
set_option maxHeartbeats 40000000 in
theorem own_mmin (l : Launch) (Z : State) (a0 : Array Value) (hw : ∀ d ∈ tables_1, d.before a0 Z = true) (ws : List Jvm.Cond) (p1 : Int64) (p2 : Int64)  (h0 : Heap) (n0 : Nat) (Z0 : n0 ≤ h0.size)  :
    Met l Z (⟨"java/lang/Math", "min", "(JJ)J"⟩ : MethodName) jdk_29_method_70_code 4 (some .long) ws ({ frames := 0, cells := 0, slots := 0, locals := 0 } : Room) #[(.long p1), (.long p2)] h0 (fun v h L => v = some (.long (own_min p1 p2)) ∧ Fr n0 L ∧ h = h0) := by
  refine Met.of (Jvm.Free.JP.mathPlain rfl (by decide +kernel)) ?_
  intro p e s m below meth c T0 hx hby hml hk hret hnm hown hZ X0 e0
  have N0 := Fr.nil n0
  refine Go.cast (ef_own_mmin m p1 p2) ?_
  show Go p e below _ T0 (mkF m 0 #[.val (.long p1), .second, .val (.long p2), .second] [])
  refine Go.via (fun _ k => XS.lloadN X0.here hx rfl (hb hby own_d1_0) rfl  k) ?_
  show Go p e below _ T0 (mkF m 1 #[.val (.long p1), .second, .val (.long p2), .second] [(.long p1)])
  refine Go.via (fun _ k => XS.lloadN X0.here hx rfl (hb hby own_d1_1) rfl  k) ?_
  show Go p e below _ T0 (mkF m 2 #[.val (.long p1), .second, .val (.long p2), .second] [(.long p2), (.long p1)])
  refine Go.via (fun _ k => XS.lcmp X0.here hx rfl (hb hby own_d1_2) rfl k) ?_
  show Go p e below _ T0 (mkF m 3 #[.val (.long p1), .second, .val (.long p2), .second] [(.int (lcmpW p1 p2))])
  by_cases hc3 : p2 < p1
  · skip
    refine Go.via (fun _ k => XS.ifYes X0.here hx rfl (pc0 := 3) (pc' := 10) rfl (hb hby own_d1_3) rfl ((if0 _ _).trans (tlt ((lw_gt _ _).mpr hc3)).2.2.1) (by decide) (by decide) k) ?_
    show Go p e below _ T0 (mkF m 10 #[.val (.long p1), .second, .val (.long p2), .second] [])
    refine Go.via (fun _ k => XS.lloadN X0.here hx rfl (hb hby own_d1_10) rfl  k) ?_
    show Go p e below _ T0 (mkF m 11 #[.val (.long p1), .second, .val (.long p2), .second] [(.long p2)])
    refine Go.retJ X0 hx hk hret (hb hby own_d1_11) (by decide) (by decide) ?_
    exact ⟨by rw [show own_min p1 p2 = _ from if_pos hc3], N0, e0⟩
  · skip
    refine Go.via (fun _ k => XS.ifNo X0.here hx rfl (hb hby own_d1_3) rfl ((if0 _ _).trans (flt (fun q => hc3 ((lw_gt _ _).mp q))).2.2.1) k) ?_
    show Go p e below _ T0 (mkF m 6 #[.val (.long p1), .second, .val (.long p2), .second] [])
    refine Go.via (fun _ k => XS.lloadN X0.here hx rfl (hb hby own_d1_6) rfl  k) ?_
    show Go p e below _ T0 (mkF m 7 #[.val (.long p1), .second, .val (.long p2), .second] [(.long p1)])
    refine Go.via (fun _ k => XS.goto X0.here hx rfl (pc0 := 7) (pc' := 11) rfl (hb hby own_d1_7) (by decide) (by decide) k) ?_
    show Go p e below _ T0 (mkF m 11 #[.val (.long p1), .second, .val (.long p2), .second] [(.long p1)])
    refine Go.retJ X0 hx hk hret (hb hby own_d1_11) (by decide) (by decide) ?_
    exact ⟨by rw [show own_min p1 p2 = _ from if_neg hc3], N0, e0⟩
theorem own_d2_0 : decode jdk_29_method_66_code 0 = .ok (.lload_n 0, 1) := by decide +kernel
theorem own_d2_1 : decode jdk_29_method_66_code 1 = .ok (.lload_n 2, 1) := by decide +kernel
theorem own_d2_2 : decode jdk_29_method_66_code 2 = .ok (.lcmp, 1) := by decide +kernel
theorem own_d2_3 : decode jdk_29_method_66_code 3 = .ok (.ifCond .lt 7, 3) := by decide +kernel
theorem own_d2_6 : decode jdk_29_method_66_code 6 = .ok (.lload_n 0, 1) := by decide +kernel
theorem own_d2_7 : decode jdk_29_method_66_code 7 = .ok (.goto 4, 3) := by decide +kernel
theorem own_d2_10 : decode jdk_29_method_66_code 10 = .ok (.lload_n 2, 1) := by decide +kernel
theorem own_d2_11 : decode jdk_29_method_66_code 11 = .ok (.lreturn, 1) := by decide +kernel
theorem ef_own_mmax (m : MethodId) (p1 : Int64) (p2 : Int64) : entryFrame m #[(.long p1), (.long p2)] 4 = mkF m 0 #[.val (.long p1), .second, .val (.long p2), .second] [] := by first | (simp [entryFrame, mkF, argsToLocals, Value.category]; done) | rfl
set_option maxRecDepth 65536 in
set_option maxHeartbeats 40000000 in
theorem own_mmax (l : Launch) (Z : State) (a0 : Array Value) (hw : ∀ d ∈ tables_1, d.before a0 Z = true) (ws : List Jvm.Cond) (p1 : Int64) (p2 : Int64)  (h0 : Heap) (n0 : Nat) (Z0 : n0 ≤ h0.size)  :
    Met l Z (⟨"java/lang/Math", "max", "(JJ)J"⟩ : MethodName) jdk_29_method_66_code 4 (some .long) ws ({ frames := 0, cells := 0, slots := 0, locals := 0 } : Room) #[(.long p1), (.long p2)] h0 (fun v h L => v = some (.long (own_max p1 p2)) ∧ Fr n0 L ∧ h = h0) := by
  refine Met.of (Jvm.Free.JP.mathPlain rfl (by decide +kernel)) ?_
  intro p e s m below meth c T0 hx hby hml hk hret hnm hown hZ X0 e0
  have N0 := Fr.nil n0
  refine Go.cast (ef_own_mmax m p1 p2) ?_
  show Go p e below _ T0 (mkF m 0 #[.val (.long p1), .second, .val (.long p2), .second] [])
  refine Go.via (fun _ k => XS.lloadN X0.here hx rfl (hb hby own_d2_0) rfl  k) ?_
  show Go p e below _ T0 (mkF m 1 #[.val (.long p1), .second, .val (.long p2), .second] [(.long p1)])
  refine Go.via (fun _ k => XS.lloadN X0.here hx rfl (hb hby own_d2_1) rfl  k) ?_
  show Go p e below _ T0 (mkF m 2 #[.val (.long p1), .second, .val (.long p2), .second] [(.long p2), (.long p1)])
  refine Go.via (fun _ k => XS.lcmp X0.here hx rfl (hb hby own_d2_2) rfl k) ?_
  show Go p e below _ T0 (mkF m 3 #[.val (.long p1), .second, .val (.long p2), .second] [(.int (lcmpW p1 p2))])
  by_cases hc3 : p1 < p2
  · skip
    refine Go.via (fun _ k => XS.ifYes X0.here hx rfl (pc0 := 3) (pc' := 10) rfl (hb hby own_d2_3) rfl ((if0 _ _).trans (tlt ((lw_lt _ _).mpr hc3)).1) (by decide) (by decide) k) ?_
    show Go p e below _ T0 (mkF m 10 #[.val (.long p1), .second, .val (.long p2), .second] [])
    refine Go.via (fun _ k => XS.lloadN X0.here hx rfl (hb hby own_d2_10) rfl  k) ?_
    show Go p e below _ T0 (mkF m 11 #[.val (.long p1), .second, .val (.long p2), .second] [(.long p2)])
    refine Go.retJ X0 hx hk hret (hb hby own_d2_11) (by decide) (by decide) ?_
    exact ⟨by rw [show own_max p1 p2 = _ from if_pos hc3], N0, e0⟩
  · skip
    refine Go.via (fun _ k => XS.ifNo X0.here hx rfl (hb hby own_d2_3) rfl ((if0 _ _).trans (flt (fun q => hc3 ((lw_lt _ _).mp q))).1) k) ?_
    show Go p e below _ T0 (mkF m 6 #[.val (.long p1), .second, .val (.long p2), .second] [])
    refine Go.via (fun _ k => XS.lloadN X0.here hx rfl (hb hby own_d2_6) rfl  k) ?_
    show Go p e below _ T0 (mkF m 7 #[.val (.long p1), .second, .val (.long p2), .second] [(.long p1)])
    refine Go.via (fun _ k => XS.goto X0.here hx rfl (pc0 := 7) (pc' := 11) rfl (hb hby own_d2_7) (by decide) (by decide) k) ?_
    show Go p e below _ T0 (mkF m 11 #[.val (.long p1), .second, .val (.long p2), .second] [(.long p1)])
    refine Go.retJ X0 hx hk hret (hb hby own_d2_11) (by decide) (by decide) ?_
    exact ⟨by rw [show own_max p1 p2 = _ from if_neg hc3], N0, e0⟩
theorem own_d3_0 : decode prog_103_method_1_code 0 = .ok (.aload_n 0, 1) := by decide +kernel
theorem own_d3_1 : decode prog_103_method_1_code 1 = .ok (.invokespecial 3, 3) := by decide +kernel
theorem own_d3_4 : decode prog_103_method_1_code 4 = .ok (.aload_n 0, 1) := by decide +kernel
theorem own_d3_5 : decode prog_103_method_1_code 5 = .ok (.lload_n 1, 1) := by decide +kernel
theorem own_d3_6 : decode prog_103_method_1_code 6 = .ok (.putfield 9, 3) := by decide +kernel
theorem own_d3_9 : decode prog_103_method_1_code 9 = .ok (.aload_n 0, 1) := by decide +kernel
theorem own_d3_10 : decode prog_103_method_1_code 10 = .ok (.lload_n 3, 1) := by decide +kernel
theorem own_d3_11 : decode prog_103_method_1_code 11 = .ok (.putfield 15, 3) := by decide +kernel
theorem own_d3_14 : decode prog_103_method_1_code 14 = .ok (.return_, 1) := by decide +kernel
theorem own_pn1 : plainName "com/example/safe_packet_runtime/safepacketruntime/node/KeyExchange$Window" = true := by first | (simp [plainName, overriddenIn]; done) | decide +kernel
theorem ef_own_init (m : MethodId) (a1 : Addr) (p2 : Int64) (p3 : Int64) : entryFrame m #[(.ref a1), (.long p2), (.long p3)] 5 = mkF m 0 #[.val (.ref a1), .val (.long p2), .second, .val (.long p3), .second] [] := by first | (simp [entryFrame, mkF, argsToLocals, Value.category]; done) | rfl
set_option maxRecDepth 65536 in
set_option maxHeartbeats 40000000 in
theorem own_init (l : Launch) (Z : State) (a0 : Array Value) (hw : ∀ d ∈ tables_1, d.before a0 Z = true) (ws : List Jvm.Cond) (a1 : Addr) (p2 : Int64) (p3 : Int64)  (h0 : Heap) (n0 : Nat) (Z0 : n0 ≤ h0.size) (E_a1 : Exa Z h0 a1 "com/example/safe_packet_runtime/safepacketruntime/node/KeyExchange$Window") (F_notBefore : Fld Z h0 a1 "com/example/safe_packet_runtime/safepacketruntime/node/KeyExchange$Window" "notBefore" "J" (.long (0 : Int64))) (F_notAfter : Fld Z h0 a1 "com/example/safe_packet_runtime/safepacketruntime/node/KeyExchange$Window" "notAfter" "J" (.long (0 : Int64))) (g_a : n0 ≤ a1) :
    Met l Z (⟨"com/example/safe_packet_runtime/safepacketruntime/node/KeyExchange$Window", "<init>", "(JJ)V"⟩ : MethodName) prog_103_method_1_code 5 none ws ({ frames := 2, cells := 0, slots := 0, locals := 24 } : Room) #[(.ref a1), (.long p2), (.long p3)] h0 (fun v h L => v = none ∧ Fr n0 L ∧ Keep h0 h [a1] ∧ Exa Z h a1 "com/example/safe_packet_runtime/safepacketruntime/node/KeyExchange$Window" ∧ Fld Z h a1 "com/example/safe_packet_runtime/safepacketruntime/node/KeyExchange$Window" "notBefore" "J" (.long p2) ∧ Fld Z h a1 "com/example/safe_packet_runtime/safepacketruntime/node/KeyExchange$Window" "notAfter" "J" (.long p3)) := by
  refine Met.of (plainFor_of_name own_pn1) ?_
  intro p e s m below meth c T0 hx hby hml hk hret hnm hown hZ X0 e0
  have N0 := Fr.nil n0
  refine Go.cast (ef_own_init m a1 p2 p3) ?_
  have K0 := Keep.refl h0 [a1]
  show Go p e below _ T0 (mkF m 0 #[.val (.ref a1), .val (.long p2), .second, .val (.long p3), .second] [])
  refine Go.via (fun _ k => XS.aloadN X0.here hx rfl (hb hby own_d3_0) rfl (by rfl) k) ?_
  show Go p e below _ T0 (mkF m 1 #[.val (.ref a1), .val (.long p2), .second, .val (.long p3), .second] [(.ref a1)])
  obtain ⟨v1, T1, L1, X1, ⟨rfl, Nq1, eq1⟩, st1⟩ := Go.callN X0 hx hZ hown e0 rfl (hw _ (List.mem_of_getElem? (i := 15) rfl)) (hw _ (List.mem_of_getElem? (i := 16) rfl)) (hw _ (List.mem_of_getElem? (i := 18) rfl)) (hw _ (List.mem_of_getElem? (i := 19) rfl)) (by decide) (own_rec l Z a0 hw [] a1  h0 n0 Z0 ) (pc := 1) (Ls := #[.val (.ref a1), .val (.long p2), .second, .val (.long p3), .second]) (a := a1) (argsL := []) (rest := []) own_pd0 rfl rfl (by rw [hml]; rfl) (hb hby own_d3_1) (W := 0) (Nat.le_of_eq rfl) (by decide) (by decide) (by decide) (by decide)
  refine st1 ?_
  have N1 := Fr.app N0 Nq1
  show Go p e below _ T1 (mkF m 4 #[.val (.ref a1), .val (.long p2), .second, .val (.long p3), .second] [])
  refine Go.via (fun _ k => XS.aloadN X1.here hx rfl (hb hby own_d3_4) rfl (by rfl) k) ?_
  show Go p e below _ T1 (mkF m 5 #[.val (.ref a1), .val (.long p2), .second, .val (.long p3), .second] [(.ref a1)])
  refine Go.via (fun _ k => XS.lloadN X1.here hx rfl (hb hby own_d3_5) rfl  k) ?_
  show Go p e below _ T1 (mkF m 6 #[.val (.ref a1), .val (.long p2), .second, .val (.long p3), .second] [(.long p2), (.ref a1)])
  obtain ⟨T2, h2, X2, e2, W2, st2⟩ := putF X1 hx hZ hown (host := "") (Or.inl (hw _ (List.mem_of_getElem? (i := 23) rfl))) Via.refl eq1 F_notBefore E_a1 (Or.inr ⟨(hw _ (List.mem_of_getElem? (i := 24) rfl)), rfl, hnm⟩) (hw _ (List.mem_of_getElem? (i := 10) rfl)) (ty := .long) (by decide) rfl rfl (g := (mkF m 6 #[.val (.ref a1), .val (.long p2), .second, .val (.long p3), .second] [(.long p2), (.ref a1)])) rfl rfl (hb hby own_d3_6)
  refine Go.via (fun _ k => st2 _ k) ?_
  have Z2 : n0 ≤ h2.size := by rw [W2.size]; exact Z0
  have N2 := Fr.snoc X2 N1 g_a
  have E_a1_2 := E_a1.wr W2
  have K0_2 := K0.wr W2 (Or.inl (by simp))
  have F_notBefore_2 := F_notBefore.same W2
  have F_notAfter_2 := F_notAfter.other W2 (Or.inr (slot_ne (t := .long) (t' := .long) (Or.inr (hw _ (List.mem_of_getElem? (i := 26) rfl))) (Or.inr (hw _ (List.mem_of_getElem? (i := 24) rfl))) (by decide) (by decide) (by decide)))
  show Go p e below _ T2 (mkF m 9 #[.val (.ref a1), .val (.long p2), .second, .val (.long p3), .second] [])
  refine Go.via (fun _ k => XS.aloadN X2.here hx rfl (hb hby own_d3_9) rfl (by rfl) k) ?_
  show Go p e below _ T2 (mkF m 10 #[.val (.ref a1), .val (.long p2), .second, .val (.long p3), .second] [(.ref a1)])
  refine Go.via (fun _ k => XS.lloadN X2.here hx rfl (hb hby own_d3_10) rfl  k) ?_
  show Go p e below _ T2 (mkF m 11 #[.val (.ref a1), .val (.long p2), .second, .val (.long p3), .second] [(.long p3), (.ref a1)])
  obtain ⟨T3, h3, X3, e3, W3, st3⟩ := putF X2 hx hZ hown (host := "") (Or.inl (hw _ (List.mem_of_getElem? (i := 25) rfl))) Via.refl e2 F_notAfter_2 E_a1_2 (Or.inr ⟨(hw _ (List.mem_of_getElem? (i := 26) rfl)), rfl, hnm⟩) (hw _ (List.mem_of_getElem? (i := 10) rfl)) (ty := .long) (by decide) rfl rfl (g := (mkF m 11 #[.val (.ref a1), .val (.long p2), .second, .val (.long p3), .second] [(.long p3), (.ref a1)])) rfl rfl (hb hby own_d3_11)
  refine Go.via (fun _ k => st3 _ k) ?_
  have Z3 : n0 ≤ h3.size := by rw [W3.size]; exact Z2
  have N3 := Fr.snoc X3 N2 g_a
  have E_a1_2_3 := E_a1_2.wr W3
  have K0_2_3 := K0_2.wr W3 (Or.inl (by simp))
  have F_notBefore_2_3 := F_notBefore_2.other W3 (Or.inr (slot_ne (t := .long) (t' := .long) (Or.inr (hw _ (List.mem_of_getElem? (i := 24) rfl))) (Or.inr (hw _ (List.mem_of_getElem? (i := 26) rfl))) (by decide) (by decide) (by decide)))
  have F_notAfter_2_3 := F_notAfter_2.same W3
  show Go p e below _ T3 (mkF m 14 #[.val (.ref a1), .val (.long p2), .second, .val (.long p3), .second] [])
  refine Go.retV X3 hx hk hret (hb hby own_d3_14) (by decide) (by decide) ?_
  rw [e3]
  exact ⟨rfl, N3, K0_2_3, E_a1_2_3, F_notBefore_2_3, F_notAfter_2_3⟩
theorem own_d6_0 : decode prog_103_method_3_code 0 = .ok (.aload_n 0, 1) := by decide +kernel
theorem own_d6_1 : decode prog_103_method_3_code 1 = .ok (.getfield 9, 3) := by decide +kernel
theorem own_d6_4 : decode prog_103_method_3_code 4 = .ok (.lload_n 1, 1) := by decide +kernel
theorem own_d6_5 : decode prog_103_method_3_code 5 = .ok (.ldc2_w 21, 3) := by decide +kernel
theorem own_d6_8 : decode prog_103_method_3_code 8 = .ok (.ladd, 1) := by decide +kernel
theorem own_d6_9 : decode prog_103_method_3_code 9 = .ok (.lcmp, 1) := by decide +kernel
theorem own_d6_10 : decode prog_103_method_3_code 10 = .ok (.ifCond .gt 32, 3) := by decide +kernel
theorem own_d6_13 : decode prog_103_method_3_code 13 = .ok (.aload_n 0, 1) := by decide +kernel
theorem own_d6_14 : decode prog_103_method_3_code 14 = .ok (.getfield 15, 3) := by decide +kernel
theorem own_d6_17 : decode prog_103_method_3_code 17 = .ok (.lload_n 1, 1) := by decide +kernel
theorem own_d6_18 : decode prog_103_method_3_code 18 = .ok (.ldc2_w 21, 3) := by decide +kernel
theorem own_d6_21 : decode prog_103_method_3_code 21 = .ok (.lsub, 1) := by decide +kernel
theorem own_d6_22 : decode prog_103_method_3_code 22 = .ok (.lcmp, 1) := by decide +kernel
theorem own_d6_23 : decode prog_103_method_3_code 23 = .ok (.ifCond .lt 19, 3) := by decide +kernel
theorem own_d6_26 : decode prog_103_method_3_code 26 = .ok (.aload_n 0, 1) := by decide +kernel
theorem own_d6_27 : decode prog_103_method_3_code 27 = .ok (.getfield 9, 3) := by decide +kernel
theorem own_d6_30 : decode prog_103_method_3_code 30 = .ok (.aload_n 0, 1) := by decide +kernel
theorem own_d6_31 : decode prog_103_method_3_code 31 = .ok (.getfield 15, 3) := by decide +kernel
theorem own_d6_34 : decode prog_103_method_3_code 34 = .ok (.lcmp, 1) := by decide +kernel
theorem own_d6_35 : decode prog_103_method_3_code 35 = .ok (.ifCond .gt 7, 3) := by decide +kernel
theorem own_d6_38 : decode prog_103_method_3_code 38 = .ok (.iconst 1, 1) := by decide +kernel
theorem own_d6_39 : decode prog_103_method_3_code 39 = .ok (.goto 4, 3) := by decide +kernel
theorem own_d6_42 : decode prog_103_method_3_code 42 = .ok (.iconst 0, 1) := by decide +kernel
theorem own_d6_43 : decode prog_103_method_3_code 43 = .ok (.ireturn, 1) := by decide +kernel
theorem ef_own_mcov (m : MethodId) (a1 : Addr) (p2 : Int64) : entryFrame m #[(.ref a1), (.long p2)] 3 = mkF m 0 #[.val (.ref a1), .val (.long p2), .second] [] := by first | (simp [entryFrame, mkF, argsToLocals, Value.category]; done) | rfl
set_option maxRecDepth 65536 in
set_option maxHeartbeats 40000000 in
theorem own_mcov (l : Launch) (Z : State) (a0 : Array Value) (hw : ∀ d ∈ tables_1, d.before a0 Z = true) (ws : List Jvm.Cond) (a1 : Addr) (p2 : Int64) (nb na : Int64) (h0 : Heap) (n0 : Nat) (Z0 : n0 ≤ h0.size) (F_1 : Fld Z h0 a1 "com/example/safe_packet_runtime/safepacketruntime/node/KeyExchange$Window" "notBefore" "J" (.long nb)) (F_2 : Fld Z h0 a1 "com/example/safe_packet_runtime/safepacketruntime/node/KeyExchange$Window" "notAfter" "J" (.long na)) :
    Met l Z (⟨"com/example/safe_packet_runtime/safepacketruntime/node/KeyExchange$Window", "covers", "(J)Z"⟩ : MethodName) prog_103_method_3_code 3 (some .boolean) ws ({ frames := 0, cells := 0, slots := 0, locals := 0 } : Room) #[(.ref a1), (.long p2)] h0 (fun v h L => v = some (.int (i01 (own_cov nb na p2))) ∧ Fr n0 L ∧ h = h0) := by
  refine Met.of (plainFor_of_name own_pn1) ?_
  intro p e s m below meth c T0 hx hby hml hk hret hnm hown hZ X0 e0
  have N0 := Fr.nil n0
  refine Go.cast (ef_own_mcov m a1 p2) ?_
  show Go p e below _ T0 (mkF m 0 #[.val (.ref a1), .val (.long p2), .second] [])
  refine Go.via (fun _ k => XS.aloadN X0.here hx rfl (hb hby own_d6_0) rfl (by rfl) k) ?_
  show Go p e below _ T0 (mkF m 1 #[.val (.ref a1), .val (.long p2), .second] [(.ref a1)])
  obtain ⟨T1, X1, e1, st1⟩ := getF X0 hx hZ hown (host := "") (Or.inl (hw _ (List.mem_of_getElem? (i := 23) rfl))) Via.refl e0 F_1 (g := (mkF m 1 #[.val (.ref a1), .val (.long p2), .second] [(.ref a1)])) rfl rfl (hb hby own_d6_1)
  refine Go.via (fun _ k => st1 _ k) ?_
  show Go p e below _ T1 (mkF m 4 #[.val (.ref a1), .val (.long p2), .second] [(.long nb)])
  refine Go.via (fun _ k => XS.lloadN X1.here hx rfl (hb hby own_d6_4) rfl  k) ?_
  show Go p e below _ T1 (mkF m 5 #[.val (.ref a1), .val (.long p2), .second] [(.long p2), (.long nb)])
  refine Go.via (fun _ k => Stand.ldc2Long X1 hx hown (mvT hZ (hw _ (List.mem_of_getElem? (i := 32) rfl))) (g := (mkF m 5 #[.val (.ref a1), .val (.long p2), .second] [(.long p2), (.long nb)])) rfl (hb hby own_d6_5) _ k) ?_
  show Go p e below _ T1 (mkF m 8 #[.val (.ref a1), .val (.long p2), .second] [(.long (30 : Int64)), (.long p2), (.long nb)])
  refine Go.via (fun _ k => XS.ladd X1.here hx rfl (hb hby own_d6_8) rfl k) ?_
  show Go p e below _ T1 (mkF m 9 #[.val (.ref a1), .val (.long p2), .second] [(.long (p2 + (30 : Int64))), (.long nb)])
  refine Go.via (fun _ k => XS.lcmp X1.here hx rfl (hb hby own_d6_9) rfl k) ?_
  show Go p e below _ T1 (mkF m 10 #[.val (.ref a1), .val (.long p2), .second] [(.int (lcmpW nb (p2 + (30 : Int64))))])
  by_cases hc10 : (p2 + (30 : Int64)) < nb
  · skip
    refine Go.via (fun _ k => XS.ifYes X1.here hx rfl (pc0 := 10) (pc' := 42) rfl (hb hby own_d6_10) rfl ((if0 _ _).trans (tlt ((lw_gt _ _).mpr hc10)).2.2.1) (by decide) (by decide) k) ?_
    show Go p e below _ T1 (mkF m 42 #[.val (.ref a1), .val (.long p2), .second] [])
    refine Go.via (fun _ k => XS.iconst X1.here hx rfl (hb hby own_d6_42) k) ?_
    show Go p e below _ T1 (mkF m 43 #[.val (.ref a1), .val (.long p2), .second] [(.int (0 : Int32))])
    refine Go.retN X1 hx hk (hret : meth.sig.returnType = some .boolean) (t := .boolean) (by simp) (hb hby own_d6_43) (by decide) (by decide) ?_
    exact ⟨by rw [show i01 (own_cov nb na p2) = _ from i01_f (fun q => q.1 hc10)]; rfl, N0, e1⟩
  · skip
    refine Go.via (fun _ k => XS.ifNo X1.here hx rfl (hb hby own_d6_10) rfl ((if0 _ _).trans (flt (fun q => hc10 ((lw_gt _ _).mp q))).2.2.1) k) ?_
    show Go p e below _ T1 (mkF m 13 #[.val (.ref a1), .val (.long p2), .second] [])
    refine Go.via (fun _ k => XS.aloadN X1.here hx rfl (hb hby own_d6_13) rfl (by rfl) k) ?_
    show Go p e below _ T1 (mkF m 14 #[.val (.ref a1), .val (.long p2), .second] [(.ref a1)])
    obtain ⟨T2, X2, e2, st2⟩ := getF X1 hx hZ hown (host := "") (Or.inl (hw _ (List.mem_of_getElem? (i := 25) rfl))) Via.refl e1 F_2 (g := (mkF m 14 #[.val (.ref a1), .val (.long p2), .second] [(.ref a1)])) rfl rfl (hb hby own_d6_14)
    refine Go.via (fun _ k => st2 _ k) ?_
    show Go p e below _ T2 (mkF m 17 #[.val (.ref a1), .val (.long p2), .second] [(.long na)])
    refine Go.via (fun _ k => XS.lloadN X2.here hx rfl (hb hby own_d6_17) rfl  k) ?_
    show Go p e below _ T2 (mkF m 18 #[.val (.ref a1), .val (.long p2), .second] [(.long p2), (.long na)])
    refine Go.via (fun _ k => Stand.ldc2Long X2 hx hown (mvT hZ (hw _ (List.mem_of_getElem? (i := 32) rfl))) (g := (mkF m 18 #[.val (.ref a1), .val (.long p2), .second] [(.long p2), (.long na)])) rfl (hb hby own_d6_18) _ k) ?_
    show Go p e below _ T2 (mkF m 21 #[.val (.ref a1), .val (.long p2), .second] [(.long (30 : Int64)), (.long p2), (.long na)])
    refine Go.via (fun _ k => XS.lsub X2.here hx rfl (hb hby own_d6_21) rfl k) ?_
    show Go p e below _ T2 (mkF m 22 #[.val (.ref a1), .val (.long p2), .second] [(.long (p2 - (30 : Int64))), (.long na)])
    refine Go.via (fun _ k => XS.lcmp X2.here hx rfl (hb hby own_d6_22) rfl k) ?_
    show Go p e below _ T2 (mkF m 23 #[.val (.ref a1), .val (.long p2), .second] [(.int (lcmpW na (p2 - (30 : Int64))))])
    by_cases hc23 : na < (p2 - (30 : Int64))
    · skip
      refine Go.via (fun _ k => XS.ifYes X2.here hx rfl (pc0 := 23) (pc' := 42) rfl (hb hby own_d6_23) rfl ((if0 _ _).trans (tlt ((lw_lt _ _).mpr hc23)).1) (by decide) (by decide) k) ?_
      show Go p e below _ T2 (mkF m 42 #[.val (.ref a1), .val (.long p2), .second] [])
      refine Go.via (fun _ k => XS.iconst X2.here hx rfl (hb hby own_d6_42) k) ?_
      show Go p e below _ T2 (mkF m 43 #[.val (.ref a1), .val (.long p2), .second] [(.int (0 : Int32))])
      refine Go.retN X2 hx hk (hret : meth.sig.returnType = some .boolean) (t := .boolean) (by simp) (hb hby own_d6_43) (by decide) (by decide) ?_
      exact ⟨by rw [show i01 (own_cov nb na p2) = _ from i01_f (fun q => q.2.1 hc23)]; rfl, N0, e2⟩
    · skip
      refine Go.via (fun _ k => XS.ifNo X2.here hx rfl (hb hby own_d6_23) rfl ((if0 _ _).trans (flt (fun q => hc23 ((lw_lt _ _).mp q))).1) k) ?_
      show Go p e below _ T2 (mkF m 26 #[.val (.ref a1), .val (.long p2), .second] [])
      refine Go.via (fun _ k => XS.aloadN X2.here hx rfl (hb hby own_d6_26) rfl (by rfl) k) ?_
      show Go p e below _ T2 (mkF m 27 #[.val (.ref a1), .val (.long p2), .second] [(.ref a1)])
      obtain ⟨T3, X3, e3, st3⟩ := getF X2 hx hZ hown (host := "") (Or.inl (hw _ (List.mem_of_getElem? (i := 23) rfl))) Via.refl e2 F_1 (g := (mkF m 27 #[.val (.ref a1), .val (.long p2), .second] [(.ref a1)])) rfl rfl (hb hby own_d6_27)
      refine Go.via (fun _ k => st3 _ k) ?_
      show Go p e below _ T3 (mkF m 30 #[.val (.ref a1), .val (.long p2), .second] [(.long nb)])
      refine Go.via (fun _ k => XS.aloadN X3.here hx rfl (hb hby own_d6_30) rfl (by rfl) k) ?_
      show Go p e below _ T3 (mkF m 31 #[.val (.ref a1), .val (.long p2), .second] [(.ref a1), (.long nb)])
      obtain ⟨T4, X4, e4, st4⟩ := getF X3 hx hZ hown (host := "") (Or.inl (hw _ (List.mem_of_getElem? (i := 25) rfl))) Via.refl e3 F_2 (g := (mkF m 31 #[.val (.ref a1), .val (.long p2), .second] [(.ref a1), (.long nb)])) rfl rfl (hb hby own_d6_31)
      refine Go.via (fun _ k => st4 _ k) ?_
      show Go p e below _ T4 (mkF m 34 #[.val (.ref a1), .val (.long p2), .second] [(.long na), (.long nb)])
      refine Go.via (fun _ k => XS.lcmp X4.here hx rfl (hb hby own_d6_34) rfl k) ?_
      show Go p e below _ T4 (mkF m 35 #[.val (.ref a1), .val (.long p2), .second] [(.int (lcmpW nb na))])
      by_cases hc35 : na < nb
      · skip
        refine Go.via (fun _ k => XS.ifYes X4.here hx rfl (pc0 := 35) (pc' := 42) rfl (hb hby own_d6_35) rfl ((if0 _ _).trans (tlt ((lw_gt _ _).mpr hc35)).2.2.1) (by decide) (by decide) k) ?_
        show Go p e below _ T4 (mkF m 42 #[.val (.ref a1), .val (.long p2), .second] [])
        refine Go.via (fun _ k => XS.iconst X4.here hx rfl (hb hby own_d6_42) k) ?_
        show Go p e below _ T4 (mkF m 43 #[.val (.ref a1), .val (.long p2), .second] [(.int (0 : Int32))])
        refine Go.retN X4 hx hk (hret : meth.sig.returnType = some .boolean) (t := .boolean) (by simp) (hb hby own_d6_43) (by decide) (by decide) ?_
        exact ⟨by rw [show i01 (own_cov nb na p2) = _ from i01_f (fun q => q.2.2 hc35)]; rfl, N0, e4⟩
      · skip
        refine Go.via (fun _ k => XS.ifNo X4.here hx rfl (hb hby own_d6_35) rfl ((if0 _ _).trans (flt (fun q => hc35 ((lw_gt _ _).mp q))).2.2.1) k) ?_
        show Go p e below _ T4 (mkF m 38 #[.val (.ref a1), .val (.long p2), .second] [])
        refine Go.via (fun _ k => XS.iconst X4.here hx rfl (hb hby own_d6_38) k) ?_
        show Go p e below _ T4 (mkF m 39 #[.val (.ref a1), .val (.long p2), .second] [(.int (1 : Int32))])
        refine Go.via (fun _ k => XS.goto X4.here hx rfl (pc0 := 39) (pc' := 43) rfl (hb hby own_d6_39) (by decide) (by decide) k) ?_
        show Go p e below _ T4 (mkF m 43 #[.val (.ref a1), .val (.long p2), .second] [(.int (1 : Int32))])
        refine Go.retN X4 hx hk (hret : meth.sig.returnType = some .boolean) (t := .boolean) (by simp) (hb hby own_d6_43) (by decide) (by decide) ?_
        exact ⟨by rw [show i01 (own_cov nb na p2) = _ from i01_t ⟨hc10, hc23, hc35⟩]; rfl, N0, e4⟩
theorem own_d7_0 : decode method_3_code 0 = .ok (.lload_n 0, 1) := by decide +kernel
theorem own_d7_1 : decode method_3_code 1 = .ok (.lload 4, 2) := by decide +kernel
theorem own_d7_3 : decode method_3_code 3 = .ok (.lsub, 1) := by decide +kernel
theorem own_d7_4 : decode method_3_code 4 = .ok (.lstore 6, 2) := by decide +kernel
theorem own_d7_6 : decode method_3_code 6 = .ok (.lload_n 0, 1) := by decide +kernel
theorem own_d7_7 : decode method_3_code 7 = .ok (.lload 4, 2) := by decide +kernel
theorem own_d7_9 : decode method_3_code 9 = .ok (.lcmp, 1) := by decide +kernel
theorem own_d7_10 : decode method_3_code 10 = .ok (.ifCond .le 19, 3) := by decide +kernel
theorem own_d7_13 : decode method_3_code 13 = .ok (.lload 6, 2) := by decide +kernel
theorem own_d7_15 : decode method_3_code 15 = .ok (.lconst 0, 1) := by decide +kernel
theorem own_d7_16 : decode method_3_code 16 = .ok (.lcmp, 1) := by decide +kernel
theorem own_d7_17 : decode method_3_code 17 = .ok (.ifCond .le 16, 3) := by decide +kernel
theorem own_d7_20 : decode method_3_code 20 = .ok (.lload 6, 2) := by decide +kernel
theorem own_d7_22 : decode method_3_code 22 = .ok (.ldc2_w 37, 3) := by decide +kernel
theorem own_d7_25 : decode method_3_code 25 = .ok (.lcmp, 1) := by decide +kernel
theorem own_d7_26 : decode method_3_code 26 = .ok (.ifCond .gt 7, 3) := by decide +kernel
theorem own_d7_29 : decode method_3_code 29 = .ok (.iconst 1, 1) := by decide +kernel
theorem own_d7_30 : decode method_3_code 30 = .ok (.goto 4, 3) := by decide +kernel
theorem own_d7_33 : decode method_3_code 33 = .ok (.iconst 0, 1) := by decide +kernel
theorem own_d7_34 : decode method_3_code 34 = .ok (.istore 8, 2) := by decide +kernel
theorem own_d7_36 : decode method_3_code 36 = .ok (.lload 4, 2) := by decide +kernel
theorem own_d7_38 : decode method_3_code 38 = .ok (.lload_n 2, 1) := by decide +kernel
theorem own_d7_39 : decode method_3_code 39 = .ok (.lsub, 1) := by decide +kernel
theorem own_d7_40 : decode method_3_code 40 = .ok (.lstore 9, 2) := by decide +kernel
theorem own_d7_42 : decode method_3_code 42 = .ok (.lload_n 2, 1) := by decide +kernel
theorem own_d7_43 : decode method_3_code 43 = .ok (.lload 4, 2) := by decide +kernel
theorem own_d7_45 : decode method_3_code 45 = .ok (.lcmp, 1) := by decide +kernel
theorem own_d7_46 : decode method_3_code 46 = .ok (.ifCond .ge 19, 3) := by decide +kernel
theorem own_d7_49 : decode method_3_code 49 = .ok (.lload 9, 2) := by decide +kernel
theorem own_d7_51 : decode method_3_code 51 = .ok (.lconst 0, 1) := by decide +kernel
theorem own_d7_52 : decode method_3_code 52 = .ok (.lcmp, 1) := by decide +kernel
theorem own_d7_53 : decode method_3_code 53 = .ok (.ifCond .le 16, 3) := by decide +kernel
theorem own_d7_56 : decode method_3_code 56 = .ok (.lload 9, 2) := by decide +kernel
theorem own_d7_58 : decode method_3_code 58 = .ok (.ldc2_w 37, 3) := by decide +kernel
theorem own_d7_61 : decode method_3_code 61 = .ok (.lcmp, 1) := by decide +kernel
theorem own_d7_62 : decode method_3_code 62 = .ok (.ifCond .gt 7, 3) := by decide +kernel
theorem own_d7_65 : decode method_3_code 65 = .ok (.iconst 1, 1) := by decide +kernel
theorem own_d7_66 : decode method_3_code 66 = .ok (.goto 4, 3) := by decide +kernel
theorem own_d7_69 : decode method_3_code 69 = .ok (.iconst 0, 1) := by decide +kernel
theorem own_d7_70 : decode method_3_code 70 = .ok (.istore 11, 2) := by decide +kernel
theorem own_d7_72 : decode method_3_code 72 = .ok (.iload 8, 2) := by decide +kernel
theorem own_d7_74 : decode method_3_code 74 = .ok (.ifCond .eq 18, 3) := by decide +kernel
theorem own_d7_77 : decode method_3_code 77 = .ok (.iload 11, 2) := by decide +kernel
theorem own_d7_79 : decode method_3_code 79 = .ok (.ifCond .eq 13, 3) := by decide +kernel
theorem own_d7_82 : decode method_3_code 82 = .ok (.lload_n 0, 1) := by decide +kernel
theorem own_d7_83 : decode method_3_code 83 = .ok (.lload_n 2, 1) := by decide +kernel
theorem own_d7_84 : decode method_3_code 84 = .ok (.lcmp, 1) := by decide +kernel
theorem own_d7_85 : decode method_3_code 85 = .ok (.ifCond .gt 7, 3) := by decide +kernel
theorem own_d7_88 : decode method_3_code 88 = .ok (.iconst 1, 1) := by decide +kernel
theorem own_d7_89 : decode method_3_code 89 = .ok (.goto 4, 3) := by decide +kernel
theorem own_d7_92 : decode method_3_code 92 = .ok (.iconst 0, 1) := by decide +kernel
theorem own_d7_93 : decode method_3_code 93 = .ok (.ireturn, 1) := by decide +kernel
theorem own_pn2 : plainName "com/example/safe_packet_runtime/safepacketruntime/node/WindowCoversPinLaw" = true := by first | (simp [plainName, overriddenIn]; done) | decide +kernel
theorem ef_own_mexp (m : MethodId) (p1 : Int64) (p2 : Int64) (p3 : Int64) : entryFrame m #[(.long p1), (.long p2), (.long p3)] 12 = mkF m 0 #[.val (.long p1), .second, .val (.long p2), .second, .val (.long p3), .second, .unset, .unset, .unset, .unset, .unset, .unset] [] := by first | (simp [entryFrame, mkF, argsToLocals, Value.category]; done) | rfl
set_option maxRecDepth 65536 in
set_option maxHeartbeats 40000000 in
theorem own_mexp (l : Launch) (Z : State) (a0 : Array Value) (hw : ∀ d ∈ tables_1, d.before a0 Z = true) (ws : List Jvm.Cond) (p1 : Int64) (p2 : Int64) (p3 : Int64)  (h0 : Heap) (n0 : Nat) (Z0 : n0 ≤ h0.size)  :
    Met l Z (⟨"com/example/safe_packet_runtime/safepacketruntime/node/WindowCoversPinLaw", "expected", "(JJJ)Z"⟩ : MethodName) method_3_code 12 (some .boolean) ws ({ frames := 0, cells := 0, slots := 0, locals := 0 } : Room) #[(.long p1), (.long p2), (.long p3)] h0 (fun v h L => v = some (.int (i01 (own_exp p1 p2 p3))) ∧ Fr n0 L ∧ h = h0) := by
  refine Met.of (plainFor_of_name own_pn2) ?_
  intro p e s m below meth c T0 hx hby hml hk hret hnm hown hZ X0 e0
  have N0 := Fr.nil n0
  refine Go.cast (ef_own_mexp m p1 p2 p3) ?_
  show Go p e below _ T0 (mkF m 0 #[.val (.long p1), .second, .val (.long p2), .second, .val (.long p3), .second, .unset, .unset, .unset, .unset, .unset, .unset] [])
  refine Go.via (fun _ k => XS.lloadN X0.here hx rfl (hb hby own_d7_0) rfl  k) ?_
  show Go p e below _ T0 (mkF m 1 #[.val (.long p1), .second, .val (.long p2), .second, .val (.long p3), .second, .unset, .unset, .unset, .unset, .unset, .unset] [(.long p1)])
  refine Go.via (fun _ k => XS.lload X0.here hx rfl (hb hby own_d7_1) rfl  k) ?_
  show Go p e below _ T0 (mkF m 3 #[.val (.long p1), .second, .val (.long p2), .second, .val (.long p3), .second, .unset, .unset, .unset, .unset, .unset, .unset] [(.long p3), (.long p1)])
  refine Go.via (fun _ k => XS.lsub X0.here hx rfl (hb hby own_d7_3) rfl k) ?_
  show Go p e below _ T0 (mkF m 4 #[.val (.long p1), .second, .val (.long p2), .second, .val (.long p3), .second, .unset, .unset, .unset, .unset, .unset, .unset] [(.long (p1 - p3))])
  refine Go.via (fun _ k => XS.lstore X0.here hx rfl (hb hby own_d7_4) rfl (l' := #[.val (.long p1), .second, .val (.long p2), .second, .val (.long p3), .second, .val (.long (p1 - p3)), .second, .unset, .unset, .unset, .unset]) rfl k) ?_
  refine Go.cut (T' := T0) (g' := (mkF m 34 #[.val (.long p1), .second, .val (.long p2), .second, .val (.long p3), .second, .val (.long (p1 - p3)), .second, .unset, .unset, .unset, .unset] [(.int (i01 (own_lo p1 p3)))])) (fun J1 => ?_) ?_
  · skip
    show Go p e below _ T0 (mkF m 6 #[.val (.long p1), .second, .val (.long p2), .second, .val (.long p3), .second, .val (.long (p1 - p3)), .second, .unset, .unset, .unset, .unset] [])
    refine Go.via (fun _ k => XS.lloadN X0.here hx rfl (hb hby own_d7_6) rfl  k) ?_
    show Go p e below _ T0 (mkF m 7 #[.val (.long p1), .second, .val (.long p2), .second, .val (.long p3), .second, .val (.long (p1 - p3)), .second, .unset, .unset, .unset, .unset] [(.long p1)])
    refine Go.via (fun _ k => XS.lload X0.here hx rfl (hb hby own_d7_7) rfl  k) ?_
    show Go p e below _ T0 (mkF m 9 #[.val (.long p1), .second, .val (.long p2), .second, .val (.long p3), .second, .val (.long (p1 - p3)), .second, .unset, .unset, .unset, .unset] [(.long p3), (.long p1)])
    refine Go.via (fun _ k => XS.lcmp X0.here hx rfl (hb hby own_d7_9) rfl k) ?_
    show Go p e below _ T0 (mkF m 10 #[.val (.long p1), .second, .val (.long p2), .second, .val (.long p3), .second, .val (.long (p1 - p3)), .second, .unset, .unset, .unset, .unset] [(.int (lcmpW p1 p3))])
    by_cases hc10 : p3 < p1
    · skip
      refine Go.via (fun _ k => XS.ifNo X0.here hx rfl (hb hby own_d7_10) rfl ((if0 _ _).trans (tlt ((lw_gt _ _).mpr hc10)).2.2.2) k) ?_
      show Go p e below _ T0 (mkF m 13 #[.val (.long p1), .second, .val (.long p2), .second, .val (.long p3), .second, .val (.long (p1 - p3)), .second, .unset, .unset, .unset, .unset] [])
      refine Go.via (fun _ k => XS.lload X0.here hx rfl (hb hby own_d7_13) rfl  k) ?_
      show Go p e below _ T0 (mkF m 15 #[.val (.long p1), .second, .val (.long p2), .second, .val (.long p3), .second, .val (.long (p1 - p3)), .second, .unset, .unset, .unset, .unset] [(.long (p1 - p3))])
      refine Go.via (fun _ k => XS.lconst X0.here hx rfl (hb hby own_d7_15) k) ?_
      show Go p e below _ T0 (mkF m 16 #[.val (.long p1), .second, .val (.long p2), .second, .val (.long p3), .second, .val (.long (p1 - p3)), .second, .unset, .unset, .unset, .unset] [(.long (0 : Int64)), (.long (p1 - p3))])
      refine Go.via (fun _ k => XS.lcmp X0.here hx rfl (hb hby own_d7_16) rfl k) ?_
      show Go p e below _ T0 (mkF m 17 #[.val (.long p1), .second, .val (.long p2), .second, .val (.long p3), .second, .val (.long (p1 - p3)), .second, .unset, .unset, .unset, .unset] [(.int (lcmpW (p1 - p3) (0 : Int64)))])
      by_cases hc17 : (0 : Int64) < (p1 - p3)
      · skip
        refine Go.via (fun _ k => XS.ifNo X0.here hx rfl (hb hby own_d7_17) rfl ((if0 _ _).trans (tlt ((lw_gt _ _).mpr hc17)).2.2.2) k) ?_
        show Go p e below _ T0 (mkF m 20 #[.val (.long p1), .second, .val (.long p2), .second, .val (.long p3), .second, .val (.long (p1 - p3)), .second, .unset, .unset, .unset, .unset] [])
        refine Go.via (fun _ k => XS.lload X0.here hx rfl (hb hby own_d7_20) rfl  k) ?_
        show Go p e below _ T0 (mkF m 22 #[.val (.long p1), .second, .val (.long p2), .second, .val (.long p3), .second, .val (.long (p1 - p3)), .second, .unset, .unset, .unset, .unset] [(.long (p1 - p3))])
        refine Go.via (fun _ k => Stand.ldc2Long X0 hx hown (mvT hZ (hw _ (List.mem_of_getElem? (i := 37) rfl))) (g := (mkF m 22 #[.val (.long p1), .second, .val (.long p2), .second, .val (.long p3), .second, .val (.long (p1 - p3)), .second, .unset, .unset, .unset, .unset] [(.long (p1 - p3))])) rfl (hb hby own_d7_22) _ k) ?_
        show Go p e below _ T0 (mkF m 25 #[.val (.long p1), .second, .val (.long p2), .second, .val (.long p3), .second, .val (.long (p1 - p3)), .second, .unset, .unset, .unset, .unset] [(.long (30 : Int64)), (.long (p1 - p3))])
        refine Go.via (fun _ k => XS.lcmp X0.here hx rfl (hb hby own_d7_25) rfl k) ?_
        show Go p e below _ T0 (mkF m 26 #[.val (.long p1), .second, .val (.long p2), .second, .val (.long p3), .second, .val (.long (p1 - p3)), .second, .unset, .unset, .unset, .unset] [(.int (lcmpW (p1 - p3) (30 : Int64)))])
        by_cases hc26 : (30 : Int64) < (p1 - p3)
        · skip
          refine Go.via (fun _ k => XS.ifYes X0.here hx rfl (pc0 := 26) (pc' := 33) rfl (hb hby own_d7_26) rfl ((if0 _ _).trans (tlt ((lw_gt _ _).mpr hc26)).2.2.1) (by decide) (by decide) k) ?_
          show Go p e below _ T0 (mkF m 33 #[.val (.long p1), .second, .val (.long p2), .second, .val (.long p3), .second, .val (.long (p1 - p3)), .second, .unset, .unset, .unset, .unset] [])
          refine Go.via (fun _ k => XS.iconst X0.here hx rfl (hb hby own_d7_33) k) ?_
          rw [show (i01 (own_lo p1 p3)) = (0 : Int32) from i01_f (fun q => q.elim (fun u => u hc10) (fun u => u.2 hc26))] at J1
          exact J1
        · skip
          refine Go.via (fun _ k => XS.ifNo X0.here hx rfl (hb hby own_d7_26) rfl ((if0 _ _).trans (flt (fun q => hc26 ((lw_gt _ _).mp q))).2.2.1) k) ?_
          show Go p e below _ T0 (mkF m 29 #[.val (.long p1), .second, .val (.long p2), .second, .val (.long p3), .second, .val (.long (p1 - p3)), .second, .unset, .unset, .unset, .unset] [])
          refine Go.via (fun _ k => XS.iconst X0.here hx rfl (hb hby own_d7_29) k) ?_
          show Go p e below _ T0 (mkF m 30 #[.val (.long p1), .second, .val (.long p2), .second, .val (.long p3), .second, .val (.long (p1 - p3)), .second, .unset, .unset, .unset, .unset] [(.int (1 : Int32))])
          refine Go.via (fun _ k => XS.goto X0.here hx rfl (pc0 := 30) (pc' := 34) rfl (hb hby own_d7_30) (by decide) (by decide) k) ?_
          rw [show (i01 (own_lo p1 p3)) = (1 : Int32) from i01_t (Or.inr ⟨hc17, hc26⟩)] at J1
          exact J1
      · skip
        refine Go.via (fun _ k => XS.ifYes X0.here hx rfl (pc0 := 17) (pc' := 33) rfl (hb hby own_d7_17) rfl ((if0 _ _).trans (flt (fun q => hc17 ((lw_gt _ _).mp q))).2.2.2) (by decide) (by decide) k) ?_
        show Go p e below _ T0 (mkF m 33 #[.val (.long p1), .second, .val (.long p2), .second, .val (.long p3), .second, .val (.long (p1 - p3)), .second, .unset, .unset, .unset, .unset] [])
        refine Go.via (fun _ k => XS.iconst X0.here hx rfl (hb hby own_d7_33) k) ?_
        rw [show (i01 (own_lo p1 p3)) = (0 : Int32) from i01_f (fun q => q.elim (fun u => u hc10) (fun u => hc17 u.1))] at J1
        exact J1
    · skip
      refine Go.via (fun _ k => XS.ifYes X0.here hx rfl (pc0 := 10) (pc' := 29) rfl (hb hby own_d7_10) rfl ((if0 _ _).trans (flt (fun q => hc10 ((lw_gt _ _).mp q))).2.2.2) (by decide) (by decide) k) ?_
      show Go p e below _ T0 (mkF m 29 #[.val (.long p1), .second, .val (.long p2), .second, .val (.long p3), .second, .val (.long (p1 - p3)), .second, .unset, .unset, .unset, .unset] [])
      refine Go.via (fun _ k => XS.iconst X0.here hx rfl (hb hby own_d7_29) k) ?_
      show Go p e below _ T0 (mkF m 30 #[.val (.long p1), .second, .val (.long p2), .second, .val (.long p3), .second, .val (.long (p1 - p3)), .second, .unset, .unset, .unset, .unset] [(.int (1 : Int32))])
      refine Go.via (fun _ k => XS.goto X0.here hx rfl (pc0 := 30) (pc' := 34) rfl (hb hby own_d7_30) (by decide) (by decide) k) ?_
      rw [show (i01 (own_lo p1 p3)) = (1 : Int32) from i01_t (Or.inl hc10)] at J1
      exact J1
  show Go p e below _ T0 (mkF m 34 #[.val (.long p1), .second, .val (.long p2), .second, .val (.long p3), .second, .val (.long (p1 - p3)), .second, .unset, .unset, .unset, .unset] [(.int (i01 (own_lo p1 p3)))])
  refine Go.via (fun _ k => XS.istore X0.here hx rfl (hb hby own_d7_34) rfl (l' := #[.val (.long p1), .second, .val (.long p2), .second, .val (.long p3), .second, .val (.long (p1 - p3)), .second, .val (.int (i01 (own_lo p1 p3))), .unset, .unset, .unset]) rfl k) ?_
  show Go p e below _ T0 (mkF m 36 #[.val (.long p1), .second, .val (.long p2), .second, .val (.long p3), .second, .val (.long (p1 - p3)), .second, .val (.int (i01 (own_lo p1 p3))), .unset, .unset, .unset] [])
  refine Go.via (fun _ k => XS.lload X0.here hx rfl (hb hby own_d7_36) rfl  k) ?_
  show Go p e below _ T0 (mkF m 38 #[.val (.long p1), .second, .val (.long p2), .second, .val (.long p3), .second, .val (.long (p1 - p3)), .second, .val (.int (i01 (own_lo p1 p3))), .unset, .unset, .unset] [(.long p3)])
  refine Go.via (fun _ k => XS.lloadN X0.here hx rfl (hb hby own_d7_38) rfl  k) ?_
  show Go p e below _ T0 (mkF m 39 #[.val (.long p1), .second, .val (.long p2), .second, .val (.long p3), .second, .val (.long (p1 - p3)), .second, .val (.int (i01 (own_lo p1 p3))), .unset, .unset, .unset] [(.long p2), (.long p3)])
  refine Go.via (fun _ k => XS.lsub X0.here hx rfl (hb hby own_d7_39) rfl k) ?_
  show Go p e below _ T0 (mkF m 40 #[.val (.long p1), .second, .val (.long p2), .second, .val (.long p3), .second, .val (.long (p1 - p3)), .second, .val (.int (i01 (own_lo p1 p3))), .unset, .unset, .unset] [(.long (p3 - p2))])
  refine Go.via (fun _ k => XS.lstore X0.here hx rfl (hb hby own_d7_40) rfl (l' := #[.val (.long p1), .second, .val (.long p2), .second, .val (.long p3), .second, .val (.long (p1 - p3)), .second, .val (.int (i01 (own_lo p1 p3))), .val (.long (p3 - p2)), .second, .unset]) rfl k) ?_
  refine Go.cut (T' := T0) (g' := (mkF m 70 #[.val (.long p1), .second, .val (.long p2), .second, .val (.long p3), .second, .val (.long (p1 - p3)), .second, .val (.int (i01 (own_lo p1 p3))), .val (.long (p3 - p2)), .second, .unset] [(.int (i01 (own_up p2 p3)))])) (fun J2 => ?_) ?_
  · skip
    show Go p e below _ T0 (mkF m 42 #[.val (.long p1), .second, .val (.long p2), .second, .val (.long p3), .second, .val (.long (p1 - p3)), .second, .val (.int (i01 (own_lo p1 p3))), .val (.long (p3 - p2)), .second, .unset] [])
    refine Go.via (fun _ k => XS.lloadN X0.here hx rfl (hb hby own_d7_42) rfl  k) ?_
    show Go p e below _ T0 (mkF m 43 #[.val (.long p1), .second, .val (.long p2), .second, .val (.long p3), .second, .val (.long (p1 - p3)), .second, .val (.int (i01 (own_lo p1 p3))), .val (.long (p3 - p2)), .second, .unset] [(.long p2)])
    refine Go.via (fun _ k => XS.lload X0.here hx rfl (hb hby own_d7_43) rfl  k) ?_
    show Go p e below _ T0 (mkF m 45 #[.val (.long p1), .second, .val (.long p2), .second, .val (.long p3), .second, .val (.long (p1 - p3)), .second, .val (.int (i01 (own_lo p1 p3))), .val (.long (p3 - p2)), .second, .unset] [(.long p3), (.long p2)])
    refine Go.via (fun _ k => XS.lcmp X0.here hx rfl (hb hby own_d7_45) rfl k) ?_
    show Go p e below _ T0 (mkF m 46 #[.val (.long p1), .second, .val (.long p2), .second, .val (.long p3), .second, .val (.long (p1 - p3)), .second, .val (.int (i01 (own_lo p1 p3))), .val (.long (p3 - p2)), .second, .unset] [(.int (lcmpW p2 p3))])
    by_cases hc46 : p2 < p3
    · skip
      refine Go.via (fun _ k => XS.ifNo X0.here hx rfl (hb hby own_d7_46) rfl ((if0 _ _).trans (tlt ((lw_lt _ _).mpr hc46)).2.1) k) ?_
      show Go p e below _ T0 (mkF m 49 #[.val (.long p1), .second, .val (.long p2), .second, .val (.long p3), .second, .val (.long (p1 - p3)), .second, .val (.int (i01 (own_lo p1 p3))), .val (.long (p3 - p2)), .second, .unset] [])
      refine Go.via (fun _ k => XS.lload X0.here hx rfl (hb hby own_d7_49) rfl  k) ?_
      show Go p e below _ T0 (mkF m 51 #[.val (.long p1), .second, .val (.long p2), .second, .val (.long p3), .second, .val (.long (p1 - p3)), .second, .val (.int (i01 (own_lo p1 p3))), .val (.long (p3 - p2)), .second, .unset] [(.long (p3 - p2))])
      refine Go.via (fun _ k => XS.lconst X0.here hx rfl (hb hby own_d7_51) k) ?_
      show Go p e below _ T0 (mkF m 52 #[.val (.long p1), .second, .val (.long p2), .second, .val (.long p3), .second, .val (.long (p1 - p3)), .second, .val (.int (i01 (own_lo p1 p3))), .val (.long (p3 - p2)), .second, .unset] [(.long (0 : Int64)), (.long (p3 - p2))])
      refine Go.via (fun _ k => XS.lcmp X0.here hx rfl (hb hby own_d7_52) rfl k) ?_
      show Go p e below _ T0 (mkF m 53 #[.val (.long p1), .second, .val (.long p2), .second, .val (.long p3), .second, .val (.long (p1 - p3)), .second, .val (.int (i01 (own_lo p1 p3))), .val (.long (p3 - p2)), .second, .unset] [(.int (lcmpW (p3 - p2) (0 : Int64)))])
      by_cases hc53 : (0 : Int64) < (p3 - p2)
      · skip
        refine Go.via (fun _ k => XS.ifNo X0.here hx rfl (hb hby own_d7_53) rfl ((if0 _ _).trans (tlt ((lw_gt _ _).mpr hc53)).2.2.2) k) ?_
        show Go p e below _ T0 (mkF m 56 #[.val (.long p1), .second, .val (.long p2), .second, .val (.long p3), .second, .val (.long (p1 - p3)), .second, .val (.int (i01 (own_lo p1 p3))), .val (.long (p3 - p2)), .second, .unset] [])
        refine Go.via (fun _ k => XS.lload X0.here hx rfl (hb hby own_d7_56) rfl  k) ?_
        show Go p e below _ T0 (mkF m 58 #[.val (.long p1), .second, .val (.long p2), .second, .val (.long p3), .second, .val (.long (p1 - p3)), .second, .val (.int (i01 (own_lo p1 p3))), .val (.long (p3 - p2)), .second, .unset] [(.long (p3 - p2))])
        refine Go.via (fun _ k => Stand.ldc2Long X0 hx hown (mvT hZ (hw _ (List.mem_of_getElem? (i := 37) rfl))) (g := (mkF m 58 #[.val (.long p1), .second, .val (.long p2), .second, .val (.long p3), .second, .val (.long (p1 - p3)), .second, .val (.int (i01 (own_lo p1 p3))), .val (.long (p3 - p2)), .second, .unset] [(.long (p3 - p2))])) rfl (hb hby own_d7_58) _ k) ?_
        show Go p e below _ T0 (mkF m 61 #[.val (.long p1), .second, .val (.long p2), .second, .val (.long p3), .second, .val (.long (p1 - p3)), .second, .val (.int (i01 (own_lo p1 p3))), .val (.long (p3 - p2)), .second, .unset] [(.long (30 : Int64)), (.long (p3 - p2))])
        refine Go.via (fun _ k => XS.lcmp X0.here hx rfl (hb hby own_d7_61) rfl k) ?_
        show Go p e below _ T0 (mkF m 62 #[.val (.long p1), .second, .val (.long p2), .second, .val (.long p3), .second, .val (.long (p1 - p3)), .second, .val (.int (i01 (own_lo p1 p3))), .val (.long (p3 - p2)), .second, .unset] [(.int (lcmpW (p3 - p2) (30 : Int64)))])
        by_cases hc62 : (30 : Int64) < (p3 - p2)
        · skip
          refine Go.via (fun _ k => XS.ifYes X0.here hx rfl (pc0 := 62) (pc' := 69) rfl (hb hby own_d7_62) rfl ((if0 _ _).trans (tlt ((lw_gt _ _).mpr hc62)).2.2.1) (by decide) (by decide) k) ?_
          show Go p e below _ T0 (mkF m 69 #[.val (.long p1), .second, .val (.long p2), .second, .val (.long p3), .second, .val (.long (p1 - p3)), .second, .val (.int (i01 (own_lo p1 p3))), .val (.long (p3 - p2)), .second, .unset] [])
          refine Go.via (fun _ k => XS.iconst X0.here hx rfl (hb hby own_d7_69) k) ?_
          rw [show (i01 (own_up p2 p3)) = (0 : Int32) from i01_f (fun q => q.elim (fun u => u hc46) (fun u => u.2 hc62))] at J2
          exact J2
        · skip
          refine Go.via (fun _ k => XS.ifNo X0.here hx rfl (hb hby own_d7_62) rfl ((if0 _ _).trans (flt (fun q => hc62 ((lw_gt _ _).mp q))).2.2.1) k) ?_
          show Go p e below _ T0 (mkF m 65 #[.val (.long p1), .second, .val (.long p2), .second, .val (.long p3), .second, .val (.long (p1 - p3)), .second, .val (.int (i01 (own_lo p1 p3))), .val (.long (p3 - p2)), .second, .unset] [])
          refine Go.via (fun _ k => XS.iconst X0.here hx rfl (hb hby own_d7_65) k) ?_
          show Go p e below _ T0 (mkF m 66 #[.val (.long p1), .second, .val (.long p2), .second, .val (.long p3), .second, .val (.long (p1 - p3)), .second, .val (.int (i01 (own_lo p1 p3))), .val (.long (p3 - p2)), .second, .unset] [(.int (1 : Int32))])
          refine Go.via (fun _ k => XS.goto X0.here hx rfl (pc0 := 66) (pc' := 70) rfl (hb hby own_d7_66) (by decide) (by decide) k) ?_
          rw [show (i01 (own_up p2 p3)) = (1 : Int32) from i01_t (Or.inr ⟨hc53, hc62⟩)] at J2
          exact J2
      · skip
        refine Go.via (fun _ k => XS.ifYes X0.here hx rfl (pc0 := 53) (pc' := 69) rfl (hb hby own_d7_53) rfl ((if0 _ _).trans (flt (fun q => hc53 ((lw_gt _ _).mp q))).2.2.2) (by decide) (by decide) k) ?_
        show Go p e below _ T0 (mkF m 69 #[.val (.long p1), .second, .val (.long p2), .second, .val (.long p3), .second, .val (.long (p1 - p3)), .second, .val (.int (i01 (own_lo p1 p3))), .val (.long (p3 - p2)), .second, .unset] [])
        refine Go.via (fun _ k => XS.iconst X0.here hx rfl (hb hby own_d7_69) k) ?_
        rw [show (i01 (own_up p2 p3)) = (0 : Int32) from i01_f (fun q => q.elim (fun u => u hc46) (fun u => hc53 u.1))] at J2
        exact J2
    · skip
      refine Go.via (fun _ k => XS.ifYes X0.here hx rfl (pc0 := 46) (pc' := 65) rfl (hb hby own_d7_46) rfl ((if0 _ _).trans (flt (fun q => hc46 ((lw_lt _ _).mp q))).2.1) (by decide) (by decide) k) ?_
      show Go p e below _ T0 (mkF m 65 #[.val (.long p1), .second, .val (.long p2), .second, .val (.long p3), .second, .val (.long (p1 - p3)), .second, .val (.int (i01 (own_lo p1 p3))), .val (.long (p3 - p2)), .second, .unset] [])
      refine Go.via (fun _ k => XS.iconst X0.here hx rfl (hb hby own_d7_65) k) ?_
      show Go p e below _ T0 (mkF m 66 #[.val (.long p1), .second, .val (.long p2), .second, .val (.long p3), .second, .val (.long (p1 - p3)), .second, .val (.int (i01 (own_lo p1 p3))), .val (.long (p3 - p2)), .second, .unset] [(.int (1 : Int32))])
      refine Go.via (fun _ k => XS.goto X0.here hx rfl (pc0 := 66) (pc' := 70) rfl (hb hby own_d7_66) (by decide) (by decide) k) ?_
      rw [show (i01 (own_up p2 p3)) = (1 : Int32) from i01_t (Or.inl hc46)] at J2
      exact J2
  show Go p e below _ T0 (mkF m 70 #[.val (.long p1), .second, .val (.long p2), .second, .val (.long p3), .second, .val (.long (p1 - p3)), .second, .val (.int (i01 (own_lo p1 p3))), .val (.long (p3 - p2)), .second, .unset] [(.int (i01 (own_up p2 p3)))])
  refine Go.via (fun _ k => XS.istore X0.here hx rfl (hb hby own_d7_70) rfl (l' := #[.val (.long p1), .second, .val (.long p2), .second, .val (.long p3), .second, .val (.long (p1 - p3)), .second, .val (.int (i01 (own_lo p1 p3))), .val (.long (p3 - p2)), .second, .val (.int (i01 (own_up p2 p3)))]) rfl k) ?_
  show Go p e below _ T0 (mkF m 72 #[.val (.long p1), .second, .val (.long p2), .second, .val (.long p3), .second, .val (.long (p1 - p3)), .second, .val (.int (i01 (own_lo p1 p3))), .val (.long (p3 - p2)), .second, .val (.int (i01 (own_up p2 p3)))] [])
  refine Go.via (fun _ k => XS.iload X0.here hx rfl (hb hby own_d7_72) rfl  k) ?_
  show Go p e below _ T0 (mkF m 74 #[.val (.long p1), .second, .val (.long p2), .second, .val (.long p3), .second, .val (.long (p1 - p3)), .second, .val (.int (i01 (own_lo p1 p3))), .val (.long (p3 - p2)), .second, .val (.int (i01 (own_up p2 p3)))] [(.int (i01 (own_lo p1 p3)))])
  by_cases hc74 : (i01 (own_lo p1 p3)) = (0 : Int32)
  · skip
    refine Go.via (fun _ k => XS.ifYes X0.here hx rfl (pc0 := 74) (pc' := 92) rfl (hb hby own_d7_74) rfl ((if0 _ _).trans (teq hc74).1) (by decide) (by decide) k) ?_
    show Go p e below _ T0 (mkF m 92 #[.val (.long p1), .second, .val (.long p2), .second, .val (.long p3), .second, .val (.long (p1 - p3)), .second, .val (.int (i01 (own_lo p1 p3))), .val (.long (p3 - p2)), .second, .val (.int (i01 (own_up p2 p3)))] [])
    refine Go.via (fun _ k => XS.iconst X0.here hx rfl (hb hby own_d7_92) k) ?_
    show Go p e below _ T0 (mkF m 93 #[.val (.long p1), .second, .val (.long p2), .second, .val (.long p3), .second, .val (.long (p1 - p3)), .second, .val (.int (i01 (own_lo p1 p3))), .val (.long (p3 - p2)), .second, .val (.int (i01 (own_up p2 p3)))] [(.int (0 : Int32))])
    refine Go.retN X0 hx hk (hret : meth.sig.returnType = some .boolean) (t := .boolean) (by simp) (hb hby own_d7_93) (by decide) (by decide) ?_
    exact ⟨by rw [show i01 (own_exp p1 p2 p3) = _ from i01_f (fun q => i01_0.mp hc74 q.1)]; rfl, N0, e0⟩
  · skip
    refine Go.via (fun _ k => XS.ifNo X0.here hx rfl (hb hby own_d7_74) rfl ((if0 _ _).trans (feq hc74).1) k) ?_
    show Go p e below _ T0 (mkF m 77 #[.val (.long p1), .second, .val (.long p2), .second, .val (.long p3), .second, .val (.long (p1 - p3)), .second, .val (.int (i01 (own_lo p1 p3))), .val (.long (p3 - p2)), .second, .val (.int (i01 (own_up p2 p3)))] [])
    refine Go.via (fun _ k => XS.iload X0.here hx rfl (hb hby own_d7_77) rfl  k) ?_
    show Go p e below _ T0 (mkF m 79 #[.val (.long p1), .second, .val (.long p2), .second, .val (.long p3), .second, .val (.long (p1 - p3)), .second, .val (.int (i01 (own_lo p1 p3))), .val (.long (p3 - p2)), .second, .val (.int (i01 (own_up p2 p3)))] [(.int (i01 (own_up p2 p3)))])
    by_cases hc79 : (i01 (own_up p2 p3)) = (0 : Int32)
    · skip
      refine Go.via (fun _ k => XS.ifYes X0.here hx rfl (pc0 := 79) (pc' := 92) rfl (hb hby own_d7_79) rfl ((if0 _ _).trans (teq hc79).1) (by decide) (by decide) k) ?_
      show Go p e below _ T0 (mkF m 92 #[.val (.long p1), .second, .val (.long p2), .second, .val (.long p3), .second, .val (.long (p1 - p3)), .second, .val (.int (i01 (own_lo p1 p3))), .val (.long (p3 - p2)), .second, .val (.int (i01 (own_up p2 p3)))] [])
      refine Go.via (fun _ k => XS.iconst X0.here hx rfl (hb hby own_d7_92) k) ?_
      show Go p e below _ T0 (mkF m 93 #[.val (.long p1), .second, .val (.long p2), .second, .val (.long p3), .second, .val (.long (p1 - p3)), .second, .val (.int (i01 (own_lo p1 p3))), .val (.long (p3 - p2)), .second, .val (.int (i01 (own_up p2 p3)))] [(.int (0 : Int32))])
      refine Go.retN X0 hx hk (hret : meth.sig.returnType = some .boolean) (t := .boolean) (by simp) (hb hby own_d7_93) (by decide) (by decide) ?_
      exact ⟨by rw [show i01 (own_exp p1 p2 p3) = _ from i01_f (fun q => i01_0.mp hc79 q.2.1)]; rfl, N0, e0⟩
    · skip
      refine Go.via (fun _ k => XS.ifNo X0.here hx rfl (hb hby own_d7_79) rfl ((if0 _ _).trans (feq hc79).1) k) ?_
      show Go p e below _ T0 (mkF m 82 #[.val (.long p1), .second, .val (.long p2), .second, .val (.long p3), .second, .val (.long (p1 - p3)), .second, .val (.int (i01 (own_lo p1 p3))), .val (.long (p3 - p2)), .second, .val (.int (i01 (own_up p2 p3)))] [])
      refine Go.via (fun _ k => XS.lloadN X0.here hx rfl (hb hby own_d7_82) rfl  k) ?_
      show Go p e below _ T0 (mkF m 83 #[.val (.long p1), .second, .val (.long p2), .second, .val (.long p3), .second, .val (.long (p1 - p3)), .second, .val (.int (i01 (own_lo p1 p3))), .val (.long (p3 - p2)), .second, .val (.int (i01 (own_up p2 p3)))] [(.long p1)])
      refine Go.via (fun _ k => XS.lloadN X0.here hx rfl (hb hby own_d7_83) rfl  k) ?_
      show Go p e below _ T0 (mkF m 84 #[.val (.long p1), .second, .val (.long p2), .second, .val (.long p3), .second, .val (.long (p1 - p3)), .second, .val (.int (i01 (own_lo p1 p3))), .val (.long (p3 - p2)), .second, .val (.int (i01 (own_up p2 p3)))] [(.long p2), (.long p1)])
      refine Go.via (fun _ k => XS.lcmp X0.here hx rfl (hb hby own_d7_84) rfl k) ?_
      show Go p e below _ T0 (mkF m 85 #[.val (.long p1), .second, .val (.long p2), .second, .val (.long p3), .second, .val (.long (p1 - p3)), .second, .val (.int (i01 (own_lo p1 p3))), .val (.long (p3 - p2)), .second, .val (.int (i01 (own_up p2 p3)))] [(.int (lcmpW p1 p2))])
      by_cases hc85 : p2 < p1
      · skip
        refine Go.via (fun _ k => XS.ifYes X0.here hx rfl (pc0 := 85) (pc' := 92) rfl (hb hby own_d7_85) rfl ((if0 _ _).trans (tlt ((lw_gt _ _).mpr hc85)).2.2.1) (by decide) (by decide) k) ?_
        show Go p e below _ T0 (mkF m 92 #[.val (.long p1), .second, .val (.long p2), .second, .val (.long p3), .second, .val (.long (p1 - p3)), .second, .val (.int (i01 (own_lo p1 p3))), .val (.long (p3 - p2)), .second, .val (.int (i01 (own_up p2 p3)))] [])
        refine Go.via (fun _ k => XS.iconst X0.here hx rfl (hb hby own_d7_92) k) ?_
        show Go p e below _ T0 (mkF m 93 #[.val (.long p1), .second, .val (.long p2), .second, .val (.long p3), .second, .val (.long (p1 - p3)), .second, .val (.int (i01 (own_lo p1 p3))), .val (.long (p3 - p2)), .second, .val (.int (i01 (own_up p2 p3)))] [(.int (0 : Int32))])
        refine Go.retN X0 hx hk (hret : meth.sig.returnType = some .boolean) (t := .boolean) (by simp) (hb hby own_d7_93) (by decide) (by decide) ?_
        exact ⟨by rw [show i01 (own_exp p1 p2 p3) = _ from i01_f (fun q => q.2.2 hc85)]; rfl, N0, e0⟩
      · skip
        refine Go.via (fun _ k => XS.ifNo X0.here hx rfl (hb hby own_d7_85) rfl ((if0 _ _).trans (flt (fun q => hc85 ((lw_gt _ _).mp q))).2.2.1) k) ?_
        show Go p e below _ T0 (mkF m 88 #[.val (.long p1), .second, .val (.long p2), .second, .val (.long p3), .second, .val (.long (p1 - p3)), .second, .val (.int (i01 (own_lo p1 p3))), .val (.long (p3 - p2)), .second, .val (.int (i01 (own_up p2 p3)))] [])
        refine Go.via (fun _ k => XS.iconst X0.here hx rfl (hb hby own_d7_88) k) ?_
        show Go p e below _ T0 (mkF m 89 #[.val (.long p1), .second, .val (.long p2), .second, .val (.long p3), .second, .val (.long (p1 - p3)), .second, .val (.int (i01 (own_lo p1 p3))), .val (.long (p3 - p2)), .second, .val (.int (i01 (own_up p2 p3)))] [(.int (1 : Int32))])
        refine Go.via (fun _ k => XS.goto X0.here hx rfl (pc0 := 89) (pc' := 93) rfl (hb hby own_d7_89) (by decide) (by decide) k) ?_
        show Go p e below _ T0 (mkF m 93 #[.val (.long p1), .second, .val (.long p2), .second, .val (.long p3), .second, .val (.long (p1 - p3)), .second, .val (.int (i01 (own_lo p1 p3))), .val (.long (p3 - p2)), .second, .val (.int (i01 (own_up p2 p3)))] [(.int (1 : Int32))])
        refine Go.retN X0 hx hk (hret : meth.sig.returnType = some .boolean) (t := .boolean) (by simp) (hb hby own_d7_93) (by decide) (by decide) ?_
        exact ⟨by rw [show i01 (own_exp p1 p2 p3) = _ from i01_t ⟨i01_n hc74, i01_n hc79, hc85⟩]; rfl, N0, e0⟩
theorem ef_own_m0 (m : MethodId) (p1 : Int64) (p2 : Int64) (p3 : Int64) (p4 : Int32) (p5 : Int32) (p6 : Int32) : entryFrame m #[(.long p1), (.long p2), (.long p3), (.int p4), (.int p5), (.int p6)] maxLocals = mkF m 0 #[.val (.long p1), .second, .val (.long p2), .second, .val (.long p3), .second, .val (.int p4), .val (.int p5), .val (.int p6), .unset, .unset, .unset, .unset, .unset, .unset, .unset, .unset] [] := by first | (simp [entryFrame, mkF, argsToLocals, Value.category, maxLocals]; done) | rfl
set_option maxRecDepth 65536 in
set_option maxHeartbeats 40000000 in
theorem own_m0 (l : Launch) (Z : State) (a0 : Array Value) (hw : ∀ d ∈ tables_1, d.before a0 Z = true) (ws : List Jvm.Cond) (p1 : Int64) (p2 : Int64) (p3 : Int64) (p4 : Int32) (p5 : Int32) (p6 : Int32)  (h0 : Heap) (n0 : Nat) (Z0 : n0 ≤ h0.size)  :
    Met l Z x code maxLocals ret ws room_1 #[(.long p1), (.long p2), (.long p3), (.int p4), (.int p5), (.int p6)] h0 (fun v h L => v = some (.int 1) ∧ Fr n0 L) := by
  refine Met.of (plainFor_of_name own_pn2) ?_
  intro p e s m below meth c T0 hx hby hml hk hret hnm hown hZ X0 e0
  have N0 := Fr.nil n0
  refine Go.cast (ef_own_m0 m p1 p2 p3 p4 p5 p6) ?_
  show Go p e below _ T0 (mkF m 0 #[.val (.long p1), .second, .val (.long p2), .second, .val (.long p3), .second, .val (.int p4), .val (.int p5), .val (.int p6), .unset, .unset, .unset, .unset, .unset, .unset, .unset, .unset] [])
  refine Go.via (fun _ k => Stand.ldc2Long X0 hx hown (mvT hZ (hw _ (List.mem_of_getElem? (i := 0) rfl))) (g := (mkF m 0 #[.val (.long p1), .second, .val (.long p2), .second, .val (.long p3), .second, .val (.int p4), .val (.int p5), .val (.int p6), .unset, .unset, .unset, .unset, .unset, .unset, .unset, .unset] [])) rfl (hb hby at_0) _ k) ?_
  show Go p e below _ T0 (mkF m 3 #[.val (.long p1), .second, .val (.long p2), .second, .val (.long p3), .second, .val (.int p4), .val (.int p5), .val (.int p6), .unset, .unset, .unset, .unset, .unset, .unset, .unset, .unset] [(.long (-9223372036854775778 : Int64))])
  refine Go.via (fun _ k => Stand.ldc2Long X0 hx hown (mvT hZ (hw _ (List.mem_of_getElem? (i := 1) rfl))) (g := (mkF m 3 #[.val (.long p1), .second, .val (.long p2), .second, .val (.long p3), .second, .val (.int p4), .val (.int p5), .val (.int p6), .unset, .unset, .unset, .unset, .unset, .unset, .unset, .unset] [(.long (-9223372036854775778 : Int64))])) rfl (hb hby at_3) _ k) ?_
  show Go p e below _ T0 (mkF m 6 #[.val (.long p1), .second, .val (.long p2), .second, .val (.long p3), .second, .val (.int p4), .val (.int p5), .val (.int p6), .unset, .unset, .unset, .unset, .unset, .unset, .unset, .unset] [(.long (9223372036854775777 : Int64)), (.long (-9223372036854775778 : Int64))])
  refine Go.via (fun _ k => XS.lload X0.here hx rfl (hb hby at_6) rfl  k) ?_
  show Go p e below _ T0 (mkF m 8 #[.val (.long p1), .second, .val (.long p2), .second, .val (.long p3), .second, .val (.int p4), .val (.int p5), .val (.int p6), .unset, .unset, .unset, .unset, .unset, .unset, .unset, .unset] [(.long p3), (.long (9223372036854775777 : Int64)), (.long (-9223372036854775778 : Int64))])
  obtain ⟨v1, T1, L1, X1, ⟨rfl, Nq1, eq1⟩, st1⟩ := Go.callS X0 hx hZ hown e0 (hw _ (List.mem_of_getElem? (i := 2) rfl)) (hw _ (List.mem_of_getElem? (i := 3) rfl)) (hw _ (List.mem_of_getElem? (i := 4) rfl)) (hw _ (List.mem_of_getElem? (i := 5) rfl)) (by decide) (own_mmin l Z a0 hw [] (9223372036854775777 : Int64) p3  h0 n0 Z0 ) (pc := 8) (Ls := #[.val (.long p1), .second, .val (.long p2), .second, .val (.long p3), .second, .val (.int p4), .val (.int p5), .val (.int p6), .unset, .unset, .unset, .unset, .unset, .unset, .unset, .unset]) (argsL := [(.long (9223372036854775777 : Int64)), (.long p3)]) (rest := [(.long (-9223372036854775778 : Int64))]) own_pd1 rfl rfl (by rw [hml]; rfl) (hb hby at_8) (W := 2) (Nat.le_of_eq rfl) (by decide) (by decide) (by decide) (by decide)
  refine st1 ?_
  have N1 := Fr.app N0 Nq1
  show Go p e below _ T1 (mkF m 11 #[.val (.long p1), .second, .val (.long p2), .second, .val (.long p3), .second, .val (.int p4), .val (.int p5), .val (.int p6), .unset, .unset, .unset, .unset, .unset, .unset, .unset, .unset] [(.long (own_min (9223372036854775777 : Int64) p3)), (.long (-9223372036854775778 : Int64))])
  obtain ⟨v2, T2, L2, X2, ⟨rfl, Nq2, eq2⟩, st2⟩ := Go.callS X1 hx hZ hown eq1 (hw _ (List.mem_of_getElem? (i := 6) rfl)) (hw _ (List.mem_of_getElem? (i := 7) rfl)) (hw _ (List.mem_of_getElem? (i := 4) rfl)) (hw _ (List.mem_of_getElem? (i := 8) rfl)) (by decide) (own_mmax l Z a0 hw [] (-9223372036854775778 : Int64) (own_min (9223372036854775777 : Int64) p3)  h0 n0 Z0 ) (pc := 11) (Ls := #[.val (.long p1), .second, .val (.long p2), .second, .val (.long p3), .second, .val (.int p4), .val (.int p5), .val (.int p6), .unset, .unset, .unset, .unset, .unset, .unset, .unset, .unset]) (argsL := [(.long (-9223372036854775778 : Int64)), (.long (own_min (9223372036854775777 : Int64) p3))]) (rest := []) own_pd1 rfl rfl (by rw [hml]; rfl) (hb hby at_11) (W := 0) (Nat.le_of_eq rfl) (by decide) (by decide) (by decide) (by decide)
  refine st2 ?_
  have N2 := Fr.app N1 Nq2
  show Go p e below _ T2 (mkF m 14 #[.val (.long p1), .second, .val (.long p2), .second, .val (.long p3), .second, .val (.int p4), .val (.int p5), .val (.int p6), .unset, .unset, .unset, .unset, .unset, .unset, .unset, .unset] [(.long (own_max (-9223372036854775778 : Int64) (own_min (9223372036854775777 : Int64) p3)))])
  refine Go.via (fun _ k => XS.lstore X2.here hx rfl (hb hby at_14) rfl (l' := #[.val (.long p1), .second, .val (.long p2), .second, .val (.long p3), .second, .val (.int p4), .val (.int p5), .val (.int p6), .val (.long (own_max (-9223372036854775778 : Int64) (own_min (9223372036854775777 : Int64) p3))), .second, .unset, .unset, .unset, .unset, .unset, .unset]) rfl k) ?_
  refine Go.cutA (α := Int64) (T' := T2) (g' := fun q3 => (mkF m 36 #[.val (.long p1), .second, .val (.long p2), .second, .val (.long p3), .second, .val (.int p4), .val (.int p5), .val (.int p6), .val (.long (own_max (-9223372036854775778 : Int64) (own_min (9223372036854775777 : Int64) p3))), .second, .unset, .unset, .unset, .unset, .unset, .unset] [(.long q3)])) (fun J3 => ?_) (fun q3 => ?_)
  · skip
    show Go p e below _ T2 (mkF m 16 #[.val (.long p1), .second, .val (.long p2), .second, .val (.long p3), .second, .val (.int p4), .val (.int p5), .val (.int p6), .val (.long (own_max (-9223372036854775778 : Int64) (own_min (9223372036854775777 : Int64) p3))), .second, .unset, .unset, .unset, .unset, .unset, .unset] [])
    refine Go.via (fun _ k => XS.iload X2.here hx rfl (hb hby at_16) rfl  k) ?_
    show Go p e below _ T2 (mkF m 18 #[.val (.long p1), .second, .val (.long p2), .second, .val (.long p3), .second, .val (.int p4), .val (.int p5), .val (.int p6), .val (.long (own_max (-9223372036854775778 : Int64) (own_min (9223372036854775777 : Int64) p3))), .second, .unset, .unset, .unset, .unset, .unset, .unset] [(.int p4)])
    refine Go.via (fun _ k => XS.iconst X2.here hx rfl (hb hby at_18) k) ?_
    show Go p e below _ T2 (mkF m 19 #[.val (.long p1), .second, .val (.long p2), .second, .val (.long p3), .second, .val (.int p4), .val (.int p5), .val (.int p6), .val (.long (own_max (-9223372036854775778 : Int64) (own_min (9223372036854775777 : Int64) p3))), .second, .unset, .unset, .unset, .unset, .unset, .unset] [(.int (1 : Int32)), (.int p4)])
    refine Go.via (fun _ k => XS.iand X2.here hx rfl (hb hby at_19) rfl k) ?_
    show Go p e below _ T2 (mkF m 20 #[.val (.long p1), .second, .val (.long p2), .second, .val (.long p3), .second, .val (.int p4), .val (.int p5), .val (.int p6), .val (.long (own_max (-9223372036854775778 : Int64) (own_min (9223372036854775777 : Int64) p3))), .second, .unset, .unset, .unset, .unset, .unset, .unset] [(.int (p4 &&& (1 : Int32)))])
    by_cases hc20 : (p4 &&& (1 : Int32)) = (0 : Int32)
    · skip
      refine Go.via (fun _ k => XS.ifYes X2.here hx rfl (pc0 := 20) (pc' := 35) rfl (hb hby at_20) rfl ((if0 _ _).trans (teq hc20).1) (by decide) (by decide) k) ?_
      show Go p e below _ T2 (mkF m 35 #[.val (.long p1), .second, .val (.long p2), .second, .val (.long p3), .second, .val (.int p4), .val (.int p5), .val (.int p6), .val (.long (own_max (-9223372036854775778 : Int64) (own_min (9223372036854775777 : Int64) p3))), .second, .unset, .unset, .unset, .unset, .unset, .unset] [])
      refine Go.via (fun _ k => XS.lloadN X2.here hx rfl (hb hby at_35) rfl  k) ?_
      exact J3 _
    · skip
      refine Go.via (fun _ k => XS.ifNo X2.here hx rfl (hb hby at_20) rfl ((if0 _ _).trans (feq hc20).1) k) ?_
      show Go p e below _ T2 (mkF m 23 #[.val (.long p1), .second, .val (.long p2), .second, .val (.long p3), .second, .val (.int p4), .val (.int p5), .val (.int p6), .val (.long (own_max (-9223372036854775778 : Int64) (own_min (9223372036854775777 : Int64) p3))), .second, .unset, .unset, .unset, .unset, .unset, .unset] [])
      refine Go.via (fun _ k => XS.lload X2.here hx rfl (hb hby at_23) rfl  k) ?_
      show Go p e below _ T2 (mkF m 25 #[.val (.long p1), .second, .val (.long p2), .second, .val (.long p3), .second, .val (.int p4), .val (.int p5), .val (.int p6), .val (.long (own_max (-9223372036854775778 : Int64) (own_min (9223372036854775777 : Int64) p3))), .second, .unset, .unset, .unset, .unset, .unset, .unset] [(.long (own_max (-9223372036854775778 : Int64) (own_min (9223372036854775777 : Int64) p3)))])
      refine Go.via (fun _ k => XS.iload X2.here hx rfl (hb hby at_25) rfl  k) ?_
      show Go p e below _ T2 (mkF m 27 #[.val (.long p1), .second, .val (.long p2), .second, .val (.long p3), .second, .val (.int p4), .val (.int p5), .val (.int p6), .val (.long (own_max (-9223372036854775778 : Int64) (own_min (9223372036854775777 : Int64) p3))), .second, .unset, .unset, .unset, .unset, .unset, .unset] [(.int p5), (.long (own_max (-9223372036854775778 : Int64) (own_min (9223372036854775777 : Int64) p3)))])
      refine Go.via (fun _ k => XS.bipush X2.here hx rfl (hb hby at_27) k) ?_
      show Go p e below _ T2 (mkF m 29 #[.val (.long p1), .second, .val (.long p2), .second, .val (.long p3), .second, .val (.int p4), .val (.int p5), .val (.int p6), .val (.long (own_max (-9223372036854775778 : Int64) (own_min (9223372036854775777 : Int64) p3))), .second, .unset, .unset, .unset, .unset, .unset, .unset] [(.int (64 : Int32)), (.int p5), (.long (own_max (-9223372036854775778 : Int64) (own_min (9223372036854775777 : Int64) p3)))])
      refine Go.via (fun _ k => iremM (g := (mkF m 29 #[.val (.long p1), .second, .val (.long p2), .second, .val (.long p3), .second, .val (.int p4), .val (.int p5), .val (.int p6), .val (.long (own_max (-9223372036854775778 : Int64) (own_min (9223372036854775777 : Int64) p3))), .second, .unset, .unset, .unset, .unset, .unset, .unset] [(.int (64 : Int32)), (.int p5), (.long (own_max (-9223372036854775778 : Int64) (own_min (9223372036854775777 : Int64) p3)))])) X2 hx rfl (hb hby at_29) rfl (by decide) k) ?_
      show Go p e below _ T2 (mkF m 30 #[.val (.long p1), .second, .val (.long p2), .second, .val (.long p3), .second, .val (.int p4), .val (.int p5), .val (.int p6), .val (.long (own_max (-9223372036854775778 : Int64) (own_min (9223372036854775777 : Int64) p3))), .second, .unset, .unset, .unset, .unset, .unset, .unset] [(.int (p5 % (64 : Int32))), (.long (own_max (-9223372036854775778 : Int64) (own_min (9223372036854775777 : Int64) p3)))])
      refine Go.via (fun _ k => XS.i2l X2.here hx rfl (hb hby at_30) rfl k) ?_
      show Go p e below _ T2 (mkF m 31 #[.val (.long p1), .second, .val (.long p2), .second, .val (.long p3), .second, .val (.int p4), .val (.int p5), .val (.int p6), .val (.long (own_max (-9223372036854775778 : Int64) (own_min (9223372036854775777 : Int64) p3))), .second, .unset, .unset, .unset, .unset, .unset, .unset] [(.long ((p5 % (64 : Int32)).toInt64)), (.long (own_max (-9223372036854775778 : Int64) (own_min (9223372036854775777 : Int64) p3)))])
      refine Go.via (fun _ k => XS.ladd X2.here hx rfl (hb hby at_31) rfl k) ?_
      show Go p e below _ T2 (mkF m 32 #[.val (.long p1), .second, .val (.long p2), .second, .val (.long p3), .second, .val (.int p4), .val (.int p5), .val (.int p6), .val (.long (own_max (-9223372036854775778 : Int64) (own_min (9223372036854775777 : Int64) p3))), .second, .unset, .unset, .unset, .unset, .unset, .unset] [(.long ((own_max (-9223372036854775778 : Int64) (own_min (9223372036854775777 : Int64) p3)) + ((p5 % (64 : Int32)).toInt64)))])
      refine Go.via (fun _ k => XS.goto X2.here hx rfl (pc0 := 32) (pc' := 36) rfl (hb hby at_32) (by decide) (by decide) k) ?_
      exact J3 _
  show Go p e below _ T2 (mkF m 36 #[.val (.long p1), .second, .val (.long p2), .second, .val (.long p3), .second, .val (.int p4), .val (.int p5), .val (.int p6), .val (.long (own_max (-9223372036854775778 : Int64) (own_min (9223372036854775777 : Int64) p3))), .second, .unset, .unset, .unset, .unset, .unset, .unset] [(.long q3)])
  refine Go.via (fun _ k => XS.lstore X2.here hx rfl (hb hby at_36) rfl (l' := #[.val (.long p1), .second, .val (.long p2), .second, .val (.long p3), .second, .val (.int p4), .val (.int p5), .val (.int p6), .val (.long (own_max (-9223372036854775778 : Int64) (own_min (9223372036854775777 : Int64) p3))), .second, .val (.long q3), .second, .unset, .unset, .unset, .unset]) rfl k) ?_
  refine Go.cutA (α := Int64) (T' := T2) (g' := fun q4 => (mkF m 58 #[.val (.long p1), .second, .val (.long p2), .second, .val (.long p3), .second, .val (.int p4), .val (.int p5), .val (.int p6), .val (.long (own_max (-9223372036854775778 : Int64) (own_min (9223372036854775777 : Int64) p3))), .second, .val (.long q3), .second, .unset, .unset, .unset, .unset] [(.long q4)])) (fun J4 => ?_) (fun q4 => ?_)
  · skip
    show Go p e below _ T2 (mkF m 38 #[.val (.long p1), .second, .val (.long p2), .second, .val (.long p3), .second, .val (.int p4), .val (.int p5), .val (.int p6), .val (.long (own_max (-9223372036854775778 : Int64) (own_min (9223372036854775777 : Int64) p3))), .second, .val (.long q3), .second, .unset, .unset, .unset, .unset] [])
    refine Go.via (fun _ k => XS.iload X2.here hx rfl (hb hby at_38) rfl  k) ?_
    show Go p e below _ T2 (mkF m 40 #[.val (.long p1), .second, .val (.long p2), .second, .val (.long p3), .second, .val (.int p4), .val (.int p5), .val (.int p6), .val (.long (own_max (-9223372036854775778 : Int64) (own_min (9223372036854775777 : Int64) p3))), .second, .val (.long q3), .second, .unset, .unset, .unset, .unset] [(.int p4)])
    refine Go.via (fun _ k => XS.iconst X2.here hx rfl (hb hby at_40) k) ?_
    show Go p e below _ T2 (mkF m 41 #[.val (.long p1), .second, .val (.long p2), .second, .val (.long p3), .second, .val (.int p4), .val (.int p5), .val (.int p6), .val (.long (own_max (-9223372036854775778 : Int64) (own_min (9223372036854775777 : Int64) p3))), .second, .val (.long q3), .second, .unset, .unset, .unset, .unset] [(.int (2 : Int32)), (.int p4)])
    refine Go.via (fun _ k => XS.iand X2.here hx rfl (hb hby at_41) rfl k) ?_
    show Go p e below _ T2 (mkF m 42 #[.val (.long p1), .second, .val (.long p2), .second, .val (.long p3), .second, .val (.int p4), .val (.int p5), .val (.int p6), .val (.long (own_max (-9223372036854775778 : Int64) (own_min (9223372036854775777 : Int64) p3))), .second, .val (.long q3), .second, .unset, .unset, .unset, .unset] [(.int (p4 &&& (2 : Int32)))])
    by_cases hc42 : (p4 &&& (2 : Int32)) = (0 : Int32)
    · skip
      refine Go.via (fun _ k => XS.ifYes X2.here hx rfl (pc0 := 42) (pc' := 57) rfl (hb hby at_42) rfl ((if0 _ _).trans (teq hc42).1) (by decide) (by decide) k) ?_
      show Go p e below _ T2 (mkF m 57 #[.val (.long p1), .second, .val (.long p2), .second, .val (.long p3), .second, .val (.int p4), .val (.int p5), .val (.int p6), .val (.long (own_max (-9223372036854775778 : Int64) (own_min (9223372036854775777 : Int64) p3))), .second, .val (.long q3), .second, .unset, .unset, .unset, .unset] [])
      refine Go.via (fun _ k => XS.lloadN X2.here hx rfl (hb hby at_57) rfl  k) ?_
      exact J4 _
    · skip
      refine Go.via (fun _ k => XS.ifNo X2.here hx rfl (hb hby at_42) rfl ((if0 _ _).trans (feq hc42).1) k) ?_
      show Go p e below _ T2 (mkF m 45 #[.val (.long p1), .second, .val (.long p2), .second, .val (.long p3), .second, .val (.int p4), .val (.int p5), .val (.int p6), .val (.long (own_max (-9223372036854775778 : Int64) (own_min (9223372036854775777 : Int64) p3))), .second, .val (.long q3), .second, .unset, .unset, .unset, .unset] [])
      refine Go.via (fun _ k => XS.lload X2.here hx rfl (hb hby at_45) rfl  k) ?_
      show Go p e below _ T2 (mkF m 47 #[.val (.long p1), .second, .val (.long p2), .second, .val (.long p3), .second, .val (.int p4), .val (.int p5), .val (.int p6), .val (.long (own_max (-9223372036854775778 : Int64) (own_min (9223372036854775777 : Int64) p3))), .second, .val (.long q3), .second, .unset, .unset, .unset, .unset] [(.long (own_max (-9223372036854775778 : Int64) (own_min (9223372036854775777 : Int64) p3)))])
      refine Go.via (fun _ k => XS.iload X2.here hx rfl (hb hby at_47) rfl  k) ?_
      show Go p e below _ T2 (mkF m 49 #[.val (.long p1), .second, .val (.long p2), .second, .val (.long p3), .second, .val (.int p4), .val (.int p5), .val (.int p6), .val (.long (own_max (-9223372036854775778 : Int64) (own_min (9223372036854775777 : Int64) p3))), .second, .val (.long q3), .second, .unset, .unset, .unset, .unset] [(.int p6), (.long (own_max (-9223372036854775778 : Int64) (own_min (9223372036854775777 : Int64) p3)))])
      refine Go.via (fun _ k => XS.bipush X2.here hx rfl (hb hby at_49) k) ?_
      show Go p e below _ T2 (mkF m 51 #[.val (.long p1), .second, .val (.long p2), .second, .val (.long p3), .second, .val (.int p4), .val (.int p5), .val (.int p6), .val (.long (own_max (-9223372036854775778 : Int64) (own_min (9223372036854775777 : Int64) p3))), .second, .val (.long q3), .second, .unset, .unset, .unset, .unset] [(.int (64 : Int32)), (.int p6), (.long (own_max (-9223372036854775778 : Int64) (own_min (9223372036854775777 : Int64) p3)))])
      refine Go.via (fun _ k => iremM (g := (mkF m 51 #[.val (.long p1), .second, .val (.long p2), .second, .val (.long p3), .second, .val (.int p4), .val (.int p5), .val (.int p6), .val (.long (own_max (-9223372036854775778 : Int64) (own_min (9223372036854775777 : Int64) p3))), .second, .val (.long q3), .second, .unset, .unset, .unset, .unset] [(.int (64 : Int32)), (.int p6), (.long (own_max (-9223372036854775778 : Int64) (own_min (9223372036854775777 : Int64) p3)))])) X2 hx rfl (hb hby at_51) rfl (by decide) k) ?_
      show Go p e below _ T2 (mkF m 52 #[.val (.long p1), .second, .val (.long p2), .second, .val (.long p3), .second, .val (.int p4), .val (.int p5), .val (.int p6), .val (.long (own_max (-9223372036854775778 : Int64) (own_min (9223372036854775777 : Int64) p3))), .second, .val (.long q3), .second, .unset, .unset, .unset, .unset] [(.int (p6 % (64 : Int32))), (.long (own_max (-9223372036854775778 : Int64) (own_min (9223372036854775777 : Int64) p3)))])
      refine Go.via (fun _ k => XS.i2l X2.here hx rfl (hb hby at_52) rfl k) ?_
      show Go p e below _ T2 (mkF m 53 #[.val (.long p1), .second, .val (.long p2), .second, .val (.long p3), .second, .val (.int p4), .val (.int p5), .val (.int p6), .val (.long (own_max (-9223372036854775778 : Int64) (own_min (9223372036854775777 : Int64) p3))), .second, .val (.long q3), .second, .unset, .unset, .unset, .unset] [(.long ((p6 % (64 : Int32)).toInt64)), (.long (own_max (-9223372036854775778 : Int64) (own_min (9223372036854775777 : Int64) p3)))])
      refine Go.via (fun _ k => XS.ladd X2.here hx rfl (hb hby at_53) rfl k) ?_
      show Go p e below _ T2 (mkF m 54 #[.val (.long p1), .second, .val (.long p2), .second, .val (.long p3), .second, .val (.int p4), .val (.int p5), .val (.int p6), .val (.long (own_max (-9223372036854775778 : Int64) (own_min (9223372036854775777 : Int64) p3))), .second, .val (.long q3), .second, .unset, .unset, .unset, .unset] [(.long ((own_max (-9223372036854775778 : Int64) (own_min (9223372036854775777 : Int64) p3)) + ((p6 % (64 : Int32)).toInt64)))])
      refine Go.via (fun _ k => XS.goto X2.here hx rfl (pc0 := 54) (pc' := 58) rfl (hb hby at_54) (by decide) (by decide) k) ?_
      exact J4 _
  show Go p e below _ T2 (mkF m 58 #[.val (.long p1), .second, .val (.long p2), .second, .val (.long p3), .second, .val (.int p4), .val (.int p5), .val (.int p6), .val (.long (own_max (-9223372036854775778 : Int64) (own_min (9223372036854775777 : Int64) p3))), .second, .val (.long q3), .second, .unset, .unset, .unset, .unset] [(.long q4)])
  refine Go.via (fun _ k => XS.lstore X2.here hx rfl (hb hby at_58) rfl (l' := #[.val (.long p1), .second, .val (.long p2), .second, .val (.long p3), .second, .val (.int p4), .val (.int p5), .val (.int p6), .val (.long (own_max (-9223372036854775778 : Int64) (own_min (9223372036854775777 : Int64) p3))), .second, .val (.long q3), .second, .val (.long q4), .second, .unset, .unset]) rfl k) ?_
  show Go p e below _ T2 (mkF m 60 #[.val (.long p1), .second, .val (.long p2), .second, .val (.long p3), .second, .val (.int p4), .val (.int p5), .val (.int p6), .val (.long (own_max (-9223372036854775778 : Int64) (own_min (9223372036854775777 : Int64) p3))), .second, .val (.long q3), .second, .val (.long q4), .second, .unset, .unset] [])
  obtain ⟨T5, h5, X5, e5, E5, A5, D5, -, st5⟩ := newO X2 hx hZ hown (hw _ (List.mem_of_getElem? (i := 9) rfl)) (hw _ (List.mem_of_getElem? (i := 10) rfl)) (hw _ (List.mem_of_getElem? (i := 11) rfl)) eq2 (g := (mkF m 60 #[.val (.long p1), .second, .val (.long p2), .second, .val (.long p3), .second, .val (.int p4), .val (.int p5), .val (.int p6), .val (.long (own_max (-9223372036854775778 : Int64) (own_min (9223372036854775777 : Int64) p3))), .second, .val (.long q3), .second, .val (.long q4), .second, .unset, .unset] [])) rfl (hb hby at_60) (by decide) (by decide)
  obtain ⟨b5, g5⟩ : ∃ z, z = h0.size := ⟨_, rfl⟩
  rw [← g5] at A5 D5 st5
  refine Go.via (fun _ k => st5 _ k) ?_
  have ge_b5 : n0 ≤ b5 := Nat.le_trans Z0 (Nat.le_of_eq g5.symm)
  have Z5 : n0 ≤ h5.size := Nat.le_trans Z0 E5.1
  have F_notBefore_5 : Fld Z h5 b5 "com/example/safe_packet_runtime/safepacketruntime/node/KeyExchange$Window" "notBefore" "J" (.long (0 : Int64)) := D5 (Or.inr (hw _ (List.mem_of_getElem? (i := 24) rfl))) (ty := .long) (by decide)
  have F_notAfter_5 : Fld Z h5 b5 "com/example/safe_packet_runtime/safepacketruntime/node/KeyExchange$Window" "notAfter" "J" (.long (0 : Int64)) := D5 (Or.inr (hw _ (List.mem_of_getElem? (i := 26) rfl))) (ty := .long) (by decide)
  show Go p e below _ T5 (mkF m 63 #[.val (.long p1), .second, .val (.long p2), .second, .val (.long p3), .second, .val (.int p4), .val (.int p5), .val (.int p6), .val (.long (own_max (-9223372036854775778 : Int64) (own_min (9223372036854775777 : Int64) p3))), .second, .val (.long q3), .second, .val (.long q4), .second, .unset, .unset] [(.ref b5)])
  refine Go.via (fun _ k => XS.dup X5.here hx rfl (hb hby at_63) rfl (by rfl) k) ?_
  show Go p e below _ T5 (mkF m 64 #[.val (.long p1), .second, .val (.long p2), .second, .val (.long p3), .second, .val (.int p4), .val (.int p5), .val (.int p6), .val (.long (own_max (-9223372036854775778 : Int64) (own_min (9223372036854775777 : Int64) p3))), .second, .val (.long q3), .second, .val (.long q4), .second, .unset, .unset] [(.ref b5), (.ref b5)])
  refine Go.via (fun _ k => XS.lload X5.here hx rfl (hb hby at_64) rfl  k) ?_
  show Go p e below _ T5 (mkF m 66 #[.val (.long p1), .second, .val (.long p2), .second, .val (.long p3), .second, .val (.int p4), .val (.int p5), .val (.int p6), .val (.long (own_max (-9223372036854775778 : Int64) (own_min (9223372036854775777 : Int64) p3))), .second, .val (.long q3), .second, .val (.long q4), .second, .unset, .unset] [(.long q3), (.ref b5), (.ref b5)])
  refine Go.via (fun _ k => XS.lload X5.here hx rfl (hb hby at_66) rfl  k) ?_
  show Go p e below _ T5 (mkF m 68 #[.val (.long p1), .second, .val (.long p2), .second, .val (.long p3), .second, .val (.int p4), .val (.int p5), .val (.int p6), .val (.long (own_max (-9223372036854775778 : Int64) (own_min (9223372036854775777 : Int64) p3))), .second, .val (.long q3), .second, .val (.long q4), .second, .unset, .unset] [(.long q4), (.long q3), (.ref b5), (.ref b5)])
  obtain ⟨v6, T6, L6, X6, ⟨rfl, Nq6, K6, G0_6, G1_6, G2_6⟩, st6⟩ := Go.callN X5 hx hZ hown e5 rfl (hw _ (List.mem_of_getElem? (i := 12) rfl)) (hw _ (List.mem_of_getElem? (i := 13) rfl)) (hw _ (List.mem_of_getElem? (i := 11) rfl)) (hw _ (List.mem_of_getElem? (i := 14) rfl)) (by decide) (own_init l Z a0 hw [] b5 q3 q4  h5 n0 Z5 A5 F_notBefore_5 F_notAfter_5 ge_b5) (pc := 68) (Ls := #[.val (.long p1), .second, .val (.long p2), .second, .val (.long p3), .second, .val (.int p4), .val (.int p5), .val (.int p6), .val (.long (own_max (-9223372036854775778 : Int64) (own_min (9223372036854775777 : Int64) p3))), .second, .val (.long q3), .second, .val (.long q4), .second, .unset, .unset]) (a := b5) (argsL := [(.long q3), (.long q4)]) (rest := [(.ref b5)]) own_pd2 rfl rfl (by rw [hml]; rfl) (hb hby at_68) (W := 1) (Nat.le_of_eq rfl) (by decide) (by decide) (by decide) (by decide)
  refine st6 ?_
  have N6 := Fr.app N2 Nq6
  have Z6 : n0 ≤ T6.heap.size := Nat.le_trans Z5 K6.1
  have e6 : T6.heap = T6.heap := rfl
  show Go p e below _ T6 (mkF m 71 #[.val (.long p1), .second, .val (.long p2), .second, .val (.long p3), .second, .val (.int p4), .val (.int p5), .val (.int p6), .val (.long (own_max (-9223372036854775778 : Int64) (own_min (9223372036854775777 : Int64) p3))), .second, .val (.long q3), .second, .val (.long q4), .second, .unset, .unset] [(.ref b5)])
  refine Go.via (fun _ k => XS.astore X6.here hx rfl (hb hby at_71) rfl (by rfl) (l' := #[.val (.long p1), .second, .val (.long p2), .second, .val (.long p3), .second, .val (.int p4), .val (.int p5), .val (.int p6), .val (.long (own_max (-9223372036854775778 : Int64) (own_min (9223372036854775777 : Int64) p3))), .second, .val (.long q3), .second, .val (.long q4), .second, .val (.ref b5), .unset]) rfl k) ?_
  show Go p e below _ T6 (mkF m 73 #[.val (.long p1), .second, .val (.long p2), .second, .val (.long p3), .second, .val (.int p4), .val (.int p5), .val (.int p6), .val (.long (own_max (-9223372036854775778 : Int64) (own_min (9223372036854775777 : Int64) p3))), .second, .val (.long q3), .second, .val (.long q4), .second, .val (.ref b5), .unset] [])
  refine Go.via (fun _ k => XS.aload X6.here hx rfl (hb hby at_73) rfl (by rfl) k) ?_
  show Go p e below _ T6 (mkF m 75 #[.val (.long p1), .second, .val (.long p2), .second, .val (.long p3), .second, .val (.int p4), .val (.int p5), .val (.int p6), .val (.long (own_max (-9223372036854775778 : Int64) (own_min (9223372036854775777 : Int64) p3))), .second, .val (.long q3), .second, .val (.long q4), .second, .val (.ref b5), .unset] [(.ref b5)])
  refine Go.via (fun _ k => XS.lload X6.here hx rfl (hb hby at_75) rfl  k) ?_
  show Go p e below _ T6 (mkF m 77 #[.val (.long p1), .second, .val (.long p2), .second, .val (.long p3), .second, .val (.int p4), .val (.int p5), .val (.int p6), .val (.long (own_max (-9223372036854775778 : Int64) (own_min (9223372036854775777 : Int64) p3))), .second, .val (.long q3), .second, .val (.long q4), .second, .val (.ref b5), .unset] [(.long (own_max (-9223372036854775778 : Int64) (own_min (9223372036854775777 : Int64) p3))), (.ref b5)])
  obtain ⟨v7, T7, L7, X7, ⟨rfl, Nq7, eq7⟩, st7⟩ := Go.callV X6 hx hZ hown e6 (hw _ (List.mem_of_getElem? (i := 27) rfl)) (hw _ (List.mem_of_getElem? (i := 28) rfl)) (hw _ (List.mem_of_getElem? (i := 30) rfl)) (hw _ (List.mem_of_getElem? (i := 29) rfl)) (hw _ (List.mem_of_getElem? (i := 11) rfl)) (hw _ (List.mem_of_getElem? (i := 31) rfl)) (by decide) G0_6 (own_mcov l Z a0 hw [] b5 (own_max (-9223372036854775778 : Int64) (own_min (9223372036854775777 : Int64) p3)) q3 q4 T6.heap n0 Z6 G1_6 G2_6) (pc := 77) (Ls := #[.val (.long p1), .second, .val (.long p2), .second, .val (.long p3), .second, .val (.int p4), .val (.int p5), .val (.int p6), .val (.long (own_max (-9223372036854775778 : Int64) (own_min (9223372036854775777 : Int64) p3))), .second, .val (.long q3), .second, .val (.long q4), .second, .val (.ref b5), .unset]) (argsL := [(.long (own_max (-9223372036854775778 : Int64) (own_min (9223372036854775777 : Int64) p3)))]) (rest := []) own_pd3 rfl rfl (by rw [hml]; rfl) (hb hby at_77) (W := 0) (Nat.le_of_eq rfl) (by decide) (by decide) (by decide) (by decide)
  refine st7 ?_
  have N7 := Fr.app N6 Nq7
  show Go p e below _ T7 (mkF m 80 #[.val (.long p1), .second, .val (.long p2), .second, .val (.long p3), .second, .val (.int p4), .val (.int p5), .val (.int p6), .val (.long (own_max (-9223372036854775778 : Int64) (own_min (9223372036854775777 : Int64) p3))), .second, .val (.long q3), .second, .val (.long q4), .second, .val (.ref b5), .unset] [(.int (i01 (own_cov q3 q4 (own_max (-9223372036854775778 : Int64) (own_min (9223372036854775777 : Int64) p3)))))])
  refine Go.via (fun _ k => XS.istore X7.here hx rfl (hb hby at_80) rfl (l' := #[.val (.long p1), .second, .val (.long p2), .second, .val (.long p3), .second, .val (.int p4), .val (.int p5), .val (.int p6), .val (.long (own_max (-9223372036854775778 : Int64) (own_min (9223372036854775777 : Int64) p3))), .second, .val (.long q3), .second, .val (.long q4), .second, .val (.ref b5), .val (.int (i01 (own_cov q3 q4 (own_max (-9223372036854775778 : Int64) (own_min (9223372036854775777 : Int64) p3)))))]) rfl k) ?_
  show Go p e below _ T7 (mkF m 82 #[.val (.long p1), .second, .val (.long p2), .second, .val (.long p3), .second, .val (.int p4), .val (.int p5), .val (.int p6), .val (.long (own_max (-9223372036854775778 : Int64) (own_min (9223372036854775777 : Int64) p3))), .second, .val (.long q3), .second, .val (.long q4), .second, .val (.ref b5), .val (.int (i01 (own_cov q3 q4 (own_max (-9223372036854775778 : Int64) (own_min (9223372036854775777 : Int64) p3)))))] [])
  refine Go.via (fun _ k => XS.iload X7.here hx rfl (hb hby at_82) rfl  k) ?_
  show Go p e below _ T7 (mkF m 84 #[.val (.long p1), .second, .val (.long p2), .second, .val (.long p3), .second, .val (.int p4), .val (.int p5), .val (.int p6), .val (.long (own_max (-9223372036854775778 : Int64) (own_min (9223372036854775777 : Int64) p3))), .second, .val (.long q3), .second, .val (.long q4), .second, .val (.ref b5), .val (.int (i01 (own_cov q3 q4 (own_max (-9223372036854775778 : Int64) (own_min (9223372036854775777 : Int64) p3)))))] [(.int (i01 (own_cov q3 q4 (own_max (-9223372036854775778 : Int64) (own_min (9223372036854775777 : Int64) p3)))))])
  refine Go.via (fun _ k => XS.lload X7.here hx rfl (hb hby at_84) rfl  k) ?_
  show Go p e below _ T7 (mkF m 86 #[.val (.long p1), .second, .val (.long p2), .second, .val (.long p3), .second, .val (.int p4), .val (.int p5), .val (.int p6), .val (.long (own_max (-9223372036854775778 : Int64) (own_min (9223372036854775777 : Int64) p3))), .second, .val (.long q3), .second, .val (.long q4), .second, .val (.ref b5), .val (.int (i01 (own_cov q3 q4 (own_max (-9223372036854775778 : Int64) (own_min (9223372036854775777 : Int64) p3)))))] [(.long q3), (.int (i01 (own_cov q3 q4 (own_max (-9223372036854775778 : Int64) (own_min (9223372036854775777 : Int64) p3)))))])
  refine Go.via (fun _ k => XS.lload X7.here hx rfl (hb hby at_86) rfl  k) ?_
  show Go p e below _ T7 (mkF m 88 #[.val (.long p1), .second, .val (.long p2), .second, .val (.long p3), .second, .val (.int p4), .val (.int p5), .val (.int p6), .val (.long (own_max (-9223372036854775778 : Int64) (own_min (9223372036854775777 : Int64) p3))), .second, .val (.long q3), .second, .val (.long q4), .second, .val (.ref b5), .val (.int (i01 (own_cov q3 q4 (own_max (-9223372036854775778 : Int64) (own_min (9223372036854775777 : Int64) p3)))))] [(.long q4), (.long q3), (.int (i01 (own_cov q3 q4 (own_max (-9223372036854775778 : Int64) (own_min (9223372036854775777 : Int64) p3)))))])
  refine Go.via (fun _ k => XS.lload X7.here hx rfl (hb hby at_88) rfl  k) ?_
  show Go p e below _ T7 (mkF m 90 #[.val (.long p1), .second, .val (.long p2), .second, .val (.long p3), .second, .val (.int p4), .val (.int p5), .val (.int p6), .val (.long (own_max (-9223372036854775778 : Int64) (own_min (9223372036854775777 : Int64) p3))), .second, .val (.long q3), .second, .val (.long q4), .second, .val (.ref b5), .val (.int (i01 (own_cov q3 q4 (own_max (-9223372036854775778 : Int64) (own_min (9223372036854775777 : Int64) p3)))))] [(.long (own_max (-9223372036854775778 : Int64) (own_min (9223372036854775777 : Int64) p3))), (.long q4), (.long q3), (.int (i01 (own_cov q3 q4 (own_max (-9223372036854775778 : Int64) (own_min (9223372036854775777 : Int64) p3)))))])
  obtain ⟨v8, T8, L8, X8, ⟨rfl, Nq8, eq8⟩, st8⟩ := Go.callS X7 hx hZ hown eq7 (hw _ (List.mem_of_getElem? (i := 33) rfl)) (hw _ (List.mem_of_getElem? (i := 34) rfl)) (hw _ (List.mem_of_getElem? (i := 35) rfl)) (hw _ (List.mem_of_getElem? (i := 36) rfl)) (by decide) (own_mexp l Z a0 hw [] q3 q4 (own_max (-9223372036854775778 : Int64) (own_min (9223372036854775777 : Int64) p3))  T6.heap n0 Z6 ) (pc := 90) (Ls := #[.val (.long p1), .second, .val (.long p2), .second, .val (.long p3), .second, .val (.int p4), .val (.int p5), .val (.int p6), .val (.long (own_max (-9223372036854775778 : Int64) (own_min (9223372036854775777 : Int64) p3))), .second, .val (.long q3), .second, .val (.long q4), .second, .val (.ref b5), .val (.int (i01 (own_cov q3 q4 (own_max (-9223372036854775778 : Int64) (own_min (9223372036854775777 : Int64) p3)))))]) (argsL := [(.long q3), (.long q4), (.long (own_max (-9223372036854775778 : Int64) (own_min (9223372036854775777 : Int64) p3)))]) (rest := [(.int (i01 (own_cov q3 q4 (own_max (-9223372036854775778 : Int64) (own_min (9223372036854775777 : Int64) p3)))))]) own_pd4 rfl rfl (by rw [hml]; rfl) (hb hby at_90) (W := 1) (Nat.le_of_eq rfl) (by decide) (by decide) (by decide) (by decide)
  refine st8 ?_
  have N8 := Fr.app N7 Nq8
  show Go p e below _ T8 (mkF m 93 #[.val (.long p1), .second, .val (.long p2), .second, .val (.long p3), .second, .val (.int p4), .val (.int p5), .val (.int p6), .val (.long (own_max (-9223372036854775778 : Int64) (own_min (9223372036854775777 : Int64) p3))), .second, .val (.long q3), .second, .val (.long q4), .second, .val (.ref b5), .val (.int (i01 (own_cov q3 q4 (own_max (-9223372036854775778 : Int64) (own_min (9223372036854775777 : Int64) p3)))))] [(.int (i01 (own_exp q3 q4 (own_max (-9223372036854775778 : Int64) (own_min (9223372036854775777 : Int64) p3))))), (.int (i01 (own_cov q3 q4 (own_max (-9223372036854775778 : Int64) (own_min (9223372036854775777 : Int64) p3)))))])
  have hc93 : (i01 (own_cov q3 q4 (own_max (-9223372036854775778 : Int64) (own_min (9223372036854775777 : Int64) p3)))) = (i01 (own_exp q3 q4 (own_max (-9223372036854775778 : Int64) (own_min (9223372036854775777 : Int64) p3)))) := own_law _ _ _
  refine Go.via (fun _ k => XS.icmpNo X8.here hx rfl (hb hby at_93) rfl (teq hc93).2 k) ?_
  show Go p e below _ T8 (mkF m 96 #[.val (.long p1), .second, .val (.long p2), .second, .val (.long p3), .second, .val (.int p4), .val (.int p5), .val (.int p6), .val (.long (own_max (-9223372036854775778 : Int64) (own_min (9223372036854775777 : Int64) p3))), .second, .val (.long q3), .second, .val (.long q4), .second, .val (.ref b5), .val (.int (i01 (own_cov q3 q4 (own_max (-9223372036854775778 : Int64) (own_min (9223372036854775777 : Int64) p3)))))] [])
  refine Go.via (fun _ k => XS.iconst X8.here hx rfl (hb hby at_96) k) ?_
  show Go p e below _ T8 (mkF m 97 #[.val (.long p1), .second, .val (.long p2), .second, .val (.long p3), .second, .val (.int p4), .val (.int p5), .val (.int p6), .val (.long (own_max (-9223372036854775778 : Int64) (own_min (9223372036854775777 : Int64) p3))), .second, .val (.long q3), .second, .val (.long q4), .second, .val (.ref b5), .val (.int (i01 (own_cov q3 q4 (own_max (-9223372036854775778 : Int64) (own_min (9223372036854775777 : Int64) p3)))))] [(.int (1 : Int32))])
  refine Go.via (fun _ k => XS.goto X8.here hx rfl (pc0 := 97) (pc' := 101) rfl (hb hby at_97) (by decide) (by decide) k) ?_
  show Go p e below _ T8 (mkF m 101 #[.val (.long p1), .second, .val (.long p2), .second, .val (.long p3), .second, .val (.int p4), .val (.int p5), .val (.int p6), .val (.long (own_max (-9223372036854775778 : Int64) (own_min (9223372036854775777 : Int64) p3))), .second, .val (.long q3), .second, .val (.long q4), .second, .val (.ref b5), .val (.int (i01 (own_cov q3 q4 (own_max (-9223372036854775778 : Int64) (own_min (9223372036854775777 : Int64) p3)))))] [(.int (1 : Int32))])
  refine Go.retN X8 hx hk (hret : meth.sig.returnType = some .boolean) (t := .boolean) (by simp) (hb hby at_101) (by decide) (by decide) ?_
  exact ⟨rfl, N8⟩
set_option maxRecDepth 65536 in
set_option maxHeartbeats 40000000 in
theorem comes_1 {Post : Tables → Env → Array Value → State → Outcome → State → Prop} (hpost : ∀ tb e args s v u, (limb_1_1.after args s (.returned v) u = true ∧ limb_1_2.after args s (.returned v) u = true ∧ True) → FrameEnd s (.returned v) u (Jvm.fieldLocs frame_1_writes args s ++ Jvm.arrayLocs frame_1_arrays args s ++ Jvm.staticLocs frame_1_statics s) 16 128 → Post tb e args s (.returned v) u) :
    ArmFor flags0 classFile x code maxLocals ret World_1 tables_1 room_1 Calls_1 rest_1 Pre_1 Post := by
  intro l hfl _ _ p e ha hc hk s m args below hf hA hF happ hP
  obtain ⟨hcalls, hrest, hpre⟩ := hP
  obtain ⟨-, -, -, hnamed, -, -, -, hat⟩ := (Spec.applies_iff hf).mp happ
  obtain ⟨hg, hn⟩ := and_e (Cond.before_iff.mp (show (Jvm.Cond.and given_1 narrow_1).before args s = true from hpre))
  obtain ⟨hcnt, hg0⟩ := and_e hg
  obtain ⟨w0, w1, w2, w3, w4, w5, rfl⟩ : ∃ w0 w1 w2 w3 w4 w5 : Value, args = #[w0, w1, w2, w3, w4, w5] := by
    have hs : args.size = 6 := by simpa [Cond.value, given_1] using hcnt
    obtain ⟨L⟩ := args
    match L, hs with
    | [w0, w1, w2, w3, w4, w5], _ => exact ⟨w0, w1, w2, w3, w4, w5, rfl⟩
  have hw := fun d (hd : d ∈ tables_1) => atoms_spec (ws := Jvm.Cond.code x code maxLocals ret :: tables_1) hat d (List.mem_cons_of_mem _ hd)
  have hfit : Fit s := fun {y c} hc i hi => by
    obtain ⟨ha, rfl⟩ := Array.getElem?_eq_some_iff.mp hc
    have q := List.all_eq_true.mp ((Array.all_eq_true_iff_forall_mem.mp hF) _ (Array.getElem_mem ha)) i (List.mem_range.mpr hi)
    simpa [Array.getElem?_eq_getElem hi] using q
  obtain ⟨hi0, hg1⟩ := and_e hg0
  obtain ⟨hi1, hg2⟩ := and_e hg1
  obtain ⟨hi2, hg3⟩ := and_e hg2
  obtain ⟨hi3, hg4⟩ := and_e hg3
  obtain ⟨hi4, hg5⟩ := and_e hg4
  have hi5 := hg5
  obtain ⟨i0, hv0⟩ := isL_v hi0
  obtain rfl : w0 = (.long i0) := Option.some.inj hv0
  obtain ⟨i1, hv1⟩ := isL_v hi1
  obtain rfl : w1 = (.long i1) := Option.some.inj hv1
  obtain ⟨i2, hv2⟩ := isL_v hi2
  obtain rfl : w2 = (.long i2) := Option.some.inj hv2
  obtain ⟨i3, hv3⟩ := is_v hi3
  obtain rfl : w3 = (.int i3) := Option.some.inj hv3
  obtain ⟨i4, hv4⟩ := is_v hi4
  obtain rfl : w4 = (.int i4) := Option.some.inj hv4
  obtain ⟨i5, hv5⟩ := is_v hi5
  obtain rfl : w5 = (.int i5) := Option.some.inj hv5
  obtain ⟨n, o, h1, h2, h3, _, L, rfl, ⟨rfl, N⟩, hq⟩ := own_m0 l s _ hw tables_1 i0 i1 i2 i3 i4 i5 s.heap s.heap.size (Nat.le_refl _) p e ha hc hk s m _ below hf ((Spec.applies_iff_loose hf).mp happ).1 ⟨rfl, State.Warmed39.refl s, rfl⟩ trivial
  refine ⟨n, _, h1, h2, h3, hpost _ _ _ _ _ _ ⟨Cond.after_iff.mpr rfl, Cond.after_iff.mpr (eq_i res_at (Term.int_eval (1)) rfl), trivial⟩ ⟨hq.1, hq.2.1, (hq.2.2.sift fun y hy => Or.inr (N y hy)).mono (by decide) (by decide)⟩⟩
theorem main_1_1 : Claimed_1_1 := comes_1 fun _ _ _ _ _ _ h hF => ⟨h.1, hF⟩
theorem main_1_2 : Claimed_1_2 := comes_1 fun _ _ _ _ _ _ h hF => ⟨h.2.1, hF⟩
end Jvm.Pilot.@@N@@
namespace Jvm.Pilot.@@N@@
open Jvm Jvm.ClassFile Sem Op Lib Jvm.Free Jvm.Stand Jvm.Pilot.@@N@@.Jvm.D
/-! MADE BY PROGRAM (witnessworld.py) out of the Statement's table words and the real class files: 11 classes; the members and pool entries that the words name. The judged class is class 1, her method 1. -/
namespace start1
open Jvm.ClassFile
def u (s : String) : CpInfo := .utf8 (stringToUtf16 s)
/-- a pool by its gaps: so many unusable entries, then the entry; so many at the end -/
def gap : Nat → List CpInfo → List CpInfo
  | 0, r => r
  | n + 1, r => .unusable :: gap n r
def poolList (es : List (Nat × CpInfo)) (last : Nat) : List CpInfo := es.foldr (fun e r => gap e.1 (e.2 :: r)) (gap last [])
def pool (es : List (Nat × CpInfo)) (last : Nat) : Array CpInfo := ⟨poolList es last⟩
def fileOf (pool : Array CpInfo) (this : Nat) (attrs : Array Attribute := #[]) (ms : Array MethodInfo := #[]) (fl : Nat := 33) (sup : Nat := 0) (ifs : Array Nat := #[]) (fds : Array FieldInfo := #[]) : ClassFile where
  minorVersion := 0
  majorVersion := 65
  constantPool := pool
  accessFlags := fl
  thisClass := this
  superClass := sup
  interfaces := ifs
  fields := fds
  methods := ms
  attributes := attrs
def plain (name : String) (sup : Option ClassId) : Class where
  name := name
  kind := .ordinary
  loader := none
  accessFlags := 33
  super := sup
  interfaces := #[]
  cf := none
  fields := #[]
  methods := #[]
  instanceTypes := #[]
  staticTypes := #[]
  resolved := #[]
  callSites := []
  init := .initialized
  statics := none
  mirror := none

def pool0 : Array CpInfo := pool [(5, u "<init>"), (0, u "()V"), (1, .class_ 10), (1, u "java/lang/Object")] 113

def k0c0 : Code := { maxStack := 0, maxLocals := 1, code := object_method_1_code, exceptionTable := #[], attributes := #[] }
def k0m0 : Method := { name := "<init>", desc := "()V", sig := { parameters := [], returnType := none }, accessFlags := 1, code := some k0c0 }
/-- java/lang/Object -/
def k0 : Class := { plain "java/lang/Object" none with
  accessFlags := 33
  interfaces := #[]
  cf := some (fileOf pool0 8 #[] #[{ accessFlags := 1, nameIndex := 5, descriptorIndex := 6, attributes := #[] }] 33 0 #[] #[])
  fields := #[]
  methods := #[k0m0]
  instanceTypes := #[]
  staticTypes := #[]
  resolved := Array.replicate 124 none
  statics := none }

def pool1 : Array CpInfo := pool [(2, .class_ 4), (1, u "java/lang/Object"), (0, u "<init>"), (0, u "()V"), (2, .long 9223372036854775838), (1, .long 9223372036854775777), (1, .methodref 14 15), (0, .class_ 16), (0, .nameAndType 17 18), (0, u "java/lang/Math"), (0, u "min"), (0, u "(JJ)J"), (0, .methodref 14 20), (0, .nameAndType 21 18), (0, u "max"), (0, .class_ 23), (0, u "com/example/safe_packet_runtime/safepacketruntime/node/KeyExchange$Window"), (0, .methodref 22 25), (0, .nameAndType 5 26), (0, u "(JJ)V"), (0, .methodref 22 28), (0, .nameAndType 29 30), (0, u "covers"), (0, u "(J)Z"), (0, .methodref 32 33), (0, .class_ 34), (0, .nameAndType 35 36), (0, u "com/example/safe_packet_runtime/safepacketruntime/node/WindowCoversPinLaw"), (0, u "expected"), (0, u "(JJJ)Z"), (0, .long 30), (3, u "law"), (0, u "(JJJIII)Z")] 7

def k1m0 : Method := { name := "<init>", desc := "()V", sig := { parameters := [], returnType := none }, accessFlags := 2, code := none }
def k1c1 : Code := { maxStack := 7, maxLocals := 17, code := code, exceptionTable := #[], attributes := #[] }
def k1m1 : Method := { name := "law", desc := "(JJJIII)Z", sig := { parameters := [.long, .long, .long, .int, .int, .int], returnType := some .boolean }, accessFlags := 9, code := some k1c1 }
def k1c2 : Code := { maxStack := 4, maxLocals := 12, code := method_3_code, exceptionTable := #[], attributes := #[] }
def k1m2 : Method := { name := "expected", desc := "(JJJ)Z", sig := { parameters := [.long, .long, .long], returnType := some .boolean }, accessFlags := 10, code := some k1c2 }
/-- com/example/safe_packet_runtime/safepacketruntime/node/WindowCoversPinLaw -/
def k1 : Class := { plain "com/example/safe_packet_runtime/safepacketruntime/node/WindowCoversPinLaw" (some 0) with
  accessFlags := 49
  interfaces := #[]
  cf := some (fileOf pool1 32 #[] #[{ accessFlags := 2, nameIndex := 5, descriptorIndex := 6, attributes := #[] }, { accessFlags := 9, nameIndex := 41, descriptorIndex := 42, attributes := #[] }, { accessFlags := 10, nameIndex := 35, descriptorIndex := 36, attributes := #[] }] 49 2 #[] #[])
  fields := #[]
  methods := #[k1m0, k1m1, k1m2]
  instanceTypes := #[]
  staticTypes := #[]
  resolved := Array.replicate 50 none
  statics := none }

def pool2 : Array CpInfo := pool [(1, .class_ 2), (0, u "java/lang/Math"), (1, .class_ 6), (1, u "java/lang/Object"), (0, u "<init>"), (0, u "()V"), (89, .class_ 100), (1, u "java/lang/Math$RandomNumberGeneratorHolder"), (20, u "(JJ)J"), (50, u "negativeZeroFloatBits"), (0, u "J"), (2, u "negativeZeroDoubleBits"), (21, u "max"), (2, u "min"), (43, u "$assertionsDisabled"), (0, u "Z"), (91, u "twoToTheDoubleScaleDown"), (0, u "D"), (4, u "twoToTheDoubleScaleUp"), (9, u "E"), (3, u "PI"), (2, u "TAU"), (2, u "DEGREES_TO_RADIANS"), (0, u "RADIANS_TO_DEGREES")] 94

def k2m0 : Method := { name := "<init>", desc := "()V", sig := { parameters := [], returnType := none }, accessFlags := 2, code := none }
def k2c1 : Code := { maxStack := 4, maxLocals := 4, code := jdk_29_method_66_code, exceptionTable := #[], attributes := #[] }
def k2m1 : Method := { name := "max", desc := "(JJ)J", sig := { parameters := [.long, .long], returnType := some .long }, accessFlags := 9, code := some k2c1 }
def k2c2 : Code := { maxStack := 4, maxLocals := 4, code := jdk_29_method_70_code, exceptionTable := #[], attributes := #[] }
def k2m2 : Method := { name := "min", desc := "(JJ)J", sig := { parameters := [.long, .long], returnType := some .long }, accessFlags := 9, code := some k2c2 }
/-- java/lang/Math -/
def k2 : Class := { plain "java/lang/Math" (some 0) with
  accessFlags := 49
  interfaces := #[]
  cf := some (fileOf pool2 1 #[.nestMembers #[98]] #[{ accessFlags := 2, nameIndex := 7, descriptorIndex := 8, attributes := #[] }, { accessFlags := 9, nameIndex := 198, descriptorIndex := 121, attributes := #[] }, { accessFlags := 9, nameIndex := 201, descriptorIndex := 121, attributes := #[] }] 49 4 #[] #[{ accessFlags := 25, nameIndex := 354, descriptorIndex := 339, attributes := #[] }, { accessFlags := 25, nameIndex := 358, descriptorIndex := 339, attributes := #[] }, { accessFlags := 25, nameIndex := 361, descriptorIndex := 339, attributes := #[] }, { accessFlags := 26, nameIndex := 364, descriptorIndex := 339, attributes := #[] }, { accessFlags := 26, nameIndex := 365, descriptorIndex := 339, attributes := #[] }, { accessFlags := 26, nameIndex := 172, descriptorIndex := 173, attributes := #[] }, { accessFlags := 26, nameIndex := 176, descriptorIndex := 173, attributes := #[] }, { accessFlags := 8, nameIndex := 344, descriptorIndex := 339, attributes := #[] }, { accessFlags := 8, nameIndex := 338, descriptorIndex := 339, attributes := #[] }, { accessFlags := 4120, nameIndex := 245, descriptorIndex := 246, attributes := #[] }])
  fields := #[{ name := "E", type := .double, accessFlags := 25, slot := 0, constantValue := 0 }, { name := "PI", type := .double, accessFlags := 25, slot := 1, constantValue := 0 }, { name := "TAU", type := .double, accessFlags := 25, slot := 2, constantValue := 0 }, { name := "DEGREES_TO_RADIANS", type := .double, accessFlags := 26, slot := 3, constantValue := 0 }, { name := "RADIANS_TO_DEGREES", type := .double, accessFlags := 26, slot := 4, constantValue := 0 }, { name := "negativeZeroFloatBits", type := .long, accessFlags := 26, slot := 5, constantValue := 0 }, { name := "negativeZeroDoubleBits", type := .long, accessFlags := 26, slot := 6, constantValue := 0 }, { name := "twoToTheDoubleScaleUp", type := .double, accessFlags := 8, slot := 7, constantValue := 0 }, { name := "twoToTheDoubleScaleDown", type := .double, accessFlags := 8, slot := 8, constantValue := 0 }, { name := "$assertionsDisabled", type := .boolean, accessFlags := 4120, slot := 9, constantValue := 0 }]
  methods := #[k2m0, k2m1, k2m2]
  instanceTypes := #[]
  staticTypes := #[.double, .double, .double, .double, .double, .long, .long, .double, .double, .boolean]
  resolved := Array.replicate 460 none
  statics := none }

def pool3 : Array CpInfo := pool [(1, .methodref 2 3), (0, .class_ 4), (0, .nameAndType 5 6), (0, u "java/lang/Object"), (0, u "<init>"), (0, u "()V"), (0, .class_ 8), (0, u "java/lang/Record")] 13

def k3c0 : Code := { maxStack := 1, maxLocals := 1, code := jdk_30_method_1_code, exceptionTable := #[], attributes := #[] }
def k3m0 : Method := { name := "<init>", desc := "()V", sig := { parameters := [], returnType := none }, accessFlags := 4, code := some k3c0 }
/-- java/lang/Record -/
def k3 : Class := { plain "java/lang/Record" (some 0) with
  accessFlags := 1057
  interfaces := #[]
  cf := some (fileOf pool3 7 #[] #[{ accessFlags := 4, nameIndex := 5, descriptorIndex := 6, attributes := #[] }] 1057 2 #[] #[])
  fields := #[]
  methods := #[k3m0]
  instanceTypes := #[]
  staticTypes := #[]
  resolved := Array.replicate 22 none
  statics := none }

def pool4 : Array CpInfo := pool [(1, .class_ 2), (0, u "com/example/safe_packet_runtime/safepacketruntime/node/KeyExchange"), (0, .methodref 4 5), (0, .class_ 6), (0, .nameAndType 7 8), (0, u "java/lang/Record"), (0, u "<init>"), (0, u "()V"), (0, .fieldref 10 11), (0, .class_ 12), (0, .nameAndType 13 14), (0, u "com/example/safe_packet_runtime/safepacketruntime/node/KeyExchange$Window"), (0, u "notBefore"), (0, u "J"), (0, .fieldref 10 16), (0, .nameAndType 17 14), (0, u "notAfter"), (2, u "(JJ)V"), (0, .long 30), (28, u "covers"), (0, u "(J)Z")] 40

def k4c0 : Code := { maxStack := 3, maxLocals := 5, code := prog_103_method_1_code, exceptionTable := #[], attributes := #[] }
def k4m0 : Method := { name := "<init>", desc := "(JJ)V", sig := { parameters := [.long, .long], returnType := none }, accessFlags := 0, code := some k4c0 }
def k4c1 : Code := { maxStack := 6, maxLocals := 3, code := prog_103_method_3_code, exceptionTable := #[], attributes := #[] }
def k4m1 : Method := { name := "covers", desc := "(J)Z", sig := { parameters := [.long], returnType := some .boolean }, accessFlags := 0, code := some k4c1 }
/-- com/example/safe_packet_runtime/safepacketruntime/node/KeyExchange$Window -/
def k4 : Class := { plain "com/example/safe_packet_runtime/safepacketruntime/node/KeyExchange$Window" (some 3) with
  accessFlags := 48
  interfaces := #[]
  cf := some (fileOf pool4 10 #[.nestHost 1] #[{ accessFlags := 0, nameIndex := 7, descriptorIndex := 20, attributes := #[] }, { accessFlags := 0, nameIndex := 50, descriptorIndex := 51, attributes := #[] }] 48 4 #[] #[{ accessFlags := 18, nameIndex := 13, descriptorIndex := 14, attributes := #[] }, { accessFlags := 18, nameIndex := 17, descriptorIndex := 14, attributes := #[] }])
  fields := #[{ name := "notBefore", type := .long, accessFlags := 18, slot := 0, constantValue := 0 }, { name := "notAfter", type := .long, accessFlags := 18, slot := 1, constantValue := 0 }]
  methods := #[k4m0, k4m1]
  instanceTypes := #[.long, .long]
  staticTypes := #[]
  resolved := Array.replicate 92 none
  statics := none }

def pool5 : Array CpInfo := pool [(1, u "java/lang/Cloneable"), (0, .class_ 1), (0, u "java/lang/Object"), (0, .class_ 3)] 3

/-- java/lang/Cloneable -/
def k5 : Class := { plain "java/lang/Cloneable" (some 0) with
  accessFlags := 1537
  interfaces := #[]
  cf := some (fileOf pool5 2 #[] #[] 1537 4 #[] #[])
  fields := #[]
  methods := #[]
  instanceTypes := #[]
  staticTypes := #[]
  resolved := Array.replicate 8 none
  statics := none }

def pool6 : Array CpInfo := pool [(1, u "java/io/Serializable"), (0, .class_ 1), (0, u "java/lang/Object"), (0, .class_ 3)] 3

/-- java/io/Serializable -/
def k6 : Class := { plain "java/io/Serializable" (some 0) with
  accessFlags := 1537
  interfaces := #[]
  cf := some (fileOf pool6 2 #[] #[] 1537 4 #[] #[])
  fields := #[]
  methods := #[]
  instanceTypes := #[]
  staticTypes := #[]
  resolved := Array.replicate 8 none
  statics := none }

/-- the primitive byte -/
def k7 : Class := { plain "byte" none with kind := .primitive 'B', accessFlags := 0x411 }
/-- [B -/
def k8 : Class := { plain "[B" (some 0) with kind := .array 7 .byte, interfaces := #[5, 6], accessFlags := 1041 }

/-- the primitive int -/
def k9 : Class := { plain "int" none with kind := .primitive 'I', accessFlags := 0x411 }
/-- [I -/
def k10 : Class := { plain "[I" (some 0) with kind := .array 9 .int, interfaces := #[5, 6], accessFlags := 1041 }

def heap : Heap := #[]
def classes : Array Class := #[k0, k1, k2, k3, k4, k5, k6, k7, k8, k9, k10]
def interned : List (Array UInt16 × Addr) := []
def slotsUsed : Nat := 0
def theMethod : MethodId := ⟨1, 1⟩
def args0 : Array Value := #[.long 5, .long 7, .long 6, .int 0, .int 1, .int 2]
def aboutOver (below : List Frame) : State where
  vm := { classes := classes, interned := interned.toArray }
  heap := heap
  slotsUsed := slotsUsed
  threads := #[{ frames := .invoking theMethod args0 :: below }]
def below0 : List Frame := [.native { method := ⟨0, 0⟩, args := #[] }]
def about1 : State := aboutOver below0
def p0 : Program := .bare "" "" ""
def e0 : Env := launch0.env 0 0 0
theorem w_frames : about1.frames = Frame.invoking theMethod args0 :: below0 := rfl
set_option maxRecDepth 65536 in
theorem w_args : argsFit about1.vm theMethod args0 = true := by decide +kernel
set_option maxRecDepth 65536 in
theorem w_heap : heapFits about1 = true := by decide +kernel
set_option maxRecDepth 65536 in
theorem w_runnable : about1.curStatus? = some .runnable := by decide +kernel
set_option maxRecDepth 65536 in
theorem w_alone : about1.alone = true := by decide +kernel
set_option maxRecDepth 65536 in
theorem w_named : about1.methodNamed? x = some theMethod := by decide +kernel
set_option maxRecDepth 65536 in
theorem w_hears : about1.hears theMethod below0 = true := by decide +kernel
set_option maxRecDepth 65536 in
theorem w_ripe : about1.ripe theMethod args0 below0 = true := by decide +kernel
theorem w_running : about1.status = .running := rfl
set_option maxRecDepth 65536 in
theorem w_room : about1.hasRoom e0.platform room_1 = true :=
  launch0.hasRoom_least _ room_1 (by decide +kernel) (by decide +kernel) (by decide +kernel) (by decide +kernel) (by decide +kernel) (by decide +kernel)
theorem allAtoms_all (ts : List Jvm.Cond) (a : Array Jvm.Value) (st : Jvm.State) : (allAtoms ts).before a st = ts.all (fun c => c.before a st) := by
  induction ts with
  | nil => rfl
  | cons c t ih =>
    show (Jvm.Cond.and c (allAtoms t)).before a st = _
    rw [Jvm.Cond.before_and, ih, List.all_cons]
def words1 : List Jvm.Cond := Jvm.Cond.code x code maxLocals ret :: tables_1
/-- a 'code' word, met by the world's own term for the bytes: nothing is compared byte by byte -/
theorem code_word {y : MethodName} {bytes : ByteArray} {mx : Nat} {rt : Option FieldType} {a : Array Value} {s : State} {m : MethodId} {meth : Method} {c : Code} (h1 : s.methodNamed? y = some m) (h2 : s.vm.method? m = some meth) (h3 : meth.code = some c) (h4 : c.code = bytes)
    (h5 : (c.maxLocals == mx && c.exceptionTable.isEmpty && decide (c.maxStack ≤ mostOperands) && decide (meth.sig.returnType = rt) && !meth.locks && decide (parseMethodDescriptor y.desc = some meth.sig)) = true) : (Jvm.Cond.code y bytes mx rt).before a s = true := by
  simp only [Bool.and_eq_true, beq_iff_eq, Bool.not_eq_true', decide_eq_true_eq] at h5
  obtain ⟨⟨⟨⟨⟨g1, g2⟩, g3⟩, g4⟩, g5⟩, g6⟩ := h5
  simp [Cond.before, Cond.holds, Cond.value, h1, h2, h3, h4, g1, g2, g3, g4, g5, g6]
def isCode : Jvm.Cond → Bool
  | .code _ _ _ _ => true
  | _ => false
theorem all_split {L : List Jvm.Cond} {P : Jvm.Cond → Bool} (h1 : L.all (fun c => isCode c || P c) = true) (h2 : ∀ c ∈ L.filter isCode, P c = true) : L.all P = true := by
  refine List.all_eq_true.mpr fun c hc => ?_
  have h := List.all_eq_true.mp h1 c hc
  rcases Bool.eq_false_or_eq_true (isCode c) with hi | hi
  · exact h2 c (List.mem_filter.mpr ⟨hc, hi⟩)
  · simpa [hi] using h
set_option maxRecDepth 65536 in
theorem w_c0 : (Jvm.Cond.code x code maxLocals ret).before args0 about1 = true := code_word (m := ⟨1, 1⟩) (meth := k1m1) (c := k1c1) (by decide +kernel) rfl rfl rfl (by decide +kernel)
set_option maxRecDepth 65536 in
theorem w_c1 : (Jvm.Cond.code ({ cls := "java/lang/Math", name := "min", desc := "(JJ)J" } : Jvm.MethodName) jdk_29_method_70_code (4 : Nat) (Option.some Jvm.ClassFile.FieldType.long)).before args0 about1 = true := code_word (m := ⟨2, 2⟩) (meth := k2m2) (c := k2c2) (by decide +kernel) rfl rfl rfl (by decide +kernel)
set_option maxRecDepth 65536 in
theorem w_c2 : (Jvm.Cond.code ({ cls := "java/lang/Math", name := "max", desc := "(JJ)J" } : Jvm.MethodName) jdk_29_method_66_code (4 : Nat) (Option.some Jvm.ClassFile.FieldType.long)).before args0 about1 = true := code_word (m := ⟨2, 1⟩) (meth := k2m1) (c := k2c1) (by decide +kernel) rfl rfl rfl (by decide +kernel)
set_option maxRecDepth 65536 in
theorem w_c3 : (Jvm.Cond.code ({ cls := "com/example/safe_packet_runtime/safepacketruntime/node/KeyExchange$Window", name := "<init>", desc := "(JJ)V" } : Jvm.MethodName) prog_103_method_1_code (5 : Nat) (Option.none : Option Jvm.ClassFile.FieldType)).before args0 about1 = true := code_word (m := ⟨4, 0⟩) (meth := k4m0) (c := k4c0) (by decide +kernel) rfl rfl rfl (by decide +kernel)
set_option maxRecDepth 65536 in
theorem w_c4 : (Jvm.Cond.code ({ cls := "java/lang/Record", name := "<init>", desc := "()V" } : Jvm.MethodName) jdk_30_method_1_code (1 : Nat) (Option.none : Option Jvm.ClassFile.FieldType)).before args0 about1 = true := code_word (m := ⟨3, 0⟩) (meth := k3m0) (c := k3c0) (by decide +kernel) rfl rfl rfl (by decide +kernel)
set_option maxRecDepth 65536 in
theorem w_c5 : (Jvm.Cond.code ({ cls := "java/lang/Object", name := "<init>", desc := "()V" } : Jvm.MethodName) object_method_1_code (1 : Nat) (Option.none : Option Jvm.ClassFile.FieldType)).before args0 about1 = true := code_word (m := ⟨0, 0⟩) (meth := k0m0) (c := k0c0) (by decide +kernel) rfl rfl rfl (by decide +kernel)
set_option maxRecDepth 65536 in
theorem w_c6 : (Jvm.Cond.code ({ cls := "com/example/safe_packet_runtime/safepacketruntime/node/KeyExchange$Window", name := "covers", desc := "(J)Z" } : Jvm.MethodName) prog_103_method_3_code (3 : Nat) (Option.some Jvm.ClassFile.FieldType.boolean)).before args0 about1 = true := code_word (m := ⟨4, 1⟩) (meth := k4m1) (c := k4c1) (by decide +kernel) rfl rfl rfl (by decide +kernel)
set_option maxRecDepth 65536 in
theorem w_c7 : (Jvm.Cond.code ({ cls := "com/example/safe_packet_runtime/safepacketruntime/node/WindowCoversPinLaw", name := "expected", desc := "(JJJ)Z" } : Jvm.MethodName) method_3_code (12 : Nat) (Option.some Jvm.ClassFile.FieldType.boolean)).before args0 about1 = true := code_word (m := ⟨1, 2⟩) (meth := k1m2) (c := k1c2) (by decide +kernel) rfl rfl rfl (by decide +kernel)
def codes1 : List Jvm.Cond := [Jvm.Cond.code x code maxLocals ret, Jvm.Cond.code ({ cls := "java/lang/Math", name := "min", desc := "(JJ)J" } : Jvm.MethodName) jdk_29_method_70_code (4 : Nat) (Option.some Jvm.ClassFile.FieldType.long), Jvm.Cond.code ({ cls := "java/lang/Math", name := "max", desc := "(JJ)J" } : Jvm.MethodName) jdk_29_method_66_code (4 : Nat) (Option.some Jvm.ClassFile.FieldType.long), Jvm.Cond.code ({ cls := "com/example/safe_packet_runtime/safepacketruntime/node/KeyExchange$Window", name := "<init>", desc := "(JJ)V" } : Jvm.MethodName) prog_103_method_1_code (5 : Nat) (Option.none : Option Jvm.ClassFile.FieldType), Jvm.Cond.code ({ cls := "java/lang/Record", name := "<init>", desc := "()V" } : Jvm.MethodName) jdk_30_method_1_code (1 : Nat) (Option.none : Option Jvm.ClassFile.FieldType), Jvm.Cond.code ({ cls := "java/lang/Object", name := "<init>", desc := "()V" } : Jvm.MethodName) object_method_1_code (1 : Nat) (Option.none : Option Jvm.ClassFile.FieldType), Jvm.Cond.code ({ cls := "com/example/safe_packet_runtime/safepacketruntime/node/KeyExchange$Window", name := "covers", desc := "(J)Z" } : Jvm.MethodName) prog_103_method_3_code (3 : Nat) (Option.some Jvm.ClassFile.FieldType.boolean), Jvm.Cond.code ({ cls := "com/example/safe_packet_runtime/safepacketruntime/node/WindowCoversPinLaw", name := "expected", desc := "(JJJ)Z" } : Jvm.MethodName) method_3_code (12 : Nat) (Option.some Jvm.ClassFile.FieldType.boolean)]
set_option maxRecDepth 65536 in
theorem codes_eq : words1.filter isCode = codes1 := rfl
theorem w_codes : ∀ c ∈ words1.filter isCode, c.before args0 about1 = true := by
  rw [codes_eq]
  intro c hc
  simp only [codes1, List.mem_cons, List.not_mem_nil, or_false] at hc
  rcases hc with rfl | rfl | rfl | rfl | rfl | rfl | rfl | rfl
  · exact w_c0
  · exact w_c1
  · exact w_c2
  · exact w_c3
  · exact w_c4
  · exact w_c5
  · exact w_c6
  · exact w_c7
set_option maxRecDepth 65536 in
theorem w_t1 : (words1.take 24).all (fun c => isCode c || c.before args0 about1) = true := by decide +kernel
set_option maxRecDepth 65536 in
theorem w_t2 : (words1.drop 24).all (fun c => isCode c || c.before args0 about1) = true := by decide +kernel
theorem w_tables : (allAtoms (Jvm.Cond.code x code maxLocals ret :: tables_1)).before args0 about1 = true := by
  rw [allAtoms_all]
  show words1.all (fun c => c.before args0 about1) = true
  refine all_split ?_ w_codes
  rw [← List.take_append_drop 24 words1, List.all_append, w_t1, w_t2]
  rfl
set_option maxRecDepth 65536 in
theorem w_case : (Jvm.Cond.and given_1 narrow_1).before args0 about1 = true := by decide +kernel
theorem w_applies : (headSpec (Jvm.Cond.code x code maxLocals ret :: tables_1) room_1).applies x e0.platform about1 = true :=
  (Spec.applies_iff w_frames).mpr ⟨w_running, w_runnable, w_alone, w_named, w_hears, w_ripe, w_room, w_tables⟩
theorem atStart : AtStart classFile x code maxLocals ret World_1 tables_1 room_1 Calls_1 rest_1 Pre_1 launch0 p0 e0 about1 theMethod args0 below0 :=
  ⟨lists_1, trivial, launch0.admits_env _ _ _, launch0.least_env, fairChoices_fair.cas, fairChoices_fair.clock, w_frames, w_args, w_heap, w_applies, trivial, trivial, w_case⟩
end start1
theorem witness_1 : WitnessClaimed_1 := ⟨start1.p0, start1.e0, start1.about1, start1.theMethod, start1.args0, start1.below0, start1.atStart⟩
end Jvm.Pilot.@@N@@
