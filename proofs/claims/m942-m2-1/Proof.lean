import JvmDerived
import JvmDerived.Pilot.@@N@@Statement
import JvmDerived.Pilot.@@N@@Code
set_option linter.unusedVariables false
set_option linter.unusedSimpArgs false
namespace Jvm.Pilot.@@N@@
open Jvm Jvm.ClassFile Sem Op Lib Jvm.Free Jvm.Stand Jvm.LawKit Jvm.RoadKit Bundle Jvm.Pilot.@@N@@.Jvm.D
/-! own kit: walks in the form 'what is left from this frame on', so that a walk may fork and join -/
section OwnKit
def b01 : Bool → Int32 | true => 1 | false => 0
def i01 (A : Prop) [Decidable A] : Int32 := if A then 1 else 0
theorem i01_t {A : Prop} [Decidable A] (h : A) : i01 A = 1 := if_pos h
theorem i01_f {A : Prop} [Decidable A] (h : ¬ A) : i01 A = 0 := if_neg h
theorem i01_0 {A : Prop} [Decidable A] : i01 A = 0 ↔ ¬ A := by unfold i01; by_cases h : A <;> simp [h]
theorem i01_b {A : Prop} [Decidable A] : i01 A = b01 (decide A) := by unfold i01; by_cases h : A <;> simp [h, b01]
theorem i01_n {A : Prop} [Decidable A] (h : ¬ i01 A = 0) : A := Decidable.not_not.mp fun q => h (i01_0.mpr q)
theorem b01_0 {b : Bool} : b01 b = 0 ↔ b = false := by cases b <;> simp [b01]
theorem b01_inj {a b : Bool} : b01 a = b01 b ↔ a = b := by cases a <;> cases b <;> simp [b01]
theorem b01_nar (b : Bool) : nar .boolean (b01 b) = b01 b := by cases b <;> rfl
theorem i01_nar {A : Prop} [Decidable A] : nar .boolean (i01 A) = i01 A := by rw [i01_b]; exact b01_nar _
variable {p : Program} {l : Launch} {e : Env} {R : Room} {s : State} {m : MethodId} {args : Array Value} {below : List Frame} {meth : Method} {c : Code} {T T' : State} {locs : List Loc} {cells slots : Nat} {Z : State} {a0 : Array Value} {h : Heap}
/-- from the frame g over T the run comes to an end of which P holds -/
def Go (p : Program) (e : Env) (below : List Frame) (P : State → Outcome → Prop) (T : State) (g : JFrame) : Prop :=
  ∃ (u : State) (o : Outcome), Steps p.tables e below (T.setTop g) u ∧ u.status = .running ∧ Ended u below o ∧ P u o
variable {P : State → Outcome → Prop}
theorem Go.via {g g' : JFrame} (st : ∀ t, Steps p.tables e below (T'.setTop g') t → Steps p.tables e below (T.setTop g) t) (k : Go p e below P T' g') : Go p e below P T g := by
  obtain ⟨u, o, hs, r⟩ := k
  exact ⟨u, o, st u hs, r⟩
theorem Go.cut {g g' : JFrame} (k1 : Go p e below P T' g' → Go p e below P T g) (k2 : Go p e below P T' g') : Go p e below P T g := k1 k2
theorem Go.cutA {α : Type} {g : JFrame} {g' : α → JFrame} (k1 : (∀ q, Go p e below P T' (g' q)) → Go p e below P T g) (k2 : ∀ q, Go p e below P T' (g' q)) : Go p e below P T g := k1 k2
theorem Go.cast {g g' : JFrame} (q : g = g') (k : Go p e below P T g') : Go p e below P T g := q ▸ k
/-- what a contract says of its end -/
def GoEnd (s : State) (Q : Option Value → Heap → List Loc → Prop) (cs sl : Nat) (u : State) (o : Outcome) : Prop := ∃ (v : Option Value) (L : List Loc), o = .returned v ∧ Q v u.heap L ∧ FrameEnd s o u L cs sl
variable {Q : Option Value → Heap → List Loc → Prop} {cs sl : Nat}
theorem Go.retN (X : Stand p l e R s m args below meth c T locs cells slots) (hx : p.tables.exec = Jvm.exec) (hk : meth.locks = false) {pc : Nat} {Ls : Array Slot} {z : Int32} {t : FieldType} {rest : List Value} (hret : meth.sig.returnType = some t) (ht : t = .boolean ∨ t = .byte ∨ t = .char ∨ t = .short)
    (hd : decode c.code pc = .ok (.ireturn, 1)) (hc : cells ≤ cs) (hl : slots ≤ sl) (hq : Q (some (.int (nar t z))) T.heap locs) : Go p e below (GoEnd s Q cs sl) T (mkF m pc Ls (.int z :: rest)) := by
  obtain ⟨fs, hr, hrun, hended, hW, hsame⟩ := X.leave (v := some (.int (nar t z))) (fun q => by rw [hret] at q; cases q) hk
  exact ⟨_, _, Jvm.RoadKit.retN X hx hret ht hd hr, hrun, hended, _, _, rfl, hq, ⟨_, rfl⟩, hW, hsame.mono hc hl⟩
theorem Go.retA (X : Stand p l e R s m args below meth c T locs cells slots) (hx : p.tables.exec = Jvm.exec) (hk : meth.locks = false) {pc : Nat} {Ls : Array Slot} {w : Value} {t : FieldType} {i : Instr} {rest : List Value} (hret : meth.sig.returnType = some t) (hn : narrow t w = w)
    (hi : (i = .ireturn ∧ (t = .int ∨ t = .boolean ∨ t = .byte ∨ t = .char ∨ t = .short) ∧ ∃ z, w = .int z) ∨ (i = .lreturn ∧ t = .long ∧ ∃ z, w = .long z) ∨ (i = .dreturn ∧ t = .double ∧ ∃ z, w = .double z) ∨ (i = .freturn ∧ t = .float ∧ ∃ z, w = .float z) ∨ (i = .areturn ∧ t.isReference = true ∧ w.isRef = true))
    (hd : decode c.code pc = .ok (i, 1)) (hc : cells ≤ cs) (hl : slots ≤ sl) (hq : Q (some w) T.heap locs) : Go p e below (GoEnd s Q cs sl) T (mkF m pc Ls (w :: rest)) := by
  obtain ⟨fs, hr, hrun, hended, hW, hsame⟩ := X.leave (v := some w) (fun q => by rw [hret] at q; cases q) hk
  exact ⟨_, _, Jvm.RoadKit.retOut X hx hret hn hi hd hr, hrun, hended, _, _, rfl, hq, ⟨_, rfl⟩, hW, hsame.mono hc hl⟩
theorem Go.retI (X : Stand p l e R s m args below meth c T locs cells slots) (hx : p.tables.exec = Jvm.exec) (hk : meth.locks = false) {pc : Nat} {Ls : Array Slot} {z : Int32} {rest : List Value} (hret : meth.sig.returnType = some .int)
    (hd : decode c.code pc = .ok (.ireturn, 1)) (hc : cells ≤ cs) (hl : slots ≤ sl) (hq : Q (some (.int z)) T.heap locs) : Go p e below (GoEnd s Q cs sl) T (mkF m pc Ls (.int z :: rest)) :=
  Go.retA X hx hk hret rfl (Or.inl ⟨rfl, Or.inl rfl, z, rfl⟩) hd hc hl hq
theorem Go.retJ (X : Stand p l e R s m args below meth c T locs cells slots) (hx : p.tables.exec = Jvm.exec) (hk : meth.locks = false) {pc : Nat} {Ls : Array Slot} {z : Int64} {rest : List Value} (hret : meth.sig.returnType = some .long)
    (hd : decode c.code pc = .ok (.lreturn, 1)) (hc : cells ≤ cs) (hl : slots ≤ sl) (hq : Q (some (.long z)) T.heap locs) : Go p e below (GoEnd s Q cs sl) T (mkF m pc Ls (.long z :: rest)) :=
  Go.retA X hx hk hret rfl (Or.inr (Or.inl ⟨rfl, rfl, z, rfl⟩)) hd hc hl hq
theorem Go.retV (X : Stand p l e R s m args below meth c T locs cells slots) (hx : p.tables.exec = Jvm.exec) (hk : meth.locks = false) {pc : Nat} {Ls : Array Slot} (hret : meth.sig.returnType = none)
    (hd : decode c.code pc = .ok (.return_, 1)) (hc : cells ≤ cs) (hl : slots ≤ sl) (hq : Q none T.heap locs) : Go p e below (GoEnd s Q cs sl) T (mkF m pc Ls []) := by
  obtain ⟨fs, hr, hrun, hended, hW, hsame⟩ := X.leave (v := none) (fun _ => rfl) hk
  exact ⟨_, _, X.returnOut hx hret hd hr, hrun, hended, _, _, rfl, hq, ⟨_, rfl⟩, hW, hsame.mono hc hl⟩
/-- a method's contract: called with as' over the heap h it ends and Q holds -/
abbrev Met (l : Launch) (Z : State) (y : MethodName) (bytes : ByteArray) (maxL : Nat) (ret : Option FieldType) (ws : List Jvm.Cond) (rm : Room) (as' : Array Value) (h : Heap) (Q : Option Value → Heap → List Loc → Prop) : Prop :=
  MetFree l y (head1 (Jvm.Cond.code y bytes maxL ret :: ws) rm) (fun a U => a = as' ∧ Z.Warmed39 U.vm ∧ U.heap = h) (fun _ _ _ _ _ => True) (fun _ U o U' => GoEnd U Q rm.cells rm.slots U' o)
variable {y : MethodName} {bytes : ByteArray} {maxL : Nat} {ret : Option FieldType} {ws : List Jvm.Cond} {rm : Room} {as' : Array Value}
/-- a body's own walk makes its contract -/
theorem Met.of (hp : plainFor y = true)
    (body : ∀ (p : Program) (e : Env) (s : State) (m : MethodId) (below : List Frame) (meth : Method) (c : Code) (T : State), p.tables.exec = Jvm.exec → c.code = bytes → c.maxLocals = maxL → meth.locks = false → meth.sig.returnType = ret → meth.name = y.name → s.vm.findClass y.cls = some m.cls → Z.Warmed39 s.vm →
      Stand p l e rm s m as' below meth c T [] 0 0 → T.heap = h → Go p e below (GoEnd s Q rm.cells rm.slots) T (entryFrame m as' maxL)) : Met l Z y bytes maxL ret ws rm as' h Q := by
  refine MetFree.of_bodySF hp hisR ?_
  intro p e s m args below meth c s₁ Bd hml hP hK
  obtain ⟨rfl, hZ, hh⟩ := hP
  exact body p e s m below meth c s₁ Bd.exec Bd.bytes hml (BodyLoose.notSynchronized Bd) Bd.returns (name_of_methodNamed Bd.named Bd.method).1 (findClass_of_methodNamed Bd.named) hZ (Stand.of_body Bd) (by rw [← hh, Bd.state]; rfl)
/-- a static call by its contract -/
theorem Go.callS (X : Stand p l e R s m args below meth c T locs cells slots) (hx : p.tables.exec = Jvm.exec) (hZ : Z.Warmed39 s.vm) {own : String} {index : Nat} (hown : s.vm.findClass own = some m.cls) (eT : T.heap = h)
    (w1 : (Cond.methodLink own index y).before a0 Z = true) (w2 : (Cond.static y).before a0 Z = true) (w3 : (Cond.initialized y.cls).before a0 Z = true) (w4 : (Cond.code y bytes maxL ret).before a0 Z = true) (hy : y.cls ≠ "java/lang/invoke/MethodHandle" ∧ y.cls ≠ "java/lang/invoke/VarHandle")
    (M : Met l Z y bytes maxL ret [] rm as' h Q) {pc : Nat} {Ls : Array Slot} {argsL rest : List Value} {ps : List FieldType} {r : Option FieldType} (hpd : parseMethodDescriptor y.desc = some ⟨ps, r⟩) (hn : argsL.length = ps.length) (has : argsL.toArray = as') (hsize : Ls.size = c.maxLocals)
    (hd : decode c.code pc = .ok (.invokestatic index, 3)) {W : Nat} (hW : (rest.map fun v => v.category).sum ≤ W) (hf : rm.frames + 1 ≤ R.frames) (hl : W + (maxL + 11) + rm.locals ≤ R.locals) (hc : cells + rm.cells ≤ R.cells) (hs : slots + rm.slots ≤ R.slots) :
    ∃ (v : Option Value) (T' : State) (L : List Loc), Stand p l e R s m args below meth c T' (locs ++ L) (cells + rm.cells) (slots + rm.slots) ∧ Q v T'.heap L ∧ ∀ {P : State → Outcome → Prop}, Go p e below P T' (mkF m (pc + 3) Ls (v.toList ++ rest)) → Go p e below P T (mkF m pc Ls (argsL.reverse ++ rest)) := by
  obtain ⟨v, vm₁, ⟨T', L', k', n'⟩, -, X', ⟨L, hQ, l1, l2, l3⟩, st⟩ := Jvm.LawKit.callS X hx hown (mvT hZ w1) (mvT hZ w2) (mvT hZ w3) (mvT hZ w4) hy (backOf (W := W) M hZ w4 w3 hf hl) (g := mkF m pc Ls (argsL.reverse ++ rest)) rfl hsize (lenOf hpd hn) rfl (by show 2 * 0 + _ ≤ _; omega) hd (fun _ _ => ⟨has, eT, hc, hs⟩)
  dsimp only [Pt.U, Pt.locs, Pt.cells, Pt.slots] at X' l1 l2 l3 st hQ
  subst l1 l2 l3
  exact ⟨v, T', L, X', hQ, fun k => Go.via st k⟩
/-- a constructor by its contract -/
theorem Go.callN (X : Stand p l e R s m args below meth c T locs cells slots) (hx : p.tables.exec = Jvm.exec) (hZ : Z.Warmed39 s.vm) {own : String} {index : Nat} (hown : s.vm.findClass own = some m.cls) (eT : T.heap = h) (hy1 : y.name = "<init>")
    (w1 : (Cond.methodLink own index y).before a0 Z = true) (w2 : (Cond.instanceMethod y).before a0 Z = true) (w3 : (Cond.initialized y.cls).before a0 Z = true) (w4 : (Cond.code y bytes maxL none).before a0 Z = true) (hy : y.cls ≠ "java/lang/invoke/MethodHandle" ∧ y.cls ≠ "java/lang/invoke/VarHandle")
    (M : Met l Z y bytes maxL none [] rm as' h Q) {pc : Nat} {Ls : Array Slot} {a : Addr} {argsL rest : List Value} {ps : List FieldType} {r : Option FieldType} (hpd : parseMethodDescriptor y.desc = some ⟨ps, r⟩) (hn : argsL.length = ps.length) (has : (.ref a :: argsL).toArray = as') (hsize : Ls.size = c.maxLocals)
    (hd : decode c.code pc = .ok (.invokespecial index, 3)) {W : Nat} (hW : (rest.map fun v => v.category).sum ≤ W) (hf : rm.frames + 1 ≤ R.frames) (hl : W + (maxL + 11) + rm.locals ≤ R.locals) (hc : cells + rm.cells ≤ R.cells) (hs : slots + rm.slots ≤ R.slots) :
    ∃ (v : Option Value) (T' : State) (L : List Loc), Stand p l e R s m args below meth c T' (locs ++ L) (cells + rm.cells) (slots + rm.slots) ∧ Q v T'.heap L ∧ ∀ {P : State → Outcome → Prop}, Go p e below P T' (mkF m (pc + 3) Ls (v.toList ++ rest)) → Go p e below P T (mkF m pc Ls (argsL.reverse ++ .ref a :: rest)) := by
  obtain ⟨v, vm₁, ⟨T', L', k', n'⟩, -, X', ⟨L, hQ, l1, l2, l3⟩, st⟩ := X.specialBack hx hy1 hown (mvT hZ w1) (mvT hZ w2) (mvT hZ w4) hy (backOf (W := W) M hZ w4 w3 hf hl) (g := mkF m pc Ls (argsL.reverse ++ .ref a :: rest)) rfl hsize (Steps.refl _) (lenOf hpd hn) rfl (by show 2 * 0 + _ ≤ _; omega) hd (fun _ _ => ⟨has, eT, hc, hs⟩)
  dsimp only [Pt.U, Pt.locs, Pt.cells, Pt.slots] at X' l1 l2 l3 st hQ
  subst l1 l2 l3
  exact ⟨v, T', L, X', hQ, fun k => Go.via (fun t k => st.trans k) k⟩
/-- an instance method by its contract -/
theorem Go.callV (X : Stand p l e R s m args below meth c T locs cells slots) (hx : p.tables.exec = Jvm.exec) (hZ : Z.Warmed39 s.vm) {own C : String} {index : Nat} (hown : s.vm.findClass own = some m.cls) (eT : T.heap = h)
    (w1 : (Cond.methodLink own index y).before a0 Z = true) (w2 : (Cond.declares y).before a0 Z = true) (w6 : (Cond.selects C y y).before a0 Z = true) (w7 : (Cond.instanceMethod y).before a0 Z = true) (w3 : (Cond.initialized y.cls).before a0 Z = true) (w4 : (Cond.code y bytes maxL ret).before a0 Z = true) (hy : y.cls ≠ "java/lang/invoke/MethodHandle" ∧ y.cls ≠ "java/lang/invoke/VarHandle")
    {a : Addr} (Ea : Exa Z h a C)
    (M : Met l Z y bytes maxL ret [] rm as' h Q) {pc : Nat} {Ls : Array Slot} {argsL rest : List Value} {ps : List FieldType} {r : Option FieldType} (hpd : parseMethodDescriptor y.desc = some ⟨ps, r⟩) (hn : argsL.length = ps.length) (has : (.ref a :: argsL).toArray = as') (hsize : Ls.size = c.maxLocals)
    (hd : decode c.code pc = .ok (.invokevirtual index, 3)) {W : Nat} (hW : (rest.map fun v => v.category).sum ≤ W) (hf : rm.frames + 1 ≤ R.frames) (hl : W + (maxL + 11) + rm.locals ≤ R.locals) (hc : cells + rm.cells ≤ R.cells) (hs : slots + rm.slots ≤ R.slots) :
    ∃ (v : Option Value) (T' : State) (L : List Loc), Stand p l e R s m args below meth c T' (locs ++ L) (cells + rm.cells) (slots + rm.slots) ∧ Q v T'.heap L ∧ ∀ {P : State → Outcome → Prop}, Go p e below P T' (mkF m (pc + 3) Ls (v.toList ++ rest)) → Go p e below P T (mkF m pc Ls (argsL.reverse ++ .ref a :: rest)) := by
  obtain ⟨cq, kq, qa, qb, qc⟩ := isOf hZ eT Ea
  obtain ⟨v, vm₁, ⟨T', L', k', n'⟩, -, X', ⟨L, hQ, l1, l2, l3⟩, st⟩ := X.virtualBack hx hown (mvT hZ w1) (mvT hZ w2) (notFace_of_selects (args := #[]) (mvT hZ w6)) (mvT hZ w6) (mvT hZ w7) hy (backOf (W := W) M hZ w4 w3 hf hl) qa qc (g := mkF m pc Ls (argsL.reverse ++ .ref a :: rest)) rfl hsize (Steps.refl _) (lenOf hpd hn) rfl (by show 2 * 0 + _ ≤ _; omega) hd (fun _ _ => ⟨has, eT, hc, hs⟩)
  dsimp only [Pt.U, Pt.locs, Pt.cells, Pt.slots] at X' l1 l2 l3 st hQ
  subst l1 l2 l3
  exact ⟨v, T', L, X', hQ, fun k => Go.via (fun t k => st.trans k) k⟩
end OwnKit
theorem own_pd0 : parseMethodDescriptor "(I)Lcom/example/quintet/quintet/radius/PeerOutcome;" = some ⟨[.int], some (.object "com/example/quintet/quintet/radius/PeerOutcome")⟩ := by decide +kernel
theorem own_pd1 : parseMethodDescriptor "()Z" = some ⟨[], some .boolean⟩ := by decide +kernel
theorem own_fldv {args : Array Value} {s : State} {t : Term} {C n d : String} {k : Int32} {x : Addr} (h : (Jvm.Cond.eq (Jvm.Term.field t C n d) (Jvm.Term.int k)).value args s none s [] = some true) (ht : t.eval args s none [] s = some (.ref x)) : Fld s s.heap x C n d (.int k) := by
  obtain ⟨v, w, h1, h2, -, K⟩ := cmp_v (Or.inl h)
  obtain rfl : (.int k) = w := Option.some.inj ((Term.int_eval k).symm.trans h2)
  obtain ⟨z, rfl⟩ : ∃ z, v = .int z := K
  have e : z = k := gotT (Cond.eq_ints h1 h2) h
  subst e
  rw [fld_at ht] at h1
  exact Fld.start h1
theorem own_d2_0 : decode prog_41_method_4_code 0 = .ok (.aload_n 0, 1) := by decide +kernel
theorem own_d2_1 : decode prog_41_method_4_code 1 = .ok (.getstatic 3, 3) := by decide +kernel
theorem own_d2_4 : decode prog_41_method_4_code 4 = .ok (.if_acmp .ne 7, 3) := by decide +kernel
theorem own_d2_7 : decode prog_41_method_4_code 7 = .ok (.iconst 1, 1) := by decide +kernel
theorem own_d2_8 : decode prog_41_method_4_code 8 = .ok (.goto 4, 3) := by decide +kernel
theorem own_d2_11 : decode prog_41_method_4_code 11 = .ok (.iconst 0, 1) := by decide +kernel
theorem own_d2_12 : decode prog_41_method_4_code 12 = .ok (.ireturn, 1) := by decide +kernel
theorem own_pn0 : plainName "com/example/quintet/quintet/radius/PeerOutcome" = true := by first | (simp [plainName, overriddenIn]; done) | decide +kernel
theorem ef_own_su (m : MethodId) (a1 : Addr) : entryFrame m #[(.ref a1)] 1 = mkF m 0 #[.val (.ref a1)] [] := by first | (simp [entryFrame, mkF, argsToLocals, Value.category]; done) | rfl
set_option maxRecDepth 65536 in
set_option maxHeartbeats 40000000 in
theorem own_su (l : Launch) (Z : State) (a0 : Array Value) (hw : ∀ d ∈ tables_1, d.before a0 Z = true) (ws : List Jvm.Cond) (a1 : Addr) (ac : Addr) (h0 : Heap) (n0 : Nat) (Z0 : n0 ≤ h0.size) (S_c : Sta Z h0 "com/example/quintet/quintet/radius/PeerOutcome" "SUCCEEDED" "Lcom/example/quintet/quintet/radius/PeerOutcome;" (.ref ac)) :
    Met l Z (⟨"com/example/quintet/quintet/radius/PeerOutcome", "succeeded", "()Z"⟩ : MethodName) prog_41_method_4_code 1 (some .boolean) ws ({ frames := 0, cells := 0, slots := 0, locals := 0 } : Room) #[(.ref a1)] h0 (fun v h L => v = some (.int (i01 ((.ref a1 : Value) = .ref ac))) ∧ Fr n0 L ∧ h = h0) := by
  refine Met.of (plainFor_of_name own_pn0) ?_
  intro p e s m below meth c T0 hx hby hml hk hret hnm hown hZ X0 e0
  have N0 := Fr.nil n0
  refine Go.cast (ef_own_su m a1) ?_
  show Go p e below _ T0 (mkF m 0 #[.val (.ref a1)] [])
  refine Go.via (fun _ k => XS.aloadN X0.here hx rfl (hb hby own_d2_0) rfl (by rfl) k) ?_
  show Go p e below _ T0 (mkF m 1 #[.val (.ref a1)] [(.ref a1)])
  obtain ⟨T1, X1, e1, st1⟩ := getS X0 hx hZ hown (host := "") (hw _ (List.mem_of_getElem? (i := 12) rfl)) Via.refl e0 S_c (g := (mkF m 1 #[.val (.ref a1)] [(.ref a1)])) rfl (hb hby own_d2_1)
  refine Go.via (fun _ k => st1 _ k) ?_
  show Go p e below _ T1 (mkF m 4 #[.val (.ref a1)] [(.ref ac), (.ref a1)])
  by_cases ha4 : ((.ref a1) : Value) = (.ref ac)
  · skip
    refine Go.via (fun _ k => Jvm.RoadKit.acmp (g := (mkF m 4 #[.val (.ref a1)] [(.ref ac), (.ref a1)])) X1 hx rfl rfl rfl (pc0 := 4) (pc' := 7) (same := true) rfl (hb hby own_d2_4) rfl (decide_eq_true ha4) (by decide) (by decide) k) ?_
    show Go p e below _ T1 (mkF m 7 #[.val (.ref a1)] [])
    refine Go.via (fun _ k => XS.iconst X1.here hx rfl (hb hby own_d2_7) k) ?_
    show Go p e below _ T1 (mkF m 8 #[.val (.ref a1)] [(.int (1 : Int32))])
    refine Go.via (fun _ k => XS.goto X1.here hx rfl (pc0 := 8) (pc' := 12) rfl (hb hby own_d2_8) (by decide) (by decide) k) ?_
    show Go p e below _ T1 (mkF m 12 #[.val (.ref a1)] [(.int (1 : Int32))])
    refine Go.retN X1 hx hk (hret : meth.sig.returnType = some .boolean) (t := .boolean) (by simp) (hb hby own_d2_12) (by decide) (by decide) ?_
    exact ⟨by rw [show i01 ((.ref a1 : Value) = .ref ac) = _ from i01_t ha4]; rfl, N0, e1⟩
  · skip
    refine Go.via (fun _ k => Jvm.RoadKit.acmp (g := (mkF m 4 #[.val (.ref a1)] [(.ref ac), (.ref a1)])) X1 hx rfl rfl rfl (pc0 := 4) (pc' := 11) (same := false) rfl (hb hby own_d2_4) rfl (decide_eq_false ha4) (by decide) (by decide) k) ?_
    show Go p e below _ T1 (mkF m 11 #[.val (.ref a1)] [])
    refine Go.via (fun _ k => XS.iconst X1.here hx rfl (hb hby own_d2_11) k) ?_
    show Go p e below _ T1 (mkF m 12 #[.val (.ref a1)] [(.int (0 : Int32))])
    refine Go.retN X1 hx hk (hret : meth.sig.returnType = some .boolean) (t := .boolean) (by simp) (hb hby own_d2_12) (by decide) (by decide) ?_
    exact ⟨by rw [show i01 ((.ref a1 : Value) = .ref ac) = _ from i01_f ha4]; rfl, N0, e1⟩
theorem own_d1_0 : decode method_3_code 0 = .ok (.iload_n 0, 1) := by decide +kernel
theorem own_d1_1 : decode method_3_code 1 = .ok (.ifCond .ne 7, 3) := by decide +kernel
theorem own_d1_4 : decode method_3_code 4 = .ok (.getstatic 19, 3) := by decide +kernel
theorem own_d1_7 : decode method_3_code 7 = .ok (.areturn, 1) := by decide +kernel
theorem own_d1_8 : decode method_3_code 8 = .ok (.iload_n 0, 1) := by decide +kernel
theorem own_d1_9 : decode method_3_code 9 = .ok (.iconst 1, 1) := by decide +kernel
theorem own_d1_10 : decode method_3_code 10 = .ok (.if_icmp .ne 7, 3) := by decide +kernel
theorem own_d1_13 : decode method_3_code 13 = .ok (.getstatic 23, 3) := by decide +kernel
theorem own_d1_16 : decode method_3_code 16 = .ok (.areturn, 1) := by decide +kernel
theorem own_d1_17 : decode method_3_code 17 = .ok (.iload_n 0, 1) := by decide +kernel
theorem own_d1_18 : decode method_3_code 18 = .ok (.iconst 2, 1) := by decide +kernel
theorem own_d1_19 : decode method_3_code 19 = .ok (.if_icmp .ne 7, 3) := by decide +kernel
theorem own_d1_22 : decode method_3_code 22 = .ok (.getstatic 26, 3) := by decide +kernel
theorem own_d1_25 : decode method_3_code 25 = .ok (.areturn, 1) := by decide +kernel
theorem own_d1_26 : decode method_3_code 26 = .ok (.iload_n 0, 1) := by decide +kernel
theorem own_d1_27 : decode method_3_code 27 = .ok (.iconst 3, 1) := by decide +kernel
theorem own_d1_28 : decode method_3_code 28 = .ok (.if_icmp .ne 7, 3) := by decide +kernel
theorem own_d1_31 : decode method_3_code 31 = .ok (.getstatic 29, 3) := by decide +kernel
theorem own_d1_34 : decode method_3_code 34 = .ok (.areturn, 1) := by decide +kernel
theorem own_d1_35 : decode method_3_code 35 = .ok (.iload_n 0, 1) := by decide +kernel
theorem own_d1_36 : decode method_3_code 36 = .ok (.iconst 4, 1) := by decide +kernel
theorem own_d1_37 : decode method_3_code 37 = .ok (.if_icmp .ne 7, 3) := by decide +kernel
theorem own_d1_40 : decode method_3_code 40 = .ok (.getstatic 32, 3) := by decide +kernel
theorem own_d1_43 : decode method_3_code 43 = .ok (.areturn, 1) := by decide +kernel
theorem own_d1_44 : decode method_3_code 44 = .ok (.iload_n 0, 1) := by decide +kernel
theorem own_d1_45 : decode method_3_code 45 = .ok (.iconst 5, 1) := by decide +kernel
theorem own_d1_46 : decode method_3_code 46 = .ok (.if_icmp .ne 7, 3) := by decide +kernel
theorem own_d1_49 : decode method_3_code 49 = .ok (.getstatic 35, 3) := by decide +kernel
theorem own_d1_52 : decode method_3_code 52 = .ok (.areturn, 1) := by decide +kernel
theorem own_d1_53 : decode method_3_code 53 = .ok (.iload_n 0, 1) := by decide +kernel
theorem own_d1_54 : decode method_3_code 54 = .ok (.bipush 6, 2) := by decide +kernel
theorem own_d1_56 : decode method_3_code 56 = .ok (.if_icmp .ne 7, 3) := by decide +kernel
theorem own_d1_59 : decode method_3_code 59 = .ok (.getstatic 38, 3) := by decide +kernel
theorem own_d1_62 : decode method_3_code 62 = .ok (.areturn, 1) := by decide +kernel
theorem own_d1_63 : decode method_3_code 63 = .ok (.getstatic 41, 3) := by decide +kernel
theorem own_d1_66 : decode method_3_code 66 = .ok (.areturn, 1) := by decide +kernel
theorem own_pn1 : plainName "com/example/quintet/quintet/radius/PeerOutcomeSucceededPinLaw" = true := by first | (simp [plainName, overriddenIn]; done) | decide +kernel
theorem ef_own_oc (m : MethodId) (p1 : Int32) : entryFrame m #[(.int p1)] 1 = mkF m 0 #[.val (.int p1)] [] := by first | (simp [entryFrame, mkF, argsToLocals, Value.category]; done) | rfl
set_option maxRecDepth 65536 in
set_option maxHeartbeats 40000000 in
theorem own_oc (l : Launch) (Z : State) (a0 : Array Value) (hw : ∀ d ∈ tables_1, d.before a0 Z = true) (ws : List Jvm.Cond) (p1 : Int32) (a_SUCCEEDED a_MPPE_KEYS_DIFFER a_MPPE_KEYS_MISSING a_ACCEPT_NOT_TAKEN a_REJECTED a_PEER_REFUSED a_CHALLENGE_NOT_ANSWERED a_NO_REPLY : Addr) (h0 : Heap) (n0 : Nat) (Z0 : n0 ≤ h0.size) (S_SUCCEEDED : Sta Z h0 "com/example/quintet/quintet/radius/PeerOutcome" "SUCCEEDED" "Lcom/example/quintet/quintet/radius/PeerOutcome;" (.ref a_SUCCEEDED)) (E_SUCCEEDED : Exa Z h0 a_SUCCEEDED "com/example/quintet/quintet/radius/PeerOutcome") (S_MPPE_KEYS_DIFFER : Sta Z h0 "com/example/quintet/quintet/radius/PeerOutcome" "MPPE_KEYS_DIFFER" "Lcom/example/quintet/quintet/radius/PeerOutcome;" (.ref a_MPPE_KEYS_DIFFER)) (E_MPPE_KEYS_DIFFER : Exa Z h0 a_MPPE_KEYS_DIFFER "com/example/quintet/quintet/radius/PeerOutcome") (S_MPPE_KEYS_MISSING : Sta Z h0 "com/example/quintet/quintet/radius/PeerOutcome" "MPPE_KEYS_MISSING" "Lcom/example/quintet/quintet/radius/PeerOutcome;" (.ref a_MPPE_KEYS_MISSING)) (E_MPPE_KEYS_MISSING : Exa Z h0 a_MPPE_KEYS_MISSING "com/example/quintet/quintet/radius/PeerOutcome") (S_ACCEPT_NOT_TAKEN : Sta Z h0 "com/example/quintet/quintet/radius/PeerOutcome" "ACCEPT_NOT_TAKEN" "Lcom/example/quintet/quintet/radius/PeerOutcome;" (.ref a_ACCEPT_NOT_TAKEN)) (E_ACCEPT_NOT_TAKEN : Exa Z h0 a_ACCEPT_NOT_TAKEN "com/example/quintet/quintet/radius/PeerOutcome") (S_REJECTED : Sta Z h0 "com/example/quintet/quintet/radius/PeerOutcome" "REJECTED" "Lcom/example/quintet/quintet/radius/PeerOutcome;" (.ref a_REJECTED)) (E_REJECTED : Exa Z h0 a_REJECTED "com/example/quintet/quintet/radius/PeerOutcome") (S_PEER_REFUSED : Sta Z h0 "com/example/quintet/quintet/radius/PeerOutcome" "PEER_REFUSED" "Lcom/example/quintet/quintet/radius/PeerOutcome;" (.ref a_PEER_REFUSED)) (E_PEER_REFUSED : Exa Z h0 a_PEER_REFUSED "com/example/quintet/quintet/radius/PeerOutcome") (S_CHALLENGE_NOT_ANSWERED : Sta Z h0 "com/example/quintet/quintet/radius/PeerOutcome" "CHALLENGE_NOT_ANSWERED" "Lcom/example/quintet/quintet/radius/PeerOutcome;" (.ref a_CHALLENGE_NOT_ANSWERED)) (E_CHALLENGE_NOT_ANSWERED : Exa Z h0 a_CHALLENGE_NOT_ANSWERED "com/example/quintet/quintet/radius/PeerOutcome") (S_NO_REPLY : Sta Z h0 "com/example/quintet/quintet/radius/PeerOutcome" "NO_REPLY" "Lcom/example/quintet/quintet/radius/PeerOutcome;" (.ref a_NO_REPLY)) (E_NO_REPLY : Exa Z h0 a_NO_REPLY "com/example/quintet/quintet/radius/PeerOutcome") (ne_MPPE_KEYS_DIFFER : a_MPPE_KEYS_DIFFER ≠ a_SUCCEEDED) (ne_MPPE_KEYS_MISSING : a_MPPE_KEYS_MISSING ≠ a_SUCCEEDED) (ne_ACCEPT_NOT_TAKEN : a_ACCEPT_NOT_TAKEN ≠ a_SUCCEEDED) (ne_REJECTED : a_REJECTED ≠ a_SUCCEEDED) (ne_PEER_REFUSED : a_PEER_REFUSED ≠ a_SUCCEEDED) (ne_CHALLENGE_NOT_ANSWERED : a_CHALLENGE_NOT_ANSWERED ≠ a_SUCCEEDED) (ne_NO_REPLY : a_NO_REPLY ≠ a_SUCCEEDED) :
    Met l Z (⟨"com/example/quintet/quintet/radius/PeerOutcomeSucceededPinLaw", "outcomeOf", "(I)Lcom/example/quintet/quintet/radius/PeerOutcome;"⟩ : MethodName) method_3_code 1 (some (.object "com/example/quintet/quintet/radius/PeerOutcome")) ws ({ frames := 0, cells := 0, slots := 0, locals := 0 } : Room) #[(.int p1)] h0 (fun v h L => ∃ r : Addr, v = some (.ref r) ∧ Exa Z h0 r "com/example/quintet/quintet/radius/PeerOutcome" ∧ (r = a_SUCCEEDED ↔ p1 = (0 : Int32)) ∧ Fr n0 L ∧ h = h0) := by
  refine Met.of (plainFor_of_name own_pn1) ?_
  intro p e s m below meth c T0 hx hby hml hk hret hnm hown hZ X0 e0
  have N0 := Fr.nil n0
  refine Go.cast (ef_own_oc m p1) ?_
  show Go p e below _ T0 (mkF m 0 #[.val (.int p1)] [])
  refine Go.via (fun _ k => XS.iloadN X0.here hx rfl (hb hby own_d1_0) rfl  k) ?_
  show Go p e below _ T0 (mkF m 1 #[.val (.int p1)] [(.int p1)])
  by_cases hc1 : p1 = (0 : Int32)
  · skip
    refine Go.via (fun _ k => XS.ifNo X0.here hx rfl (hb hby own_d1_1) rfl ((if0 _ _).trans (teq hc1).2) k) ?_
    show Go p e below _ T0 (mkF m 4 #[.val (.int p1)] [])
    obtain ⟨T1, X1, e1, st1⟩ := getS X0 hx hZ hown (host := "") (hw _ (List.mem_of_getElem? (i := 4) rfl)) Via.refl e0 S_SUCCEEDED (g := (mkF m 4 #[.val (.int p1)] [])) rfl (hb hby own_d1_4)
    refine Go.via (fun _ k => st1 _ k) ?_
    show Go p e below _ T1 (mkF m 7 #[.val (.int p1)] [(.ref a_SUCCEEDED)])
    refine Go.retA X1 hx hk hret rfl (Or.inr (Or.inr (Or.inr (Or.inr ⟨rfl, rfl, rfl⟩)))) (hb hby own_d1_7) (by decide) (by decide) ?_
    exact ⟨a_SUCCEEDED, rfl, E_SUCCEEDED, ⟨fun _ => hc1, fun _ => rfl⟩, N0, e1⟩
  · skip
    refine Go.via (fun _ k => XS.ifYes X0.here hx rfl (pc0 := 1) (pc' := 8) rfl (hb hby own_d1_1) rfl ((if0 _ _).trans (feq hc1).2) (by decide) (by decide) k) ?_
    show Go p e below _ T0 (mkF m 8 #[.val (.int p1)] [])
    refine Go.via (fun _ k => XS.iloadN X0.here hx rfl (hb hby own_d1_8) rfl  k) ?_
    show Go p e below _ T0 (mkF m 9 #[.val (.int p1)] [(.int p1)])
    refine Go.via (fun _ k => XS.iconst X0.here hx rfl (hb hby own_d1_9) k) ?_
    show Go p e below _ T0 (mkF m 10 #[.val (.int p1)] [(.int (1 : Int32)), (.int p1)])
    by_cases hc10 : p1 = (1 : Int32)
    · skip
      refine Go.via (fun _ k => XS.icmpNo X0.here hx rfl (hb hby own_d1_10) rfl (teq hc10).2 k) ?_
      show Go p e below _ T0 (mkF m 13 #[.val (.int p1)] [])
      obtain ⟨T2, X2, e2, st2⟩ := getS X0 hx hZ hown (host := "") (hw _ (List.mem_of_getElem? (i := 21) rfl)) Via.refl e0 S_MPPE_KEYS_DIFFER (g := (mkF m 13 #[.val (.int p1)] [])) rfl (hb hby own_d1_13)
      refine Go.via (fun _ k => st2 _ k) ?_
      show Go p e below _ T2 (mkF m 16 #[.val (.int p1)] [(.ref a_MPPE_KEYS_DIFFER)])
      refine Go.retA X2 hx hk hret rfl (Or.inr (Or.inr (Or.inr (Or.inr ⟨rfl, rfl, rfl⟩)))) (hb hby own_d1_16) (by decide) (by decide) ?_
      exact ⟨a_MPPE_KEYS_DIFFER, rfl, E_MPPE_KEYS_DIFFER, ⟨fun q => absurd q ne_MPPE_KEYS_DIFFER, fun q => absurd q hc1⟩, N0, e2⟩
    · skip
      refine Go.via (fun _ k => XS.icmpYes X0.here hx rfl (pc0 := 10) (pc' := 17) rfl (hb hby own_d1_10) rfl (feq hc10).2 (by decide) (by decide) k) ?_
      show Go p e below _ T0 (mkF m 17 #[.val (.int p1)] [])
      refine Go.via (fun _ k => XS.iloadN X0.here hx rfl (hb hby own_d1_17) rfl  k) ?_
      show Go p e below _ T0 (mkF m 18 #[.val (.int p1)] [(.int p1)])
      refine Go.via (fun _ k => XS.iconst X0.here hx rfl (hb hby own_d1_18) k) ?_
      show Go p e below _ T0 (mkF m 19 #[.val (.int p1)] [(.int (2 : Int32)), (.int p1)])
      by_cases hc19 : p1 = (2 : Int32)
      · skip
        refine Go.via (fun _ k => XS.icmpNo X0.here hx rfl (hb hby own_d1_19) rfl (teq hc19).2 k) ?_
        show Go p e below _ T0 (mkF m 22 #[.val (.int p1)] [])
        obtain ⟨T3, X3, e3, st3⟩ := getS X0 hx hZ hown (host := "") (hw _ (List.mem_of_getElem? (i := 19) rfl)) Via.refl e0 S_MPPE_KEYS_MISSING (g := (mkF m 22 #[.val (.int p1)] [])) rfl (hb hby own_d1_22)
        refine Go.via (fun _ k => st3 _ k) ?_
        show Go p e below _ T3 (mkF m 25 #[.val (.int p1)] [(.ref a_MPPE_KEYS_MISSING)])
        refine Go.retA X3 hx hk hret rfl (Or.inr (Or.inr (Or.inr (Or.inr ⟨rfl, rfl, rfl⟩)))) (hb hby own_d1_25) (by decide) (by decide) ?_
        exact ⟨a_MPPE_KEYS_MISSING, rfl, E_MPPE_KEYS_MISSING, ⟨fun q => absurd q ne_MPPE_KEYS_MISSING, fun q => absurd q hc1⟩, N0, e3⟩
      · skip
        refine Go.via (fun _ k => XS.icmpYes X0.here hx rfl (pc0 := 19) (pc' := 26) rfl (hb hby own_d1_19) rfl (feq hc19).2 (by decide) (by decide) k) ?_
        show Go p e below _ T0 (mkF m 26 #[.val (.int p1)] [])
        refine Go.via (fun _ k => XS.iloadN X0.here hx rfl (hb hby own_d1_26) rfl  k) ?_
        show Go p e below _ T0 (mkF m 27 #[.val (.int p1)] [(.int p1)])
        refine Go.via (fun _ k => XS.iconst X0.here hx rfl (hb hby own_d1_27) k) ?_
        show Go p e below _ T0 (mkF m 28 #[.val (.int p1)] [(.int (3 : Int32)), (.int p1)])
        by_cases hc28 : p1 = (3 : Int32)
        · skip
          refine Go.via (fun _ k => XS.icmpNo X0.here hx rfl (hb hby own_d1_28) rfl (teq hc28).2 k) ?_
          show Go p e below _ T0 (mkF m 31 #[.val (.int p1)] [])
          obtain ⟨T4, X4, e4, st4⟩ := getS X0 hx hZ hown (host := "") (hw _ (List.mem_of_getElem? (i := 13) rfl)) Via.refl e0 S_ACCEPT_NOT_TAKEN (g := (mkF m 31 #[.val (.int p1)] [])) rfl (hb hby own_d1_31)
          refine Go.via (fun _ k => st4 _ k) ?_
          show Go p e below _ T4 (mkF m 34 #[.val (.int p1)] [(.ref a_ACCEPT_NOT_TAKEN)])
          refine Go.retA X4 hx hk hret rfl (Or.inr (Or.inr (Or.inr (Or.inr ⟨rfl, rfl, rfl⟩)))) (hb hby own_d1_34) (by decide) (by decide) ?_
          exact ⟨a_ACCEPT_NOT_TAKEN, rfl, E_ACCEPT_NOT_TAKEN, ⟨fun q => absurd q ne_ACCEPT_NOT_TAKEN, fun q => absurd q hc1⟩, N0, e4⟩
        · skip
          refine Go.via (fun _ k => XS.icmpYes X0.here hx rfl (pc0 := 28) (pc' := 35) rfl (hb hby own_d1_28) rfl (feq hc28).2 (by decide) (by decide) k) ?_
          show Go p e below _ T0 (mkF m 35 #[.val (.int p1)] [])
          refine Go.via (fun _ k => XS.iloadN X0.here hx rfl (hb hby own_d1_35) rfl  k) ?_
          show Go p e below _ T0 (mkF m 36 #[.val (.int p1)] [(.int p1)])
          refine Go.via (fun _ k => XS.iconst X0.here hx rfl (hb hby own_d1_36) k) ?_
          show Go p e below _ T0 (mkF m 37 #[.val (.int p1)] [(.int (4 : Int32)), (.int p1)])
          by_cases hc37 : p1 = (4 : Int32)
          · skip
            refine Go.via (fun _ k => XS.icmpNo X0.here hx rfl (hb hby own_d1_37) rfl (teq hc37).2 k) ?_
            show Go p e below _ T0 (mkF m 40 #[.val (.int p1)] [])
            obtain ⟨T5, X5, e5, st5⟩ := getS X0 hx hZ hown (host := "") (hw _ (List.mem_of_getElem? (i := 23) rfl)) Via.refl e0 S_REJECTED (g := (mkF m 40 #[.val (.int p1)] [])) rfl (hb hby own_d1_40)
            refine Go.via (fun _ k => st5 _ k) ?_
            show Go p e below _ T5 (mkF m 43 #[.val (.int p1)] [(.ref a_REJECTED)])
            refine Go.retA X5 hx hk hret rfl (Or.inr (Or.inr (Or.inr (Or.inr ⟨rfl, rfl, rfl⟩)))) (hb hby own_d1_43) (by decide) (by decide) ?_
            exact ⟨a_REJECTED, rfl, E_REJECTED, ⟨fun q => absurd q ne_REJECTED, fun q => absurd q hc1⟩, N0, e5⟩
          · skip
            refine Go.via (fun _ k => XS.icmpYes X0.here hx rfl (pc0 := 37) (pc' := 44) rfl (hb hby own_d1_37) rfl (feq hc37).2 (by decide) (by decide) k) ?_
            show Go p e below _ T0 (mkF m 44 #[.val (.int p1)] [])
            refine Go.via (fun _ k => XS.iloadN X0.here hx rfl (hb hby own_d1_44) rfl  k) ?_
            show Go p e below _ T0 (mkF m 45 #[.val (.int p1)] [(.int p1)])
            refine Go.via (fun _ k => XS.iconst X0.here hx rfl (hb hby own_d1_45) k) ?_
            show Go p e below _ T0 (mkF m 46 #[.val (.int p1)] [(.int (5 : Int32)), (.int p1)])
            by_cases hc46 : p1 = (5 : Int32)
            · skip
              refine Go.via (fun _ k => XS.icmpNo X0.here hx rfl (hb hby own_d1_46) rfl (teq hc46).2 k) ?_
              show Go p e below _ T0 (mkF m 49 #[.val (.int p1)] [])
              obtain ⟨T6, X6, e6, st6⟩ := getS X0 hx hZ hown (host := "") (hw _ (List.mem_of_getElem? (i := 25) rfl)) Via.refl e0 S_PEER_REFUSED (g := (mkF m 49 #[.val (.int p1)] [])) rfl (hb hby own_d1_49)
              refine Go.via (fun _ k => st6 _ k) ?_
              show Go p e below _ T6 (mkF m 52 #[.val (.int p1)] [(.ref a_PEER_REFUSED)])
              refine Go.retA X6 hx hk hret rfl (Or.inr (Or.inr (Or.inr (Or.inr ⟨rfl, rfl, rfl⟩)))) (hb hby own_d1_52) (by decide) (by decide) ?_
              exact ⟨a_PEER_REFUSED, rfl, E_PEER_REFUSED, ⟨fun q => absurd q ne_PEER_REFUSED, fun q => absurd q hc1⟩, N0, e6⟩
            · skip
              refine Go.via (fun _ k => XS.icmpYes X0.here hx rfl (pc0 := 46) (pc' := 53) rfl (hb hby own_d1_46) rfl (feq hc46).2 (by decide) (by decide) k) ?_
              show Go p e below _ T0 (mkF m 53 #[.val (.int p1)] [])
              refine Go.via (fun _ k => XS.iloadN X0.here hx rfl (hb hby own_d1_53) rfl  k) ?_
              show Go p e below _ T0 (mkF m 54 #[.val (.int p1)] [(.int p1)])
              refine Go.via (fun _ k => XS.bipush X0.here hx rfl (hb hby own_d1_54) k) ?_
              show Go p e below _ T0 (mkF m 56 #[.val (.int p1)] [(.int (6 : Int32)), (.int p1)])
              by_cases hc56 : p1 = (6 : Int32)
              · skip
                refine Go.via (fun _ k => XS.icmpNo X0.here hx rfl (hb hby own_d1_56) rfl (teq hc56).2 k) ?_
                show Go p e below _ T0 (mkF m 59 #[.val (.int p1)] [])
                obtain ⟨T7, X7, e7, st7⟩ := getS X0 hx hZ hown (host := "") (hw _ (List.mem_of_getElem? (i := 15) rfl)) Via.refl e0 S_CHALLENGE_NOT_ANSWERED (g := (mkF m 59 #[.val (.int p1)] [])) rfl (hb hby own_d1_59)
                refine Go.via (fun _ k => st7 _ k) ?_
                show Go p e below _ T7 (mkF m 62 #[.val (.int p1)] [(.ref a_CHALLENGE_NOT_ANSWERED)])
                refine Go.retA X7 hx hk hret rfl (Or.inr (Or.inr (Or.inr (Or.inr ⟨rfl, rfl, rfl⟩)))) (hb hby own_d1_62) (by decide) (by decide) ?_
                exact ⟨a_CHALLENGE_NOT_ANSWERED, rfl, E_CHALLENGE_NOT_ANSWERED, ⟨fun q => absurd q ne_CHALLENGE_NOT_ANSWERED, fun q => absurd q hc1⟩, N0, e7⟩
              · skip
                refine Go.via (fun _ k => XS.icmpYes X0.here hx rfl (pc0 := 56) (pc' := 63) rfl (hb hby own_d1_56) rfl (feq hc56).2 (by decide) (by decide) k) ?_
                show Go p e below _ T0 (mkF m 63 #[.val (.int p1)] [])
                obtain ⟨T8, X8, e8, st8⟩ := getS X0 hx hZ hown (host := "") (hw _ (List.mem_of_getElem? (i := 17) rfl)) Via.refl e0 S_NO_REPLY (g := (mkF m 63 #[.val (.int p1)] [])) rfl (hb hby own_d1_63)
                refine Go.via (fun _ k => st8 _ k) ?_
                show Go p e below _ T8 (mkF m 66 #[.val (.int p1)] [(.ref a_NO_REPLY)])
                refine Go.retA X8 hx hk hret rfl (Or.inr (Or.inr (Or.inr (Or.inr ⟨rfl, rfl, rfl⟩)))) (hb hby own_d1_66) (by decide) (by decide) ?_
                exact ⟨a_NO_REPLY, rfl, E_NO_REPLY, ⟨fun q => absurd q ne_NO_REPLY, fun q => absurd q hc1⟩, N0, e8⟩
theorem ef_own_m0 (m : MethodId) (p1 : Int32) : entryFrame m #[(.int p1)] maxLocals = mkF m 0 #[.val (.int p1), .unset, .unset, .unset] [] := by first | (simp [entryFrame, mkF, argsToLocals, Value.category, maxLocals]; done) | rfl
set_option maxRecDepth 65536 in
set_option maxHeartbeats 40000000 in
theorem own_m0 (l : Launch) (Z : State) (a0 : Array Value) (hw : ∀ d ∈ tables_1, d.before a0 Z = true) (ws : List Jvm.Cond) (p1 : Int32) (a_SUCCEEDED a_MPPE_KEYS_DIFFER a_MPPE_KEYS_MISSING a_ACCEPT_NOT_TAKEN a_REJECTED a_PEER_REFUSED a_CHALLENGE_NOT_ANSWERED a_NO_REPLY : Addr) (h0 : Heap) (n0 : Nat) (Z0 : n0 ≤ h0.size) (S_SUCCEEDED : Sta Z h0 "com/example/quintet/quintet/radius/PeerOutcome" "SUCCEEDED" "Lcom/example/quintet/quintet/radius/PeerOutcome;" (.ref a_SUCCEEDED)) (E_SUCCEEDED : Exa Z h0 a_SUCCEEDED "com/example/quintet/quintet/radius/PeerOutcome") (S_MPPE_KEYS_DIFFER : Sta Z h0 "com/example/quintet/quintet/radius/PeerOutcome" "MPPE_KEYS_DIFFER" "Lcom/example/quintet/quintet/radius/PeerOutcome;" (.ref a_MPPE_KEYS_DIFFER)) (E_MPPE_KEYS_DIFFER : Exa Z h0 a_MPPE_KEYS_DIFFER "com/example/quintet/quintet/radius/PeerOutcome") (S_MPPE_KEYS_MISSING : Sta Z h0 "com/example/quintet/quintet/radius/PeerOutcome" "MPPE_KEYS_MISSING" "Lcom/example/quintet/quintet/radius/PeerOutcome;" (.ref a_MPPE_KEYS_MISSING)) (E_MPPE_KEYS_MISSING : Exa Z h0 a_MPPE_KEYS_MISSING "com/example/quintet/quintet/radius/PeerOutcome") (S_ACCEPT_NOT_TAKEN : Sta Z h0 "com/example/quintet/quintet/radius/PeerOutcome" "ACCEPT_NOT_TAKEN" "Lcom/example/quintet/quintet/radius/PeerOutcome;" (.ref a_ACCEPT_NOT_TAKEN)) (E_ACCEPT_NOT_TAKEN : Exa Z h0 a_ACCEPT_NOT_TAKEN "com/example/quintet/quintet/radius/PeerOutcome") (S_REJECTED : Sta Z h0 "com/example/quintet/quintet/radius/PeerOutcome" "REJECTED" "Lcom/example/quintet/quintet/radius/PeerOutcome;" (.ref a_REJECTED)) (E_REJECTED : Exa Z h0 a_REJECTED "com/example/quintet/quintet/radius/PeerOutcome") (S_PEER_REFUSED : Sta Z h0 "com/example/quintet/quintet/radius/PeerOutcome" "PEER_REFUSED" "Lcom/example/quintet/quintet/radius/PeerOutcome;" (.ref a_PEER_REFUSED)) (E_PEER_REFUSED : Exa Z h0 a_PEER_REFUSED "com/example/quintet/quintet/radius/PeerOutcome") (S_CHALLENGE_NOT_ANSWERED : Sta Z h0 "com/example/quintet/quintet/radius/PeerOutcome" "CHALLENGE_NOT_ANSWERED" "Lcom/example/quintet/quintet/radius/PeerOutcome;" (.ref a_CHALLENGE_NOT_ANSWERED)) (E_CHALLENGE_NOT_ANSWERED : Exa Z h0 a_CHALLENGE_NOT_ANSWERED "com/example/quintet/quintet/radius/PeerOutcome") (S_NO_REPLY : Sta Z h0 "com/example/quintet/quintet/radius/PeerOutcome" "NO_REPLY" "Lcom/example/quintet/quintet/radius/PeerOutcome;" (.ref a_NO_REPLY)) (E_NO_REPLY : Exa Z h0 a_NO_REPLY "com/example/quintet/quintet/radius/PeerOutcome") (ne_MPPE_KEYS_DIFFER : a_MPPE_KEYS_DIFFER ≠ a_SUCCEEDED) (ne_MPPE_KEYS_MISSING : a_MPPE_KEYS_MISSING ≠ a_SUCCEEDED) (ne_ACCEPT_NOT_TAKEN : a_ACCEPT_NOT_TAKEN ≠ a_SUCCEEDED) (ne_REJECTED : a_REJECTED ≠ a_SUCCEEDED) (ne_PEER_REFUSED : a_PEER_REFUSED ≠ a_SUCCEEDED) (ne_CHALLENGE_NOT_ANSWERED : a_CHALLENGE_NOT_ANSWERED ≠ a_SUCCEEDED) (ne_NO_REPLY : a_NO_REPLY ≠ a_SUCCEEDED) :
    Met l Z x code maxLocals ret ws room_1 #[(.int p1)] h0 (fun v h L => v = some (.int 1) ∧ Fr n0 L) := by
  refine Met.of (plainFor_of_name own_pn1) ?_
  intro p e s m below meth c T0 hx hby hml hk hret hnm hown hZ X0 e0
  have N0 := Fr.nil n0
  refine Go.cast (ef_own_m0 m p1) ?_
  show Go p e below _ T0 (mkF m 0 #[.val (.int p1), .unset, .unset, .unset] [])
  refine Go.via (fun _ k => XS.iloadN X0.here hx rfl (hb hby at_0) rfl  k) ?_
  show Go p e below _ T0 (mkF m 1 #[.val (.int p1), .unset, .unset, .unset] [(.int p1)])
  refine Go.via (fun _ k => XS.bipush X0.here hx rfl (hb hby at_1) k) ?_
  show Go p e below _ T0 (mkF m 3 #[.val (.int p1), .unset, .unset, .unset] [(.int (7 : Int32)), (.int p1)])
  refine Go.via (fun _ k => XS.iand X0.here hx rfl (hb hby at_3) rfl k) ?_
  show Go p e below _ T0 (mkF m 4 #[.val (.int p1), .unset, .unset, .unset] [(.int (p1 &&& (7 : Int32)))])
  refine Go.via (fun _ k => XS.istoreN X0.here hx rfl (hb hby at_4) rfl (l' := #[.val (.int p1), .val (.int (p1 &&& (7 : Int32))), .unset, .unset]) rfl k) ?_
  show Go p e below _ T0 (mkF m 5 #[.val (.int p1), .val (.int (p1 &&& (7 : Int32))), .unset, .unset] [])
  refine Go.via (fun _ k => XS.iloadN X0.here hx rfl (hb hby at_5) rfl  k) ?_
  show Go p e below _ T0 (mkF m 6 #[.val (.int p1), .val (.int (p1 &&& (7 : Int32))), .unset, .unset] [(.int (p1 &&& (7 : Int32)))])
  obtain ⟨v1, T1, L1, X1, ⟨r1, rfl, Er1, hr1, Nq1, eq1⟩, st1⟩ := Go.callS X0 hx hZ hown e0 (hw _ (List.mem_of_getElem? (i := 0) rfl)) (hw _ (List.mem_of_getElem? (i := 1) rfl)) (hw _ (List.mem_of_getElem? (i := 2) rfl)) (hw _ (List.mem_of_getElem? (i := 3) rfl)) (by decide) (own_oc l Z a0 hw [] (p1 &&& (7 : Int32)) a_SUCCEEDED a_MPPE_KEYS_DIFFER a_MPPE_KEYS_MISSING a_ACCEPT_NOT_TAKEN a_REJECTED a_PEER_REFUSED a_CHALLENGE_NOT_ANSWERED a_NO_REPLY h0 n0 Z0 S_SUCCEEDED E_SUCCEEDED S_MPPE_KEYS_DIFFER E_MPPE_KEYS_DIFFER S_MPPE_KEYS_MISSING E_MPPE_KEYS_MISSING S_ACCEPT_NOT_TAKEN E_ACCEPT_NOT_TAKEN S_REJECTED E_REJECTED S_PEER_REFUSED E_PEER_REFUSED S_CHALLENGE_NOT_ANSWERED E_CHALLENGE_NOT_ANSWERED S_NO_REPLY E_NO_REPLY ne_MPPE_KEYS_DIFFER ne_MPPE_KEYS_MISSING ne_ACCEPT_NOT_TAKEN ne_REJECTED ne_PEER_REFUSED ne_CHALLENGE_NOT_ANSWERED ne_NO_REPLY) (pc := 6) (Ls := #[.val (.int p1), .val (.int (p1 &&& (7 : Int32))), .unset, .unset]) (argsL := [(.int (p1 &&& (7 : Int32)))]) (rest := []) own_pd0 rfl rfl (by rw [hml]; rfl) (hb hby at_6) (W := 0) (Nat.le_of_eq rfl) (by decide) (by decide) (by decide) (by decide)
  refine st1 ?_
  have N1 := Fr.app N0 Nq1
  show Go p e below _ T1 (mkF m 9 #[.val (.int p1), .val (.int (p1 &&& (7 : Int32))), .unset, .unset] [(.ref r1)])
  refine Go.via (fun _ k => XS.astoreN X1.here hx rfl (hb hby at_9) rfl (by rfl) (l' := #[.val (.int p1), .val (.int (p1 &&& (7 : Int32))), .val (.ref r1), .unset]) rfl k) ?_
  show Go p e below _ T1 (mkF m 10 #[.val (.int p1), .val (.int (p1 &&& (7 : Int32))), .val (.ref r1), .unset] [])
  refine Go.via (fun _ k => XS.iloadN X1.here hx rfl (hb hby at_10) rfl  k) ?_
  show Go p e below _ T1 (mkF m 11 #[.val (.int p1), .val (.int (p1 &&& (7 : Int32))), .val (.ref r1), .unset] [(.int (p1 &&& (7 : Int32)))])
  by_cases hc11 : (p1 &&& (7 : Int32)) = (0 : Int32)
  · skip
    refine Go.via (fun _ k => XS.ifNo X1.here hx rfl (hb hby at_11) rfl ((if0 _ _).trans (teq hc11).2) k) ?_
    show Go p e below _ T1 (mkF m 14 #[.val (.int p1), .val (.int (p1 &&& (7 : Int32))), .val (.ref r1), .unset] [])
    refine Go.via (fun _ k => XS.iconst X1.here hx rfl (hb hby at_14) k) ?_
    show Go p e below _ T1 (mkF m 15 #[.val (.int p1), .val (.int (p1 &&& (7 : Int32))), .val (.ref r1), .unset] [(.int (1 : Int32))])
    refine Go.via (fun _ k => XS.goto X1.here hx rfl (pc0 := 15) (pc' := 19) rfl (hb hby at_15) (by decide) (by decide) k) ?_
    show Go p e below _ T1 (mkF m 19 #[.val (.int p1), .val (.int (p1 &&& (7 : Int32))), .val (.ref r1), .unset] [(.int (1 : Int32))])
    refine Go.via (fun _ k => XS.istoreN X1.here hx rfl (hb hby at_19) rfl (l' := #[.val (.int p1), .val (.int (p1 &&& (7 : Int32))), .val (.ref r1), .val (.int (1 : Int32))]) rfl k) ?_
    show Go p e below _ T1 (mkF m 20 #[.val (.int p1), .val (.int (p1 &&& (7 : Int32))), .val (.ref r1), .val (.int (1 : Int32))] [])
    refine Go.via (fun _ k => XS.aloadN X1.here hx rfl (hb hby at_20) rfl (by rfl) k) ?_
    show Go p e below _ T1 (mkF m 21 #[.val (.int p1), .val (.int (p1 &&& (7 : Int32))), .val (.ref r1), .val (.int (1 : Int32))] [(.ref r1)])
    obtain ⟨v2, T2, L2, X2, ⟨rfl, Nq2, eq2⟩, st2⟩ := Go.callV X1 hx hZ hown eq1 (hw _ (List.mem_of_getElem? (i := 7) rfl)) (hw _ (List.mem_of_getElem? (i := 8) rfl)) (hw _ (List.mem_of_getElem? (i := 10) rfl)) (hw _ (List.mem_of_getElem? (i := 9) rfl)) (hw _ (List.mem_of_getElem? (i := 5) rfl)) (hw _ (List.mem_of_getElem? (i := 11) rfl)) (by decide) Er1 (own_su l Z a0 hw [] r1 a_SUCCEEDED h0 n0 Z0 S_SUCCEEDED) (pc := 21) (Ls := #[.val (.int p1), .val (.int (p1 &&& (7 : Int32))), .val (.ref r1), .val (.int (1 : Int32))]) (argsL := []) (rest := []) own_pd1 rfl rfl (by rw [hml]; rfl) (hb hby at_21) (W := 0) (Nat.le_of_eq rfl) (by decide) (by decide) (by decide) (by decide)
    refine st2 ?_
    have N2 := Fr.app N1 Nq2
    show Go p e below _ T2 (mkF m 24 #[.val (.int p1), .val (.int (p1 &&& (7 : Int32))), .val (.ref r1), .val (.int (1 : Int32))] [(.int (i01 ((.ref r1 : Value) = .ref a_SUCCEEDED)))])
    refine Go.via (fun _ k => XS.iloadN X2.here hx rfl (hb hby at_24) rfl  k) ?_
    show Go p e below _ T2 (mkF m 25 #[.val (.int p1), .val (.int (p1 &&& (7 : Int32))), .val (.ref r1), .val (.int (1 : Int32))] [(.int (1 : Int32)), (.int (i01 ((.ref r1 : Value) = .ref a_SUCCEEDED)))])
    have hc25 : (i01 ((.ref r1 : Value) = .ref a_SUCCEEDED)) = (1 : Int32) := i01_t (congrArg Value.ref (hr1.mpr hc11))
    refine Go.via (fun _ k => XS.icmpNo X2.here hx rfl (hb hby at_25) rfl (teq hc25).2 k) ?_
    show Go p e below _ T2 (mkF m 28 #[.val (.int p1), .val (.int (p1 &&& (7 : Int32))), .val (.ref r1), .val (.int (1 : Int32))] [])
    refine Go.via (fun _ k => XS.iconst X2.here hx rfl (hb hby at_28) k) ?_
    show Go p e below _ T2 (mkF m 29 #[.val (.int p1), .val (.int (p1 &&& (7 : Int32))), .val (.ref r1), .val (.int (1 : Int32))] [(.int (1 : Int32))])
    refine Go.via (fun _ k => XS.goto X2.here hx rfl (pc0 := 29) (pc' := 33) rfl (hb hby at_29) (by decide) (by decide) k) ?_
    show Go p e below _ T2 (mkF m 33 #[.val (.int p1), .val (.int (p1 &&& (7 : Int32))), .val (.ref r1), .val (.int (1 : Int32))] [(.int (1 : Int32))])
    refine Go.retN X2 hx hk (hret : meth.sig.returnType = some .boolean) (t := .boolean) (by simp) (hb hby at_33) (by decide) (by decide) ?_
    exact ⟨rfl, N2⟩
  · skip
    refine Go.via (fun _ k => XS.ifYes X1.here hx rfl (pc0 := 11) (pc' := 18) rfl (hb hby at_11) rfl ((if0 _ _).trans (feq hc11).2) (by decide) (by decide) k) ?_
    show Go p e below _ T1 (mkF m 18 #[.val (.int p1), .val (.int (p1 &&& (7 : Int32))), .val (.ref r1), .unset] [])
    refine Go.via (fun _ k => XS.iconst X1.here hx rfl (hb hby at_18) k) ?_
    show Go p e below _ T1 (mkF m 19 #[.val (.int p1), .val (.int (p1 &&& (7 : Int32))), .val (.ref r1), .unset] [(.int (0 : Int32))])
    refine Go.via (fun _ k => XS.istoreN X1.here hx rfl (hb hby at_19) rfl (l' := #[.val (.int p1), .val (.int (p1 &&& (7 : Int32))), .val (.ref r1), .val (.int (0 : Int32))]) rfl k) ?_
    show Go p e below _ T1 (mkF m 20 #[.val (.int p1), .val (.int (p1 &&& (7 : Int32))), .val (.ref r1), .val (.int (0 : Int32))] [])
    refine Go.via (fun _ k => XS.aloadN X1.here hx rfl (hb hby at_20) rfl (by rfl) k) ?_
    show Go p e below _ T1 (mkF m 21 #[.val (.int p1), .val (.int (p1 &&& (7 : Int32))), .val (.ref r1), .val (.int (0 : Int32))] [(.ref r1)])
    obtain ⟨v3, T3, L3, X3, ⟨rfl, Nq3, eq3⟩, st3⟩ := Go.callV X1 hx hZ hown eq1 (hw _ (List.mem_of_getElem? (i := 7) rfl)) (hw _ (List.mem_of_getElem? (i := 8) rfl)) (hw _ (List.mem_of_getElem? (i := 10) rfl)) (hw _ (List.mem_of_getElem? (i := 9) rfl)) (hw _ (List.mem_of_getElem? (i := 5) rfl)) (hw _ (List.mem_of_getElem? (i := 11) rfl)) (by decide) Er1 (own_su l Z a0 hw [] r1 a_SUCCEEDED h0 n0 Z0 S_SUCCEEDED) (pc := 21) (Ls := #[.val (.int p1), .val (.int (p1 &&& (7 : Int32))), .val (.ref r1), .val (.int (0 : Int32))]) (argsL := []) (rest := []) own_pd1 rfl rfl (by rw [hml]; rfl) (hb hby at_21) (W := 0) (Nat.le_of_eq rfl) (by decide) (by decide) (by decide) (by decide)
    refine st3 ?_
    have N3 := Fr.app N1 Nq3
    show Go p e below _ T3 (mkF m 24 #[.val (.int p1), .val (.int (p1 &&& (7 : Int32))), .val (.ref r1), .val (.int (0 : Int32))] [(.int (i01 ((.ref r1 : Value) = .ref a_SUCCEEDED)))])
    refine Go.via (fun _ k => XS.iloadN X3.here hx rfl (hb hby at_24) rfl  k) ?_
    show Go p e below _ T3 (mkF m 25 #[.val (.int p1), .val (.int (p1 &&& (7 : Int32))), .val (.ref r1), .val (.int (0 : Int32))] [(.int (0 : Int32)), (.int (i01 ((.ref r1 : Value) = .ref a_SUCCEEDED)))])
    have hc25 : (i01 ((.ref r1 : Value) = .ref a_SUCCEEDED)) = (0 : Int32) := i01_f (fun q => hc11 (hr1.mp (Value.ref.inj q)))
    refine Go.via (fun _ k => XS.icmpNo X3.here hx rfl (hb hby at_25) rfl (teq hc25).2 k) ?_
    show Go p e below _ T3 (mkF m 28 #[.val (.int p1), .val (.int (p1 &&& (7 : Int32))), .val (.ref r1), .val (.int (0 : Int32))] [])
    refine Go.via (fun _ k => XS.iconst X3.here hx rfl (hb hby at_28) k) ?_
    show Go p e below _ T3 (mkF m 29 #[.val (.int p1), .val (.int (p1 &&& (7 : Int32))), .val (.ref r1), .val (.int (0 : Int32))] [(.int (1 : Int32))])
    refine Go.via (fun _ k => XS.goto X3.here hx rfl (pc0 := 29) (pc' := 33) rfl (hb hby at_29) (by decide) (by decide) k) ?_
    show Go p e below _ T3 (mkF m 33 #[.val (.int p1), .val (.int (p1 &&& (7 : Int32))), .val (.ref r1), .val (.int (0 : Int32))] [(.int (1 : Int32))])
    refine Go.retN X3 hx hk (hret : meth.sig.returnType = some .boolean) (t := .boolean) (by simp) (hb hby at_33) (by decide) (by decide) ?_
    exact ⟨rfl, N3⟩
set_option maxRecDepth 65536 in
set_option maxHeartbeats 40000000 in
theorem comes_1 {Post : Tables → Env → Array Value → State → Outcome → State → Prop} (hpost : ∀ tb e args s v u, (limb_1_1.after args s (.returned v) u = true ∧ limb_1_2.after args s (.returned v) u = true ∧ True) → FrameEnd s (.returned v) u (Jvm.fieldLocs frame_1_writes args s ++ Jvm.arrayLocs frame_1_arrays args s ++ Jvm.staticLocs frame_1_statics s) 0 0 → Post tb e args s (.returned v) u) :
    ArmFor flags0 classFile x code maxLocals ret World_1 tables_1 room_1 Calls_1 rest_1 Pre_1 Post := by
  intro l hfl _ _ p e ha hc hk s m args below hf hA hF happ hP
  obtain ⟨hcalls, hrest, hpre⟩ := hP
  obtain ⟨-, -, -, hnamed, -, -, -, hat⟩ := (Spec.applies_iff hf).mp happ
  obtain ⟨hg, hn⟩ := and_e (Cond.before_iff.mp (show (Jvm.Cond.and given_1 narrow_1).before args s = true from hpre))
  obtain ⟨hcnt, hg0⟩ := and_e hg
  obtain ⟨w0, rfl⟩ : ∃ w0 : Value, args = #[w0] := by
    have hs : args.size = 1 := by simpa [Cond.value, given_1] using hcnt
    obtain ⟨L⟩ := args
    match L, hs with
    | [w0], _ => exact ⟨w0, rfl⟩
  have hw := fun d (hd : d ∈ tables_1) => atoms_spec (ws := Jvm.Cond.code x code maxLocals ret :: tables_1) hat d (List.mem_cons_of_mem _ hd)
  have hfit : Fit s := fun {y c} hc i hi => by
    obtain ⟨ha, rfl⟩ := Array.getElem?_eq_some_iff.mp hc
    have q := List.all_eq_true.mp ((Array.all_eq_true_iff_forall_mem.mp hF) _ (Array.getElem_mem ha)) i (List.mem_range.mpr hi)
    simpa [Array.getElem?_eq_getElem hi] using q
  have hi0 := hg0
  obtain ⟨i0, hv0⟩ := is_v hi0
  obtain rfl : w0 = (.int i0) := Option.some.inj hv0
  obtain ⟨hn0, hr0⟩ := and_e hn
  obtain ⟨hn1, hr1⟩ := and_e hr0
  obtain ⟨hn2, hr2⟩ := and_e hr1
  obtain ⟨hn3, hr3⟩ := and_e hr2
  obtain ⟨hn4, hr4⟩ := and_e hr3
  obtain ⟨hn5, hr5⟩ := and_e hr4
  obtain ⟨hn6, hr6⟩ := and_e hr5
  obtain ⟨hn7, hr7⟩ := and_e hr6
  obtain ⟨hn8, hr8⟩ := and_e hr7
  obtain ⟨hn9, hr9⟩ := and_e hr8
  obtain ⟨hn10, hr10⟩ := and_e hr9
  obtain ⟨hn11, hr11⟩ := and_e hr10
  obtain ⟨hn12, hr12⟩ := and_e hr11
  obtain ⟨hn13, hr13⟩ := and_e hr12
  obtain ⟨hn14, hr14⟩ := and_e hr13
  have hn15 := hr14
  obtain ⟨a_SUCCEEDED, ev_SUCCEEDED⟩ := exa_v hn0
  have E_SUCCEEDED := Exa.start ev_SUCCEEDED hn0
  have S_SUCCEEDED : Sta s s.heap "com/example/quintet/quintet/radius/PeerOutcome" "SUCCEEDED" "Lcom/example/quintet/quintet/radius/PeerOutcome;" (.ref a_SUCCEEDED) := Sta.start ev_SUCCEEDED (Or.inr ⟨(hw _ (List.mem_of_getElem? (i := 5) rfl)), (hw _ (List.mem_of_getElem? (i := 6) rfl))⟩)
  obtain ⟨a_ACCEPT_NOT_TAKEN, ev_ACCEPT_NOT_TAKEN⟩ := exa_v hn1
  have E_ACCEPT_NOT_TAKEN := Exa.start ev_ACCEPT_NOT_TAKEN hn1
  have S_ACCEPT_NOT_TAKEN : Sta s s.heap "com/example/quintet/quintet/radius/PeerOutcome" "ACCEPT_NOT_TAKEN" "Lcom/example/quintet/quintet/radius/PeerOutcome;" (.ref a_ACCEPT_NOT_TAKEN) := Sta.start ev_ACCEPT_NOT_TAKEN (Or.inr ⟨(hw _ (List.mem_of_getElem? (i := 5) rfl)), (hw _ (List.mem_of_getElem? (i := 14) rfl))⟩)
  obtain ⟨a_CHALLENGE_NOT_ANSWERED, ev_CHALLENGE_NOT_ANSWERED⟩ := exa_v hn4
  have E_CHALLENGE_NOT_ANSWERED := Exa.start ev_CHALLENGE_NOT_ANSWERED hn4
  have S_CHALLENGE_NOT_ANSWERED : Sta s s.heap "com/example/quintet/quintet/radius/PeerOutcome" "CHALLENGE_NOT_ANSWERED" "Lcom/example/quintet/quintet/radius/PeerOutcome;" (.ref a_CHALLENGE_NOT_ANSWERED) := Sta.start ev_CHALLENGE_NOT_ANSWERED (Or.inr ⟨(hw _ (List.mem_of_getElem? (i := 5) rfl)), (hw _ (List.mem_of_getElem? (i := 16) rfl))⟩)
  obtain ⟨a_NO_REPLY, ev_NO_REPLY⟩ := exa_v hn6
  have E_NO_REPLY := Exa.start ev_NO_REPLY hn6
  have S_NO_REPLY : Sta s s.heap "com/example/quintet/quintet/radius/PeerOutcome" "NO_REPLY" "Lcom/example/quintet/quintet/radius/PeerOutcome;" (.ref a_NO_REPLY) := Sta.start ev_NO_REPLY (Or.inr ⟨(hw _ (List.mem_of_getElem? (i := 5) rfl)), (hw _ (List.mem_of_getElem? (i := 18) rfl))⟩)
  obtain ⟨a_MPPE_KEYS_MISSING, ev_MPPE_KEYS_MISSING⟩ := exa_v hn8
  have E_MPPE_KEYS_MISSING := Exa.start ev_MPPE_KEYS_MISSING hn8
  have S_MPPE_KEYS_MISSING : Sta s s.heap "com/example/quintet/quintet/radius/PeerOutcome" "MPPE_KEYS_MISSING" "Lcom/example/quintet/quintet/radius/PeerOutcome;" (.ref a_MPPE_KEYS_MISSING) := Sta.start ev_MPPE_KEYS_MISSING (Or.inr ⟨(hw _ (List.mem_of_getElem? (i := 5) rfl)), (hw _ (List.mem_of_getElem? (i := 20) rfl))⟩)
  obtain ⟨a_MPPE_KEYS_DIFFER, ev_MPPE_KEYS_DIFFER⟩ := exa_v hn10
  have E_MPPE_KEYS_DIFFER := Exa.start ev_MPPE_KEYS_DIFFER hn10
  have S_MPPE_KEYS_DIFFER : Sta s s.heap "com/example/quintet/quintet/radius/PeerOutcome" "MPPE_KEYS_DIFFER" "Lcom/example/quintet/quintet/radius/PeerOutcome;" (.ref a_MPPE_KEYS_DIFFER) := Sta.start ev_MPPE_KEYS_DIFFER (Or.inr ⟨(hw _ (List.mem_of_getElem? (i := 5) rfl)), (hw _ (List.mem_of_getElem? (i := 22) rfl))⟩)
  obtain ⟨a_REJECTED, ev_REJECTED⟩ := exa_v hn12
  have E_REJECTED := Exa.start ev_REJECTED hn12
  have S_REJECTED : Sta s s.heap "com/example/quintet/quintet/radius/PeerOutcome" "REJECTED" "Lcom/example/quintet/quintet/radius/PeerOutcome;" (.ref a_REJECTED) := Sta.start ev_REJECTED (Or.inr ⟨(hw _ (List.mem_of_getElem? (i := 5) rfl)), (hw _ (List.mem_of_getElem? (i := 24) rfl))⟩)
  obtain ⟨a_PEER_REFUSED, ev_PEER_REFUSED⟩ := exa_v hn14
  have E_PEER_REFUSED := Exa.start ev_PEER_REFUSED hn14
  have S_PEER_REFUSED : Sta s s.heap "com/example/quintet/quintet/radius/PeerOutcome" "PEER_REFUSED" "Lcom/example/quintet/quintet/radius/PeerOutcome;" (.ref a_PEER_REFUSED) := Sta.start ev_PEER_REFUSED (Or.inr ⟨(hw _ (List.mem_of_getElem? (i := 5) rfl)), (hw _ (List.mem_of_getElem? (i := 26) rfl))⟩)
  have O2_ACCEPT_NOT_TAKEN := own_fldv hn2 ev_ACCEPT_NOT_TAKEN
  have O3_SUCCEEDED := own_fldv hn3 ev_SUCCEEDED
  have O5_CHALLENGE_NOT_ANSWERED := own_fldv hn5 ev_CHALLENGE_NOT_ANSWERED
  have O7_NO_REPLY := own_fldv hn7 ev_NO_REPLY
  have O9_MPPE_KEYS_MISSING := own_fldv hn9 ev_MPPE_KEYS_MISSING
  have O11_MPPE_KEYS_DIFFER := own_fldv hn11 ev_MPPE_KEYS_DIFFER
  have O13_REJECTED := own_fldv hn13 ev_REJECTED
  have O15_PEER_REFUSED := own_fldv hn15 ev_PEER_REFUSED
  have ne_MPPE_KEYS_DIFFER : a_MPPE_KEYS_DIFFER ≠ a_SUCCEEDED := Fld.ne O11_MPPE_KEYS_DIFFER O3_SUCCEEDED (by decide)
  have ne_MPPE_KEYS_MISSING : a_MPPE_KEYS_MISSING ≠ a_SUCCEEDED := Fld.ne O9_MPPE_KEYS_MISSING O3_SUCCEEDED (by decide)
  have ne_ACCEPT_NOT_TAKEN : a_ACCEPT_NOT_TAKEN ≠ a_SUCCEEDED := Fld.ne O2_ACCEPT_NOT_TAKEN O3_SUCCEEDED (by decide)
  have ne_REJECTED : a_REJECTED ≠ a_SUCCEEDED := Fld.ne O13_REJECTED O3_SUCCEEDED (by decide)
  have ne_PEER_REFUSED : a_PEER_REFUSED ≠ a_SUCCEEDED := Fld.ne O15_PEER_REFUSED O3_SUCCEEDED (by decide)
  have ne_CHALLENGE_NOT_ANSWERED : a_CHALLENGE_NOT_ANSWERED ≠ a_SUCCEEDED := Fld.ne O5_CHALLENGE_NOT_ANSWERED O3_SUCCEEDED (by decide)
  have ne_NO_REPLY : a_NO_REPLY ≠ a_SUCCEEDED := Fld.ne O7_NO_REPLY O3_SUCCEEDED (by decide)
  obtain ⟨n, o, h1, h2, h3, _, L, rfl, ⟨rfl, N⟩, hq⟩ := own_m0 l s _ hw tables_1 i0 a_SUCCEEDED a_MPPE_KEYS_DIFFER a_MPPE_KEYS_MISSING a_ACCEPT_NOT_TAKEN a_REJECTED a_PEER_REFUSED a_CHALLENGE_NOT_ANSWERED a_NO_REPLY s.heap s.heap.size (Nat.le_refl _) S_SUCCEEDED E_SUCCEEDED S_MPPE_KEYS_DIFFER E_MPPE_KEYS_DIFFER S_MPPE_KEYS_MISSING E_MPPE_KEYS_MISSING S_ACCEPT_NOT_TAKEN E_ACCEPT_NOT_TAKEN S_REJECTED E_REJECTED S_PEER_REFUSED E_PEER_REFUSED S_CHALLENGE_NOT_ANSWERED E_CHALLENGE_NOT_ANSWERED S_NO_REPLY E_NO_REPLY ne_MPPE_KEYS_DIFFER ne_MPPE_KEYS_MISSING ne_ACCEPT_NOT_TAKEN ne_REJECTED ne_PEER_REFUSED ne_CHALLENGE_NOT_ANSWERED ne_NO_REPLY p e ha hc hk s m _ below hf ((Spec.applies_iff_loose hf).mp happ).1 ⟨rfl, State.Warmed39.refl s, rfl⟩ trivial
  refine ⟨n, _, h1, h2, h3, hpost _ _ _ _ _ _ ⟨Cond.after_iff.mpr rfl, Cond.after_iff.mpr (eq_i res_at (Term.int_eval (1)) rfl), trivial⟩ ⟨hq.1, hq.2.1, (hq.2.2.sift fun y hy => Or.inr (N y hy)).mono (by decide) (by decide)⟩⟩
theorem main_1_1 : Claimed_1_1 := comes_1 fun _ _ _ _ _ _ h hF => ⟨h.1, hF⟩
theorem main_1_2 : Claimed_1_2 := comes_1 fun _ _ _ _ _ _ h hF => ⟨h.2.1, hF⟩
end Jvm.Pilot.@@N@@
namespace Jvm.Pilot.@@N@@
open Jvm Jvm.ClassFile Sem Op Lib Jvm.Free Jvm.Stand Jvm.Pilot.@@N@@.Jvm.D
/-! MADE BY PROGRAM (witnessworld.py) out of the Statement's table words and the real class files: 12 classes; the members and pool entries that the words name. The judged class is class 1, her method 1. -/
namespace start1
open Jvm.ClassFile
def u (s : String) : CpInfo := .utf8 (stringToUtf16 s)
/-- a pool by its gaps: so many unusable entries, then the entry; so many at the end -/
def gap : Nat → List CpInfo → List CpInfo
  | 0, r => r
  | n + 1, r => .unusable :: gap n r
def poolList (es : List (Nat × CpInfo)) (last : Nat) : List CpInfo := es.foldr (fun e r => gap e.1 (e.2 :: r)) (gap last [])
def pool (es : List (Nat × CpInfo)) (last : Nat) : Array CpInfo := ⟨poolList es last⟩
def fileOf (pool : Array CpInfo) (this : Nat) (attrs : Array Attribute := #[]) (ms : Array MethodInfo := #[]) (fl : Nat := 33) (sup : Nat := 0) (ifs : Array Nat := #[]) (fds : Array FieldInfo := #[]) : ClassFile where
  minorVersion := 0
  majorVersion := 65
  constantPool := pool
  accessFlags := fl
  thisClass := this
  superClass := sup
  interfaces := ifs
  fields := fds
  methods := ms
  attributes := attrs
def plain (name : String) (sup : Option ClassId) : Class where
  name := name
  kind := .ordinary
  loader := none
  accessFlags := 33
  super := sup
  interfaces := #[]
  cf := none
  fields := #[]
  methods := #[]
  instanceTypes := #[]
  staticTypes := #[]
  resolved := #[]
  callSites := []
  init := .initialized
  statics := none
  mirror := none

def pool0 : Array CpInfo := pool [(5, u "<init>"), (0, u "()V"), (1, .class_ 10), (1, u "java/lang/Object")] 113

def k0m0 : Method := { name := "<init>", desc := "()V", sig := { parameters := [], returnType := none }, accessFlags := 1, code := none }
/-- java/lang/Object -/
def k0 : Class := { plain "java/lang/Object" none with
  accessFlags := 33
  interfaces := #[]
  cf := some (fileOf pool0 8 #[] #[{ accessFlags := 1, nameIndex := 5, descriptorIndex := 6, attributes := #[] }] 33 0 #[] #[])
  fields := #[]
  methods := #[k0m0]
  instanceTypes := #[]
  staticTypes := #[]
  resolved := Array.replicate 124 none
  statics := none }

def pool1 : Array CpInfo := pool [(2, .class_ 4), (1, u "java/lang/Object"), (0, u "<init>"), (0, u "()V"), (0, .methodref 8 9), (0, .class_ 10), (0, .nameAndType 11 12), (0, u "com/example/quintet/quintet/radius/PeerOutcomeSucceededPinLaw"), (0, u "outcomeOf"), (0, u "(I)Lcom/example/quintet/quintet/radius/PeerOutcome;"), (0, .methodref 14 15), (0, .class_ 16), (0, .nameAndType 17 18), (0, u "com/example/quintet/quintet/radius/PeerOutcome"), (0, u "succeeded"), (0, u "()Z"), (0, .fieldref 14 20), (0, .nameAndType 21 22), (0, u "SUCCEEDED"), (0, u "Lcom/example/quintet/quintet/radius/PeerOutcome;"), (0, .fieldref 14 24), (0, .nameAndType 25 22), (0, u "MPPE_KEYS_DIFFER"), (0, .fieldref 14 27), (0, .nameAndType 28 22), (0, u "MPPE_KEYS_MISSING"), (0, .fieldref 14 30), (0, .nameAndType 31 22), (0, u "ACCEPT_NOT_TAKEN"), (0, .fieldref 14 33), (0, .nameAndType 34 22), (0, u "REJECTED"), (0, .fieldref 14 36), (0, .nameAndType 37 22), (0, u "PEER_REFUSED"), (0, .fieldref 14 39), (0, .nameAndType 40 22), (0, u "CHALLENGE_NOT_ANSWERED"), (0, .fieldref 14 42), (0, .nameAndType 43 22), (0, u "NO_REPLY"), (2, u "law"), (0, u "(I)Z")] 3

def k1m0 : Method := { name := "<init>", desc := "()V", sig := { parameters := [], returnType := none }, accessFlags := 1, code := none }
def k1c1 : Code := { maxStack := 2, maxLocals := 4, code := code, exceptionTable := #[], attributes := #[] }
def k1m1 : Method := { name := "law", desc := "(I)Z", sig := { parameters := [.int], returnType := some .boolean }, accessFlags := 9, code := some k1c1 }
def k1c2 : Code := { maxStack := 2, maxLocals := 1, code := method_3_code, exceptionTable := #[], attributes := #[] }
def k1m2 : Method := { name := "outcomeOf", desc := "(I)Lcom/example/quintet/quintet/radius/PeerOutcome;", sig := { parameters := [.int], returnType := some (.object "com/example/quintet/quintet/radius/PeerOutcome") }, accessFlags := 10, code := some k1c2 }
/-- com/example/quintet/quintet/radius/PeerOutcomeSucceededPinLaw -/
def k1 : Class := { plain "com/example/quintet/quintet/radius/PeerOutcomeSucceededPinLaw" (some 0) with
  accessFlags := 49
  interfaces := #[]
  cf := some (fileOf pool1 8 #[] #[{ accessFlags := 1, nameIndex := 5, descriptorIndex := 6, attributes := #[] }, { accessFlags := 9, nameIndex := 46, descriptorIndex := 47, attributes := #[] }, { accessFlags := 10, nameIndex := 11, descriptorIndex := 12, attributes := #[] }] 49 2 #[] #[])
  fields := #[]
  methods := #[k1m0, k1m1, k1m2]
  instanceTypes := #[]
  staticTypes := #[]
  resolved := Array.replicate 51 none
  statics := none }

def pool2 : Array CpInfo := pool [(1, .class_ 2), (0, u "java/lang/constant/Constable"), (0, .class_ 4), (0, u "java/lang/Object")] 6

/-- java/lang/constant/Constable -/
def k2 : Class := { plain "java/lang/constant/Constable" (some 0) with
  accessFlags := 1537
  interfaces := #[]
  cf := some (fileOf pool2 1 #[] #[] 1537 3 #[] #[])
  fields := #[]
  methods := #[]
  instanceTypes := #[]
  staticTypes := #[]
  resolved := Array.replicate 11 none
  statics := none }

def pool3 : Array CpInfo := pool [(1, .class_ 2), (0, u "java/lang/Comparable"), (0, .class_ 4), (0, u "java/lang/Object")] 7

/-- java/lang/Comparable -/
def k3 : Class := { plain "java/lang/Comparable" (some 0) with
  accessFlags := 1537
  interfaces := #[]
  cf := some (fileOf pool3 1 #[] #[] 1537 3 #[] #[])
  fields := #[]
  methods := #[]
  instanceTypes := #[]
  staticTypes := #[]
  resolved := Array.replicate 12 none
  statics := none }

def pool4 : Array CpInfo := pool [(1, .class_ 2), (0, u "java/io/Serializable"), (0, .class_ 4), (0, u "java/lang/Object")] 2

/-- java/io/Serializable -/
def k4 : Class := { plain "java/io/Serializable" (some 0) with
  accessFlags := 1537
  interfaces := #[]
  cf := some (fileOf pool4 1 #[] #[] 1537 3 #[] #[])
  fields := #[]
  methods := #[]
  instanceTypes := #[]
  staticTypes := #[]
  resolved := Array.replicate 7 none
  statics := none }

def pool5 : Array CpInfo := pool [(2, .class_ 4), (1, u "java/lang/Enum"), (0, u "name"), (0, u "Ljava/lang/String;"), (2, u "ordinal"), (0, u "I"), (1, .class_ 14), (1, u "java/lang/Object"), (4, u "hash"), (86, .class_ 108), (1, u "java/lang/Enum$EnumDesc"), (2, .class_ 112), (0, u "java/lang/constant/Constable"), (0, .class_ 114), (0, u "java/lang/Comparable"), (0, .class_ 116), (0, u "java/io/Serializable")] 87

/-- java/lang/Enum -/
def k5 : Class := { plain "java/lang/Enum" (some 0) with
  accessFlags := 1057
  interfaces := #[2, 3, 4]
  cf := some (fileOf pool5 2 #[.nestMembers #[106]] #[] 1057 12 #[111, 113, 115] #[{ accessFlags := 18, nameIndex := 5, descriptorIndex := 6, attributes := #[] }, { accessFlags := 18, nameIndex := 9, descriptorIndex := 10, attributes := #[] }, { accessFlags := 2, nameIndex := 19, descriptorIndex := 10, attributes := #[] }])
  fields := #[{ name := "name", type := (.object "java/lang/String"), accessFlags := 18, slot := 0, constantValue := 0 }, { name := "ordinal", type := .int, accessFlags := 18, slot := 1, constantValue := 0 }, { name := "hash", type := .int, accessFlags := 2, slot := 2, constantValue := 0 }]
  methods := #[]
  instanceTypes := #[(.object "java/lang/String"), .int, .int]
  staticTypes := #[]
  resolved := Array.replicate 204 none
  statics := none }

def pool6 : Array CpInfo := pool [(1, .class_ 2), (0, u "com/example/quintet/quintet/radius/PeerOutcome"), (0, .fieldref 1 4), (0, .nameAndType 5 6), (0, u "SUCCEEDED"), (0, u "Lcom/example/quintet/quintet/radius/PeerOutcome;"), (2, u "MPPE_KEYS_DIFFER"), (2, u "MPPE_KEYS_MISSING"), (2, u "ACCEPT_NOT_TAKEN"), (2, u "REJECTED"), (2, u "PEER_REFUSED"), (2, u "CHALLENGE_NOT_ANSWERED"), (2, u "NO_REPLY"), (2, u "$VALUES"), (0, u "[Lcom/example/quintet/quintet/radius/PeerOutcome;"), (6, .class_ 40), (1, u "java/lang/Enum"), (8, u "description"), (0, u "Ljava/lang/String;"), (40, u "succeeded"), (0, u "()Z")] 8

def k6c0 : Code := { maxStack := 2, maxLocals := 1, code := prog_41_method_4_code, exceptionTable := #[], attributes := #[] }
def k6m0 : Method := { name := "succeeded", desc := "()Z", sig := { parameters := [], returnType := some .boolean }, accessFlags := 1, code := some k6c0 }
/-- com/example/quintet/quintet/radius/PeerOutcome -/
def k6 : Class := { plain "com/example/quintet/quintet/radius/PeerOutcome" (some 5) with
  accessFlags := 16433
  interfaces := #[]
  cf := some (fileOf pool6 1 #[] #[{ accessFlags := 1, nameIndex := 91, descriptorIndex := 92, attributes := #[] }] 16433 38 #[] #[{ accessFlags := 16409, nameIndex := 5, descriptorIndex := 6, attributes := #[] }, { accessFlags := 16409, nameIndex := 9, descriptorIndex := 6, attributes := #[] }, { accessFlags := 16409, nameIndex := 12, descriptorIndex := 6, attributes := #[] }, { accessFlags := 16409, nameIndex := 15, descriptorIndex := 6, attributes := #[] }, { accessFlags := 16409, nameIndex := 18, descriptorIndex := 6, attributes := #[] }, { accessFlags := 16409, nameIndex := 21, descriptorIndex := 6, attributes := #[] }, { accessFlags := 16409, nameIndex := 24, descriptorIndex := 6, attributes := #[] }, { accessFlags := 16409, nameIndex := 27, descriptorIndex := 6, attributes := #[] }, { accessFlags := 18, nameIndex := 49, descriptorIndex := 50, attributes := #[] }, { accessFlags := 4122, nameIndex := 30, descriptorIndex := 31, attributes := #[] }])
  fields := #[{ name := "SUCCEEDED", type := (.object "com/example/quintet/quintet/radius/PeerOutcome"), accessFlags := 16409, slot := 0, constantValue := 0 }, { name := "MPPE_KEYS_DIFFER", type := (.object "com/example/quintet/quintet/radius/PeerOutcome"), accessFlags := 16409, slot := 1, constantValue := 0 }, { name := "MPPE_KEYS_MISSING", type := (.object "com/example/quintet/quintet/radius/PeerOutcome"), accessFlags := 16409, slot := 2, constantValue := 0 }, { name := "ACCEPT_NOT_TAKEN", type := (.object "com/example/quintet/quintet/radius/PeerOutcome"), accessFlags := 16409, slot := 3, constantValue := 0 }, { name := "REJECTED", type := (.object "com/example/quintet/quintet/radius/PeerOutcome"), accessFlags := 16409, slot := 4, constantValue := 0 }, { name := "PEER_REFUSED", type := (.object "com/example/quintet/quintet/radius/PeerOutcome"), accessFlags := 16409, slot := 5, constantValue := 0 }, { name := "CHALLENGE_NOT_ANSWERED", type := (.object "com/example/quintet/quintet/radius/PeerOutcome"), accessFlags := 16409, slot := 6, constantValue := 0 }, { name := "NO_REPLY", type := (.object "com/example/quintet/quintet/radius/PeerOutcome"), accessFlags := 16409, slot := 7, constantValue := 0 }, { name := "description", type := (.object "java/lang/String"), accessFlags := 18, slot := 3, constantValue := 0 }, { name := "$VALUES", type := (.array (.object "com/example/quintet/quintet/radius/PeerOutcome")), accessFlags := 4122, slot := 8, constantValue := 0 }]
  methods := #[k6m0]
  instanceTypes := #[(.object "java/lang/String"), .int, .int, (.object "java/lang/String")]
  staticTypes := #[(.object "com/example/quintet/quintet/radius/PeerOutcome"), (.object "com/example/quintet/quintet/radius/PeerOutcome"), (.object "com/example/quintet/quintet/radius/PeerOutcome"), (.object "com/example/quintet/quintet/radius/PeerOutcome"), (.object "com/example/quintet/quintet/radius/PeerOutcome"), (.object "com/example/quintet/quintet/radius/PeerOutcome"), (.object "com/example/quintet/quintet/radius/PeerOutcome"), (.object "com/example/quintet/quintet/radius/PeerOutcome"), (.array (.object "com/example/quintet/quintet/radius/PeerOutcome"))]
  resolved := Array.replicate 101 none
  statics := some 0 }

def pool7 : Array CpInfo := pool [(1, u "java/lang/Cloneable"), (0, .class_ 1), (0, u "java/lang/Object"), (0, .class_ 3)] 3

/-- java/lang/Cloneable -/
def k7 : Class := { plain "java/lang/Cloneable" (some 0) with
  accessFlags := 1537
  interfaces := #[]
  cf := some (fileOf pool7 2 #[] #[] 1537 4 #[] #[])
  fields := #[]
  methods := #[]
  instanceTypes := #[]
  staticTypes := #[]
  resolved := Array.replicate 8 none
  statics := none }

/-- the primitive byte -/
def k8 : Class := { plain "byte" none with kind := .primitive 'B', accessFlags := 0x411 }
/-- [B -/
def k9 : Class := { plain "[B" (some 0) with kind := .array 8 .byte, interfaces := #[7, 4], accessFlags := 1041 }

/-- the primitive int -/
def k10 : Class := { plain "int" none with kind := .primitive 'I', accessFlags := 0x411 }
/-- [I -/
def k11 : Class := { plain "[I" (some 0) with kind := .array 10 .int, interfaces := #[7, 4], accessFlags := 1041 }

def heap : Heap := #[{ cls := 6, slots := #[.ref 1, .ref 2, .ref 3, .ref 4, .ref 5, .ref 6, .ref 7, .ref 8, .null], vm := .statics 6 },
  { cls := 6, slots := #[.null, .int 0, .int 0, .null], vm := .none },
  { cls := 6, slots := #[.null, .int 1, .int 0, .null], vm := .none },
  { cls := 6, slots := #[.null, .int 2, .int 0, .null], vm := .none },
  { cls := 6, slots := #[.null, .int 3, .int 0, .null], vm := .none },
  { cls := 6, slots := #[.null, .int 4, .int 0, .null], vm := .none },
  { cls := 6, slots := #[.null, .int 5, .int 0, .null], vm := .none },
  { cls := 6, slots := #[.null, .int 6, .int 0, .null], vm := .none },
  { cls := 6, slots := #[.null, .int 7, .int 0, .null], vm := .none }]
def classes : Array Class := #[k0, k1, k2, k3, k4, k5, k6, k7, k8, k9, k10, k11]
def interned : List (Array UInt16 × Addr) := []
def slotsUsed : Nat := 41
def theMethod : MethodId := ⟨1, 1⟩
def args0 : Array Value := #[.int 5]
def aboutOver (below : List Frame) : State where
  vm := { classes := classes, interned := interned.toArray }
  heap := heap
  slotsUsed := slotsUsed
  threads := #[{ frames := .invoking theMethod args0 :: below }]
def below0 : List Frame := [.native { method := ⟨0, 0⟩, args := #[] }]
def about1 : State := aboutOver below0
def p0 : Program := .bare "" "" ""
def e0 : Env := launch0.env 0 0 0
theorem w_frames : about1.frames = Frame.invoking theMethod args0 :: below0 := rfl
set_option maxRecDepth 65536 in
theorem w_args : argsFit about1.vm theMethod args0 = true := by decide +kernel
set_option maxRecDepth 65536 in
theorem w_heap : heapFits about1 = true := by decide +kernel
set_option maxRecDepth 65536 in
theorem w_runnable : about1.curStatus? = some .runnable := by decide +kernel
set_option maxRecDepth 65536 in
theorem w_alone : about1.alone = true := by decide +kernel
set_option maxRecDepth 65536 in
theorem w_named : about1.methodNamed? x = some theMethod := by decide +kernel
set_option maxRecDepth 65536 in
theorem w_hears : about1.hears theMethod below0 = true := by decide +kernel
set_option maxRecDepth 65536 in
theorem w_ripe : about1.ripe theMethod args0 below0 = true := by decide +kernel
theorem w_running : about1.status = .running := rfl
set_option maxRecDepth 65536 in
theorem w_room : about1.hasRoom e0.platform room_1 = true :=
  launch0.hasRoom_least _ room_1 (by decide +kernel) (by decide +kernel) (by decide +kernel) (by decide +kernel) (by decide +kernel) (by decide +kernel)
theorem allAtoms_all (ts : List Jvm.Cond) (a : Array Jvm.Value) (st : Jvm.State) : (allAtoms ts).before a st = ts.all (fun c => c.before a st) := by
  induction ts with
  | nil => rfl
  | cons c t ih =>
    show (Jvm.Cond.and c (allAtoms t)).before a st = _
    rw [Jvm.Cond.before_and, ih, List.all_cons]
def words1 : List Jvm.Cond := Jvm.Cond.code x code maxLocals ret :: tables_1
/-- a 'code' word, met by the world's own term for the bytes: nothing is compared byte by byte -/
theorem code_word {y : MethodName} {bytes : ByteArray} {mx : Nat} {rt : Option FieldType} {a : Array Value} {s : State} {m : MethodId} {meth : Method} {c : Code} (h1 : s.methodNamed? y = some m) (h2 : s.vm.method? m = some meth) (h3 : meth.code = some c) (h4 : c.code = bytes)
    (h5 : (c.maxLocals == mx && c.exceptionTable.isEmpty && decide (c.maxStack ≤ mostOperands) && decide (meth.sig.returnType = rt) && !meth.locks && decide (parseMethodDescriptor y.desc = some meth.sig)) = true) : (Jvm.Cond.code y bytes mx rt).before a s = true := by
  simp only [Bool.and_eq_true, beq_iff_eq, Bool.not_eq_true', decide_eq_true_eq] at h5
  obtain ⟨⟨⟨⟨⟨g1, g2⟩, g3⟩, g4⟩, g5⟩, g6⟩ := h5
  simp [Cond.before, Cond.holds, Cond.value, h1, h2, h3, h4, g1, g2, g3, g4, g5, g6]
def isCode : Jvm.Cond → Bool
  | .code _ _ _ _ => true
  | _ => false
theorem all_split {L : List Jvm.Cond} {P : Jvm.Cond → Bool} (h1 : L.all (fun c => isCode c || P c) = true) (h2 : ∀ c ∈ L.filter isCode, P c = true) : L.all P = true := by
  refine List.all_eq_true.mpr fun c hc => ?_
  have h := List.all_eq_true.mp h1 c hc
  rcases Bool.eq_false_or_eq_true (isCode c) with hi | hi
  · exact h2 c (List.mem_filter.mpr ⟨hc, hi⟩)
  · simpa [hi] using h
set_option maxRecDepth 65536 in
theorem w_c0 : (Jvm.Cond.code x code maxLocals ret).before args0 about1 = true := code_word (m := ⟨1, 1⟩) (meth := k1m1) (c := k1c1) (by decide +kernel) rfl rfl rfl (by decide +kernel)
set_option maxRecDepth 65536 in
theorem w_c1 : (Jvm.Cond.code ({ cls := "com/example/quintet/quintet/radius/PeerOutcomeSucceededPinLaw", name := "outcomeOf", desc := "(I)Lcom/example/quintet/quintet/radius/PeerOutcome;" } : Jvm.MethodName) method_3_code (1 : Nat) (Option.some (Jvm.ClassFile.FieldType.object "com/example/quintet/quintet/radius/PeerOutcome"))).before args0 about1 = true := code_word (m := ⟨1, 2⟩) (meth := k1m2) (c := k1c2) (by decide +kernel) rfl rfl rfl (by decide +kernel)
set_option maxRecDepth 65536 in
theorem w_c2 : (Jvm.Cond.code ({ cls := "com/example/quintet/quintet/radius/PeerOutcome", name := "succeeded", desc := "()Z" } : Jvm.MethodName) prog_41_method_4_code (1 : Nat) (Option.some Jvm.ClassFile.FieldType.boolean)).before args0 about1 = true := code_word (m := ⟨6, 0⟩) (meth := k6m0) (c := k6c0) (by decide +kernel) rfl rfl rfl (by decide +kernel)
def codes1 : List Jvm.Cond := [Jvm.Cond.code x code maxLocals ret, Jvm.Cond.code ({ cls := "com/example/quintet/quintet/radius/PeerOutcomeSucceededPinLaw", name := "outcomeOf", desc := "(I)Lcom/example/quintet/quintet/radius/PeerOutcome;" } : Jvm.MethodName) method_3_code (1 : Nat) (Option.some (Jvm.ClassFile.FieldType.object "com/example/quintet/quintet/radius/PeerOutcome")), Jvm.Cond.code ({ cls := "com/example/quintet/quintet/radius/PeerOutcome", name := "succeeded", desc := "()Z" } : Jvm.MethodName) prog_41_method_4_code (1 : Nat) (Option.some Jvm.ClassFile.FieldType.boolean)]
set_option maxRecDepth 65536 in
theorem codes_eq : words1.filter isCode = codes1 := rfl
theorem w_codes : ∀ c ∈ words1.filter isCode, c.before args0 about1 = true := by
  rw [codes_eq]
  intro c hc
  simp only [codes1, List.mem_cons, List.not_mem_nil, or_false] at hc
  rcases hc with rfl | rfl | rfl
  · exact w_c0
  · exact w_c1
  · exact w_c2
set_option maxRecDepth 65536 in
theorem w_t1 : (words1.take 24).all (fun c => isCode c || c.before args0 about1) = true := by decide +kernel
set_option maxRecDepth 65536 in
theorem w_t2 : (words1.drop 24).all (fun c => isCode c || c.before args0 about1) = true := by decide +kernel
theorem w_tables : (allAtoms (Jvm.Cond.code x code maxLocals ret :: tables_1)).before args0 about1 = true := by
  rw [allAtoms_all]
  show words1.all (fun c => c.before args0 about1) = true
  refine all_split ?_ w_codes
  rw [← List.take_append_drop 24 words1, List.all_append, w_t1, w_t2]
  rfl
set_option maxRecDepth 65536 in
theorem w_case : (Jvm.Cond.and given_1 narrow_1).before args0 about1 = true := by decide +kernel
theorem w_applies : (headSpec (Jvm.Cond.code x code maxLocals ret :: tables_1) room_1).applies x e0.platform about1 = true :=
  (Spec.applies_iff w_frames).mpr ⟨w_running, w_runnable, w_alone, w_named, w_hears, w_ripe, w_room, w_tables⟩
theorem atStart : AtStart classFile x code maxLocals ret World_1 tables_1 room_1 Calls_1 rest_1 Pre_1 launch0 p0 e0 about1 theMethod args0 below0 :=
  ⟨lists_1, trivial, launch0.admits_env _ _ _, launch0.least_env, fairChoices_fair.cas, fairChoices_fair.clock, w_frames, w_args, w_heap, w_applies, trivial, trivial, w_case⟩
end start1
theorem witness_1 : WitnessClaimed_1 := ⟨start1.p0, start1.e0, start1.about1, start1.theMethod, start1.args0, start1.below0, start1.atStart⟩
end Jvm.Pilot.@@N@@
