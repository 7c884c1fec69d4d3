import JvmDerived
import JvmDerived.Pilot.@@N@@Statement
import JvmDerived.Pilot.@@N@@Code
set_option linter.unusedVariables false
set_option linter.unusedSimpArgs false
namespace Jvm.Pilot.@@N@@
open Jvm Jvm.ClassFile Sem Op Lib Jvm.Free Jvm.Stand Jvm.LawKit Jvm.RoadKit Bundle Jvm.Pilot.@@N@@.Jvm.D
/-! own kit: walks in the form 'what is left from this frame on', so that a walk may fork and join -/
section OwnKit
def b01 : Bool → Int32 | true => 1 | false => 0
def i01 (A : Prop) [Decidable A] : Int32 := if A then 1 else 0
theorem i01_t {A : Prop} [Decidable A] (h : A) : i01 A = 1 := if_pos h
theorem i01_f {A : Prop} [Decidable A] (h : ¬ A) : i01 A = 0 := if_neg h
theorem i01_0 {A : Prop} [Decidable A] : i01 A = 0 ↔ ¬ A := by unfold i01; by_cases h : A <;> simp [h]
theorem i01_b {A : Prop} [Decidable A] : i01 A = b01 (decide A) := by unfold i01; by_cases h : A <;> simp [h, b01]
theorem i01_n {A : Prop} [Decidable A] (h : ¬ i01 A = 0) : A := Decidable.not_not.mp fun q => h (i01_0.mpr q)
theorem b01_0 {b : Bool} : b01 b = 0 ↔ b = false := by cases b <;> simp [b01]
theorem b01_inj {a b : Bool} : b01 a = b01 b ↔ a = b := by cases a <;> cases b <;> simp [b01]
theorem b01_nar (b : Bool) : nar .boolean (b01 b) = b01 b := by cases b <;> rfl
theorem i01_nar {A : Prop} [Decidable A] : nar .boolean (i01 A) = i01 A := by rw [i01_b]; exact b01_nar _
variable {p : Program} {l : Launch} {e : Env} {R : Room} {s : State} {m : MethodId} {args : Array Value} {below : List Frame} {meth : Method} {c : Code} {T T' : State} {locs : List Loc} {cells slots : Nat} {Z : State} {a0 : Array Value} {h : Heap}
/-- from the frame g over T the run comes to an end of which P holds -/
def Go (p : Program) (e : Env) (below : List Frame) (P : State → Outcome → Prop) (T : State) (g : JFrame) : Prop :=
  ∃ (u : State) (o : Outcome), Steps p.tables e below (T.setTop g) u ∧ u.status = .running ∧ Ended u below o ∧ P u o
variable {P : State → Outcome → Prop}
theorem Go.via {g g' : JFrame} (st : ∀ t, Steps p.tables e below (T'.setTop g') t → Steps p.tables e below (T.setTop g) t) (k : Go p e below P T' g') : Go p e below P T g := by
  obtain ⟨u, o, hs, r⟩ := k
  exact ⟨u, o, st u hs, r⟩
theorem Go.cut {g g' : JFrame} (k1 : Go p e below P T' g' → Go p e below P T g) (k2 : Go p e below P T' g') : Go p e below P T g := k1 k2
theorem Go.cutA {α : Type} {g : JFrame} {g' : α → JFrame} (k1 : (∀ q, Go p e below P T' (g' q)) → Go p e below P T g) (k2 : ∀ q, Go p e below P T' (g' q)) : Go p e below P T g := k1 k2
theorem Go.cast {g g' : JFrame} (q : g = g') (k : Go p e below P T g') : Go p e below P T g := q ▸ k
/-- what a contract says of its end -/
def GoEnd (s : State) (Q : Option Value → Heap → List Loc → Prop) (cs sl : Nat) (u : State) (o : Outcome) : Prop := ∃ (v : Option Value) (L : List Loc), o = .returned v ∧ Q v u.heap L ∧ FrameEnd s o u L cs sl
variable {Q : Option Value → Heap → List Loc → Prop} {cs sl : Nat}
theorem Go.retN (X : Stand p l e R s m args below meth c T locs cells slots) (hx : p.tables.exec = Jvm.exec) (hk : meth.locks = false) {pc : Nat} {Ls : Array Slot} {z : Int32} {t : FieldType} {rest : List Value} (hret : meth.sig.returnType = some t) (ht : t = .boolean ∨ t = .byte ∨ t = .char ∨ t = .short)
    (hd : decode c.code pc = .ok (.ireturn, 1)) (hc : cells ≤ cs) (hl : slots ≤ sl) (hq : Q (some (.int (nar t z))) T.heap locs) : Go p e below (GoEnd s Q cs sl) T (mkF m pc Ls (.int z :: rest)) := by
  obtain ⟨fs, hr, hrun, hended, hW, hsame⟩ := X.leave (v := some (.int (nar t z))) (fun q => by rw [hret] at q; cases q) hk
  exact ⟨_, _, Jvm.RoadKit.retN X hx hret ht hd hr, hrun, hended, _, _, rfl, hq, ⟨_, rfl⟩, hW, hsame.mono hc hl⟩
theorem Go.retA (X : Stand p l e R s m args below meth c T locs cells slots) (hx : p.tables.exec = Jvm.exec) (hk : meth.locks = false) {pc : Nat} {Ls : Array Slot} {w : Value} {t : FieldType} {i : Instr} {rest : List Value} (hret : meth.sig.returnType = some t) (hn : narrow t w = w)
    (hi : (i = .ireturn ∧ (t = .int ∨ t = .boolean ∨ t = .byte ∨ t = .char ∨ t = .short) ∧ ∃ z, w = .int z) ∨ (i = .lreturn ∧ t = .long ∧ ∃ z, w = .long z) ∨ (i = .dreturn ∧ t = .double ∧ ∃ z, w = .double z) ∨ (i = .freturn ∧ t = .float ∧ ∃ z, w = .float z) ∨ (i = .areturn ∧ t.isReference = true ∧ w.isRef = true))
    (hd : decode c.code pc = .ok (i, 1)) (hc : cells ≤ cs) (hl : slots ≤ sl) (hq : Q (some w) T.heap locs) : Go p e below (GoEnd s Q cs sl) T (mkF m pc Ls (w :: rest)) := by
  obtain ⟨fs, hr, hrun, hended, hW, hsame⟩ := X.leave (v := some w) (fun q => by rw [hret] at q; cases q) hk
  exact ⟨_, _, Jvm.RoadKit.retOut X hx hret hn hi hd hr, hrun, hended, _, _, rfl, hq, ⟨_, rfl⟩, hW, hsame.mono hc hl⟩
theorem Go.retI (X : Stand p l e R s m args below meth c T locs cells slots) (hx : p.tables.exec = Jvm.exec) (hk : meth.locks = false) {pc : Nat} {Ls : Array Slot} {z : Int32} {rest : List Value} (hret : meth.sig.returnType = some .int)
    (hd : decode c.code pc = .ok (.ireturn, 1)) (hc : cells ≤ cs) (hl : slots ≤ sl) (hq : Q (some (.int z)) T.heap locs) : Go p e below (GoEnd s Q cs sl) T (mkF m pc Ls (.int z :: rest)) :=
  Go.retA X hx hk hret rfl (Or.inl ⟨rfl, Or.inl rfl, z, rfl⟩) hd hc hl hq
theorem Go.retJ (X : Stand p l e R s m args below meth c T locs cells slots) (hx : p.tables.exec = Jvm.exec) (hk : meth.locks = false) {pc : Nat} {Ls : Array Slot} {z : Int64} {rest : List Value} (hret : meth.sig.returnType = some .long)
    (hd : decode c.code pc = .ok (.lreturn, 1)) (hc : cells ≤ cs) (hl : slots ≤ sl) (hq : Q (some (.long z)) T.heap locs) : Go p e below (GoEnd s Q cs sl) T (mkF m pc Ls (.long z :: rest)) :=
  Go.retA X hx hk hret rfl (Or.inr (Or.inl ⟨rfl, rfl, z, rfl⟩)) hd hc hl hq
theorem Go.retV (X : Stand p l e R s m args below meth c T locs cells slots) (hx : p.tables.exec = Jvm.exec) (hk : meth.locks = false) {pc : Nat} {Ls : Array Slot} (hret : meth.sig.returnType = none)
    (hd : decode c.code pc = .ok (.return_, 1)) (hc : cells ≤ cs) (hl : slots ≤ sl) (hq : Q none T.heap locs) : Go p e below (GoEnd s Q cs sl) T (mkF m pc Ls []) := by
  obtain ⟨fs, hr, hrun, hended, hW, hsame⟩ := X.leave (v := none) (fun _ => rfl) hk
  exact ⟨_, _, X.returnOut hx hret hd hr, hrun, hended, _, _, rfl, hq, ⟨_, rfl⟩, hW, hsame.mono hc hl⟩
/-- a method's contract: called with as' over the heap h it ends and Q holds -/
abbrev Met (l : Launch) (Z : State) (y : MethodName) (bytes : ByteArray) (maxL : Nat) (ret : Option FieldType) (ws : List Jvm.Cond) (rm : Room) (as' : Array Value) (h : Heap) (Q : Option Value → Heap → List Loc → Prop) : Prop :=
  MetFree l y (head1 (Jvm.Cond.code y bytes maxL ret :: ws) rm) (fun a U => a = as' ∧ Z.Warmed39 U.vm ∧ U.heap = h) (fun _ _ _ _ _ => True) (fun _ U o U' => GoEnd U Q rm.cells rm.slots U' o)
variable {y : MethodName} {bytes : ByteArray} {maxL : Nat} {ret : Option FieldType} {ws : List Jvm.Cond} {rm : Room} {as' : Array Value}
/-- a body's own walk makes its contract -/
theorem Met.of (hp : plainFor y = true)
    (body : ∀ (p : Program) (e : Env) (s : State) (m : MethodId) (below : List Frame) (meth : Method) (c : Code) (T : State), p.tables.exec = Jvm.exec → c.code = bytes → c.maxLocals = maxL → meth.locks = false → meth.sig.returnType = ret → meth.name = y.name → s.vm.findClass y.cls = some m.cls → Z.Warmed39 s.vm →
      Stand p l e rm s m as' below meth c T [] 0 0 → T.heap = h → Go p e below (GoEnd s Q rm.cells rm.slots) T (entryFrame m as' maxL)) : Met l Z y bytes maxL ret ws rm as' h Q := by
  refine MetFree.of_bodySF hp hisR ?_
  intro p e s m args below meth c s₁ Bd hml hP hK
  obtain ⟨rfl, hZ, hh⟩ := hP
  exact body p e s m below meth c s₁ Bd.exec Bd.bytes hml (BodyLoose.notSynchronized Bd) Bd.returns (name_of_methodNamed Bd.named Bd.method).1 (findClass_of_methodNamed Bd.named) hZ (Stand.of_body Bd) (by rw [← hh, Bd.state]; rfl)
/-- a static call by its contract -/
theorem Go.callS (X : Stand p l e R s m args below meth c T locs cells slots) (hx : p.tables.exec = Jvm.exec) (hZ : Z.Warmed39 s.vm) {own : String} {index : Nat} (hown : s.vm.findClass own = some m.cls) (eT : T.heap = h)
    (w1 : (Cond.methodLink own index y).before a0 Z = true) (w2 : (Cond.static y).before a0 Z = true) (w3 : (Cond.initialized y.cls).before a0 Z = true) (w4 : (Cond.code y bytes maxL ret).before a0 Z = true) (hy : y.cls ≠ "java/lang/invoke/MethodHandle" ∧ y.cls ≠ "java/lang/invoke/VarHandle")
    (M : Met l Z y bytes maxL ret [] rm as' h Q) {pc : Nat} {Ls : Array Slot} {argsL rest : List Value} {ps : List FieldType} {r : Option FieldType} (hpd : parseMethodDescriptor y.desc = some ⟨ps, r⟩) (hn : argsL.length = ps.length) (has : argsL.toArray = as') (hsize : Ls.size = c.maxLocals)
    (hd : decode c.code pc = .ok (.invokestatic index, 3)) {W : Nat} (hW : (rest.map fun v => v.category).sum ≤ W) (hf : rm.frames + 1 ≤ R.frames) (hl : W + (maxL + 11) + rm.locals ≤ R.locals) (hc : cells + rm.cells ≤ R.cells) (hs : slots + rm.slots ≤ R.slots) :
    ∃ (v : Option Value) (T' : State) (L : List Loc), Stand p l e R s m args below meth c T' (locs ++ L) (cells + rm.cells) (slots + rm.slots) ∧ Q v T'.heap L ∧ ∀ {P : State → Outcome → Prop}, Go p e below P T' (mkF m (pc + 3) Ls (v.toList ++ rest)) → Go p e below P T (mkF m pc Ls (argsL.reverse ++ rest)) := by
  obtain ⟨v, vm₁, ⟨T', L', k', n'⟩, -, X', ⟨L, hQ, l1, l2, l3⟩, st⟩ := Jvm.LawKit.callS X hx hown (mvT hZ w1) (mvT hZ w2) (mvT hZ w3) (mvT hZ w4) hy (backOf (W := W) M hZ w4 w3 hf hl) (g := mkF m pc Ls (argsL.reverse ++ rest)) rfl hsize (lenOf hpd hn) rfl (by show 2 * 0 + _ ≤ _; omega) hd (fun _ _ => ⟨has, eT, hc, hs⟩)
  dsimp only [Pt.U, Pt.locs, Pt.cells, Pt.slots] at X' l1 l2 l3 st hQ
  subst l1 l2 l3
  exact ⟨v, T', L, X', hQ, fun k => Go.via st k⟩
/-- a constructor by its contract -/
theorem Go.callN (X : Stand p l e R s m args below meth c T locs cells slots) (hx : p.tables.exec = Jvm.exec) (hZ : Z.Warmed39 s.vm) {own : String} {index : Nat} (hown : s.vm.findClass own = some m.cls) (eT : T.heap = h) (hy1 : y.name = "<init>")
    (w1 : (Cond.methodLink own index y).before a0 Z = true) (w2 : (Cond.instanceMethod y).before a0 Z = true) (w3 : (Cond.initialized y.cls).before a0 Z = true) (w4 : (Cond.code y bytes maxL none).before a0 Z = true) (hy : y.cls ≠ "java/lang/invoke/MethodHandle" ∧ y.cls ≠ "java/lang/invoke/VarHandle")
    (M : Met l Z y bytes maxL none [] rm as' h Q) {pc : Nat} {Ls : Array Slot} {a : Addr} {argsL rest : List Value} {ps : List FieldType} {r : Option FieldType} (hpd : parseMethodDescriptor y.desc = some ⟨ps, r⟩) (hn : argsL.length = ps.length) (has : (.ref a :: argsL).toArray = as') (hsize : Ls.size = c.maxLocals)
    (hd : decode c.code pc = .ok (.invokespecial index, 3)) {W : Nat} (hW : (rest.map fun v => v.category).sum ≤ W) (hf : rm.frames + 1 ≤ R.frames) (hl : W + (maxL + 11) + rm.locals ≤ R.locals) (hc : cells + rm.cells ≤ R.cells) (hs : slots + rm.slots ≤ R.slots) :
    ∃ (v : Option Value) (T' : State) (L : List Loc), Stand p l e R s m args below meth c T' (locs ++ L) (cells + rm.cells) (slots + rm.slots) ∧ Q v T'.heap L ∧ ∀ {P : State → Outcome → Prop}, Go p e below P T' (mkF m (pc + 3) Ls (v.toList ++ rest)) → Go p e below P T (mkF m pc Ls (argsL.reverse ++ .ref a :: rest)) := by
  obtain ⟨v, vm₁, ⟨T', L', k', n'⟩, -, X', ⟨L, hQ, l1, l2, l3⟩, st⟩ := X.specialBack hx hy1 hown (mvT hZ w1) (mvT hZ w2) (mvT hZ w4) hy (backOf (W := W) M hZ w4 w3 hf hl) (g := mkF m pc Ls (argsL.reverse ++ .ref a :: rest)) rfl hsize (Steps.refl _) (lenOf hpd hn) rfl (by show 2 * 0 + _ ≤ _; omega) hd (fun _ _ => ⟨has, eT, hc, hs⟩)
  dsimp only [Pt.U, Pt.locs, Pt.cells, Pt.slots] at X' l1 l2 l3 st hQ
  subst l1 l2 l3
  exact ⟨v, T', L, X', hQ, fun k => Go.via (fun t k => st.trans k) k⟩
/-- an instance method by its contract -/
theorem Go.callV (X : Stand p l e R s m args below meth c T locs cells slots) (hx : p.tables.exec = Jvm.exec) (hZ : Z.Warmed39 s.vm) {own C : String} {index : Nat} (hown : s.vm.findClass own = some m.cls) (eT : T.heap = h)
    (w1 : (Cond.methodLink own index y).before a0 Z = true) (w2 : (Cond.declares y).before a0 Z = true) (w6 : (Cond.selects C y y).before a0 Z = true) (w7 : (Cond.instanceMethod y).before a0 Z = true) (w3 : (Cond.initialized y.cls).before a0 Z = true) (w4 : (Cond.code y bytes maxL ret).before a0 Z = true) (hy : y.cls ≠ "java/lang/invoke/MethodHandle" ∧ y.cls ≠ "java/lang/invoke/VarHandle")
    {a : Addr} (Ea : Exa Z h a C)
    (M : Met l Z y bytes maxL ret [] rm as' h Q) {pc : Nat} {Ls : Array Slot} {argsL rest : List Value} {ps : List FieldType} {r : Option FieldType} (hpd : parseMethodDescriptor y.desc = some ⟨ps, r⟩) (hn : argsL.length = ps.length) (has : (.ref a :: argsL).toArray = as') (hsize : Ls.size = c.maxLocals)
    (hd : decode c.code pc = .ok (.invokevirtual index, 3)) {W : Nat} (hW : (rest.map fun v => v.category).sum ≤ W) (hf : rm.frames + 1 ≤ R.frames) (hl : W + (maxL + 11) + rm.locals ≤ R.locals) (hc : cells + rm.cells ≤ R.cells) (hs : slots + rm.slots ≤ R.slots) :
    ∃ (v : Option Value) (T' : State) (L : List Loc), Stand p l e R s m args below meth c T' (locs ++ L) (cells + rm.cells) (slots + rm.slots) ∧ Q v T'.heap L ∧ ∀ {P : State → Outcome → Prop}, Go p e below P T' (mkF m (pc + 3) Ls (v.toList ++ rest)) → Go p e below P T (mkF m pc Ls (argsL.reverse ++ .ref a :: rest)) := by
  obtain ⟨cq, kq, qa, qb, qc⟩ := isOf hZ eT Ea
  obtain ⟨v, vm₁, ⟨T', L', k', n'⟩, -, X', ⟨L, hQ, l1, l2, l3⟩, st⟩ := X.virtualBack hx hown (mvT hZ w1) (mvT hZ w2) (notFace_of_selects (args := #[]) (mvT hZ w6)) (mvT hZ w6) (mvT hZ w7) hy (backOf (W := W) M hZ w4 w3 hf hl) qa qc (g := mkF m pc Ls (argsL.reverse ++ .ref a :: rest)) rfl hsize (Steps.refl _) (lenOf hpd hn) rfl (by show 2 * 0 + _ ≤ _; omega) hd (fun _ _ => ⟨has, eT, hc, hs⟩)
  dsimp only [Pt.U, Pt.locs, Pt.cells, Pt.slots] at X' l1 l2 l3 st hQ
  subst l1 l2 l3
  exact ⟨v, T', L, X', hQ, fun k => Go.via (fun t k => st.trans k) k⟩
end OwnKit
theorem own_pd0 : parseMethodDescriptor "()Z" = some ⟨[], some .boolean⟩ := by decide +kernel
theorem own_fldv {args : Array Value} {s : State} {t : Term} {C n d : String} {k : Int32} {x : Addr} (h : (Jvm.Cond.eq (Jvm.Term.field t C n d) (Jvm.Term.int k)).value args s none s [] = some true) (ht : t.eval args s none [] s = some (.ref x)) : Fld s s.heap x C n d (.int k) := by
  obtain ⟨v, w, h1, h2, -, K⟩ := cmp_v (Or.inl h)
  obtain rfl : (.int k) = w := Option.some.inj ((Term.int_eval k).symm.trans h2)
  obtain ⟨z, rfl⟩ : ∃ z, v = .int z := K
  have e : z = k := gotT (Cond.eq_ints h1 h2) h
  subst e
  rw [fld_at ht] at h1
  exact Fld.start h1
theorem own_d1_0 : decode prog_9_method_4_code 0 = .ok (.aload_n 0, 1) := by decide +kernel
theorem own_d1_1 : decode prog_9_method_4_code 1 = .ok (.getstatic 10, 3) := by decide +kernel
theorem own_d1_4 : decode prog_9_method_4_code 4 = .ok (.if_acmp .eq 7, 3) := by decide +kernel
theorem own_d1_7 : decode prog_9_method_4_code 7 = .ok (.iconst 1, 1) := by decide +kernel
theorem own_d1_8 : decode prog_9_method_4_code 8 = .ok (.goto 4, 3) := by decide +kernel
theorem own_d1_11 : decode prog_9_method_4_code 11 = .ok (.iconst 0, 1) := by decide +kernel
theorem own_d1_12 : decode prog_9_method_4_code 12 = .ok (.ireturn, 1) := by decide +kernel
theorem own_pn0 : plainName "com/example/safe_packet_runtime/safepacketruntime/lang/BinaryOperator$Precedence" = true := by first | (simp [plainName, overriddenIn]; done) | decide +kernel
theorem ef_own_ch (m : MethodId) (a1 : Addr) : entryFrame m #[(.ref a1)] 1 = mkF m 0 #[.val (.ref a1)] [] := by first | (simp [entryFrame, mkF, argsToLocals, Value.category]; done) | rfl
set_option maxRecDepth 65536 in
set_option maxHeartbeats 40000000 in
theorem own_ch (l : Launch) (Z : State) (a0 : Array Value) (hw : ∀ d ∈ tables_1, d.before a0 Z = true) (ws : List Jvm.Cond) (a1 : Addr) (ac : Addr) (h0 : Heap) (n0 : Nat) (Z0 : n0 ≤ h0.size) (S_c : Sta Z h0 "com/example/safe_packet_runtime/safepacketruntime/lang/BinaryOperator$Precedence" "COMPARISON" "Lcom/example/safe_packet_runtime/safepacketruntime/lang/BinaryOperator$Precedence;" (.ref ac)) :
    Met l Z (⟨"com/example/safe_packet_runtime/safepacketruntime/lang/BinaryOperator$Precedence", "chains", "()Z"⟩ : MethodName) prog_9_method_4_code 1 (some .boolean) ws ({ frames := 0, cells := 0, slots := 0, locals := 0 } : Room) #[(.ref a1)] h0 (fun v h L => v = some (.int (i01 (¬ (.ref a1 : Value) = .ref ac))) ∧ Fr n0 L ∧ h = h0) := by
  refine Met.of (plainFor_of_name own_pn0) ?_
  intro p e s m below meth c T0 hx hby hml hk hret hnm hown hZ X0 e0
  have N0 := Fr.nil n0
  refine Go.cast (ef_own_ch m a1) ?_
  show Go p e below _ T0 (mkF m 0 #[.val (.ref a1)] [])
  refine Go.via (fun _ k => XS.aloadN X0.here hx rfl (hb hby own_d1_0) rfl (by rfl) k) ?_
  show Go p e below _ T0 (mkF m 1 #[.val (.ref a1)] [(.ref a1)])
  obtain ⟨T1, X1, e1, st1⟩ := getS X0 hx hZ hown (host := "") (hw _ (List.mem_of_getElem? (i := 9) rfl)) Via.refl e0 S_c (g := (mkF m 1 #[.val (.ref a1)] [(.ref a1)])) rfl (hb hby own_d1_1)
  refine Go.via (fun _ k => st1 _ k) ?_
  show Go p e below _ T1 (mkF m 4 #[.val (.ref a1)] [(.ref ac), (.ref a1)])
  by_cases ha4 : ((.ref a1) : Value) = (.ref ac)
  · skip
    refine Go.via (fun _ k => Jvm.RoadKit.acmp (g := (mkF m 4 #[.val (.ref a1)] [(.ref ac), (.ref a1)])) X1 hx rfl rfl rfl (pc0 := 4) (pc' := 11) (same := true) rfl (hb hby own_d1_4) rfl (decide_eq_true ha4) (by decide) (by decide) k) ?_
    show Go p e below _ T1 (mkF m 11 #[.val (.ref a1)] [])
    refine Go.via (fun _ k => XS.iconst X1.here hx rfl (hb hby own_d1_11) k) ?_
    show Go p e below _ T1 (mkF m 12 #[.val (.ref a1)] [(.int (0 : Int32))])
    refine Go.retN X1 hx hk (hret : meth.sig.returnType = some .boolean) (t := .boolean) (by simp) (hb hby own_d1_12) (by decide) (by decide) ?_
    exact ⟨by rw [show i01 (¬ (.ref a1 : Value) = .ref ac) = _ from i01_f (not_not_intro ha4)]; rfl, N0, e1⟩
  · skip
    refine Go.via (fun _ k => Jvm.RoadKit.acmp (g := (mkF m 4 #[.val (.ref a1)] [(.ref ac), (.ref a1)])) X1 hx rfl rfl rfl (pc0 := 4) (pc' := 7) (same := false) rfl (hb hby own_d1_4) rfl (decide_eq_false ha4) (by decide) (by decide) k) ?_
    show Go p e below _ T1 (mkF m 7 #[.val (.ref a1)] [])
    refine Go.via (fun _ k => XS.iconst X1.here hx rfl (hb hby own_d1_7) k) ?_
    show Go p e below _ T1 (mkF m 8 #[.val (.ref a1)] [(.int (1 : Int32))])
    refine Go.via (fun _ k => XS.goto X1.here hx rfl (pc0 := 8) (pc' := 12) rfl (hb hby own_d1_8) (by decide) (by decide) k) ?_
    show Go p e below _ T1 (mkF m 12 #[.val (.ref a1)] [(.int (1 : Int32))])
    refine Go.retN X1 hx hk (hret : meth.sig.returnType = some .boolean) (t := .boolean) (by simp) (hb hby own_d1_12) (by decide) (by decide) ?_
    exact ⟨by rw [show i01 (¬ (.ref a1 : Value) = .ref ac) = _ from i01_t ha4]; rfl, N0, e1⟩
theorem own_pn1 : plainName "com/example/safe_packet_runtime/safepacketruntime/lang/BinaryOperatorChainsPinLaw" = true := by first | (simp [plainName, overriddenIn]; done) | decide +kernel
theorem ef_own_m0 (m : MethodId) (p1 : Int32) : entryFrame m #[(.int p1)] maxLocals = mkF m 0 #[.val (.int p1), .unset, .unset, .unset] [] := by first | (simp [entryFrame, mkF, argsToLocals, Value.category, maxLocals]; done) | rfl
set_option maxRecDepth 65536 in
set_option maxHeartbeats 40000000 in
theorem own_m0 (l : Launch) (Z : State) (a0 : Array Value) (hw : ∀ d ∈ tables_1, d.before a0 Z = true) (ws : List Jvm.Cond) (p1 : Int32) (a_ORELSE a_ANDALSO a_COMPARISON a_CONS a_ADDITIVE a_MULTIPLICATIVE : Addr) (h0 : Heap) (n0 : Nat) (Z0 : n0 ≤ h0.size) (S_ORELSE : Sta Z h0 "com/example/safe_packet_runtime/safepacketruntime/lang/BinaryOperator$Precedence" "ORELSE" "Lcom/example/safe_packet_runtime/safepacketruntime/lang/BinaryOperator$Precedence;" (.ref a_ORELSE)) (E_ORELSE : Exa Z h0 a_ORELSE "com/example/safe_packet_runtime/safepacketruntime/lang/BinaryOperator$Precedence") (S_ANDALSO : Sta Z h0 "com/example/safe_packet_runtime/safepacketruntime/lang/BinaryOperator$Precedence" "ANDALSO" "Lcom/example/safe_packet_runtime/safepacketruntime/lang/BinaryOperator$Precedence;" (.ref a_ANDALSO)) (E_ANDALSO : Exa Z h0 a_ANDALSO "com/example/safe_packet_runtime/safepacketruntime/lang/BinaryOperator$Precedence") (S_COMPARISON : Sta Z h0 "com/example/safe_packet_runtime/safepacketruntime/lang/BinaryOperator$Precedence" "COMPARISON" "Lcom/example/safe_packet_runtime/safepacketruntime/lang/BinaryOperator$Precedence;" (.ref a_COMPARISON)) (E_COMPARISON : Exa Z h0 a_COMPARISON "com/example/safe_packet_runtime/safepacketruntime/lang/BinaryOperator$Precedence") (S_CONS : Sta Z h0 "com/example/safe_packet_runtime/safepacketruntime/lang/BinaryOperator$Precedence" "CONS" "Lcom/example/safe_packet_runtime/safepacketruntime/lang/BinaryOperator$Precedence;" (.ref a_CONS)) (E_CONS : Exa Z h0 a_CONS "com/example/safe_packet_runtime/safepacketruntime/lang/BinaryOperator$Precedence") (S_ADDITIVE : Sta Z h0 "com/example/safe_packet_runtime/safepacketruntime/lang/BinaryOperator$Precedence" "ADDITIVE" "Lcom/example/safe_packet_runtime/safepacketruntime/lang/BinaryOperator$Precedence;" (.ref a_ADDITIVE)) (E_ADDITIVE : Exa Z h0 a_ADDITIVE "com/example/safe_packet_runtime/safepacketruntime/lang/BinaryOperator$Precedence") (S_MULTIPLICATIVE : Sta Z h0 "com/example/safe_packet_runtime/safepacketruntime/lang/BinaryOperator$Precedence" "MULTIPLICATIVE" "Lcom/example/safe_packet_runtime/safepacketruntime/lang/BinaryOperator$Precedence;" (.ref a_MULTIPLICATIVE)) (E_MULTIPLICATIVE : Exa Z h0 a_MULTIPLICATIVE "com/example/safe_packet_runtime/safepacketruntime/lang/BinaryOperator$Precedence") (ne_ORELSE : a_ORELSE ≠ a_COMPARISON) (ne_ANDALSO : a_ANDALSO ≠ a_COMPARISON) (ne_CONS : a_CONS ≠ a_COMPARISON) (ne_ADDITIVE : a_ADDITIVE ≠ a_COMPARISON) (ne_MULTIPLICATIVE : a_MULTIPLICATIVE ≠ a_COMPARISON) :
    Met l Z x code maxLocals ret ws room_1 #[(.int p1)] h0 (fun v h L => v = some (.int 1) ∧ Fr n0 L) := by
  refine Met.of (plainFor_of_name own_pn1) ?_
  intro p e s m below meth c T0 hx hby hml hk hret hnm hown hZ X0 e0
  have N0 := Fr.nil n0
  refine Go.cast (ef_own_m0 m p1) ?_
  show Go p e below _ T0 (mkF m 0 #[.val (.int p1), .unset, .unset, .unset] [])
  refine Go.via (fun _ k => XS.iloadN X0.here hx rfl (hb hby at_0) rfl  k) ?_
  show Go p e below _ T0 (mkF m 1 #[.val (.int p1), .unset, .unset, .unset] [(.int p1)])
  refine Go.via (fun _ k => Stand.ldcInt X0 hx hown (mvT hZ (hw _ (List.mem_of_getElem? (i := 0) rfl))) (g := (mkF m 1 #[.val (.int p1), .unset, .unset, .unset] [(.int p1)])) rfl (hb hby at_1) _ k) ?_
  show Go p e below _ T0 (mkF m 3 #[.val (.int p1), .unset, .unset, .unset] [(.int (2147483647 : Int32)), (.int p1)])
  refine Go.via (fun _ k => XS.iand X0.here hx rfl (hb hby at_3) rfl k) ?_
  show Go p e below _ T0 (mkF m 4 #[.val (.int p1), .unset, .unset, .unset] [(.int (p1 &&& (2147483647 : Int32)))])
  refine Go.via (fun _ k => XS.bipush X0.here hx rfl (hb hby at_4) k) ?_
  show Go p e below _ T0 (mkF m 6 #[.val (.int p1), .unset, .unset, .unset] [(.int (6 : Int32)), (.int (p1 &&& (2147483647 : Int32)))])
  refine Go.via (fun _ k => iremM (g := (mkF m 6 #[.val (.int p1), .unset, .unset, .unset] [(.int (6 : Int32)), (.int (p1 &&& (2147483647 : Int32)))])) X0 hx rfl (hb hby at_6) rfl (by decide) k) ?_
  show Go p e below _ T0 (mkF m 7 #[.val (.int p1), .unset, .unset, .unset] [(.int ((p1 &&& (2147483647 : Int32)) % (6 : Int32)))])
  refine Go.via (fun _ k => XS.istoreN X0.here hx rfl (hb hby at_7) rfl (l' := #[.val (.int p1), .val (.int ((p1 &&& (2147483647 : Int32)) % (6 : Int32))), .unset, .unset]) rfl k) ?_
  show Go p e below _ T0 (mkF m 8 #[.val (.int p1), .val (.int ((p1 &&& (2147483647 : Int32)) % (6 : Int32))), .unset, .unset] [])
  refine Go.via (fun _ k => XS.iloadN X0.here hx rfl (hb hby at_8) rfl  k) ?_
  show Go p e below _ T0 (mkF m 9 #[.val (.int p1), .val (.int ((p1 &&& (2147483647 : Int32)) % (6 : Int32))), .unset, .unset] [(.int ((p1 &&& (2147483647 : Int32)) % (6 : Int32)))])
  by_cases hc9 : ((p1 &&& (2147483647 : Int32)) % (6 : Int32)) = (0 : Int32)
  · skip
    refine Go.via (fun _ k => XS.ifNo X0.here hx rfl (hb hby at_9) rfl ((if0 _ _).trans (teq hc9).2) k) ?_
    show Go p e below _ T0 (mkF m 12 #[.val (.int p1), .val (.int ((p1 &&& (2147483647 : Int32)) % (6 : Int32))), .unset, .unset] [])
    obtain ⟨T1, X1, e1, st1⟩ := getS X0 hx hZ hown (host := "") (hw _ (List.mem_of_getElem? (i := 1) rfl)) Via.refl e0 S_ORELSE (g := (mkF m 12 #[.val (.int p1), .val (.int ((p1 &&& (2147483647 : Int32)) % (6 : Int32))), .unset, .unset] [])) rfl (hb hby at_12)
    refine Go.via (fun _ k => st1 _ k) ?_
    show Go p e below _ T1 (mkF m 15 #[.val (.int p1), .val (.int ((p1 &&& (2147483647 : Int32)) % (6 : Int32))), .unset, .unset] [(.ref a_ORELSE)])
    refine Go.via (fun _ k => XS.astoreN X1.here hx rfl (hb hby at_15) rfl (by rfl) (l' := #[.val (.int p1), .val (.int ((p1 &&& (2147483647 : Int32)) % (6 : Int32))), .val (.ref a_ORELSE), .unset]) rfl k) ?_
    show Go p e below _ T1 (mkF m 16 #[.val (.int p1), .val (.int ((p1 &&& (2147483647 : Int32)) % (6 : Int32))), .val (.ref a_ORELSE), .unset] [])
    refine Go.via (fun _ k => XS.iconst X1.here hx rfl (hb hby at_16) k) ?_
    show Go p e below _ T1 (mkF m 17 #[.val (.int p1), .val (.int ((p1 &&& (2147483647 : Int32)) % (6 : Int32))), .val (.ref a_ORELSE), .unset] [(.int (1 : Int32))])
    refine Go.via (fun _ k => XS.istoreN X1.here hx rfl (hb hby at_17) rfl (l' := #[.val (.int p1), .val (.int ((p1 &&& (2147483647 : Int32)) % (6 : Int32))), .val (.ref a_ORELSE), .val (.int (1 : Int32))]) rfl k) ?_
    show Go p e below _ T1 (mkF m 18 #[.val (.int p1), .val (.int ((p1 &&& (2147483647 : Int32)) % (6 : Int32))), .val (.ref a_ORELSE), .val (.int (1 : Int32))] [])
    refine Go.via (fun _ k => XS.goto X1.here hx rfl (pc0 := 18) (pc' := 83) rfl (hb hby at_18) (by decide) (by decide) k) ?_
    show Go p e below _ T1 (mkF m 83 #[.val (.int p1), .val (.int ((p1 &&& (2147483647 : Int32)) % (6 : Int32))), .val (.ref a_ORELSE), .val (.int (1 : Int32))] [])
    refine Go.via (fun _ k => XS.aloadN X1.here hx rfl (hb hby at_83) rfl (by rfl) k) ?_
    show Go p e below _ T1 (mkF m 84 #[.val (.int p1), .val (.int ((p1 &&& (2147483647 : Int32)) % (6 : Int32))), .val (.ref a_ORELSE), .val (.int (1 : Int32))] [(.ref a_ORELSE)])
    obtain ⟨v2, T2, L2, X2, ⟨rfl, Nq2, eq2⟩, st2⟩ := Go.callV X1 hx hZ hown e1 (hw _ (List.mem_of_getElem? (i := 4) rfl)) (hw _ (List.mem_of_getElem? (i := 5) rfl)) (hw _ (List.mem_of_getElem? (i := 7) rfl)) (hw _ (List.mem_of_getElem? (i := 6) rfl)) (hw _ (List.mem_of_getElem? (i := 2) rfl)) (hw _ (List.mem_of_getElem? (i := 8) rfl)) (by decide) E_ORELSE (own_ch l Z a0 hw [] a_ORELSE a_COMPARISON h0 n0 Z0 S_COMPARISON) (pc := 84) (Ls := #[.val (.int p1), .val (.int ((p1 &&& (2147483647 : Int32)) % (6 : Int32))), .val (.ref a_ORELSE), .val (.int (1 : Int32))]) (argsL := []) (rest := []) own_pd0 rfl rfl (by rw [hml]; rfl) (hb hby at_84) (W := 0) (Nat.le_of_eq rfl) (by decide) (by decide) (by decide) (by decide)
    refine st2 ?_
    have N2 := Fr.app N0 Nq2
    show Go p e below _ T2 (mkF m 87 #[.val (.int p1), .val (.int ((p1 &&& (2147483647 : Int32)) % (6 : Int32))), .val (.ref a_ORELSE), .val (.int (1 : Int32))] [(.int (i01 (¬ (.ref a_ORELSE : Value) = .ref a_COMPARISON)))])
    refine Go.via (fun _ k => XS.iloadN X2.here hx rfl (hb hby at_87) rfl  k) ?_
    show Go p e below _ T2 (mkF m 88 #[.val (.int p1), .val (.int ((p1 &&& (2147483647 : Int32)) % (6 : Int32))), .val (.ref a_ORELSE), .val (.int (1 : Int32))] [(.int (1 : Int32)), (.int (i01 (¬ (.ref a_ORELSE : Value) = .ref a_COMPARISON)))])
    have hc88 : (i01 (¬ (.ref a_ORELSE : Value) = .ref a_COMPARISON)) = (1 : Int32) := i01_t (fun q => ne_ORELSE (Value.ref.inj q))
    refine Go.via (fun _ k => XS.icmpNo X2.here hx rfl (hb hby at_88) rfl (teq hc88).2 k) ?_
    show Go p e below _ T2 (mkF m 91 #[.val (.int p1), .val (.int ((p1 &&& (2147483647 : Int32)) % (6 : Int32))), .val (.ref a_ORELSE), .val (.int (1 : Int32))] [])
    refine Go.via (fun _ k => XS.iconst X2.here hx rfl (hb hby at_91) k) ?_
    show Go p e below _ T2 (mkF m 92 #[.val (.int p1), .val (.int ((p1 &&& (2147483647 : Int32)) % (6 : Int32))), .val (.ref a_ORELSE), .val (.int (1 : Int32))] [(.int (1 : Int32))])
    refine Go.via (fun _ k => XS.goto X2.here hx rfl (pc0 := 92) (pc' := 96) rfl (hb hby at_92) (by decide) (by decide) k) ?_
    show Go p e below _ T2 (mkF m 96 #[.val (.int p1), .val (.int ((p1 &&& (2147483647 : Int32)) % (6 : Int32))), .val (.ref a_ORELSE), .val (.int (1 : Int32))] [(.int (1 : Int32))])
    refine Go.retN X2 hx hk (hret : meth.sig.returnType = some .boolean) (t := .boolean) (by simp) (hb hby at_96) (by decide) (by decide) ?_
    exact ⟨rfl, N2⟩
  · skip
    refine Go.via (fun _ k => XS.ifYes X0.here hx rfl (pc0 := 9) (pc' := 21) rfl (hb hby at_9) rfl ((if0 _ _).trans (feq hc9).2) (by decide) (by decide) k) ?_
    show Go p e below _ T0 (mkF m 21 #[.val (.int p1), .val (.int ((p1 &&& (2147483647 : Int32)) % (6 : Int32))), .unset, .unset] [])
    refine Go.via (fun _ k => XS.iloadN X0.here hx rfl (hb hby at_21) rfl  k) ?_
    show Go p e below _ T0 (mkF m 22 #[.val (.int p1), .val (.int ((p1 &&& (2147483647 : Int32)) % (6 : Int32))), .unset, .unset] [(.int ((p1 &&& (2147483647 : Int32)) % (6 : Int32)))])
    refine Go.via (fun _ k => XS.iconst X0.here hx rfl (hb hby at_22) k) ?_
    show Go p e below _ T0 (mkF m 23 #[.val (.int p1), .val (.int ((p1 &&& (2147483647 : Int32)) % (6 : Int32))), .unset, .unset] [(.int (1 : Int32)), (.int ((p1 &&& (2147483647 : Int32)) % (6 : Int32)))])
    by_cases hc23 : ((p1 &&& (2147483647 : Int32)) % (6 : Int32)) = (1 : Int32)
    · skip
      refine Go.via (fun _ k => XS.icmpNo X0.here hx rfl (hb hby at_23) rfl (teq hc23).2 k) ?_
      show Go p e below _ T0 (mkF m 26 #[.val (.int p1), .val (.int ((p1 &&& (2147483647 : Int32)) % (6 : Int32))), .unset, .unset] [])
      obtain ⟨T3, X3, e3, st3⟩ := getS X0 hx hZ hown (host := "") (hw _ (List.mem_of_getElem? (i := 14) rfl)) Via.refl e0 S_ANDALSO (g := (mkF m 26 #[.val (.int p1), .val (.int ((p1 &&& (2147483647 : Int32)) % (6 : Int32))), .unset, .unset] [])) rfl (hb hby at_26)
      refine Go.via (fun _ k => st3 _ k) ?_
      show Go p e below _ T3 (mkF m 29 #[.val (.int p1), .val (.int ((p1 &&& (2147483647 : Int32)) % (6 : Int32))), .unset, .unset] [(.ref a_ANDALSO)])
      refine Go.via (fun _ k => XS.astoreN X3.here hx rfl (hb hby at_29) rfl (by rfl) (l' := #[.val (.int p1), .val (.int ((p1 &&& (2147483647 : Int32)) % (6 : Int32))), .val (.ref a_ANDALSO), .unset]) rfl k) ?_
      show Go p e below _ T3 (mkF m 30 #[.val (.int p1), .val (.int ((p1 &&& (2147483647 : Int32)) % (6 : Int32))), .val (.ref a_ANDALSO), .unset] [])
      refine Go.via (fun _ k => XS.iconst X3.here hx rfl (hb hby at_30) k) ?_
      show Go p e below _ T3 (mkF m 31 #[.val (.int p1), .val (.int ((p1 &&& (2147483647 : Int32)) % (6 : Int32))), .val (.ref a_ANDALSO), .unset] [(.int (1 : Int32))])
      refine Go.via (fun _ k => XS.istoreN X3.here hx rfl (hb hby at_31) rfl (l' := #[.val (.int p1), .val (.int ((p1 &&& (2147483647 : Int32)) % (6 : Int32))), .val (.ref a_ANDALSO), .val (.int (1 : Int32))]) rfl k) ?_
      show Go p e below _ T3 (mkF m 32 #[.val (.int p1), .val (.int ((p1 &&& (2147483647 : Int32)) % (6 : Int32))), .val (.ref a_ANDALSO), .val (.int (1 : Int32))] [])
      refine Go.via (fun _ k => XS.goto X3.here hx rfl (pc0 := 32) (pc' := 83) rfl (hb hby at_32) (by decide) (by decide) k) ?_
      show Go p e below _ T3 (mkF m 83 #[.val (.int p1), .val (.int ((p1 &&& (2147483647 : Int32)) % (6 : Int32))), .val (.ref a_ANDALSO), .val (.int (1 : Int32))] [])
      refine Go.via (fun _ k => XS.aloadN X3.here hx rfl (hb hby at_83) rfl (by rfl) k) ?_
      show Go p e below _ T3 (mkF m 84 #[.val (.int p1), .val (.int ((p1 &&& (2147483647 : Int32)) % (6 : Int32))), .val (.ref a_ANDALSO), .val (.int (1 : Int32))] [(.ref a_ANDALSO)])
      obtain ⟨v4, T4, L4, X4, ⟨rfl, Nq4, eq4⟩, st4⟩ := Go.callV X3 hx hZ hown e3 (hw _ (List.mem_of_getElem? (i := 4) rfl)) (hw _ (List.mem_of_getElem? (i := 5) rfl)) (hw _ (List.mem_of_getElem? (i := 7) rfl)) (hw _ (List.mem_of_getElem? (i := 6) rfl)) (hw _ (List.mem_of_getElem? (i := 2) rfl)) (hw _ (List.mem_of_getElem? (i := 8) rfl)) (by decide) E_ANDALSO (own_ch l Z a0 hw [] a_ANDALSO a_COMPARISON h0 n0 Z0 S_COMPARISON) (pc := 84) (Ls := #[.val (.int p1), .val (.int ((p1 &&& (2147483647 : Int32)) % (6 : Int32))), .val (.ref a_ANDALSO), .val (.int (1 : Int32))]) (argsL := []) (rest := []) own_pd0 rfl rfl (by rw [hml]; rfl) (hb hby at_84) (W := 0) (Nat.le_of_eq rfl) (by decide) (by decide) (by decide) (by decide)
      refine st4 ?_
      have N4 := Fr.app N0 Nq4
      show Go p e below _ T4 (mkF m 87 #[.val (.int p1), .val (.int ((p1 &&& (2147483647 : Int32)) % (6 : Int32))), .val (.ref a_ANDALSO), .val (.int (1 : Int32))] [(.int (i01 (¬ (.ref a_ANDALSO : Value) = .ref a_COMPARISON)))])
      refine Go.via (fun _ k => XS.iloadN X4.here hx rfl (hb hby at_87) rfl  k) ?_
      show Go p e below _ T4 (mkF m 88 #[.val (.int p1), .val (.int ((p1 &&& (2147483647 : Int32)) % (6 : Int32))), .val (.ref a_ANDALSO), .val (.int (1 : Int32))] [(.int (1 : Int32)), (.int (i01 (¬ (.ref a_ANDALSO : Value) = .ref a_COMPARISON)))])
      have hc88 : (i01 (¬ (.ref a_ANDALSO : Value) = .ref a_COMPARISON)) = (1 : Int32) := i01_t (fun q => ne_ANDALSO (Value.ref.inj q))
      refine Go.via (fun _ k => XS.icmpNo X4.here hx rfl (hb hby at_88) rfl (teq hc88).2 k) ?_
      show Go p e below _ T4 (mkF m 91 #[.val (.int p1), .val (.int ((p1 &&& (2147483647 : Int32)) % (6 : Int32))), .val (.ref a_ANDALSO), .val (.int (1 : Int32))] [])
      refine Go.via (fun _ k => XS.iconst X4.here hx rfl (hb hby at_91) k) ?_
      show Go p e below _ T4 (mkF m 92 #[.val (.int p1), .val (.int ((p1 &&& (2147483647 : Int32)) % (6 : Int32))), .val (.ref a_ANDALSO), .val (.int (1 : Int32))] [(.int (1 : Int32))])
      refine Go.via (fun _ k => XS.goto X4.here hx rfl (pc0 := 92) (pc' := 96) rfl (hb hby at_92) (by decide) (by decide) k) ?_
      show Go p e below _ T4 (mkF m 96 #[.val (.int p1), .val (.int ((p1 &&& (2147483647 : Int32)) % (6 : Int32))), .val (.ref a_ANDALSO), .val (.int (1 : Int32))] [(.int (1 : Int32))])
      refine Go.retN X4 hx hk (hret : meth.sig.returnType = some .boolean) (t := .boolean) (by simp) (hb hby at_96) (by decide) (by decide) ?_
      exact ⟨rfl, N4⟩
    · skip
      refine Go.via (fun _ k => XS.icmpYes X0.here hx rfl (pc0 := 23) (pc' := 35) rfl (hb hby at_23) rfl (feq hc23).2 (by decide) (by decide) k) ?_
      show Go p e below _ T0 (mkF m 35 #[.val (.int p1), .val (.int ((p1 &&& (2147483647 : Int32)) % (6 : Int32))), .unset, .unset] [])
      refine Go.via (fun _ k => XS.iloadN X0.here hx rfl (hb hby at_35) rfl  k) ?_
      show Go p e below _ T0 (mkF m 36 #[.val (.int p1), .val (.int ((p1 &&& (2147483647 : Int32)) % (6 : Int32))), .unset, .unset] [(.int ((p1 &&& (2147483647 : Int32)) % (6 : Int32)))])
      refine Go.via (fun _ k => XS.iconst X0.here hx rfl (hb hby at_36) k) ?_
      show Go p e below _ T0 (mkF m 37 #[.val (.int p1), .val (.int ((p1 &&& (2147483647 : Int32)) % (6 : Int32))), .unset, .unset] [(.int (2 : Int32)), (.int ((p1 &&& (2147483647 : Int32)) % (6 : Int32)))])
      by_cases hc37 : ((p1 &&& (2147483647 : Int32)) % (6 : Int32)) = (2 : Int32)
      · skip
        refine Go.via (fun _ k => XS.icmpNo X0.here hx rfl (hb hby at_37) rfl (teq hc37).2 k) ?_
        show Go p e below _ T0 (mkF m 40 #[.val (.int p1), .val (.int ((p1 &&& (2147483647 : Int32)) % (6 : Int32))), .unset, .unset] [])
        obtain ⟨T5, X5, e5, st5⟩ := getS X0 hx hZ hown (host := "") (hw _ (List.mem_of_getElem? (i := 13) rfl)) Via.refl e0 S_COMPARISON (g := (mkF m 40 #[.val (.int p1), .val (.int ((p1 &&& (2147483647 : Int32)) % (6 : Int32))), .unset, .unset] [])) rfl (hb hby at_40)
        refine Go.via (fun _ k => st5 _ k) ?_
        show Go p e below _ T5 (mkF m 43 #[.val (.int p1), .val (.int ((p1 &&& (2147483647 : Int32)) % (6 : Int32))), .unset, .unset] [(.ref a_COMPARISON)])
        refine Go.via (fun _ k => XS.astoreN X5.here hx rfl (hb hby at_43) rfl (by rfl) (l' := #[.val (.int p1), .val (.int ((p1 &&& (2147483647 : Int32)) % (6 : Int32))), .val (.ref a_COMPARISON), .unset]) rfl k) ?_
        show Go p e below _ T5 (mkF m 44 #[.val (.int p1), .val (.int ((p1 &&& (2147483647 : Int32)) % (6 : Int32))), .val (.ref a_COMPARISON), .unset] [])
        refine Go.via (fun _ k => XS.iconst X5.here hx rfl (hb hby at_44) k) ?_
        show Go p e below _ T5 (mkF m 45 #[.val (.int p1), .val (.int ((p1 &&& (2147483647 : Int32)) % (6 : Int32))), .val (.ref a_COMPARISON), .unset] [(.int (0 : Int32))])
        refine Go.via (fun _ k => XS.istoreN X5.here hx rfl (hb hby at_45) rfl (l' := #[.val (.int p1), .val (.int ((p1 &&& (2147483647 : Int32)) % (6 : Int32))), .val (.ref a_COMPARISON), .val (.int (0 : Int32))]) rfl k) ?_
        show Go p e below _ T5 (mkF m 46 #[.val (.int p1), .val (.int ((p1 &&& (2147483647 : Int32)) % (6 : Int32))), .val (.ref a_COMPARISON), .val (.int (0 : Int32))] [])
        refine Go.via (fun _ k => XS.goto X5.here hx rfl (pc0 := 46) (pc' := 83) rfl (hb hby at_46) (by decide) (by decide) k) ?_
        show Go p e below _ T5 (mkF m 83 #[.val (.int p1), .val (.int ((p1 &&& (2147483647 : Int32)) % (6 : Int32))), .val (.ref a_COMPARISON), .val (.int (0 : Int32))] [])
        refine Go.via (fun _ k => XS.aloadN X5.here hx rfl (hb hby at_83) rfl (by rfl) k) ?_
        show Go p e below _ T5 (mkF m 84 #[.val (.int p1), .val (.int ((p1 &&& (2147483647 : Int32)) % (6 : Int32))), .val (.ref a_COMPARISON), .val (.int (0 : Int32))] [(.ref a_COMPARISON)])
        obtain ⟨v6, T6, L6, X6, ⟨rfl, Nq6, eq6⟩, st6⟩ := Go.callV X5 hx hZ hown e5 (hw _ (List.mem_of_getElem? (i := 4) rfl)) (hw _ (List.mem_of_getElem? (i := 5) rfl)) (hw _ (List.mem_of_getElem? (i := 7) rfl)) (hw _ (List.mem_of_getElem? (i := 6) rfl)) (hw _ (List.mem_of_getElem? (i := 2) rfl)) (hw _ (List.mem_of_getElem? (i := 8) rfl)) (by decide) E_COMPARISON (own_ch l Z a0 hw [] a_COMPARISON a_COMPARISON h0 n0 Z0 S_COMPARISON) (pc := 84) (Ls := #[.val (.int p1), .val (.int ((p1 &&& (2147483647 : Int32)) % (6 : Int32))), .val (.ref a_COMPARISON), .val (.int (0 : Int32))]) (argsL := []) (rest := []) own_pd0 rfl rfl (by rw [hml]; rfl) (hb hby at_84) (W := 0) (Nat.le_of_eq rfl) (by decide) (by decide) (by decide) (by decide)
        refine st6 ?_
        have N6 := Fr.app N0 Nq6
        show Go p e below _ T6 (mkF m 87 #[.val (.int p1), .val (.int ((p1 &&& (2147483647 : Int32)) % (6 : Int32))), .val (.ref a_COMPARISON), .val (.int (0 : Int32))] [(.int (i01 (¬ (.ref a_COMPARISON : Value) = .ref a_COMPARISON)))])
        refine Go.via (fun _ k => XS.iloadN X6.here hx rfl (hb hby at_87) rfl  k) ?_
        show Go p e below _ T6 (mkF m 88 #[.val (.int p1), .val (.int ((p1 &&& (2147483647 : Int32)) % (6 : Int32))), .val (.ref a_COMPARISON), .val (.int (0 : Int32))] [(.int (0 : Int32)), (.int (i01 (¬ (.ref a_COMPARISON : Value) = .ref a_COMPARISON)))])
        have hc88 : (i01 (¬ (.ref a_COMPARISON : Value) = .ref a_COMPARISON)) = (0 : Int32) := i01_f (not_not_intro rfl)
        refine Go.via (fun _ k => XS.icmpNo X6.here hx rfl (hb hby at_88) rfl (teq hc88).2 k) ?_
        show Go p e below _ T6 (mkF m 91 #[.val (.int p1), .val (.int ((p1 &&& (2147483647 : Int32)) % (6 : Int32))), .val (.ref a_COMPARISON), .val (.int (0 : Int32))] [])
        refine Go.via (fun _ k => XS.iconst X6.here hx rfl (hb hby at_91) k) ?_
        show Go p e below _ T6 (mkF m 92 #[.val (.int p1), .val (.int ((p1 &&& (2147483647 : Int32)) % (6 : Int32))), .val (.ref a_COMPARISON), .val (.int (0 : Int32))] [(.int (1 : Int32))])
        refine Go.via (fun _ k => XS.goto X6.here hx rfl (pc0 := 92) (pc' := 96) rfl (hb hby at_92) (by decide) (by decide) k) ?_
        show Go p e below _ T6 (mkF m 96 #[.val (.int p1), .val (.int ((p1 &&& (2147483647 : Int32)) % (6 : Int32))), .val (.ref a_COMPARISON), .val (.int (0 : Int32))] [(.int (1 : Int32))])
        refine Go.retN X6 hx hk (hret : meth.sig.returnType = some .boolean) (t := .boolean) (by simp) (hb hby at_96) (by decide) (by decide) ?_
        exact ⟨rfl, N6⟩
      · skip
        refine Go.via (fun _ k => XS.icmpYes X0.here hx rfl (pc0 := 37) (pc' := 49) rfl (hb hby at_37) rfl (feq hc37).2 (by decide) (by decide) k) ?_
        show Go p e below _ T0 (mkF m 49 #[.val (.int p1), .val (.int ((p1 &&& (2147483647 : Int32)) % (6 : Int32))), .unset, .unset] [])
        refine Go.via (fun _ k => XS.iloadN X0.here hx rfl (hb hby at_49) rfl  k) ?_
        show Go p e below _ T0 (mkF m 50 #[.val (.int p1), .val (.int ((p1 &&& (2147483647 : Int32)) % (6 : Int32))), .unset, .unset] [(.int ((p1 &&& (2147483647 : Int32)) % (6 : Int32)))])
        refine Go.via (fun _ k => XS.iconst X0.here hx rfl (hb hby at_50) k) ?_
        show Go p e below _ T0 (mkF m 51 #[.val (.int p1), .val (.int ((p1 &&& (2147483647 : Int32)) % (6 : Int32))), .unset, .unset] [(.int (3 : Int32)), (.int ((p1 &&& (2147483647 : Int32)) % (6 : Int32)))])
        by_cases hc51 : ((p1 &&& (2147483647 : Int32)) % (6 : Int32)) = (3 : Int32)
        · skip
          refine Go.via (fun _ k => XS.icmpNo X0.here hx rfl (hb hby at_51) rfl (teq hc51).2 k) ?_
          show Go p e below _ T0 (mkF m 54 #[.val (.int p1), .val (.int ((p1 &&& (2147483647 : Int32)) % (6 : Int32))), .unset, .unset] [])
          obtain ⟨T7, X7, e7, st7⟩ := getS X0 hx hZ hown (host := "") (hw _ (List.mem_of_getElem? (i := 11) rfl)) Via.refl e0 S_CONS (g := (mkF m 54 #[.val (.int p1), .val (.int ((p1 &&& (2147483647 : Int32)) % (6 : Int32))), .unset, .unset] [])) rfl (hb hby at_54)
          refine Go.via (fun _ k => st7 _ k) ?_
          show Go p e below _ T7 (mkF m 57 #[.val (.int p1), .val (.int ((p1 &&& (2147483647 : Int32)) % (6 : Int32))), .unset, .unset] [(.ref a_CONS)])
          refine Go.via (fun _ k => XS.astoreN X7.here hx rfl (hb hby at_57) rfl (by rfl) (l' := #[.val (.int p1), .val (.int ((p1 &&& (2147483647 : Int32)) % (6 : Int32))), .val (.ref a_CONS), .unset]) rfl k) ?_
          show Go p e below _ T7 (mkF m 58 #[.val (.int p1), .val (.int ((p1 &&& (2147483647 : Int32)) % (6 : Int32))), .val (.ref a_CONS), .unset] [])
          refine Go.via (fun _ k => XS.iconst X7.here hx rfl (hb hby at_58) k) ?_
          show Go p e below _ T7 (mkF m 59 #[.val (.int p1), .val (.int ((p1 &&& (2147483647 : Int32)) % (6 : Int32))), .val (.ref a_CONS), .unset] [(.int (1 : Int32))])
          refine Go.via (fun _ k => XS.istoreN X7.here hx rfl (hb hby at_59) rfl (l' := #[.val (.int p1), .val (.int ((p1 &&& (2147483647 : Int32)) % (6 : Int32))), .val (.ref a_CONS), .val (.int (1 : Int32))]) rfl k) ?_
          show Go p e below _ T7 (mkF m 60 #[.val (.int p1), .val (.int ((p1 &&& (2147483647 : Int32)) % (6 : Int32))), .val (.ref a_CONS), .val (.int (1 : Int32))] [])
          refine Go.via (fun _ k => XS.goto X7.here hx rfl (pc0 := 60) (pc' := 83) rfl (hb hby at_60) (by decide) (by decide) k) ?_
          show Go p e below _ T7 (mkF m 83 #[.val (.int p1), .val (.int ((p1 &&& (2147483647 : Int32)) % (6 : Int32))), .val (.ref a_CONS), .val (.int (1 : Int32))] [])
          refine Go.via (fun _ k => XS.aloadN X7.here hx rfl (hb hby at_83) rfl (by rfl) k) ?_
          show Go p e below _ T7 (mkF m 84 #[.val (.int p1), .val (.int ((p1 &&& (2147483647 : Int32)) % (6 : Int32))), .val (.ref a_CONS), .val (.int (1 : Int32))] [(.ref a_CONS)])
          obtain ⟨v8, T8, L8, X8, ⟨rfl, Nq8, eq8⟩, st8⟩ := Go.callV X7 hx hZ hown e7 (hw _ (List.mem_of_getElem? (i := 4) rfl)) (hw _ (List.mem_of_getElem? (i := 5) rfl)) (hw _ (List.mem_of_getElem? (i := 7) rfl)) (hw _ (List.mem_of_getElem? (i := 6) rfl)) (hw _ (List.mem_of_getElem? (i := 2) rfl)) (hw _ (List.mem_of_getElem? (i := 8) rfl)) (by decide) E_CONS (own_ch l Z a0 hw [] a_CONS a_COMPARISON h0 n0 Z0 S_COMPARISON) (pc := 84) (Ls := #[.val (.int p1), .val (.int ((p1 &&& (2147483647 : Int32)) % (6 : Int32))), .val (.ref a_CONS), .val (.int (1 : Int32))]) (argsL := []) (rest := []) own_pd0 rfl rfl (by rw [hml]; rfl) (hb hby at_84) (W := 0) (Nat.le_of_eq rfl) (by decide) (by decide) (by decide) (by decide)
          refine st8 ?_
          have N8 := Fr.app N0 Nq8
          show Go p e below _ T8 (mkF m 87 #[.val (.int p1), .val (.int ((p1 &&& (2147483647 : Int32)) % (6 : Int32))), .val (.ref a_CONS), .val (.int (1 : Int32))] [(.int (i01 (¬ (.ref a_CONS : Value) = .ref a_COMPARISON)))])
          refine Go.via (fun _ k => XS.iloadN X8.here hx rfl (hb hby at_87) rfl  k) ?_
          show Go p e below _ T8 (mkF m 88 #[.val (.int p1), .val (.int ((p1 &&& (2147483647 : Int32)) % (6 : Int32))), .val (.ref a_CONS), .val (.int (1 : Int32))] [(.int (1 : Int32)), (.int (i01 (¬ (.ref a_CONS : Value) = .ref a_COMPARISON)))])
          have hc88 : (i01 (¬ (.ref a_CONS : Value) = .ref a_COMPARISON)) = (1 : Int32) := i01_t (fun q => ne_CONS (Value.ref.inj q))
          refine Go.via (fun _ k => XS.icmpNo X8.here hx rfl (hb hby at_88) rfl (teq hc88).2 k) ?_
          show Go p e below _ T8 (mkF m 91 #[.val (.int p1), .val (.int ((p1 &&& (2147483647 : Int32)) % (6 : Int32))), .val (.ref a_CONS), .val (.int (1 : Int32))] [])
          refine Go.via (fun _ k => XS.iconst X8.here hx rfl (hb hby at_91) k) ?_
          show Go p e below _ T8 (mkF m 92 #[.val (.int p1), .val (.int ((p1 &&& (2147483647 : Int32)) % (6 : Int32))), .val (.ref a_CONS), .val (.int (1 : Int32))] [(.int (1 : Int32))])
          refine Go.via (fun _ k => XS.goto X8.here hx rfl (pc0 := 92) (pc' := 96) rfl (hb hby at_92) (by decide) (by decide) k) ?_
          show Go p e below _ T8 (mkF m 96 #[.val (.int p1), .val (.int ((p1 &&& (2147483647 : Int32)) % (6 : Int32))), .val (.ref a_CONS), .val (.int (1 : Int32))] [(.int (1 : Int32))])
          refine Go.retN X8 hx hk (hret : meth.sig.returnType = some .boolean) (t := .boolean) (by simp) (hb hby at_96) (by decide) (by decide) ?_
          exact ⟨rfl, N8⟩
        · skip
          refine Go.via (fun _ k => XS.icmpYes X0.here hx rfl (pc0 := 51) (pc' := 63) rfl (hb hby at_51) rfl (feq hc51).2 (by decide) (by decide) k) ?_
          show Go p e below _ T0 (mkF m 63 #[.val (.int p1), .val (.int ((p1 &&& (2147483647 : Int32)) % (6 : Int32))), .unset, .unset] [])
          refine Go.via (fun _ k => XS.iloadN X0.here hx rfl (hb hby at_63) rfl  k) ?_
          show Go p e below _ T0 (mkF m 64 #[.val (.int p1), .val (.int ((p1 &&& (2147483647 : Int32)) % (6 : Int32))), .unset, .unset] [(.int ((p1 &&& (2147483647 : Int32)) % (6 : Int32)))])
          refine Go.via (fun _ k => XS.iconst X0.here hx rfl (hb hby at_64) k) ?_
          show Go p e below _ T0 (mkF m 65 #[.val (.int p1), .val (.int ((p1 &&& (2147483647 : Int32)) % (6 : Int32))), .unset, .unset] [(.int (4 : Int32)), (.int ((p1 &&& (2147483647 : Int32)) % (6 : Int32)))])
          by_cases hc65 : ((p1 &&& (2147483647 : Int32)) % (6 : Int32)) = (4 : Int32)
          · skip
            refine Go.via (fun _ k => XS.icmpNo X0.here hx rfl (hb hby at_65) rfl (teq hc65).2 k) ?_
            show Go p e below _ T0 (mkF m 68 #[.val (.int p1), .val (.int ((p1 &&& (2147483647 : Int32)) % (6 : Int32))), .unset, .unset] [])
            obtain ⟨T9, X9, e9, st9⟩ := getS X0 hx hZ hown (host := "") (hw _ (List.mem_of_getElem? (i := 18) rfl)) Via.refl e0 S_ADDITIVE (g := (mkF m 68 #[.val (.int p1), .val (.int ((p1 &&& (2147483647 : Int32)) % (6 : Int32))), .unset, .unset] [])) rfl (hb hby at_68)
            refine Go.via (fun _ k => st9 _ k) ?_
            show Go p e below _ T9 (mkF m 71 #[.val (.int p1), .val (.int ((p1 &&& (2147483647 : Int32)) % (6 : Int32))), .unset, .unset] [(.ref a_ADDITIVE)])
            refine Go.via (fun _ k => XS.astoreN X9.here hx rfl (hb hby at_71) rfl (by rfl) (l' := #[.val (.int p1), .val (.int ((p1 &&& (2147483647 : Int32)) % (6 : Int32))), .val (.ref a_ADDITIVE), .unset]) rfl k) ?_
            show Go p e below _ T9 (mkF m 72 #[.val (.int p1), .val (.int ((p1 &&& (2147483647 : Int32)) % (6 : Int32))), .val (.ref a_ADDITIVE), .unset] [])
            refine Go.via (fun _ k => XS.iconst X9.here hx rfl (hb hby at_72) k) ?_
            show Go p e below _ T9 (mkF m 73 #[.val (.int p1), .val (.int ((p1 &&& (2147483647 : Int32)) % (6 : Int32))), .val (.ref a_ADDITIVE), .unset] [(.int (1 : Int32))])
            refine Go.via (fun _ k => XS.istoreN X9.here hx rfl (hb hby at_73) rfl (l' := #[.val (.int p1), .val (.int ((p1 &&& (2147483647 : Int32)) % (6 : Int32))), .val (.ref a_ADDITIVE), .val (.int (1 : Int32))]) rfl k) ?_
            show Go p e below _ T9 (mkF m 74 #[.val (.int p1), .val (.int ((p1 &&& (2147483647 : Int32)) % (6 : Int32))), .val (.ref a_ADDITIVE), .val (.int (1 : Int32))] [])
            refine Go.via (fun _ k => XS.goto X9.here hx rfl (pc0 := 74) (pc' := 83) rfl (hb hby at_74) (by decide) (by decide) k) ?_
            show Go p e below _ T9 (mkF m 83 #[.val (.int p1), .val (.int ((p1 &&& (2147483647 : Int32)) % (6 : Int32))), .val (.ref a_ADDITIVE), .val (.int (1 : Int32))] [])
            refine Go.via (fun _ k => XS.aloadN X9.here hx rfl (hb hby at_83) rfl (by rfl) k) ?_
            show Go p e below _ T9 (mkF m 84 #[.val (.int p1), .val (.int ((p1 &&& (2147483647 : Int32)) % (6 : Int32))), .val (.ref a_ADDITIVE), .val (.int (1 : Int32))] [(.ref a_ADDITIVE)])
            obtain ⟨v10, T10, L10, X10, ⟨rfl, Nq10, eq10⟩, st10⟩ := Go.callV X9 hx hZ hown e9 (hw _ (List.mem_of_getElem? (i := 4) rfl)) (hw _ (List.mem_of_getElem? (i := 5) rfl)) (hw _ (List.mem_of_getElem? (i := 7) rfl)) (hw _ (List.mem_of_getElem? (i := 6) rfl)) (hw _ (List.mem_of_getElem? (i := 2) rfl)) (hw _ (List.mem_of_getElem? (i := 8) rfl)) (by decide) E_ADDITIVE (own_ch l Z a0 hw [] a_ADDITIVE a_COMPARISON h0 n0 Z0 S_COMPARISON) (pc := 84) (Ls := #[.val (.int p1), .val (.int ((p1 &&& (2147483647 : Int32)) % (6 : Int32))), .val (.ref a_ADDITIVE), .val (.int (1 : Int32))]) (argsL := []) (rest := []) own_pd0 rfl rfl (by rw [hml]; rfl) (hb hby at_84) (W := 0) (Nat.le_of_eq rfl) (by decide) (by decide) (by decide) (by decide)
            refine st10 ?_
            have N10 := Fr.app N0 Nq10
            show Go p e below _ T10 (mkF m 87 #[.val (.int p1), .val (.int ((p1 &&& (2147483647 : Int32)) % (6 : Int32))), .val (.ref a_ADDITIVE), .val (.int (1 : Int32))] [(.int (i01 (¬ (.ref a_ADDITIVE : Value) = .ref a_COMPARISON)))])
            refine Go.via (fun _ k => XS.iloadN X10.here hx rfl (hb hby at_87) rfl  k) ?_
            show Go p e below _ T10 (mkF m 88 #[.val (.int p1), .val (.int ((p1 &&& (2147483647 : Int32)) % (6 : Int32))), .val (.ref a_ADDITIVE), .val (.int (1 : Int32))] [(.int (1 : Int32)), (.int (i01 (¬ (.ref a_ADDITIVE : Value) = .ref a_COMPARISON)))])
            have hc88 : (i01 (¬ (.ref a_ADDITIVE : Value) = .ref a_COMPARISON)) = (1 : Int32) := i01_t (fun q => ne_ADDITIVE (Value.ref.inj q))
            refine Go.via (fun _ k => XS.icmpNo X10.here hx rfl (hb hby at_88) rfl (teq hc88).2 k) ?_
            show Go p e below _ T10 (mkF m 91 #[.val (.int p1), .val (.int ((p1 &&& (2147483647 : Int32)) % (6 : Int32))), .val (.ref a_ADDITIVE), .val (.int (1 : Int32))] [])
            refine Go.via (fun _ k => XS.iconst X10.here hx rfl (hb hby at_91) k) ?_
            show Go p e below _ T10 (mkF m 92 #[.val (.int p1), .val (.int ((p1 &&& (2147483647 : Int32)) % (6 : Int32))), .val (.ref a_ADDITIVE), .val (.int (1 : Int32))] [(.int (1 : Int32))])
            refine Go.via (fun _ k => XS.goto X10.here hx rfl (pc0 := 92) (pc' := 96) rfl (hb hby at_92) (by decide) (by decide) k) ?_
            show Go p e below _ T10 (mkF m 96 #[.val (.int p1), .val (.int ((p1 &&& (2147483647 : Int32)) % (6 : Int32))), .val (.ref a_ADDITIVE), .val (.int (1 : Int32))] [(.int (1 : Int32))])
            refine Go.retN X10 hx hk (hret : meth.sig.returnType = some .boolean) (t := .boolean) (by simp) (hb hby at_96) (by decide) (by decide) ?_
            exact ⟨rfl, N10⟩
          · skip
            refine Go.via (fun _ k => XS.icmpYes X0.here hx rfl (pc0 := 65) (pc' := 77) rfl (hb hby at_65) rfl (feq hc65).2 (by decide) (by decide) k) ?_
            show Go p e below _ T0 (mkF m 77 #[.val (.int p1), .val (.int ((p1 &&& (2147483647 : Int32)) % (6 : Int32))), .unset, .unset] [])
            obtain ⟨T11, X11, e11, st11⟩ := getS X0 hx hZ hown (host := "") (hw _ (List.mem_of_getElem? (i := 16) rfl)) Via.refl e0 S_MULTIPLICATIVE (g := (mkF m 77 #[.val (.int p1), .val (.int ((p1 &&& (2147483647 : Int32)) % (6 : Int32))), .unset, .unset] [])) rfl (hb hby at_77)
            refine Go.via (fun _ k => st11 _ k) ?_
            show Go p e below _ T11 (mkF m 80 #[.val (.int p1), .val (.int ((p1 &&& (2147483647 : Int32)) % (6 : Int32))), .unset, .unset] [(.ref a_MULTIPLICATIVE)])
            refine Go.via (fun _ k => XS.astoreN X11.here hx rfl (hb hby at_80) rfl (by rfl) (l' := #[.val (.int p1), .val (.int ((p1 &&& (2147483647 : Int32)) % (6 : Int32))), .val (.ref a_MULTIPLICATIVE), .unset]) rfl k) ?_
            show Go p e below _ T11 (mkF m 81 #[.val (.int p1), .val (.int ((p1 &&& (2147483647 : Int32)) % (6 : Int32))), .val (.ref a_MULTIPLICATIVE), .unset] [])
            refine Go.via (fun _ k => XS.iconst X11.here hx rfl (hb hby at_81) k) ?_
            show Go p e below _ T11 (mkF m 82 #[.val (.int p1), .val (.int ((p1 &&& (2147483647 : Int32)) % (6 : Int32))), .val (.ref a_MULTIPLICATIVE), .unset] [(.int (1 : Int32))])
            refine Go.via (fun _ k => XS.istoreN X11.here hx rfl (hb hby at_82) rfl (l' := #[.val (.int p1), .val (.int ((p1 &&& (2147483647 : Int32)) % (6 : Int32))), .val (.ref a_MULTIPLICATIVE), .val (.int (1 : Int32))]) rfl k) ?_
            show Go p e below _ T11 (mkF m 83 #[.val (.int p1), .val (.int ((p1 &&& (2147483647 : Int32)) % (6 : Int32))), .val (.ref a_MULTIPLICATIVE), .val (.int (1 : Int32))] [])
            refine Go.via (fun _ k => XS.aloadN X11.here hx rfl (hb hby at_83) rfl (by rfl) k) ?_
            show Go p e below _ T11 (mkF m 84 #[.val (.int p1), .val (.int ((p1 &&& (2147483647 : Int32)) % (6 : Int32))), .val (.ref a_MULTIPLICATIVE), .val (.int (1 : Int32))] [(.ref a_MULTIPLICATIVE)])
            obtain ⟨v12, T12, L12, X12, ⟨rfl, Nq12, eq12⟩, st12⟩ := Go.callV X11 hx hZ hown e11 (hw _ (List.mem_of_getElem? (i := 4) rfl)) (hw _ (List.mem_of_getElem? (i := 5) rfl)) (hw _ (List.mem_of_getElem? (i := 7) rfl)) (hw _ (List.mem_of_getElem? (i := 6) rfl)) (hw _ (List.mem_of_getElem? (i := 2) rfl)) (hw _ (List.mem_of_getElem? (i := 8) rfl)) (by decide) E_MULTIPLICATIVE (own_ch l Z a0 hw [] a_MULTIPLICATIVE a_COMPARISON h0 n0 Z0 S_COMPARISON) (pc := 84) (Ls := #[.val (.int p1), .val (.int ((p1 &&& (2147483647 : Int32)) % (6 : Int32))), .val (.ref a_MULTIPLICATIVE), .val (.int (1 : Int32))]) (argsL := []) (rest := []) own_pd0 rfl rfl (by rw [hml]; rfl) (hb hby at_84) (W := 0) (Nat.le_of_eq rfl) (by decide) (by decide) (by decide) (by decide)
            refine st12 ?_
            have N12 := Fr.app N0 Nq12
            show Go p e below _ T12 (mkF m 87 #[.val (.int p1), .val (.int ((p1 &&& (2147483647 : Int32)) % (6 : Int32))), .val (.ref a_MULTIPLICATIVE), .val (.int (1 : Int32))] [(.int (i01 (¬ (.ref a_MULTIPLICATIVE : Value) = .ref a_COMPARISON)))])
            refine Go.via (fun _ k => XS.iloadN X12.here hx rfl (hb hby at_87) rfl  k) ?_
            show Go p e below _ T12 (mkF m 88 #[.val (.int p1), .val (.int ((p1 &&& (2147483647 : Int32)) % (6 : Int32))), .val (.ref a_MULTIPLICATIVE), .val (.int (1 : Int32))] [(.int (1 : Int32)), (.int (i01 (¬ (.ref a_MULTIPLICATIVE : Value) = .ref a_COMPARISON)))])
            have hc88 : (i01 (¬ (.ref a_MULTIPLICATIVE : Value) = .ref a_COMPARISON)) = (1 : Int32) := i01_t (fun q => ne_MULTIPLICATIVE (Value.ref.inj q))
            refine Go.via (fun _ k => XS.icmpNo X12.here hx rfl (hb hby at_88) rfl (teq hc88).2 k) ?_
            show Go p e below _ T12 (mkF m 91 #[.val (.int p1), .val (.int ((p1 &&& (2147483647 : Int32)) % (6 : Int32))), .val (.ref a_MULTIPLICATIVE), .val (.int (1 : Int32))] [])
            refine Go.via (fun _ k => XS.iconst X12.here hx rfl (hb hby at_91) k) ?_
            show Go p e below _ T12 (mkF m 92 #[.val (.int p1), .val (.int ((p1 &&& (2147483647 : Int32)) % (6 : Int32))), .val (.ref a_MULTIPLICATIVE), .val (.int (1 : Int32))] [(.int (1 : Int32))])
            refine Go.via (fun _ k => XS.goto X12.here hx rfl (pc0 := 92) (pc' := 96) rfl (hb hby at_92) (by decide) (by decide) k) ?_
            show Go p e below _ T12 (mkF m 96 #[.val (.int p1), .val (.int ((p1 &&& (2147483647 : Int32)) % (6 : Int32))), .val (.ref a_MULTIPLICATIVE), .val (.int (1 : Int32))] [(.int (1 : Int32))])
            refine Go.retN X12 hx hk (hret : meth.sig.returnType = some .boolean) (t := .boolean) (by simp) (hb hby at_96) (by decide) (by decide) ?_
            exact ⟨rfl, N12⟩
set_option maxRecDepth 65536 in
set_option maxHeartbeats 40000000 in
theorem comes_1 {Post : Tables → Env → Array Value → State → Outcome → State → Prop} (hpost : ∀ tb e args s v u, (limb_1_1.after args s (.returned v) u = true ∧ limb_1_2.after args s (.returned v) u = true ∧ True) → FrameEnd s (.returned v) u (Jvm.fieldLocs frame_1_writes args s ++ Jvm.arrayLocs frame_1_arrays args s ++ Jvm.staticLocs frame_1_statics s) 0 0 → Post tb e args s (.returned v) u) :
    ArmFor flags0 classFile x code maxLocals ret World_1 tables_1 room_1 Calls_1 rest_1 Pre_1 Post := by
  intro l hfl _ _ p e ha hc hk s m args below hf hA hF happ hP
  obtain ⟨hcalls, hrest, hpre⟩ := hP
  obtain ⟨-, -, -, hnamed, -, -, -, hat⟩ := (Spec.applies_iff hf).mp happ
  obtain ⟨hg, hn⟩ := and_e (Cond.before_iff.mp (show (Jvm.Cond.and given_1 narrow_1).before args s = true from hpre))
  obtain ⟨hcnt, hg0⟩ := and_e hg
  obtain ⟨w0, rfl⟩ : ∃ w0 : Value, args = #[w0] := by
    have hs : args.size = 1 := by simpa [Cond.value, given_1] using hcnt
    obtain ⟨L⟩ := args
    match L, hs with
    | [w0], _ => exact ⟨w0, rfl⟩
  have hw := fun d (hd : d ∈ tables_1) => atoms_spec (ws := Jvm.Cond.code x code maxLocals ret :: tables_1) hat d (List.mem_cons_of_mem _ hd)
  have hfit : Fit s := fun {y c} hc i hi => by
    obtain ⟨ha, rfl⟩ := Array.getElem?_eq_some_iff.mp hc
    have q := List.all_eq_true.mp ((Array.all_eq_true_iff_forall_mem.mp hF) _ (Array.getElem_mem ha)) i (List.mem_range.mpr hi)
    simpa [Array.getElem?_eq_getElem hi] using q
  have hi0 := hg0
  obtain ⟨i0, hv0⟩ := is_v hi0
  obtain rfl : w0 = (.int i0) := Option.some.inj hv0
  obtain ⟨hn0, hr0⟩ := and_e hn
  obtain ⟨hn1, hr1⟩ := and_e hr0
  obtain ⟨hn2, hr2⟩ := and_e hr1
  obtain ⟨hn3, hr3⟩ := and_e hr2
  obtain ⟨hn4, hr4⟩ := and_e hr3
  obtain ⟨hn5, hr5⟩ := and_e hr4
  obtain ⟨hn6, hr6⟩ := and_e hr5
  obtain ⟨hn7, hr7⟩ := and_e hr6
  obtain ⟨hn8, hr8⟩ := and_e hr7
  obtain ⟨hn9, hr9⟩ := and_e hr8
  obtain ⟨hn10, hr10⟩ := and_e hr9
  have hn11 := hr10
  obtain ⟨a_ORELSE, ev_ORELSE⟩ := exa_v hn0
  have E_ORELSE := Exa.start ev_ORELSE hn0
  have S_ORELSE : Sta s s.heap "com/example/safe_packet_runtime/safepacketruntime/lang/BinaryOperator$Precedence" "ORELSE" "Lcom/example/safe_packet_runtime/safepacketruntime/lang/BinaryOperator$Precedence;" (.ref a_ORELSE) := Sta.start ev_ORELSE (Or.inr ⟨(hw _ (List.mem_of_getElem? (i := 2) rfl)), (hw _ (List.mem_of_getElem? (i := 3) rfl))⟩)
  obtain ⟨a_COMPARISON, ev_COMPARISON⟩ := exa_v hn1
  have E_COMPARISON := Exa.start ev_COMPARISON hn1
  have S_COMPARISON : Sta s s.heap "com/example/safe_packet_runtime/safepacketruntime/lang/BinaryOperator$Precedence" "COMPARISON" "Lcom/example/safe_packet_runtime/safepacketruntime/lang/BinaryOperator$Precedence;" (.ref a_COMPARISON) := Sta.start ev_COMPARISON (Or.inr ⟨(hw _ (List.mem_of_getElem? (i := 2) rfl)), (hw _ (List.mem_of_getElem? (i := 10) rfl))⟩)
  obtain ⟨a_CONS, ev_CONS⟩ := exa_v hn4
  have E_CONS := Exa.start ev_CONS hn4
  have S_CONS : Sta s s.heap "com/example/safe_packet_runtime/safepacketruntime/lang/BinaryOperator$Precedence" "CONS" "Lcom/example/safe_packet_runtime/safepacketruntime/lang/BinaryOperator$Precedence;" (.ref a_CONS) := Sta.start ev_CONS (Or.inr ⟨(hw _ (List.mem_of_getElem? (i := 2) rfl)), (hw _ (List.mem_of_getElem? (i := 12) rfl))⟩)
  obtain ⟨a_ANDALSO, ev_ANDALSO⟩ := exa_v hn6
  have E_ANDALSO := Exa.start ev_ANDALSO hn6
  have S_ANDALSO : Sta s s.heap "com/example/safe_packet_runtime/safepacketruntime/lang/BinaryOperator$Precedence" "ANDALSO" "Lcom/example/safe_packet_runtime/safepacketruntime/lang/BinaryOperator$Precedence;" (.ref a_ANDALSO) := Sta.start ev_ANDALSO (Or.inr ⟨(hw _ (List.mem_of_getElem? (i := 2) rfl)), (hw _ (List.mem_of_getElem? (i := 15) rfl))⟩)
  obtain ⟨a_MULTIPLICATIVE, ev_MULTIPLICATIVE⟩ := exa_v hn8
  have E_MULTIPLICATIVE := Exa.start ev_MULTIPLICATIVE hn8
  have S_MULTIPLICATIVE : Sta s s.heap "com/example/safe_packet_runtime/safepacketruntime/lang/BinaryOperator$Precedence" "MULTIPLICATIVE" "Lcom/example/safe_packet_runtime/safepacketruntime/lang/BinaryOperator$Precedence;" (.ref a_MULTIPLICATIVE) := Sta.start ev_MULTIPLICATIVE (Or.inr ⟨(hw _ (List.mem_of_getElem? (i := 2) rfl)), (hw _ (List.mem_of_getElem? (i := 17) rfl))⟩)
  obtain ⟨a_ADDITIVE, ev_ADDITIVE⟩ := exa_v hn10
  have E_ADDITIVE := Exa.start ev_ADDITIVE hn10
  have S_ADDITIVE : Sta s s.heap "com/example/safe_packet_runtime/safepacketruntime/lang/BinaryOperator$Precedence" "ADDITIVE" "Lcom/example/safe_packet_runtime/safepacketruntime/lang/BinaryOperator$Precedence;" (.ref a_ADDITIVE) := Sta.start ev_ADDITIVE (Or.inr ⟨(hw _ (List.mem_of_getElem? (i := 2) rfl)), (hw _ (List.mem_of_getElem? (i := 19) rfl))⟩)
  have O2_ORELSE := own_fldv hn2 ev_ORELSE
  have O3_COMPARISON := own_fldv hn3 ev_COMPARISON
  have O5_CONS := own_fldv hn5 ev_CONS
  have O7_ANDALSO := own_fldv hn7 ev_ANDALSO
  have O9_MULTIPLICATIVE := own_fldv hn9 ev_MULTIPLICATIVE
  have O11_ADDITIVE := own_fldv hn11 ev_ADDITIVE
  have ne_ORELSE : a_ORELSE ≠ a_COMPARISON := Fld.ne O2_ORELSE O3_COMPARISON (by decide)
  have ne_ANDALSO : a_ANDALSO ≠ a_COMPARISON := Fld.ne O7_ANDALSO O3_COMPARISON (by decide)
  have ne_CONS : a_CONS ≠ a_COMPARISON := Fld.ne O5_CONS O3_COMPARISON (by decide)
  have ne_ADDITIVE : a_ADDITIVE ≠ a_COMPARISON := Fld.ne O11_ADDITIVE O3_COMPARISON (by decide)
  have ne_MULTIPLICATIVE : a_MULTIPLICATIVE ≠ a_COMPARISON := Fld.ne O9_MULTIPLICATIVE O3_COMPARISON (by decide)
  obtain ⟨n, o, h1, h2, h3, _, L, rfl, ⟨rfl, N⟩, hq⟩ := own_m0 l s _ hw tables_1 i0 a_ORELSE a_ANDALSO a_COMPARISON a_CONS a_ADDITIVE a_MULTIPLICATIVE s.heap s.heap.size (Nat.le_refl _) S_ORELSE E_ORELSE S_ANDALSO E_ANDALSO S_COMPARISON E_COMPARISON S_CONS E_CONS S_ADDITIVE E_ADDITIVE S_MULTIPLICATIVE E_MULTIPLICATIVE ne_ORELSE ne_ANDALSO ne_CONS ne_ADDITIVE ne_MULTIPLICATIVE p e ha hc hk s m _ below hf ((Spec.applies_iff_loose hf).mp happ).1 ⟨rfl, State.Warmed39.refl s, rfl⟩ trivial
  refine ⟨n, _, h1, h2, h3, hpost _ _ _ _ _ _ ⟨Cond.after_iff.mpr rfl, Cond.after_iff.mpr (eq_i res_at (Term.int_eval (1)) rfl), trivial⟩ ⟨hq.1, hq.2.1, (hq.2.2.sift fun y hy => Or.inr (N y hy)).mono (by decide) (by decide)⟩⟩
theorem main_1_1 : Claimed_1_1 := comes_1 fun _ _ _ _ _ _ h hF => ⟨h.1, hF⟩
theorem main_1_2 : Claimed_1_2 := comes_1 fun _ _ _ _ _ _ h hF => ⟨h.2.1, hF⟩
end Jvm.Pilot.@@N@@
namespace Jvm.Pilot.@@N@@
open Jvm Jvm.ClassFile Sem Op Lib Jvm.Free Jvm.Stand Jvm.Pilot.@@N@@.Jvm.D
/-! MADE BY PROGRAM (witnessworld.py) out of the Statement's table words and the real class files: 12 classes; the members and pool entries that the words name. The judged class is class 1, her method 1. -/
namespace start1
open Jvm.ClassFile
def u (s : String) : CpInfo := .utf8 (stringToUtf16 s)
/-- a pool by its gaps: so many unusable entries, then the entry; so many at the end -/
def gap : Nat → List CpInfo → List CpInfo
  | 0, r => r
  | n + 1, r => .unusable :: gap n r
def poolList (es : List (Nat × CpInfo)) (last : Nat) : List CpInfo := es.foldr (fun e r => gap e.1 (e.2 :: r)) (gap last [])
def pool (es : List (Nat × CpInfo)) (last : Nat) : Array CpInfo := ⟨poolList es last⟩
def fileOf (pool : Array CpInfo) (this : Nat) (attrs : Array Attribute := #[]) (ms : Array MethodInfo := #[]) (fl : Nat := 33) (sup : Nat := 0) (ifs : Array Nat := #[]) (fds : Array FieldInfo := #[]) : ClassFile where
  minorVersion := 0
  majorVersion := 65
  constantPool := pool
  accessFlags := fl
  thisClass := this
  superClass := sup
  interfaces := ifs
  fields := fds
  methods := ms
  attributes := attrs
def plain (name : String) (sup : Option ClassId) : Class where
  name := name
  kind := .ordinary
  loader := none
  accessFlags := 33
  super := sup
  interfaces := #[]
  cf := none
  fields := #[]
  methods := #[]
  instanceTypes := #[]
  staticTypes := #[]
  resolved := #[]
  callSites := []
  init := .initialized
  statics := none
  mirror := none

def pool0 : Array CpInfo := pool [(5, u "<init>"), (0, u "()V"), (1, .class_ 10), (1, u "java/lang/Object")] 113

def k0m0 : Method := { name := "<init>", desc := "()V", sig := { parameters := [], returnType := none }, accessFlags := 1, code := none }
/-- java/lang/Object -/
def k0 : Class := { plain "java/lang/Object" none with
  accessFlags := 33
  interfaces := #[]
  cf := some (fileOf pool0 8 #[] #[{ accessFlags := 1, nameIndex := 5, descriptorIndex := 6, attributes := #[] }] 33 0 #[] #[])
  fields := #[]
  methods := #[k0m0]
  instanceTypes := #[]
  staticTypes := #[]
  resolved := Array.replicate 124 none
  statics := none }

def pool1 : Array CpInfo := pool [(2, .class_ 4), (1, u "java/lang/Object"), (0, u "<init>"), (0, u "()V"), (0, .integer 2147483647), (0, .fieldref 9 10), (0, .class_ 11), (0, .nameAndType 12 13), (0, u "com/example/safe_packet_runtime/safepacketruntime/lang/BinaryOperator$Precedence"), (0, u "ORELSE"), (0, u "Lcom/example/safe_packet_runtime/safepacketruntime/lang/BinaryOperator$Precedence;"), (0, .fieldref 9 15), (0, .nameAndType 16 13), (0, u "ANDALSO"), (0, .fieldref 9 18), (0, .nameAndType 19 13), (0, u "COMPARISON"), (0, .fieldref 9 21), (0, .nameAndType 22 13), (0, u "CONS"), (0, .fieldref 9 24), (0, .nameAndType 25 13), (0, u "ADDITIVE"), (0, .fieldref 9 27), (0, .nameAndType 28 13), (0, u "MULTIPLICATIVE"), (0, .methodref 9 30), (0, .nameAndType 31 32), (0, u "chains"), (0, u "()Z"), (0, .class_ 34), (0, u "com/example/safe_packet_runtime/safepacketruntime/lang/BinaryOperatorChainsPinLaw"), (2, u "law"), (0, u "(I)Z")] 7

def k1m0 : Method := { name := "<init>", desc := "()V", sig := { parameters := [], returnType := none }, accessFlags := 2, code := none }
def k1c1 : Code := { maxStack := 2, maxLocals := 4, code := code, exceptionTable := #[], attributes := #[] }
def k1m1 : Method := { name := "law", desc := "(I)Z", sig := { parameters := [.int], returnType := some .boolean }, accessFlags := 9, code := some k1c1 }
/-- com/example/safe_packet_runtime/safepacketruntime/lang/BinaryOperatorChainsPinLaw -/
def k1 : Class := { plain "com/example/safe_packet_runtime/safepacketruntime/lang/BinaryOperatorChainsPinLaw" (some 0) with
  accessFlags := 49
  interfaces := #[]
  cf := some (fileOf pool1 33 #[] #[{ accessFlags := 2, nameIndex := 5, descriptorIndex := 6, attributes := #[] }, { accessFlags := 9, nameIndex := 37, descriptorIndex := 38, attributes := #[] }] 49 2 #[] #[])
  fields := #[]
  methods := #[k1m0, k1m1]
  instanceTypes := #[]
  staticTypes := #[]
  resolved := Array.replicate 46 none
  statics := none }

def pool2 : Array CpInfo := pool [(1, .class_ 2), (0, u "java/lang/constant/Constable"), (0, .class_ 4), (0, u "java/lang/Object")] 6

/-- java/lang/constant/Constable -/
def k2 : Class := { plain "java/lang/constant/Constable" (some 0) with
  accessFlags := 1537
  interfaces := #[]
  cf := some (fileOf pool2 1 #[] #[] 1537 3 #[] #[])
  fields := #[]
  methods := #[]
  instanceTypes := #[]
  staticTypes := #[]
  resolved := Array.replicate 11 none
  statics := none }

def pool3 : Array CpInfo := pool [(1, .class_ 2), (0, u "java/lang/Comparable"), (0, .class_ 4), (0, u "java/lang/Object")] 7

/-- java/lang/Comparable -/
def k3 : Class := { plain "java/lang/Comparable" (some 0) with
  accessFlags := 1537
  interfaces := #[]
  cf := some (fileOf pool3 1 #[] #[] 1537 3 #[] #[])
  fields := #[]
  methods := #[]
  instanceTypes := #[]
  staticTypes := #[]
  resolved := Array.replicate 12 none
  statics := none }

def pool4 : Array CpInfo := pool [(1, .class_ 2), (0, u "java/io/Serializable"), (0, .class_ 4), (0, u "java/lang/Object")] 2

/-- java/io/Serializable -/
def k4 : Class := { plain "java/io/Serializable" (some 0) with
  accessFlags := 1537
  interfaces := #[]
  cf := some (fileOf pool4 1 #[] #[] 1537 3 #[] #[])
  fields := #[]
  methods := #[]
  instanceTypes := #[]
  staticTypes := #[]
  resolved := Array.replicate 7 none
  statics := none }

def pool5 : Array CpInfo := pool [(2, .class_ 4), (1, u "java/lang/Enum"), (0, u "name"), (0, u "Ljava/lang/String;"), (2, u "ordinal"), (0, u "I"), (1, .class_ 14), (1, u "java/lang/Object"), (4, u "hash"), (86, .class_ 108), (1, u "java/lang/Enum$EnumDesc"), (2, .class_ 112), (0, u "java/lang/constant/Constable"), (0, .class_ 114), (0, u "java/lang/Comparable"), (0, .class_ 116), (0, u "java/io/Serializable")] 87

/-- java/lang/Enum -/
def k5 : Class := { plain "java/lang/Enum" (some 0) with
  accessFlags := 1057
  interfaces := #[2, 3, 4]
  cf := some (fileOf pool5 2 #[.nestMembers #[106]] #[] 1057 12 #[111, 113, 115] #[{ accessFlags := 18, nameIndex := 5, descriptorIndex := 6, attributes := #[] }, { accessFlags := 18, nameIndex := 9, descriptorIndex := 10, attributes := #[] }, { accessFlags := 2, nameIndex := 19, descriptorIndex := 10, attributes := #[] }])
  fields := #[{ name := "name", type := (.object "java/lang/String"), accessFlags := 18, slot := 0, constantValue := 0 }, { name := "ordinal", type := .int, accessFlags := 18, slot := 1, constantValue := 0 }, { name := "hash", type := .int, accessFlags := 2, slot := 2, constantValue := 0 }]
  methods := #[]
  instanceTypes := #[(.object "java/lang/String"), .int, .int]
  staticTypes := #[]
  resolved := Array.replicate 204 none
  statics := none }

def pool6 : Array CpInfo := pool [(1, .class_ 2), (0, u "com/example/safe_packet_runtime/safepacketruntime/lang/BinaryOperator$Precedence"), (2, u "ORELSE"), (0, u "Lcom/example/safe_packet_runtime/safepacketruntime/lang/BinaryOperator$Precedence;"), (2, u "ANDALSO"), (0, .fieldref 1 11), (0, .nameAndType 12 6), (0, u "COMPARISON"), (2, u "CONS"), (2, u "ADDITIVE"), (2, u "MULTIPLICATIVE"), (2, u "$VALUES"), (0, u "[Lcom/example/safe_packet_runtime/safepacketruntime/lang/BinaryOperator$Precedence;"), (6, .class_ 34), (1, u "java/lang/Enum"), (24, u "chains"), (0, u "()Z"), (7, .class_ 69), (0, u "com/example/safe_packet_runtime/safepacketruntime/lang/BinaryOperator")] 2

def k6c0 : Code := { maxStack := 2, maxLocals := 1, code := prog_9_method_4_code, exceptionTable := #[], attributes := #[] }
def k6m0 : Method := { name := "chains", desc := "()Z", sig := { parameters := [], returnType := some .boolean }, accessFlags := 0, code := some k6c0 }
/-- com/example/safe_packet_runtime/safepacketruntime/lang/BinaryOperator$Precedence -/
def k6 : Class := { plain "com/example/safe_packet_runtime/safepacketruntime/lang/BinaryOperator$Precedence" (some 5) with
  accessFlags := 16432
  interfaces := #[]
  cf := some (fileOf pool6 1 #[.nestHost 68] #[{ accessFlags := 0, nameIndex := 59, descriptorIndex := 60, attributes := #[] }] 16432 32 #[] #[{ accessFlags := 16409, nameIndex := 5, descriptorIndex := 6, attributes := #[] }, { accessFlags := 16409, nameIndex := 9, descriptorIndex := 6, attributes := #[] }, { accessFlags := 16409, nameIndex := 12, descriptorIndex := 6, attributes := #[] }, { accessFlags := 16409, nameIndex := 15, descriptorIndex := 6, attributes := #[] }, { accessFlags := 16409, nameIndex := 18, descriptorIndex := 6, attributes := #[] }, { accessFlags := 16409, nameIndex := 21, descriptorIndex := 6, attributes := #[] }, { accessFlags := 4122, nameIndex := 24, descriptorIndex := 25, attributes := #[] }])
  fields := #[{ name := "ORELSE", type := (.object "com/example/safe_packet_runtime/safepacketruntime/lang/BinaryOperator$Precedence"), accessFlags := 16409, slot := 0, constantValue := 0 }, { name := "ANDALSO", type := (.object "com/example/safe_packet_runtime/safepacketruntime/lang/BinaryOperator$Precedence"), accessFlags := 16409, slot := 1, constantValue := 0 }, { name := "COMPARISON", type := (.object "com/example/safe_packet_runtime/safepacketruntime/lang/BinaryOperator$Precedence"), accessFlags := 16409, slot := 2, constantValue := 0 }, { name := "CONS", type := (.object "com/example/safe_packet_runtime/safepacketruntime/lang/BinaryOperator$Precedence"), accessFlags := 16409, slot := 3, constantValue := 0 }, { name := "ADDITIVE", type := (.object "com/example/safe_packet_runtime/safepacketruntime/lang/BinaryOperator$Precedence"), accessFlags := 16409, slot := 4, constantValue := 0 }, { name := "MULTIPLICATIVE", type := (.object "com/example/safe_packet_runtime/safepacketruntime/lang/BinaryOperator$Precedence"), accessFlags := 16409, slot := 5, constantValue := 0 }, { name := "$VALUES", type := (.array (.object "com/example/safe_packet_runtime/safepacketruntime/lang/BinaryOperator$Precedence")), accessFlags := 4122, slot := 6, constantValue := 0 }]
  methods := #[k6m0]
  instanceTypes := #[(.object "java/lang/String"), .int, .int]
  staticTypes := #[(.object "com/example/safe_packet_runtime/safepacketruntime/lang/BinaryOperator$Precedence"), (.object "com/example/safe_packet_runtime/safepacketruntime/lang/BinaryOperator$Precedence"), (.object "com/example/safe_packet_runtime/safepacketruntime/lang/BinaryOperator$Precedence"), (.object "com/example/safe_packet_runtime/safepacketruntime/lang/BinaryOperator$Precedence"), (.object "com/example/safe_packet_runtime/safepacketruntime/lang/BinaryOperator$Precedence"), (.object "com/example/safe_packet_runtime/safepacketruntime/lang/BinaryOperator$Precedence"), (.array (.object "com/example/safe_packet_runtime/safepacketruntime/lang/BinaryOperator$Precedence"))]
  resolved := Array.replicate 72 none
  statics := some 0 }

def pool7 : Array CpInfo := pool [(1, u "java/lang/Cloneable"), (0, .class_ 1), (0, u "java/lang/Object"), (0, .class_ 3)] 3

/-- java/lang/Cloneable -/
def k7 : Class := { plain "java/lang/Cloneable" (some 0) with
  accessFlags := 1537
  interfaces := #[]
  cf := some (fileOf pool7 2 #[] #[] 1537 4 #[] #[])
  fields := #[]
  methods := #[]
  instanceTypes := #[]
  staticTypes := #[]
  resolved := Array.replicate 8 none
  statics := none }

/-- the primitive byte -/
def k8 : Class := { plain "byte" none with kind := .primitive 'B', accessFlags := 0x411 }
/-- [B -/
def k9 : Class := { plain "[B" (some 0) with kind := .array 8 .byte, interfaces := #[7, 4], accessFlags := 1041 }

/-- the primitive int -/
def k10 : Class := { plain "int" none with kind := .primitive 'I', accessFlags := 0x411 }
/-- [I -/
def k11 : Class := { plain "[I" (some 0) with kind := .array 10 .int, interfaces := #[7, 4], accessFlags := 1041 }

def heap : Heap := #[{ cls := 6, slots := #[.ref 1, .ref 2, .ref 3, .ref 4, .ref 5, .ref 6, .null], vm := .statics 6 },
  { cls := 6, slots := #[.null, .int 0, .int 0], vm := .none },
  { cls := 6, slots := #[.null, .int 1, .int 0], vm := .none },
  { cls := 6, slots := #[.null, .int 2, .int 0], vm := .none },
  { cls := 6, slots := #[.null, .int 3, .int 0], vm := .none },
  { cls := 6, slots := #[.null, .int 4, .int 0], vm := .none },
  { cls := 6, slots := #[.null, .int 5, .int 0], vm := .none }]
def classes : Array Class := #[k0, k1, k2, k3, k4, k5, k6, k7, k8, k9, k10, k11]
def interned : List (Array UInt16 × Addr) := []
def slotsUsed : Nat := 25
def theMethod : MethodId := ⟨1, 1⟩
def args0 : Array Value := #[.int 5]
def aboutOver (below : List Frame) : State where
  vm := { classes := classes, interned := interned.toArray }
  heap := heap
  slotsUsed := slotsUsed
  threads := #[{ frames := .invoking theMethod args0 :: below }]
def below0 : List Frame := [.native { method := ⟨0, 0⟩, args := #[] }]
def about1 : State := aboutOver below0
def p0 : Program := .bare "" "" ""
def e0 : Env := launch0.env 0 0 0
theorem w_frames : about1.frames = Frame.invoking theMethod args0 :: below0 := rfl
set_option maxRecDepth 65536 in
theorem w_args : argsFit about1.vm theMethod args0 = true := by decide +kernel
set_option maxRecDepth 65536 in
theorem w_heap : heapFits about1 = true := by decide +kernel
set_option maxRecDepth 65536 in
theorem w_runnable : about1.curStatus? = some .runnable := by decide +kernel
set_option maxRecDepth 65536 in
theorem w_alone : about1.alone = true := by decide +kernel
set_option maxRecDepth 65536 in
theorem w_named : about1.methodNamed? x = some theMethod := by decide +kernel
set_option maxRecDepth 65536 in
theorem w_hears : about1.hears theMethod below0 = true := by decide +kernel
set_option maxRecDepth 65536 in
theorem w_ripe : about1.ripe theMethod args0 below0 = true := by decide +kernel
theorem w_running : about1.status = .running := rfl
set_option maxRecDepth 65536 in
theorem w_room : about1.hasRoom e0.platform room_1 = true :=
  launch0.hasRoom_least _ room_1 (by decide +kernel) (by decide +kernel) (by decide +kernel) (by decide +kernel) (by decide +kernel) (by decide +kernel)
theorem allAtoms_all (ts : List Jvm.Cond) (a : Array Jvm.Value) (st : Jvm.State) : (allAtoms ts).before a st = ts.all (fun c => c.before a st) := by
  induction ts with
  | nil => rfl
  | cons c t ih =>
    show (Jvm.Cond.and c (allAtoms t)).before a st = _
    rw [Jvm.Cond.before_and, ih, List.all_cons]
def words1 : List Jvm.Cond := Jvm.Cond.code x code maxLocals ret :: tables_1
/-- a 'code' word, met by the world's own term for the bytes: nothing is compared byte by byte -/
theorem code_word {y : MethodName} {bytes : ByteArray} {mx : Nat} {rt : Option FieldType} {a : Array Value} {s : State} {m : MethodId} {meth : Method} {c : Code} (h1 : s.methodNamed? y = some m) (h2 : s.vm.method? m = some meth) (h3 : meth.code = some c) (h4 : c.code = bytes)
    (h5 : (c.maxLocals == mx && c.exceptionTable.isEmpty && decide (c.maxStack ≤ mostOperands) && decide (meth.sig.returnType = rt) && !meth.locks && decide (parseMethodDescriptor y.desc = some meth.sig)) = true) : (Jvm.Cond.code y bytes mx rt).before a s = true := by
  simp only [Bool.and_eq_true, beq_iff_eq, Bool.not_eq_true', decide_eq_true_eq] at h5
  obtain ⟨⟨⟨⟨⟨g1, g2⟩, g3⟩, g4⟩, g5⟩, g6⟩ := h5
  simp [Cond.before, Cond.holds, Cond.value, h1, h2, h3, h4, g1, g2, g3, g4, g5, g6]
def isCode : Jvm.Cond → Bool
  | .code _ _ _ _ => true
  | _ => false
theorem all_split {L : List Jvm.Cond} {P : Jvm.Cond → Bool} (h1 : L.all (fun c => isCode c || P c) = true) (h2 : ∀ c ∈ L.filter isCode, P c = true) : L.all P = true := by
  refine List.all_eq_true.mpr fun c hc => ?_
  have h := List.all_eq_true.mp h1 c hc
  rcases Bool.eq_false_or_eq_true (isCode c) with hi | hi
  · exact h2 c (List.mem_filter.mpr ⟨hc, hi⟩)
  · simpa [hi] using h
set_option maxRecDepth 65536 in
theorem w_c0 : (Jvm.Cond.code x code maxLocals ret).before args0 about1 = true := code_word (m := ⟨1, 1⟩) (meth := k1m1) (c := k1c1) (by decide +kernel) rfl rfl rfl (by decide +kernel)
set_option maxRecDepth 65536 in
theorem w_c1 : (Jvm.Cond.code ({ cls := "com/example/safe_packet_runtime/safepacketruntime/lang/BinaryOperator$Precedence", name := "chains", desc := "()Z" } : Jvm.MethodName) prog_9_method_4_code (1 : Nat) (Option.some Jvm.ClassFile.FieldType.boolean)).before args0 about1 = true := code_word (m := ⟨6, 0⟩) (meth := k6m0) (c := k6c0) (by decide +kernel) rfl rfl rfl (by decide +kernel)
def codes1 : List Jvm.Cond := [Jvm.Cond.code x code maxLocals ret, Jvm.Cond.code ({ cls := "com/example/safe_packet_runtime/safepacketruntime/lang/BinaryOperator$Precedence", name := "chains", desc := "()Z" } : Jvm.MethodName) prog_9_method_4_code (1 : Nat) (Option.some Jvm.ClassFile.FieldType.boolean)]
set_option maxRecDepth 65536 in
theorem codes_eq : words1.filter isCode = codes1 := rfl
theorem w_codes : ∀ c ∈ words1.filter isCode, c.before args0 about1 = true := by
  rw [codes_eq]
  intro c hc
  simp only [codes1, List.mem_cons, List.not_mem_nil, or_false] at hc
  rcases hc with rfl | rfl
  · exact w_c0
  · exact w_c1
set_option maxRecDepth 65536 in
theorem w_t1 : words1.all (fun c => isCode c || c.before args0 about1) = true := by decide +kernel
theorem w_tables : (allAtoms (Jvm.Cond.code x code maxLocals ret :: tables_1)).before args0 about1 = true := by
  rw [allAtoms_all]
  show words1.all (fun c => c.before args0 about1) = true
  refine all_split ?_ w_codes
  rw [w_t1]
set_option maxRecDepth 65536 in
theorem w_case : (Jvm.Cond.and given_1 narrow_1).before args0 about1 = true := by decide +kernel
theorem w_applies : (headSpec (Jvm.Cond.code x code maxLocals ret :: tables_1) room_1).applies x e0.platform about1 = true :=
  (Spec.applies_iff w_frames).mpr ⟨w_running, w_runnable, w_alone, w_named, w_hears, w_ripe, w_room, w_tables⟩
theorem atStart : AtStart classFile x code maxLocals ret World_1 tables_1 room_1 Calls_1 rest_1 Pre_1 launch0 p0 e0 about1 theMethod args0 below0 :=
  ⟨lists_1, trivial, launch0.admits_env _ _ _, launch0.least_env, fairChoices_fair.cas, fairChoices_fair.clock, w_frames, w_args, w_heap, w_applies, trivial, trivial, w_case⟩
end start1
theorem witness_1 : WitnessClaimed_1 := ⟨start1.p0, start1.e0, start1.about1, start1.theMethod, start1.args0, start1.below0, start1.atStart⟩
end Jvm.Pilot.@@N@@
