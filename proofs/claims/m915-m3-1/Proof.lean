import JvmDerived
import JvmDerived.Pilot.@@N@@Statement
import JvmDerived.Pilot.@@N@@Code
set_option linter.unusedVariables false
set_option linter.unusedSimpArgs false
namespace Jvm.Pilot.@@N@@
open Jvm Jvm.ClassFile Sem Op Lib Jvm.Free Jvm.Stand Jvm.LawKit Jvm.RoadKit Bundle Jvm.Pilot.@@N@@.Jvm.D
/-! own kit: walks in the form 'what is left from this frame on', so that a walk may fork and join -/
section OwnKit
def b01 : Bool → Int32 | true => 1 | false => 0
def i01 (A : Prop) [Decidable A] : Int32 := if A then 1 else 0
theorem i01_t {A : Prop} [Decidable A] (h : A) : i01 A = 1 := if_pos h
theorem i01_f {A : Prop} [Decidable A] (h : ¬ A) : i01 A = 0 := if_neg h
theorem i01_0 {A : Prop} [Decidable A] : i01 A = 0 ↔ ¬ A := by unfold i01; by_cases h : A <;> simp [h]
theorem i01_b {A : Prop} [Decidable A] : i01 A = b01 (decide A) := by unfold i01; by_cases h : A <;> simp [h, b01]
theorem i01_n {A : Prop} [Decidable A] (h : ¬ i01 A = 0) : A := Decidable.not_not.mp fun q => h (i01_0.mpr q)
theorem b01_0 {b : Bool} : b01 b = 0 ↔ b = false := by cases b <;> simp [b01]
theorem b01_n {b : Bool} (h : ¬ b01 b = 0) : b = true := by cases b <;> first | rfl | exact absurd rfl h
theorem b01_inj {a b : Bool} : b01 a = b01 b ↔ a = b := by cases a <;> cases b <;> simp [b01]
theorem b01_nar (b : Bool) : nar .boolean (b01 b) = b01 b := by cases b <;> rfl
theorem i01_nar {A : Prop} [Decidable A] : nar .boolean (i01 A) = i01 A := by rw [i01_b]; exact b01_nar _
variable {p : Program} {l : Launch} {e : Env} {R : Room} {s : State} {m : MethodId} {args : Array Value} {below : List Frame} {meth : Method} {c : Code} {T T' : State} {locs : List Loc} {cells slots : Nat} {Z : State} {a0 : Array Value} {h : Heap}
/-- from the frame g over T the run comes to an end of which P holds -/
def Go (p : Program) (e : Env) (below : List Frame) (P : State → Outcome → Prop) (T : State) (g : JFrame) : Prop :=
  ∃ (u : State) (o : Outcome), Steps p.tables e below (T.setTop g) u ∧ u.status = .running ∧ Ended u below o ∧ P u o
variable {P : State → Outcome → Prop}
theorem Go.via {g g' : JFrame} (st : ∀ t, Steps p.tables e below (T'.setTop g') t → Steps p.tables e below (T.setTop g) t) (k : Go p e below P T' g') : Go p e below P T g := by
  obtain ⟨u, o, hs, r⟩ := k
  exact ⟨u, o, st u hs, r⟩
theorem Go.cut {g g' : JFrame} (k1 : Go p e below P T' g' → Go p e below P T g) (k2 : Go p e below P T' g') : Go p e below P T g := k1 k2
theorem Go.cutA {α : Type} {g : JFrame} {g' : α → JFrame} (k1 : (∀ q, Go p e below P T' (g' q)) → Go p e below P T g) (k2 : ∀ q, Go p e below P T' (g' q)) : Go p e below P T g := k1 k2
theorem Go.cutE {α : Type} {v : α} {g : JFrame} {g' : α → JFrame} (k1 : (∀ q, q = v → Go p e below P T' (g' q)) → Go p e below P T g) (k2 : Go p e below P T' (g' v)) : Go p e below P T g := k1 fun q hq => hq ▸ k2
theorem Go.cast {g g' : JFrame} (q : g = g') (k : Go p e below P T g') : Go p e below P T g := q ▸ k
/-- what a contract says of its end -/
def GoEnd (s : State) (Q : Option Value → Heap → List Loc → Prop) (cs sl : Nat) (u : State) (o : Outcome) : Prop := ∃ (v : Option Value) (L : List Loc), o = .returned v ∧ Q v u.heap L ∧ FrameEnd s o u L cs sl
variable {Q : Option Value → Heap → List Loc → Prop} {cs sl : Nat}
theorem Go.retN (X : Stand p l e R s m args below meth c T locs cells slots) (hx : p.tables.exec = Jvm.exec) (hk : meth.locks = false) {pc : Nat} {Ls : Array Slot} {z : Int32} {t : FieldType} {rest : List Value} (hret : meth.sig.returnType = some t) (ht : t = .boolean ∨ t = .byte ∨ t = .char ∨ t = .short)
    (hd : decode c.code pc = .ok (.ireturn, 1)) (hc : cells ≤ cs) (hl : slots ≤ sl) (hq : Q (some (.int (nar t z))) T.heap locs) : Go p e below (GoEnd s Q cs sl) T (mkF m pc Ls (.int z :: rest)) := by
  obtain ⟨fs, hr, hrun, hended, hW, hsame⟩ := X.leave (v := some (.int (nar t z))) (fun q => by rw [hret] at q; cases q) hk
  exact ⟨_, _, Jvm.RoadKit.retN X hx hret ht hd hr, hrun, hended, _, _, rfl, hq, ⟨_, rfl⟩, hW, hsame.mono hc hl⟩
theorem Go.retA (X : Stand p l e R s m args below meth c T locs cells slots) (hx : p.tables.exec = Jvm.exec) (hk : meth.locks = false) {pc : Nat} {Ls : Array Slot} {w : Value} {t : FieldType} {i : Instr} {rest : List Value} (hret : meth.sig.returnType = some t) (hn : narrow t w = w)
    (hi : (i = .ireturn ∧ (t = .int ∨ t = .boolean ∨ t = .byte ∨ t = .char ∨ t = .short) ∧ ∃ z, w = .int z) ∨ (i = .lreturn ∧ t = .long ∧ ∃ z, w = .long z) ∨ (i = .dreturn ∧ t = .double ∧ ∃ z, w = .double z) ∨ (i = .freturn ∧ t = .float ∧ ∃ z, w = .float z) ∨ (i = .areturn ∧ t.isReference = true ∧ w.isRef = true))
    (hd : decode c.code pc = .ok (i, 1)) (hc : cells ≤ cs) (hl : slots ≤ sl) (hq : Q (some w) T.heap locs) : Go p e below (GoEnd s Q cs sl) T (mkF m pc Ls (w :: rest)) := by
  obtain ⟨fs, hr, hrun, hended, hW, hsame⟩ := X.leave (v := some w) (fun q => by rw [hret] at q; cases q) hk
  exact ⟨_, _, Jvm.RoadKit.retOut X hx hret hn hi hd hr, hrun, hended, _, _, rfl, hq, ⟨_, rfl⟩, hW, hsame.mono hc hl⟩
theorem Go.retI (X : Stand p l e R s m args below meth c T locs cells slots) (hx : p.tables.exec = Jvm.exec) (hk : meth.locks = false) {pc : Nat} {Ls : Array Slot} {z : Int32} {rest : List Value} (hret : meth.sig.returnType = some .int)
    (hd : decode c.code pc = .ok (.ireturn, 1)) (hc : cells ≤ cs) (hl : slots ≤ sl) (hq : Q (some (.int z)) T.heap locs) : Go p e below (GoEnd s Q cs sl) T (mkF m pc Ls (.int z :: rest)) :=
  Go.retA X hx hk hret rfl (Or.inl ⟨rfl, Or.inl rfl, z, rfl⟩) hd hc hl hq
theorem Go.retJ (X : Stand p l e R s m args below meth c T locs cells slots) (hx : p.tables.exec = Jvm.exec) (hk : meth.locks = false) {pc : Nat} {Ls : Array Slot} {z : Int64} {rest : List Value} (hret : meth.sig.returnType = some .long)
    (hd : decode c.code pc = .ok (.lreturn, 1)) (hc : cells ≤ cs) (hl : slots ≤ sl) (hq : Q (some (.long z)) T.heap locs) : Go p e below (GoEnd s Q cs sl) T (mkF m pc Ls (.long z :: rest)) :=
  Go.retA X hx hk hret rfl (Or.inr (Or.inl ⟨rfl, rfl, z, rfl⟩)) hd hc hl hq
theorem Go.retV (X : Stand p l e R s m args below meth c T locs cells slots) (hx : p.tables.exec = Jvm.exec) (hk : meth.locks = false) {pc : Nat} {Ls : Array Slot} (hret : meth.sig.returnType = none)
    (hd : decode c.code pc = .ok (.return_, 1)) (hc : cells ≤ cs) (hl : slots ≤ sl) (hq : Q none T.heap locs) : Go p e below (GoEnd s Q cs sl) T (mkF m pc Ls []) := by
  obtain ⟨fs, hr, hrun, hended, hW, hsame⟩ := X.leave (v := none) (fun _ => rfl) hk
  exact ⟨_, _, X.returnOut hx hret hd hr, hrun, hended, _, _, rfl, hq, ⟨_, rfl⟩, hW, hsame.mono hc hl⟩
/-- a method's contract: called with as' over the heap h it ends and Q holds -/
abbrev Met (l : Launch) (Z : State) (y : MethodName) (bytes : ByteArray) (maxL : Nat) (ret : Option FieldType) (ws : List Jvm.Cond) (rm : Room) (as' : Array Value) (h : Heap) (Q : Option Value → Heap → List Loc → Prop) : Prop :=
  MetFree l y (head1 (Jvm.Cond.code y bytes maxL ret :: ws) rm) (fun a U => a = as' ∧ Z.Warmed39 U.vm ∧ U.heap = h) (fun _ _ _ _ _ => True) (fun _ U o U' => GoEnd U Q rm.cells rm.slots U' o)
variable {y : MethodName} {bytes : ByteArray} {maxL : Nat} {ret : Option FieldType} {ws : List Jvm.Cond} {rm : Room} {as' : Array Value}
/-- a body's own walk makes its contract -/
theorem Met.of (hp : plainFor y = true)
    (body : ∀ (p : Program) (e : Env) (s : State) (m : MethodId) (below : List Frame) (meth : Method) (c : Code) (T : State), p.tables.exec = Jvm.exec → c.code = bytes → c.maxLocals = maxL → meth.locks = false → meth.sig.returnType = ret → meth.name = y.name → s.vm.findClass y.cls = some m.cls → Z.Warmed39 s.vm →
      Stand p l e rm s m as' below meth c T [] 0 0 → T.heap = h → Go p e below (GoEnd s Q rm.cells rm.slots) T (entryFrame m as' maxL)) : Met l Z y bytes maxL ret ws rm as' h Q := by
  refine MetFree.of_bodySF hp hisR ?_
  intro p e s m args below meth c s₁ Bd hml hP hK
  obtain ⟨rfl, hZ, hh⟩ := hP
  exact body p e s m below meth c s₁ Bd.exec Bd.bytes hml (BodyLoose.notSynchronized Bd) Bd.returns (name_of_methodNamed Bd.named Bd.method).1 (findClass_of_methodNamed Bd.named) hZ (Stand.of_body Bd) (by rw [← hh, Bd.state]; rfl)
/-- a static call by its contract -/
theorem Go.callS (X : Stand p l e R s m args below meth c T locs cells slots) (hx : p.tables.exec = Jvm.exec) (hZ : Z.Warmed39 s.vm) {own : String} {index : Nat} (hown : s.vm.findClass own = some m.cls) (eT : T.heap = h)
    (w1 : (Cond.methodLink own index y).before a0 Z = true) (w2 : (Cond.static y).before a0 Z = true) (w3 : (Cond.initialized y.cls).before a0 Z = true) (w4 : (Cond.code y bytes maxL ret).before a0 Z = true) (hy : y.cls ≠ "java/lang/invoke/MethodHandle" ∧ y.cls ≠ "java/lang/invoke/VarHandle")
    (M : Met l Z y bytes maxL ret [] rm as' h Q) {pc : Nat} {Ls : Array Slot} {argsL rest : List Value} {ps : List FieldType} {r : Option FieldType} (hpd : parseMethodDescriptor y.desc = some ⟨ps, r⟩) (hn : argsL.length = ps.length) (has : argsL.toArray = as') (hsize : Ls.size = c.maxLocals)
    (hd : decode c.code pc = .ok (.invokestatic index, 3)) {W : Nat} (hW : (rest.map fun v => v.category).sum ≤ W) (hf : rm.frames + 1 ≤ R.frames) (hl : W + (maxL + 11) + rm.locals ≤ R.locals) (hc : cells + rm.cells ≤ R.cells) (hs : slots + rm.slots ≤ R.slots) :
    ∃ (v : Option Value) (T' : State) (L : List Loc), Stand p l e R s m args below meth c T' (locs ++ L) (cells + rm.cells) (slots + rm.slots) ∧ Q v T'.heap L ∧ ∀ {P : State → Outcome → Prop}, Go p e below P T' (mkF m (pc + 3) Ls (v.toList ++ rest)) → Go p e below P T (mkF m pc Ls (argsL.reverse ++ rest)) := by
  obtain ⟨v, vm₁, ⟨T', L', k', n'⟩, -, X', ⟨L, hQ, l1, l2, l3⟩, st⟩ := Jvm.LawKit.callS X hx hown (mvT hZ w1) (mvT hZ w2) (mvT hZ w3) (mvT hZ w4) hy (backOf (W := W) M hZ w4 w3 hf hl) (g := mkF m pc Ls (argsL.reverse ++ rest)) rfl hsize (lenOf hpd hn) rfl (by show 2 * 0 + _ ≤ _; omega) hd (fun _ _ => ⟨has, eT, hc, hs⟩)
  dsimp only [Pt.U, Pt.locs, Pt.cells, Pt.slots] at X' l1 l2 l3 st hQ
  subst l1 l2 l3
  exact ⟨v, T', L, X', hQ, fun k => Go.via st k⟩
/-- a constructor by its contract -/
theorem Go.callN (X : Stand p l e R s m args below meth c T locs cells slots) (hx : p.tables.exec = Jvm.exec) (hZ : Z.Warmed39 s.vm) {own : String} {index : Nat} (hown : s.vm.findClass own = some m.cls) (eT : T.heap = h) (hy1 : y.name = "<init>")
    (w1 : (Cond.methodLink own index y).before a0 Z = true) (w2 : (Cond.instanceMethod y).before a0 Z = true) (w3 : (Cond.initialized y.cls).before a0 Z = true) (w4 : (Cond.code y bytes maxL none).before a0 Z = true) (hy : y.cls ≠ "java/lang/invoke/MethodHandle" ∧ y.cls ≠ "java/lang/invoke/VarHandle")
    (M : Met l Z y bytes maxL none [] rm as' h Q) {pc : Nat} {Ls : Array Slot} {a : Addr} {argsL rest : List Value} {ps : List FieldType} {r : Option FieldType} (hpd : parseMethodDescriptor y.desc = some ⟨ps, r⟩) (hn : argsL.length = ps.length) (has : (.ref a :: argsL).toArray = as') (hsize : Ls.size = c.maxLocals)
    (hd : decode c.code pc = .ok (.invokespecial index, 3)) {W : Nat} (hW : (rest.map fun v => v.category).sum ≤ W) (hf : rm.frames + 1 ≤ R.frames) (hl : W + (maxL + 11) + rm.locals ≤ R.locals) (hc : cells + rm.cells ≤ R.cells) (hs : slots + rm.slots ≤ R.slots) :
    ∃ (v : Option Value) (T' : State) (L : List Loc), Stand p l e R s m args below meth c T' (locs ++ L) (cells + rm.cells) (slots + rm.slots) ∧ Q v T'.heap L ∧ ∀ {P : State → Outcome → Prop}, Go p e below P T' (mkF m (pc + 3) Ls (v.toList ++ rest)) → Go p e below P T (mkF m pc Ls (argsL.reverse ++ .ref a :: rest)) := by
  obtain ⟨v, vm₁, ⟨T', L', k', n'⟩, -, X', ⟨L, hQ, l1, l2, l3⟩, st⟩ := X.specialBack hx hy1 hown (mvT hZ w1) (mvT hZ w2) (mvT hZ w4) hy (backOf (W := W) M hZ w4 w3 hf hl) (g := mkF m pc Ls (argsL.reverse ++ .ref a :: rest)) rfl hsize (Steps.refl _) (lenOf hpd hn) rfl (by show 2 * 0 + _ ≤ _; omega) hd (fun _ _ => ⟨has, eT, hc, hs⟩)
  dsimp only [Pt.U, Pt.locs, Pt.cells, Pt.slots] at X' l1 l2 l3 st hQ
  subst l1 l2 l3
  exact ⟨v, T', L, X', hQ, fun k => Go.via (fun t k => st.trans k) k⟩
/-- an instance method by its contract -/
theorem Go.callV (X : Stand p l e R s m args below meth c T locs cells slots) (hx : p.tables.exec = Jvm.exec) (hZ : Z.Warmed39 s.vm) {own C : String} {index : Nat} (hown : s.vm.findClass own = some m.cls) (eT : T.heap = h)
    (w1 : (Cond.methodLink own index y).before a0 Z = true) (w2 : (Cond.declares y).before a0 Z = true) (w6 : (Cond.selects C y y).before a0 Z = true) (w7 : (Cond.instanceMethod y).before a0 Z = true) (w3 : (Cond.initialized y.cls).before a0 Z = true) (w4 : (Cond.code y bytes maxL ret).before a0 Z = true) (hy : y.cls ≠ "java/lang/invoke/MethodHandle" ∧ y.cls ≠ "java/lang/invoke/VarHandle")
    {a : Addr} (Ea : Exa Z h a C)
    (M : Met l Z y bytes maxL ret [] rm as' h Q) {pc : Nat} {Ls : Array Slot} {argsL rest : List Value} {ps : List FieldType} {r : Option FieldType} (hpd : parseMethodDescriptor y.desc = some ⟨ps, r⟩) (hn : argsL.length = ps.length) (has : (.ref a :: argsL).toArray = as') (hsize : Ls.size = c.maxLocals)
    (hd : decode c.code pc = .ok (.invokevirtual index, 3)) {W : Nat} (hW : (rest.map fun v => v.category).sum ≤ W) (hf : rm.frames + 1 ≤ R.frames) (hl : W + (maxL + 11) + rm.locals ≤ R.locals) (hc : cells + rm.cells ≤ R.cells) (hs : slots + rm.slots ≤ R.slots) :
    ∃ (v : Option Value) (T' : State) (L : List Loc), Stand p l e R s m args below meth c T' (locs ++ L) (cells + rm.cells) (slots + rm.slots) ∧ Q v T'.heap L ∧ ∀ {P : State → Outcome → Prop}, Go p e below P T' (mkF m (pc + 3) Ls (v.toList ++ rest)) → Go p e below P T (mkF m pc Ls (argsL.reverse ++ .ref a :: rest)) := by
  obtain ⟨cq, kq, qa, qb, qc⟩ := isOf hZ eT Ea
  obtain ⟨v, vm₁, ⟨T', L', k', n'⟩, -, X', ⟨L, hQ, l1, l2, l3⟩, st⟩ := X.virtualBack hx hown (mvT hZ w1) (mvT hZ w2) (notFace_of_selects (args := #[]) (mvT hZ w6)) (mvT hZ w6) (mvT hZ w7) hy (backOf (W := W) M hZ w4 w3 hf hl) qa qc (g := mkF m pc Ls (argsL.reverse ++ .ref a :: rest)) rfl hsize (Steps.refl _) (lenOf hpd hn) rfl (by show 2 * 0 + _ ≤ _; omega) hd (fun _ _ => ⟨has, eT, hc, hs⟩)
  dsimp only [Pt.U, Pt.locs, Pt.cells, Pt.slots] at X' l1 l2 l3 st hQ
  subst l1 l2 l3
  exact ⟨v, T', L, X', hQ, fun k => Go.via (fun t k => st.trans k) k⟩
end OwnKit
theorem own_pd0 : parseMethodDescriptor "(J)V" = some ⟨[.long], none⟩ := by decide +kernel
theorem own_pd1 : parseMethodDescriptor "(J)J" = some ⟨[.long], some .long⟩ := by decide +kernel
theorem own_pd2 : parseMethodDescriptor "(J)Z" = some ⟨[.long], some .boolean⟩ := by decide +kernel
theorem own_pd3 : parseMethodDescriptor "()V" = some ⟨[], none⟩ := by decide +kernel
def own_q (f : Bool) (q t : Int64) : Int64 := if f = true then t else q
def own_c (f cm : Bool) (q ln t : Int64) : Bool := cm || !decide (t - own_q f q t < ln)
theorem own_d1_0 : decode prog_109_method_1_code 0 = .ok (.aload_n 0, 1) := by decide +kernel
theorem own_d1_1 : decode prog_109_method_1_code 1 = .ok (.invokespecial 1, 3) := by decide +kernel
theorem own_d1_4 : decode prog_109_method_1_code 4 = .ok (.aload_n 0, 1) := by decide +kernel
theorem own_d1_5 : decode prog_109_method_1_code 5 = .ok (.iconst 1, 1) := by decide +kernel
theorem own_d1_6 : decode prog_109_method_1_code 6 = .ok (.putfield 7, 3) := by decide +kernel
theorem own_d1_9 : decode prog_109_method_1_code 9 = .ok (.aload_n 0, 1) := by decide +kernel
theorem own_d1_10 : decode prog_109_method_1_code 10 = .ok (.lload_n 1, 1) := by decide +kernel
theorem own_d1_11 : decode prog_109_method_1_code 11 = .ok (.putfield 13, 3) := by decide +kernel
theorem own_d1_14 : decode prog_109_method_1_code 14 = .ok (.return_, 1) := by decide +kernel
theorem own_pn0 : plainName "com/example/austere_codec/austerecodec/jrmp/Lapse" = true := by first | (simp [plainName, overriddenIn]; done) | decide +kernel
theorem ef_own_init (m : MethodId) (a1 : Addr) (p2 : Int64) : entryFrame m #[(.ref a1), (.long p2)] 3 = mkF m 0 #[.val (.ref a1), .val (.long p2), .second] [] := by first | (simp [entryFrame, mkF, argsToLocals, Value.category]; done) | rfl
set_option maxRecDepth 65536 in
set_option maxHeartbeats 40000000 in
theorem own_init (l : Launch) (Z : State) (a0 : Array Value) (hw : ∀ d ∈ tables_1, d.before a0 Z = true) (ws : List Jvm.Cond) (a1 : Addr) (p2 : Int64)  (h0 : Heap) (n0 : Nat) (Z0 : n0 ≤ h0.size) (E_a1 : Exa Z h0 a1 "com/example/austere_codec/austerecodec/jrmp/Lapse") (F_fresh : Fld Z h0 a1 "com/example/austere_codec/austerecodec/jrmp/Lapse" "fresh" "Z" (.int (0 : Int32))) (F_lapseNanos : Fld Z h0 a1 "com/example/austere_codec/austerecodec/jrmp/Lapse" "lapseNanos" "J" (.long (0 : Int64))) (F_quietSince : Fld Z h0 a1 "com/example/austere_codec/austerecodec/jrmp/Lapse" "quietSince" "J" (.long (0 : Int64))) (F_come : Fld Z h0 a1 "com/example/austere_codec/austerecodec/jrmp/Lapse" "come" "Z" (.int (0 : Int32))) (g_a : n0 ≤ a1) :
    Met l Z (⟨"com/example/austere_codec/austerecodec/jrmp/Lapse", "<init>", "(J)V"⟩ : MethodName) prog_109_method_1_code 3 none ws ({ frames := 1, cells := 0, slots := 0, locals := 12 } : Room) #[(.ref a1), (.long p2)] h0 (fun v h L => v = none ∧ Fr n0 L ∧ Keep h0 h [a1] ∧ Exa Z h a1 "com/example/austere_codec/austerecodec/jrmp/Lapse" ∧ Fld Z h a1 "com/example/austere_codec/austerecodec/jrmp/Lapse" "fresh" "Z" (.int (b01 true)) ∧ Fld Z h a1 "com/example/austere_codec/austerecodec/jrmp/Lapse" "lapseNanos" "J" (.long p2) ∧ Fld Z h a1 "com/example/austere_codec/austerecodec/jrmp/Lapse" "quietSince" "J" (.long 0) ∧ Fld Z h a1 "com/example/austere_codec/austerecodec/jrmp/Lapse" "come" "Z" (.int (b01 false))) := by
  refine Met.of (plainFor_of_name own_pn0) ?_
  intro p e s m below meth c T0 hx hby hml hk hret hnm hown hZ X0 e0
  have N0 := Fr.nil n0
  refine Go.cast (ef_own_init m a1 p2) ?_
  have K0 := Keep.refl h0 [a1]
  show Go p e below _ T0 (mkF m 0 #[.val (.ref a1), .val (.long p2), .second] [])
  refine Go.via (fun _ k => XS.aloadN X0.here hx rfl (hb hby own_d1_0) rfl (by rfl) k) ?_
  show Go p e below _ T0 (mkF m 1 #[.val (.ref a1), .val (.long p2), .second] [(.ref a1)])
  obtain ⟨T1, X1, e1, st1⟩ := initO X0 hx hZ hown (hw _ (List.mem_of_getElem? (i := 6) rfl)) (hw _ (List.mem_of_getElem? (i := 7) rfl)) (hw _ (List.mem_of_getElem? (i := 8) rfl)) e0 (g := (mkF m 1 #[.val (.ref a1), .val (.long p2), .second] [(.ref a1)])) rfl (by rw [hml]; rfl) rfl (hb hby own_d1_1) (by decide) (W := 0) (by show 2 * 0 + _ ≤ _; exact Nat.le_of_eq rfl) (by decide)
  refine Go.via (fun _ k => st1 _ k) ?_
  show Go p e below _ T1 (mkF m 4 #[.val (.ref a1), .val (.long p2), .second] [])
  refine Go.via (fun _ k => XS.aloadN X1.here hx rfl (hb hby own_d1_4) rfl (by rfl) k) ?_
  show Go p e below _ T1 (mkF m 5 #[.val (.ref a1), .val (.long p2), .second] [(.ref a1)])
  refine Go.via (fun _ k => XS.iconst X1.here hx rfl (hb hby own_d1_5) k) ?_
  show Go p e below _ T1 (mkF m 6 #[.val (.ref a1), .val (.long p2), .second] [(.int (1 : Int32)), (.ref a1)])
  obtain ⟨T2, h2, X2, e2, W2, st2⟩ := putFN X1 hx hZ hown (hw _ (List.mem_of_getElem? (i := 9) rfl)) Via.refl e1 F_fresh E_a1 (Or.inl (hw _ (List.mem_of_getElem? (i := 10) rfl))) (hw _ (List.mem_of_getElem? (i := 1) rfl)) (ty := .boolean) (v' := .int (1 : Int32)) (by decide) rfl rfl (g := (mkF m 6 #[.val (.ref a1), .val (.long p2), .second] [(.int (1 : Int32)), (.ref a1)])) rfl rfl (hb hby own_d1_6)
  refine Go.via (fun _ k => st2 _ k) ?_
  have Z2 : n0 ≤ h2.size := by rw [W2.size]; exact Z0
  have N2 := Fr.snoc X2 N0 g_a
  have E_a1_2 := E_a1.wr W2
  have K0_2 := K0.wr W2 (Or.inl (by simp))
  have F_fresh_2 := F_fresh.same W2
  have F_lapseNanos_2 := F_lapseNanos.other W2 (Or.inr (slot_ne (t := .long) (t' := .boolean) (Or.inr (hw _ (List.mem_of_getElem? (i := 12) rfl))) (Or.inl (hw _ (List.mem_of_getElem? (i := 10) rfl))) (by decide) (by decide) (by decide)))
  have F_quietSince_2 := F_quietSince.other W2 (Or.inr (slot_ne (t := .long) (t' := .boolean) (Or.inl (hw _ (List.mem_of_getElem? (i := 19) rfl))) (Or.inl (hw _ (List.mem_of_getElem? (i := 10) rfl))) (by decide) (by decide) (by decide)))
  have F_come_2 := F_come.other W2 (Or.inr (slot_ne (t := .boolean) (t' := .boolean) (Or.inl (hw _ (List.mem_of_getElem? (i := 21) rfl))) (Or.inl (hw _ (List.mem_of_getElem? (i := 10) rfl))) (by decide) (by decide) (by decide)))
  show Go p e below _ T2 (mkF m 9 #[.val (.ref a1), .val (.long p2), .second] [])
  refine Go.via (fun _ k => XS.aloadN X2.here hx rfl (hb hby own_d1_9) rfl (by rfl) k) ?_
  show Go p e below _ T2 (mkF m 10 #[.val (.ref a1), .val (.long p2), .second] [(.ref a1)])
  refine Go.via (fun _ k => XS.lloadN X2.here hx rfl (hb hby own_d1_10) rfl  k) ?_
  show Go p e below _ T2 (mkF m 11 #[.val (.ref a1), .val (.long p2), .second] [(.long p2), (.ref a1)])
  obtain ⟨T3, h3, X3, e3, W3, st3⟩ := putF X2 hx hZ hown (host := "") (Or.inl (hw _ (List.mem_of_getElem? (i := 11) rfl))) Via.refl e2 F_lapseNanos_2 E_a1_2 (Or.inr ⟨(hw _ (List.mem_of_getElem? (i := 12) rfl)), rfl, hnm⟩) (hw _ (List.mem_of_getElem? (i := 1) rfl)) (ty := .long) (by decide) rfl rfl (g := (mkF m 11 #[.val (.ref a1), .val (.long p2), .second] [(.long p2), (.ref a1)])) rfl rfl (hb hby own_d1_11)
  refine Go.via (fun _ k => st3 _ k) ?_
  have Z3 : n0 ≤ h3.size := by rw [W3.size]; exact Z2
  have N3 := Fr.snoc X3 N2 g_a
  have E_a1_2_3 := E_a1_2.wr W3
  have K0_2_3 := K0_2.wr W3 (Or.inl (by simp))
  have F_fresh_2_3 := F_fresh_2.other W3 (Or.inr (slot_ne (t := .boolean) (t' := .long) (Or.inl (hw _ (List.mem_of_getElem? (i := 10) rfl))) (Or.inr (hw _ (List.mem_of_getElem? (i := 12) rfl))) (by decide) (by decide) (by decide)))
  have F_lapseNanos_2_3 := F_lapseNanos_2.same W3
  have F_quietSince_2_3 := F_quietSince_2.other W3 (Or.inr (slot_ne (t := .long) (t' := .long) (Or.inl (hw _ (List.mem_of_getElem? (i := 19) rfl))) (Or.inr (hw _ (List.mem_of_getElem? (i := 12) rfl))) (by decide) (by decide) (by decide)))
  have F_come_2_3 := F_come_2.other W3 (Or.inr (slot_ne (t := .boolean) (t' := .long) (Or.inl (hw _ (List.mem_of_getElem? (i := 21) rfl))) (Or.inr (hw _ (List.mem_of_getElem? (i := 12) rfl))) (by decide) (by decide) (by decide)))
  show Go p e below _ T3 (mkF m 14 #[.val (.ref a1), .val (.long p2), .second] [])
  refine Go.retV X3 hx hk hret (hb hby own_d1_14) (by decide) (by decide) ?_
  rw [e3]
  exact ⟨rfl, N3, K0_2_3, E_a1_2_3, F_fresh_2_3, F_lapseNanos_2_3, F_quietSince_2_3, F_come_2_3⟩
theorem own_d3_0 : decode prog_109_method_3_code 0 = .ok (.aload_n 0, 1) := by decide +kernel
theorem own_d3_1 : decode prog_109_method_3_code 1 = .ok (.getfield 7, 3) := by decide +kernel
theorem own_d3_4 : decode prog_109_method_3_code 4 = .ok (.ifCond .eq 13, 3) := by decide +kernel
theorem own_d3_7 : decode prog_109_method_3_code 7 = .ok (.aload_n 0, 1) := by decide +kernel
theorem own_d3_8 : decode prog_109_method_3_code 8 = .ok (.lload_n 1, 1) := by decide +kernel
theorem own_d3_9 : decode prog_109_method_3_code 9 = .ok (.putfield 20, 3) := by decide +kernel
theorem own_d3_12 : decode prog_109_method_3_code 12 = .ok (.aload_n 0, 1) := by decide +kernel
theorem own_d3_13 : decode prog_109_method_3_code 13 = .ok (.iconst 0, 1) := by decide +kernel
theorem own_d3_14 : decode prog_109_method_3_code 14 = .ok (.putfield 7, 3) := by decide +kernel
theorem own_d3_17 : decode prog_109_method_3_code 17 = .ok (.lload_n 1, 1) := by decide +kernel
theorem own_d3_18 : decode prog_109_method_3_code 18 = .ok (.aload_n 0, 1) := by decide +kernel
theorem own_d3_19 : decode prog_109_method_3_code 19 = .ok (.getfield 20, 3) := by decide +kernel
theorem own_d3_22 : decode prog_109_method_3_code 22 = .ok (.lsub, 1) := by decide +kernel
theorem own_d3_23 : decode prog_109_method_3_code 23 = .ok (.aload_n 0, 1) := by decide +kernel
theorem own_d3_24 : decode prog_109_method_3_code 24 = .ok (.getfield 13, 3) := by decide +kernel
theorem own_d3_27 : decode prog_109_method_3_code 27 = .ok (.lcmp, 1) := by decide +kernel
theorem own_d3_28 : decode prog_109_method_3_code 28 = .ok (.ifCond .lt 8, 3) := by decide +kernel
theorem own_d3_31 : decode prog_109_method_3_code 31 = .ok (.aload_n 0, 1) := by decide +kernel
theorem own_d3_32 : decode prog_109_method_3_code 32 = .ok (.iconst 1, 1) := by decide +kernel
theorem own_d3_33 : decode prog_109_method_3_code 33 = .ok (.putfield 17, 3) := by decide +kernel
theorem own_d3_36 : decode prog_109_method_3_code 36 = .ok (.aload_n 0, 1) := by decide +kernel
theorem own_d3_37 : decode prog_109_method_3_code 37 = .ok (.getfield 17, 3) := by decide +kernel
theorem own_d3_40 : decode prog_109_method_3_code 40 = .ok (.ireturn, 1) := by decide +kernel
theorem ef_own_has (m : MethodId) (a1 : Addr) (p2 : Int64) : entryFrame m #[(.ref a1), (.long p2)] 3 = mkF m 0 #[.val (.ref a1), .val (.long p2), .second] [] := by first | (simp [entryFrame, mkF, argsToLocals, Value.category]; done) | rfl
set_option maxRecDepth 65536 in
set_option maxHeartbeats 40000000 in
theorem own_has (l : Launch) (Z : State) (a0 : Array Value) (hw : ∀ d ∈ tables_1, d.before a0 Z = true) (ws : List Jvm.Cond) (a1 : Addr) (p2 : Int64) (f cm : Bool) (ln qs : Int64) (h0 : Heap) (n0 : Nat) (Z0 : n0 ≤ h0.size) (E_a1 : Exa Z h0 a1 "com/example/austere_codec/austerecodec/jrmp/Lapse") (F_fresh : Fld Z h0 a1 "com/example/austere_codec/austerecodec/jrmp/Lapse" "fresh" "Z" (.int (b01 f))) (F_lapseNanos : Fld Z h0 a1 "com/example/austere_codec/austerecodec/jrmp/Lapse" "lapseNanos" "J" (.long ln)) (F_quietSince : Fld Z h0 a1 "com/example/austere_codec/austerecodec/jrmp/Lapse" "quietSince" "J" (.long qs)) (F_come : Fld Z h0 a1 "com/example/austere_codec/austerecodec/jrmp/Lapse" "come" "Z" (.int (b01 cm))) (g_a : n0 ≤ a1) :
    Met l Z (⟨"com/example/austere_codec/austerecodec/jrmp/Lapse", "hasCome", "(J)Z"⟩ : MethodName) prog_109_method_3_code 3 (some .boolean) ws ({ frames := 0, cells := 0, slots := 0, locals := 0 } : Room) #[(.ref a1), (.long p2)] h0 (fun v h L => v = some (.int (b01 (own_c f cm qs ln p2))) ∧ Fr n0 L ∧ Keep h0 h [a1] ∧ Exa Z h a1 "com/example/austere_codec/austerecodec/jrmp/Lapse" ∧ Fld Z h a1 "com/example/austere_codec/austerecodec/jrmp/Lapse" "fresh" "Z" (.int (b01 false)) ∧ Fld Z h a1 "com/example/austere_codec/austerecodec/jrmp/Lapse" "lapseNanos" "J" (.long ln) ∧ Fld Z h a1 "com/example/austere_codec/austerecodec/jrmp/Lapse" "quietSince" "J" (.long (own_q f qs p2)) ∧ Fld Z h a1 "com/example/austere_codec/austerecodec/jrmp/Lapse" "come" "Z" (.int (b01 (own_c f cm qs ln p2)))) := by
  refine Met.of (plainFor_of_name own_pn0) ?_
  intro p e s m below meth c T0 hx hby hml hk hret hnm hown hZ X0 e0
  have N0 := Fr.nil n0
  refine Go.cast (ef_own_has m a1 p2) ?_
  have K0 := Keep.refl h0 [a1]
  show Go p e below _ T0 (mkF m 0 #[.val (.ref a1), .val (.long p2), .second] [])
  refine Go.via (fun _ k => XS.aloadN X0.here hx rfl (hb hby own_d3_0) rfl (by rfl) k) ?_
  show Go p e below _ T0 (mkF m 1 #[.val (.ref a1), .val (.long p2), .second] [(.ref a1)])
  obtain ⟨T1, X1, e1, st1⟩ := getF X0 hx hZ hown (host := "") (Or.inl (hw _ (List.mem_of_getElem? (i := 9) rfl))) Via.refl e0 F_fresh (g := (mkF m 1 #[.val (.ref a1), .val (.long p2), .second] [(.ref a1)])) rfl rfl (hb hby own_d3_1)
  refine Go.via (fun _ k => st1 _ k) ?_
  show Go p e below _ T1 (mkF m 4 #[.val (.ref a1), .val (.long p2), .second] [(.int (b01 f))])
  by_cases hc4 : (b01 f) = (0 : Int32)
  · skip
    refine Go.via (fun _ k => XS.ifYes X1.here hx rfl (pc0 := 4) (pc' := 17) rfl (hb hby own_d3_4) rfl ((if0 _ _).trans (teq hc4).1) (by decide) (by decide) k) ?_
    show Go p e below _ T1 (mkF m 17 #[.val (.ref a1), .val (.long p2), .second] [])
    refine Go.via (fun _ k => XS.lloadN X1.here hx rfl (hb hby own_d3_17) rfl  k) ?_
    show Go p e below _ T1 (mkF m 18 #[.val (.ref a1), .val (.long p2), .second] [(.long p2)])
    refine Go.via (fun _ k => XS.aloadN X1.here hx rfl (hb hby own_d3_18) rfl (by rfl) k) ?_
    show Go p e below _ T1 (mkF m 19 #[.val (.ref a1), .val (.long p2), .second] [(.ref a1), (.long p2)])
    obtain ⟨T2, X2, e2, st2⟩ := getF X1 hx hZ hown (host := "") (Or.inl (hw _ (List.mem_of_getElem? (i := 18) rfl))) Via.refl e1 F_quietSince (g := (mkF m 19 #[.val (.ref a1), .val (.long p2), .second] [(.ref a1), (.long p2)])) rfl rfl (hb hby own_d3_19)
    refine Go.via (fun _ k => st2 _ k) ?_
    show Go p e below _ T2 (mkF m 22 #[.val (.ref a1), .val (.long p2), .second] [(.long qs), (.long p2)])
    refine Go.via (fun _ k => XS.lsub X2.here hx rfl (hb hby own_d3_22) rfl k) ?_
    show Go p e below _ T2 (mkF m 23 #[.val (.ref a1), .val (.long p2), .second] [(.long (p2 - qs))])
    refine Go.via (fun _ k => XS.aloadN X2.here hx rfl (hb hby own_d3_23) rfl (by rfl) k) ?_
    show Go p e below _ T2 (mkF m 24 #[.val (.ref a1), .val (.long p2), .second] [(.ref a1), (.long (p2 - qs))])
    obtain ⟨T3, X3, e3, st3⟩ := getF X2 hx hZ hown (host := "") (Or.inl (hw _ (List.mem_of_getElem? (i := 11) rfl))) Via.refl e2 F_lapseNanos (g := (mkF m 24 #[.val (.ref a1), .val (.long p2), .second] [(.ref a1), (.long (p2 - qs))])) rfl rfl (hb hby own_d3_24)
    refine Go.via (fun _ k => st3 _ k) ?_
    show Go p e below _ T3 (mkF m 27 #[.val (.ref a1), .val (.long p2), .second] [(.long ln), (.long (p2 - qs))])
    refine Go.via (fun _ k => XS.lcmp X3.here hx rfl (hb hby own_d3_27) rfl k) ?_
    show Go p e below _ T3 (mkF m 28 #[.val (.ref a1), .val (.long p2), .second] [(.int (lcmpW (p2 - qs) ln))])
    by_cases hc28 : (p2 - qs) < ln
    · skip
      refine Go.via (fun _ k => XS.ifYes X3.here hx rfl (pc0 := 28) (pc' := 36) rfl (hb hby own_d3_28) rfl ((if0 _ _).trans (tlt ((lw_lt _ _).mpr hc28)).1) (by decide) (by decide) k) ?_
      show Go p e below _ T3 (mkF m 36 #[.val (.ref a1), .val (.long p2), .second] [])
      refine Go.via (fun _ k => XS.aloadN X3.here hx rfl (hb hby own_d3_36) rfl (by rfl) k) ?_
      show Go p e below _ T3 (mkF m 37 #[.val (.ref a1), .val (.long p2), .second] [(.ref a1)])
      obtain ⟨T4, X4, e4, st4⟩ := getF X3 hx hZ hown (host := "") (Or.inl (hw _ (List.mem_of_getElem? (i := 20) rfl))) Via.refl e3 F_come (g := (mkF m 37 #[.val (.ref a1), .val (.long p2), .second] [(.ref a1)])) rfl rfl (hb hby own_d3_37)
      refine Go.via (fun _ k => st4 _ k) ?_
      show Go p e below _ T4 (mkF m 40 #[.val (.ref a1), .val (.long p2), .second] [(.int (b01 cm))])
      refine Go.retN X4 hx hk (hret : meth.sig.returnType = some .boolean) (t := .boolean) (by simp) (hb hby own_d3_40) (by decide) (by decide) ?_
      have hf : f = false := by exact b01_0.mp hc4
      have hq : own_q f qs p2 = qs := by rw [hf]; rfl
      have hcc : own_c f cm qs ln p2 = cm := by
        show (cm || !decide (p2 - own_q f qs p2 < ln)) = _
        rw [hq, decide_eq_true hc28]
        simp
      rw [e4, hcc, hq]
      exact ⟨by rw [b01_nar], N0, K0, E_a1, (by have q := F_fresh; rw [hf] at q; exact q), F_lapseNanos, F_quietSince, F_come⟩
    · skip
      refine Go.via (fun _ k => XS.ifNo X3.here hx rfl (hb hby own_d3_28) rfl ((if0 _ _).trans (flt (fun q => hc28 ((lw_lt _ _).mp q))).1) k) ?_
      show Go p e below _ T3 (mkF m 31 #[.val (.ref a1), .val (.long p2), .second] [])
      refine Go.via (fun _ k => XS.aloadN X3.here hx rfl (hb hby own_d3_31) rfl (by rfl) k) ?_
      show Go p e below _ T3 (mkF m 32 #[.val (.ref a1), .val (.long p2), .second] [(.ref a1)])
      refine Go.via (fun _ k => XS.iconst X3.here hx rfl (hb hby own_d3_32) k) ?_
      show Go p e below _ T3 (mkF m 33 #[.val (.ref a1), .val (.long p2), .second] [(.int (1 : Int32)), (.ref a1)])
      obtain ⟨T5, h5, X5, e5, W5, st5⟩ := putFN X3 hx hZ hown (hw _ (List.mem_of_getElem? (i := 20) rfl)) Via.refl e3 F_come E_a1 (Or.inl (hw _ (List.mem_of_getElem? (i := 21) rfl))) (hw _ (List.mem_of_getElem? (i := 1) rfl)) (ty := .boolean) (v' := .int (1 : Int32)) (by decide) rfl rfl (g := (mkF m 33 #[.val (.ref a1), .val (.long p2), .second] [(.int (1 : Int32)), (.ref a1)])) rfl rfl (hb hby own_d3_33)
      refine Go.via (fun _ k => st5 _ k) ?_
      have Z5 : n0 ≤ h5.size := by rw [W5.size]; exact Z0
      have N5 := Fr.snoc X5 N0 g_a
      have E_a1_5 := E_a1.wr W5
      have K0_5 := K0.wr W5 (Or.inl (by simp))
      have F_fresh_5 := F_fresh.other W5 (Or.inr (slot_ne (t := .boolean) (t' := .boolean) (Or.inl (hw _ (List.mem_of_getElem? (i := 10) rfl))) (Or.inl (hw _ (List.mem_of_getElem? (i := 21) rfl))) (by decide) (by decide) (by decide)))
      have F_lapseNanos_5 := F_lapseNanos.other W5 (Or.inr (slot_ne (t := .long) (t' := .boolean) (Or.inr (hw _ (List.mem_of_getElem? (i := 12) rfl))) (Or.inl (hw _ (List.mem_of_getElem? (i := 21) rfl))) (by decide) (by decide) (by decide)))
      have F_quietSince_5 := F_quietSince.other W5 (Or.inr (slot_ne (t := .long) (t' := .boolean) (Or.inl (hw _ (List.mem_of_getElem? (i := 19) rfl))) (Or.inl (hw _ (List.mem_of_getElem? (i := 21) rfl))) (by decide) (by decide) (by decide)))
      have F_come_5 := F_come.same W5
      show Go p e below _ T5 (mkF m 36 #[.val (.ref a1), .val (.long p2), .second] [])
      refine Go.via (fun _ k => XS.aloadN X5.here hx rfl (hb hby own_d3_36) rfl (by rfl) k) ?_
      show Go p e below _ T5 (mkF m 37 #[.val (.ref a1), .val (.long p2), .second] [(.ref a1)])
      obtain ⟨T6, X6, e6, st6⟩ := getF X5 hx hZ hown (host := "") (Or.inl (hw _ (List.mem_of_getElem? (i := 20) rfl))) Via.refl e5 F_come_5 (g := (mkF m 37 #[.val (.ref a1), .val (.long p2), .second] [(.ref a1)])) rfl rfl (hb hby own_d3_37)
      refine Go.via (fun _ k => st6 _ k) ?_
      show Go p e below _ T6 (mkF m 40 #[.val (.ref a1), .val (.long p2), .second] [(.int (1 : Int32))])
      refine Go.retN X6 hx hk (hret : meth.sig.returnType = some .boolean) (t := .boolean) (by simp) (hb hby own_d3_40) (by decide) (by decide) ?_
      have hf : f = false := by exact b01_0.mp hc4
      have hq : own_q f qs p2 = qs := by rw [hf]; rfl
      have hcc : own_c f cm qs ln p2 = true := by
        show (cm || !decide (p2 - own_q f qs p2 < ln)) = _
        rw [hq, decide_eq_false hc28]
        simp
      rw [e6, hcc, hq]
      exact ⟨rfl, N5, K0_5, E_a1_5, (by have q := F_fresh_5; rw [hf] at q; exact q), F_lapseNanos_5, F_quietSince_5, F_come_5⟩
  · skip
    refine Go.via (fun _ k => XS.ifNo X1.here hx rfl (hb hby own_d3_4) rfl ((if0 _ _).trans (feq hc4).1) k) ?_
    show Go p e below _ T1 (mkF m 7 #[.val (.ref a1), .val (.long p2), .second] [])
    refine Go.via (fun _ k => XS.aloadN X1.here hx rfl (hb hby own_d3_7) rfl (by rfl) k) ?_
    show Go p e below _ T1 (mkF m 8 #[.val (.ref a1), .val (.long p2), .second] [(.ref a1)])
    refine Go.via (fun _ k => XS.lloadN X1.here hx rfl (hb hby own_d3_8) rfl  k) ?_
    show Go p e below _ T1 (mkF m 9 #[.val (.ref a1), .val (.long p2), .second] [(.long p2), (.ref a1)])
    obtain ⟨T7, h7, X7, e7, W7, st7⟩ := putF X1 hx hZ hown (host := "") (Or.inl (hw _ (List.mem_of_getElem? (i := 18) rfl))) Via.refl e1 F_quietSince E_a1 (Or.inl (hw _ (List.mem_of_getElem? (i := 19) rfl))) (hw _ (List.mem_of_getElem? (i := 1) rfl)) (ty := .long) (by decide) rfl rfl (g := (mkF m 9 #[.val (.ref a1), .val (.long p2), .second] [(.long p2), (.ref a1)])) rfl rfl (hb hby own_d3_9)
    refine Go.via (fun _ k => st7 _ k) ?_
    have Z7 : n0 ≤ h7.size := by rw [W7.size]; exact Z0
    have N7 := Fr.snoc X7 N0 g_a
    have E_a1_7 := E_a1.wr W7
    have K0_7 := K0.wr W7 (Or.inl (by simp))
    have F_fresh_7 := F_fresh.other W7 (Or.inr (slot_ne (t := .boolean) (t' := .long) (Or.inl (hw _ (List.mem_of_getElem? (i := 10) rfl))) (Or.inl (hw _ (List.mem_of_getElem? (i := 19) rfl))) (by decide) (by decide) (by decide)))
    have F_lapseNanos_7 := F_lapseNanos.other W7 (Or.inr (slot_ne (t := .long) (t' := .long) (Or.inr (hw _ (List.mem_of_getElem? (i := 12) rfl))) (Or.inl (hw _ (List.mem_of_getElem? (i := 19) rfl))) (by decide) (by decide) (by decide)))
    have F_quietSince_7 := F_quietSince.same W7
    have F_come_7 := F_come.other W7 (Or.inr (slot_ne (t := .boolean) (t' := .long) (Or.inl (hw _ (List.mem_of_getElem? (i := 21) rfl))) (Or.inl (hw _ (List.mem_of_getElem? (i := 19) rfl))) (by decide) (by decide) (by decide)))
    show Go p e below _ T7 (mkF m 12 #[.val (.ref a1), .val (.long p2), .second] [])
    refine Go.via (fun _ k => XS.aloadN X7.here hx rfl (hb hby own_d3_12) rfl (by rfl) k) ?_
    show Go p e below _ T7 (mkF m 13 #[.val (.ref a1), .val (.long p2), .second] [(.ref a1)])
    refine Go.via (fun _ k => XS.iconst X7.here hx rfl (hb hby own_d3_13) k) ?_
    show Go p e below _ T7 (mkF m 14 #[.val (.ref a1), .val (.long p2), .second] [(.int (0 : Int32)), (.ref a1)])
    obtain ⟨T8, h8, X8, e8, W8, st8⟩ := putFN X7 hx hZ hown (hw _ (List.mem_of_getElem? (i := 9) rfl)) Via.refl e7 F_fresh_7 E_a1_7 (Or.inl (hw _ (List.mem_of_getElem? (i := 10) rfl))) (hw _ (List.mem_of_getElem? (i := 1) rfl)) (ty := .boolean) (v' := .int (0 : Int32)) (by decide) rfl rfl (g := (mkF m 14 #[.val (.ref a1), .val (.long p2), .second] [(.int (0 : Int32)), (.ref a1)])) rfl rfl (hb hby own_d3_14)
    refine Go.via (fun _ k => st8 _ k) ?_
    have Z8 : n0 ≤ h8.size := by rw [W8.size]; exact Z7
    have N8 := Fr.snoc X8 N7 g_a
    have E_a1_7_8 := E_a1_7.wr W8
    have K0_7_8 := K0_7.wr W8 (Or.inl (by simp))
    have F_fresh_7_8 := F_fresh_7.same W8
    have F_lapseNanos_7_8 := F_lapseNanos_7.other W8 (Or.inr (slot_ne (t := .long) (t' := .boolean) (Or.inr (hw _ (List.mem_of_getElem? (i := 12) rfl))) (Or.inl (hw _ (List.mem_of_getElem? (i := 10) rfl))) (by decide) (by decide) (by decide)))
    have F_quietSince_7_8 := F_quietSince_7.other W8 (Or.inr (slot_ne (t := .long) (t' := .boolean) (Or.inl (hw _ (List.mem_of_getElem? (i := 19) rfl))) (Or.inl (hw _ (List.mem_of_getElem? (i := 10) rfl))) (by decide) (by decide) (by decide)))
    have F_come_7_8 := F_come_7.other W8 (Or.inr (slot_ne (t := .boolean) (t' := .boolean) (Or.inl (hw _ (List.mem_of_getElem? (i := 21) rfl))) (Or.inl (hw _ (List.mem_of_getElem? (i := 10) rfl))) (by decide) (by decide) (by decide)))
    show Go p e below _ T8 (mkF m 17 #[.val (.ref a1), .val (.long p2), .second] [])
    refine Go.via (fun _ k => XS.lloadN X8.here hx rfl (hb hby own_d3_17) rfl  k) ?_
    show Go p e below _ T8 (mkF m 18 #[.val (.ref a1), .val (.long p2), .second] [(.long p2)])
    refine Go.via (fun _ k => XS.aloadN X8.here hx rfl (hb hby own_d3_18) rfl (by rfl) k) ?_
    show Go p e below _ T8 (mkF m 19 #[.val (.ref a1), .val (.long p2), .second] [(.ref a1), (.long p2)])
    obtain ⟨T9, X9, e9, st9⟩ := getF X8 hx hZ hown (host := "") (Or.inl (hw _ (List.mem_of_getElem? (i := 18) rfl))) Via.refl e8 F_quietSince_7_8 (g := (mkF m 19 #[.val (.ref a1), .val (.long p2), .second] [(.ref a1), (.long p2)])) rfl rfl (hb hby own_d3_19)
    refine Go.via (fun _ k => st9 _ k) ?_
    show Go p e below _ T9 (mkF m 22 #[.val (.ref a1), .val (.long p2), .second] [(.long p2), (.long p2)])
    refine Go.via (fun _ k => XS.lsub X9.here hx rfl (hb hby own_d3_22) rfl k) ?_
    show Go p e below _ T9 (mkF m 23 #[.val (.ref a1), .val (.long p2), .second] [(.long (p2 - p2))])
    refine Go.via (fun _ k => XS.aloadN X9.here hx rfl (hb hby own_d3_23) rfl (by rfl) k) ?_
    show Go p e below _ T9 (mkF m 24 #[.val (.ref a1), .val (.long p2), .second] [(.ref a1), (.long (p2 - p2))])
    obtain ⟨T10, X10, e10, st10⟩ := getF X9 hx hZ hown (host := "") (Or.inl (hw _ (List.mem_of_getElem? (i := 11) rfl))) Via.refl e9 F_lapseNanos_7_8 (g := (mkF m 24 #[.val (.ref a1), .val (.long p2), .second] [(.ref a1), (.long (p2 - p2))])) rfl rfl (hb hby own_d3_24)
    refine Go.via (fun _ k => st10 _ k) ?_
    show Go p e below _ T10 (mkF m 27 #[.val (.ref a1), .val (.long p2), .second] [(.long ln), (.long (p2 - p2))])
    refine Go.via (fun _ k => XS.lcmp X10.here hx rfl (hb hby own_d3_27) rfl k) ?_
    show Go p e below _ T10 (mkF m 28 #[.val (.ref a1), .val (.long p2), .second] [(.int (lcmpW (p2 - p2) ln))])
    by_cases hc28 : (p2 - p2) < ln
    · skip
      refine Go.via (fun _ k => XS.ifYes X10.here hx rfl (pc0 := 28) (pc' := 36) rfl (hb hby own_d3_28) rfl ((if0 _ _).trans (tlt ((lw_lt _ _).mpr hc28)).1) (by decide) (by decide) k) ?_
      show Go p e below _ T10 (mkF m 36 #[.val (.ref a1), .val (.long p2), .second] [])
      refine Go.via (fun _ k => XS.aloadN X10.here hx rfl (hb hby own_d3_36) rfl (by rfl) k) ?_
      show Go p e below _ T10 (mkF m 37 #[.val (.ref a1), .val (.long p2), .second] [(.ref a1)])
      obtain ⟨T11, X11, e11, st11⟩ := getF X10 hx hZ hown (host := "") (Or.inl (hw _ (List.mem_of_getElem? (i := 20) rfl))) Via.refl e10 F_come_7_8 (g := (mkF m 37 #[.val (.ref a1), .val (.long p2), .second] [(.ref a1)])) rfl rfl (hb hby own_d3_37)
      refine Go.via (fun _ k => st11 _ k) ?_
      show Go p e below _ T11 (mkF m 40 #[.val (.ref a1), .val (.long p2), .second] [(.int (b01 cm))])
      refine Go.retN X11 hx hk (hret : meth.sig.returnType = some .boolean) (t := .boolean) (by simp) (hb hby own_d3_40) (by decide) (by decide) ?_
      have hf : f = true := by exact b01_n hc4
      have hq : own_q f qs p2 = p2 := by rw [hf]; rfl
      have hcc : own_c f cm qs ln p2 = cm := by
        show (cm || !decide (p2 - own_q f qs p2 < ln)) = _
        rw [hq, decide_eq_true hc28]
        simp
      rw [e11, hcc, hq]
      exact ⟨by rw [b01_nar], N8, K0_7_8, E_a1_7_8, F_fresh_7_8, F_lapseNanos_7_8, F_quietSince_7_8, F_come_7_8⟩
    · skip
      refine Go.via (fun _ k => XS.ifNo X10.here hx rfl (hb hby own_d3_28) rfl ((if0 _ _).trans (flt (fun q => hc28 ((lw_lt _ _).mp q))).1) k) ?_
      show Go p e below _ T10 (mkF m 31 #[.val (.ref a1), .val (.long p2), .second] [])
      refine Go.via (fun _ k => XS.aloadN X10.here hx rfl (hb hby own_d3_31) rfl (by rfl) k) ?_
      show Go p e below _ T10 (mkF m 32 #[.val (.ref a1), .val (.long p2), .second] [(.ref a1)])
      refine Go.via (fun _ k => XS.iconst X10.here hx rfl (hb hby own_d3_32) k) ?_
      show Go p e below _ T10 (mkF m 33 #[.val (.ref a1), .val (.long p2), .second] [(.int (1 : Int32)), (.ref a1)])
      obtain ⟨T12, h12, X12, e12, W12, st12⟩ := putFN X10 hx hZ hown (hw _ (List.mem_of_getElem? (i := 20) rfl)) Via.refl e10 F_come_7_8 E_a1_7_8 (Or.inl (hw _ (List.mem_of_getElem? (i := 21) rfl))) (hw _ (List.mem_of_getElem? (i := 1) rfl)) (ty := .boolean) (v' := .int (1 : Int32)) (by decide) rfl rfl (g := (mkF m 33 #[.val (.ref a1), .val (.long p2), .second] [(.int (1 : Int32)), (.ref a1)])) rfl rfl (hb hby own_d3_33)
      refine Go.via (fun _ k => st12 _ k) ?_
      have Z12 : n0 ≤ h12.size := by rw [W12.size]; exact Z8
      have N12 := Fr.snoc X12 N8 g_a
      have E_a1_7_8_12 := E_a1_7_8.wr W12
      have K0_7_8_12 := K0_7_8.wr W12 (Or.inl (by simp))
      have F_fresh_7_8_12 := F_fresh_7_8.other W12 (Or.inr (slot_ne (t := .boolean) (t' := .boolean) (Or.inl (hw _ (List.mem_of_getElem? (i := 10) rfl))) (Or.inl (hw _ (List.mem_of_getElem? (i := 21) rfl))) (by decide) (by decide) (by decide)))
      have F_lapseNanos_7_8_12 := F_lapseNanos_7_8.other W12 (Or.inr (slot_ne (t := .long) (t' := .boolean) (Or.inr (hw _ (List.mem_of_getElem? (i := 12) rfl))) (Or.inl (hw _ (List.mem_of_getElem? (i := 21) rfl))) (by decide) (by decide) (by decide)))
      have F_quietSince_7_8_12 := F_quietSince_7_8.other W12 (Or.inr (slot_ne (t := .long) (t' := .boolean) (Or.inl (hw _ (List.mem_of_getElem? (i := 19) rfl))) (Or.inl (hw _ (List.mem_of_getElem? (i := 21) rfl))) (by decide) (by decide) (by decide)))
      have F_come_7_8_12 := F_come_7_8.same W12
      show Go p e below _ T12 (mkF m 36 #[.val (.ref a1), .val (.long p2), .second] [])
      refine Go.via (fun _ k => XS.aloadN X12.here hx rfl (hb hby own_d3_36) rfl (by rfl) k) ?_
      show Go p e below _ T12 (mkF m 37 #[.val (.ref a1), .val (.long p2), .second] [(.ref a1)])
      obtain ⟨T13, X13, e13, st13⟩ := getF X12 hx hZ hown (host := "") (Or.inl (hw _ (List.mem_of_getElem? (i := 20) rfl))) Via.refl e12 F_come_7_8_12 (g := (mkF m 37 #[.val (.ref a1), .val (.long p2), .second] [(.ref a1)])) rfl rfl (hb hby own_d3_37)
      refine Go.via (fun _ k => st13 _ k) ?_
      show Go p e below _ T13 (mkF m 40 #[.val (.ref a1), .val (.long p2), .second] [(.int (1 : Int32))])
      refine Go.retN X13 hx hk (hret : meth.sig.returnType = some .boolean) (t := .boolean) (by simp) (hb hby own_d3_40) (by decide) (by decide) ?_
      have hf : f = true := by exact b01_n hc4
      have hq : own_q f qs p2 = p2 := by rw [hf]; rfl
      have hcc : own_c f cm qs ln p2 = true := by
        show (cm || !decide (p2 - own_q f qs p2 < ln)) = _
        rw [hq, decide_eq_false hc28]
        simp
      rw [e13, hcc, hq]
      exact ⟨rfl, N12, K0_7_8_12, E_a1_7_8_12, F_fresh_7_8_12, F_lapseNanos_7_8_12, F_quietSince_7_8_12, F_come_7_8_12⟩
theorem own_d4_0 : decode prog_109_method_2_code 0 = .ok (.aload_n 0, 1) := by decide +kernel
theorem own_d4_1 : decode prog_109_method_2_code 1 = .ok (.iconst 1, 1) := by decide +kernel
theorem own_d4_2 : decode prog_109_method_2_code 2 = .ok (.putfield 7, 3) := by decide +kernel
theorem own_d4_5 : decode prog_109_method_2_code 5 = .ok (.aload_n 0, 1) := by decide +kernel
theorem own_d4_6 : decode prog_109_method_2_code 6 = .ok (.iconst 0, 1) := by decide +kernel
theorem own_d4_7 : decode prog_109_method_2_code 7 = .ok (.putfield 17, 3) := by decide +kernel
theorem own_d4_10 : decode prog_109_method_2_code 10 = .ok (.return_, 1) := by decide +kernel
theorem ef_own_restart (m : MethodId) (a1 : Addr) : entryFrame m #[(.ref a1)] 1 = mkF m 0 #[.val (.ref a1)] [] := by first | (simp [entryFrame, mkF, argsToLocals, Value.category]; done) | rfl
set_option maxRecDepth 65536 in
set_option maxHeartbeats 40000000 in
theorem own_restart (l : Launch) (Z : State) (a0 : Array Value) (hw : ∀ d ∈ tables_1, d.before a0 Z = true) (ws : List Jvm.Cond) (a1 : Addr) (f cm : Bool) (ln qs : Int64) (h0 : Heap) (n0 : Nat) (Z0 : n0 ≤ h0.size) (E_a1 : Exa Z h0 a1 "com/example/austere_codec/austerecodec/jrmp/Lapse") (F_fresh : Fld Z h0 a1 "com/example/austere_codec/austerecodec/jrmp/Lapse" "fresh" "Z" (.int (b01 f))) (F_lapseNanos : Fld Z h0 a1 "com/example/austere_codec/austerecodec/jrmp/Lapse" "lapseNanos" "J" (.long ln)) (F_quietSince : Fld Z h0 a1 "com/example/austere_codec/austerecodec/jrmp/Lapse" "quietSince" "J" (.long qs)) (F_come : Fld Z h0 a1 "com/example/austere_codec/austerecodec/jrmp/Lapse" "come" "Z" (.int (b01 cm))) (g_a : n0 ≤ a1) :
    Met l Z (⟨"com/example/austere_codec/austerecodec/jrmp/Lapse", "restart", "()V"⟩ : MethodName) prog_109_method_2_code 1 none ws ({ frames := 0, cells := 0, slots := 0, locals := 0 } : Room) #[(.ref a1)] h0 (fun v h L => v = none ∧ Fr n0 L ∧ Keep h0 h [a1] ∧ Exa Z h a1 "com/example/austere_codec/austerecodec/jrmp/Lapse" ∧ Fld Z h a1 "com/example/austere_codec/austerecodec/jrmp/Lapse" "fresh" "Z" (.int (b01 true)) ∧ Fld Z h a1 "com/example/austere_codec/austerecodec/jrmp/Lapse" "lapseNanos" "J" (.long ln) ∧ Fld Z h a1 "com/example/austere_codec/austerecodec/jrmp/Lapse" "quietSince" "J" (.long qs) ∧ Fld Z h a1 "com/example/austere_codec/austerecodec/jrmp/Lapse" "come" "Z" (.int (b01 false))) := by
  refine Met.of (plainFor_of_name own_pn0) ?_
  intro p e s m below meth c T0 hx hby hml hk hret hnm hown hZ X0 e0
  have N0 := Fr.nil n0
  refine Go.cast (ef_own_restart m a1) ?_
  have K0 := Keep.refl h0 [a1]
  show Go p e below _ T0 (mkF m 0 #[.val (.ref a1)] [])
  refine Go.via (fun _ k => XS.aloadN X0.here hx rfl (hb hby own_d4_0) rfl (by rfl) k) ?_
  show Go p e below _ T0 (mkF m 1 #[.val (.ref a1)] [(.ref a1)])
  refine Go.via (fun _ k => XS.iconst X0.here hx rfl (hb hby own_d4_1) k) ?_
  show Go p e below _ T0 (mkF m 2 #[.val (.ref a1)] [(.int (1 : Int32)), (.ref a1)])
  obtain ⟨T1, h1, X1, e1, W1, st1⟩ := putFN X0 hx hZ hown (hw _ (List.mem_of_getElem? (i := 9) rfl)) Via.refl e0 F_fresh E_a1 (Or.inl (hw _ (List.mem_of_getElem? (i := 10) rfl))) (hw _ (List.mem_of_getElem? (i := 1) rfl)) (ty := .boolean) (v' := .int (1 : Int32)) (by decide) rfl rfl (g := (mkF m 2 #[.val (.ref a1)] [(.int (1 : Int32)), (.ref a1)])) rfl rfl (hb hby own_d4_2)
  refine Go.via (fun _ k => st1 _ k) ?_
  have Z1 : n0 ≤ h1.size := by rw [W1.size]; exact Z0
  have N1 := Fr.snoc X1 N0 g_a
  have E_a1_1 := E_a1.wr W1
  have K0_1 := K0.wr W1 (Or.inl (by simp))
  have F_fresh_1 := F_fresh.same W1
  have F_lapseNanos_1 := F_lapseNanos.other W1 (Or.inr (slot_ne (t := .long) (t' := .boolean) (Or.inr (hw _ (List.mem_of_getElem? (i := 12) rfl))) (Or.inl (hw _ (List.mem_of_getElem? (i := 10) rfl))) (by decide) (by decide) (by decide)))
  have F_quietSince_1 := F_quietSince.other W1 (Or.inr (slot_ne (t := .long) (t' := .boolean) (Or.inl (hw _ (List.mem_of_getElem? (i := 19) rfl))) (Or.inl (hw _ (List.mem_of_getElem? (i := 10) rfl))) (by decide) (by decide) (by decide)))
  have F_come_1 := F_come.other W1 (Or.inr (slot_ne (t := .boolean) (t' := .boolean) (Or.inl (hw _ (List.mem_of_getElem? (i := 21) rfl))) (Or.inl (hw _ (List.mem_of_getElem? (i := 10) rfl))) (by decide) (by decide) (by decide)))
  show Go p e below _ T1 (mkF m 5 #[.val (.ref a1)] [])
  refine Go.via (fun _ k => XS.aloadN X1.here hx rfl (hb hby own_d4_5) rfl (by rfl) k) ?_
  show Go p e below _ T1 (mkF m 6 #[.val (.ref a1)] [(.ref a1)])
  refine Go.via (fun _ k => XS.iconst X1.here hx rfl (hb hby own_d4_6) k) ?_
  show Go p e below _ T1 (mkF m 7 #[.val (.ref a1)] [(.int (0 : Int32)), (.ref a1)])
  obtain ⟨T2, h2, X2, e2, W2, st2⟩ := putFN X1 hx hZ hown (hw _ (List.mem_of_getElem? (i := 20) rfl)) Via.refl e1 F_come_1 E_a1_1 (Or.inl (hw _ (List.mem_of_getElem? (i := 21) rfl))) (hw _ (List.mem_of_getElem? (i := 1) rfl)) (ty := .boolean) (v' := .int (0 : Int32)) (by decide) rfl rfl (g := (mkF m 7 #[.val (.ref a1)] [(.int (0 : Int32)), (.ref a1)])) rfl rfl (hb hby own_d4_7)
  refine Go.via (fun _ k => st2 _ k) ?_
  have Z2 : n0 ≤ h2.size := by rw [W2.size]; exact Z1
  have N2 := Fr.snoc X2 N1 g_a
  have E_a1_1_2 := E_a1_1.wr W2
  have K0_1_2 := K0_1.wr W2 (Or.inl (by simp))
  have F_fresh_1_2 := F_fresh_1.other W2 (Or.inr (slot_ne (t := .boolean) (t' := .boolean) (Or.inl (hw _ (List.mem_of_getElem? (i := 10) rfl))) (Or.inl (hw _ (List.mem_of_getElem? (i := 21) rfl))) (by decide) (by decide) (by decide)))
  have F_lapseNanos_1_2 := F_lapseNanos_1.other W2 (Or.inr (slot_ne (t := .long) (t' := .boolean) (Or.inr (hw _ (List.mem_of_getElem? (i := 12) rfl))) (Or.inl (hw _ (List.mem_of_getElem? (i := 21) rfl))) (by decide) (by decide) (by decide)))
  have F_quietSince_1_2 := F_quietSince_1.other W2 (Or.inr (slot_ne (t := .long) (t' := .boolean) (Or.inl (hw _ (List.mem_of_getElem? (i := 19) rfl))) (Or.inl (hw _ (List.mem_of_getElem? (i := 21) rfl))) (by decide) (by decide) (by decide)))
  have F_come_1_2 := F_come_1.same W2
  show Go p e below _ T2 (mkF m 10 #[.val (.ref a1)] [])
  refine Go.retV X2 hx hk hret (hb hby own_d4_10) (by decide) (by decide) ?_
  rw [e2]
  exact ⟨rfl, N2, K0_1_2, E_a1_1_2, F_fresh_1_2, F_lapseNanos_1_2, F_quietSince_1_2, F_come_1_2⟩
def own_left (f cm : Bool) (ln qs t : Int64) : Int64 := if cm = true then 9223372036854775807 else if f = true then ln else ln - (t - qs)
theorem own_sub (t : Int64) : t - t = 0 := by rw [← Int64.toBitVec_inj]; simp
theorem own_c1 (ln t0 : Int64) : own_c true false 0 ln t0 = !decide (0 < ln) := by simp [own_c, own_q, own_sub]
theorem own_f1 {ln t0 now : Int64} (h : i01 (¬ 0 < ln) = 0) : own_left false (own_c true false 0 ln t0) ln (own_q true 0 t0) now = ln - (now - t0) := by
  have h' : 0 < ln := Decidable.not_not.mp (i01_0.mp h)
  simp [own_left, own_c1, own_q, h']
theorem own_f2 {ln t0 now : Int64} (h : ¬ i01 (¬ 0 < ln) = 0) : own_left false (own_c true false 0 ln t0) ln (own_q true 0 t0) now = 9223372036854775807 := by
  have h' := i01_n h
  simp [own_left, own_c1, h']
theorem own_f3 {ln t0 t1 now : Int64} (h : i01 (¬ 0 < ln) = 0) (g : t1 - t0 < ln) : own_left false (own_c false (own_c true false 0 ln t0) (own_q true 0 t0) ln t1) ln (own_q false (own_q true 0 t0) t1) now = ln - (now - t0) := by
  have h' : 0 < ln := Decidable.not_not.mp (i01_0.mp h)
  simp [own_left, own_c, own_sub, own_q, h', g]
theorem own_f4 {ln t0 t1 now : Int64} (h : ¬ i01 (¬ 0 < ln) = 0) : own_left false (own_c false (own_c true false 0 ln t0) (own_q true 0 t0) ln t1) ln (own_q false (own_q true 0 t0) t1) now = 9223372036854775807 := by
  have h' := i01_n h
  simp [own_left, own_c, own_sub, own_q, h']
theorem own_f5 {ln t0 t1 now : Int64} (g : ¬ t1 - t0 < ln) : own_left false (own_c false (own_c true false 0 ln t0) (own_q true 0 t0) ln t1) ln (own_q false (own_q true 0 t0) t1) now = 9223372036854775807 := by
  simp [own_left, own_c, own_sub, own_q, g]
theorem own_lt3 {m : Int32} (h : m < 2) : ¬ m = 3 := fun q => by subst q; revert h; decide
theorem own_d5_0 : decode prog_109_method_4_code 0 = .ok (.aload_n 0, 1) := by decide +kernel
theorem own_d5_1 : decode prog_109_method_4_code 1 = .ok (.getfield 17, 3) := by decide +kernel
theorem own_d5_4 : decode prog_109_method_4_code 4 = .ok (.ifCond .eq 7, 3) := by decide +kernel
theorem own_d5_7 : decode prog_109_method_4_code 7 = .ok (.ldc2_w 25, 3) := by decide +kernel
theorem own_d5_10 : decode prog_109_method_4_code 10 = .ok (.lreturn, 1) := by decide +kernel
theorem own_d5_11 : decode prog_109_method_4_code 11 = .ok (.aload_n 0, 1) := by decide +kernel
theorem own_d5_12 : decode prog_109_method_4_code 12 = .ok (.getfield 7, 3) := by decide +kernel
theorem own_d5_15 : decode prog_109_method_4_code 15 = .ok (.ifCond .eq 10, 3) := by decide +kernel
theorem own_d5_18 : decode prog_109_method_4_code 18 = .ok (.aload_n 0, 1) := by decide +kernel
theorem own_d5_19 : decode prog_109_method_4_code 19 = .ok (.getfield 13, 3) := by decide +kernel
theorem own_d5_22 : decode prog_109_method_4_code 22 = .ok (.goto 14, 3) := by decide +kernel
theorem own_d5_25 : decode prog_109_method_4_code 25 = .ok (.aload_n 0, 1) := by decide +kernel
theorem own_d5_26 : decode prog_109_method_4_code 26 = .ok (.getfield 13, 3) := by decide +kernel
theorem own_d5_29 : decode prog_109_method_4_code 29 = .ok (.lload_n 1, 1) := by decide +kernel
theorem own_d5_30 : decode prog_109_method_4_code 30 = .ok (.aload_n 0, 1) := by decide +kernel
theorem own_d5_31 : decode prog_109_method_4_code 31 = .ok (.getfield 20, 3) := by decide +kernel
theorem own_d5_34 : decode prog_109_method_4_code 34 = .ok (.lsub, 1) := by decide +kernel
theorem own_d5_35 : decode prog_109_method_4_code 35 = .ok (.lsub, 1) := by decide +kernel
theorem own_d5_36 : decode prog_109_method_4_code 36 = .ok (.lreturn, 1) := by decide +kernel
theorem ef_own_lf (m : MethodId) (a1 : Addr) (p2 : Int64) : entryFrame m #[(.ref a1), (.long p2)] 3 = mkF m 0 #[.val (.ref a1), .val (.long p2), .second] [] := by first | (simp [entryFrame, mkF, argsToLocals, Value.category]; done) | rfl
set_option maxRecDepth 65536 in
set_option maxHeartbeats 40000000 in
theorem own_lf (l : Launch) (Z : State) (a0 : Array Value) (hw : ∀ d ∈ tables_1, d.before a0 Z = true) (ws : List Jvm.Cond) (a1 : Addr) (p2 : Int64) (f cm : Bool) (ln qs : Int64) (h0 : Heap) (n0 : Nat) (Z0 : n0 ≤ h0.size) (E_a1 : Exa Z h0 a1 "com/example/austere_codec/austerecodec/jrmp/Lapse") (F_fresh : Fld Z h0 a1 "com/example/austere_codec/austerecodec/jrmp/Lapse" "fresh" "Z" (.int (b01 f))) (F_lapseNanos : Fld Z h0 a1 "com/example/austere_codec/austerecodec/jrmp/Lapse" "lapseNanos" "J" (.long ln)) (F_quietSince : Fld Z h0 a1 "com/example/austere_codec/austerecodec/jrmp/Lapse" "quietSince" "J" (.long qs)) (F_come : Fld Z h0 a1 "com/example/austere_codec/austerecodec/jrmp/Lapse" "come" "Z" (.int (b01 cm))) (g_a : n0 ≤ a1) :
    Met l Z (⟨"com/example/austere_codec/austerecodec/jrmp/Lapse", "left", "(J)J"⟩ : MethodName) prog_109_method_4_code 3 (some .long) ws ({ frames := 0, cells := 0, slots := 0, locals := 0 } : Room) #[(.ref a1), (.long p2)] h0 (fun v h L => v = some (.long (own_left f cm ln qs p2)) ∧ Fr n0 L ∧ h = h0) := by
  refine Met.of (plainFor_of_name own_pn0) ?_
  intro p e s m below meth c T0 hx hby hml hk hret hnm hown hZ X0 e0
  have N0 := Fr.nil n0
  refine Go.cast (ef_own_lf m a1 p2) ?_
  show Go p e below _ T0 (mkF m 0 #[.val (.ref a1), .val (.long p2), .second] [])
  refine Go.via (fun _ k => XS.aloadN X0.here hx rfl (hb hby own_d5_0) rfl (by rfl) k) ?_
  show Go p e below _ T0 (mkF m 1 #[.val (.ref a1), .val (.long p2), .second] [(.ref a1)])
  obtain ⟨T1, X1, e1, st1⟩ := getF X0 hx hZ hown (host := "") (Or.inl (hw _ (List.mem_of_getElem? (i := 20) rfl))) Via.refl e0 F_come (g := (mkF m 1 #[.val (.ref a1), .val (.long p2), .second] [(.ref a1)])) rfl rfl (hb hby own_d5_1)
  refine Go.via (fun _ k => st1 _ k) ?_
  show Go p e below _ T1 (mkF m 4 #[.val (.ref a1), .val (.long p2), .second] [(.int (b01 cm))])
  by_cases hc4 : (b01 cm) = (0 : Int32)
  · skip
    refine Go.via (fun _ k => XS.ifYes X1.here hx rfl (pc0 := 4) (pc' := 11) rfl (hb hby own_d5_4) rfl ((if0 _ _).trans (teq hc4).1) (by decide) (by decide) k) ?_
    show Go p e below _ T1 (mkF m 11 #[.val (.ref a1), .val (.long p2), .second] [])
    refine Go.via (fun _ k => XS.aloadN X1.here hx rfl (hb hby own_d5_11) rfl (by rfl) k) ?_
    show Go p e below _ T1 (mkF m 12 #[.val (.ref a1), .val (.long p2), .second] [(.ref a1)])
    obtain ⟨T2, X2, e2, st2⟩ := getF X1 hx hZ hown (host := "") (Or.inl (hw _ (List.mem_of_getElem? (i := 9) rfl))) Via.refl e1 F_fresh (g := (mkF m 12 #[.val (.ref a1), .val (.long p2), .second] [(.ref a1)])) rfl rfl (hb hby own_d5_12)
    refine Go.via (fun _ k => st2 _ k) ?_
    show Go p e below _ T2 (mkF m 15 #[.val (.ref a1), .val (.long p2), .second] [(.int (b01 f))])
    by_cases hc15 : (b01 f) = (0 : Int32)
    · skip
      refine Go.via (fun _ k => XS.ifYes X2.here hx rfl (pc0 := 15) (pc' := 25) rfl (hb hby own_d5_15) rfl ((if0 _ _).trans (teq hc15).1) (by decide) (by decide) k) ?_
      show Go p e below _ T2 (mkF m 25 #[.val (.ref a1), .val (.long p2), .second] [])
      refine Go.via (fun _ k => XS.aloadN X2.here hx rfl (hb hby own_d5_25) rfl (by rfl) k) ?_
      show Go p e below _ T2 (mkF m 26 #[.val (.ref a1), .val (.long p2), .second] [(.ref a1)])
      obtain ⟨T3, X3, e3, st3⟩ := getF X2 hx hZ hown (host := "") (Or.inl (hw _ (List.mem_of_getElem? (i := 11) rfl))) Via.refl e2 F_lapseNanos (g := (mkF m 26 #[.val (.ref a1), .val (.long p2), .second] [(.ref a1)])) rfl rfl (hb hby own_d5_26)
      refine Go.via (fun _ k => st3 _ k) ?_
      show Go p e below _ T3 (mkF m 29 #[.val (.ref a1), .val (.long p2), .second] [(.long ln)])
      refine Go.via (fun _ k => XS.lloadN X3.here hx rfl (hb hby own_d5_29) rfl  k) ?_
      show Go p e below _ T3 (mkF m 30 #[.val (.ref a1), .val (.long p2), .second] [(.long p2), (.long ln)])
      refine Go.via (fun _ k => XS.aloadN X3.here hx rfl (hb hby own_d5_30) rfl (by rfl) k) ?_
      show Go p e below _ T3 (mkF m 31 #[.val (.ref a1), .val (.long p2), .second] [(.ref a1), (.long p2), (.long ln)])
      obtain ⟨T4, X4, e4, st4⟩ := getF X3 hx hZ hown (host := "") (Or.inl (hw _ (List.mem_of_getElem? (i := 18) rfl))) Via.refl e3 F_quietSince (g := (mkF m 31 #[.val (.ref a1), .val (.long p2), .second] [(.ref a1), (.long p2), (.long ln)])) rfl rfl (hb hby own_d5_31)
      refine Go.via (fun _ k => st4 _ k) ?_
      show Go p e below _ T4 (mkF m 34 #[.val (.ref a1), .val (.long p2), .second] [(.long qs), (.long p2), (.long ln)])
      refine Go.via (fun _ k => XS.lsub X4.here hx rfl (hb hby own_d5_34) rfl k) ?_
      show Go p e below _ T4 (mkF m 35 #[.val (.ref a1), .val (.long p2), .second] [(.long (p2 - qs)), (.long ln)])
      refine Go.via (fun _ k => XS.lsub X4.here hx rfl (hb hby own_d5_35) rfl k) ?_
      show Go p e below _ T4 (mkF m 36 #[.val (.ref a1), .val (.long p2), .second] [(.long (ln - (p2 - qs)))])
      refine Go.retJ X4 hx hk hret (hb hby own_d5_36) (by decide) (by decide) ?_
      have hm : cm = false := b01_0.mp hc4
      have hf : f = false := by exact b01_0.mp hc15
      exact ⟨by rw [hm, hf]; rfl, N0, e4⟩
    · skip
      refine Go.via (fun _ k => XS.ifNo X2.here hx rfl (hb hby own_d5_15) rfl ((if0 _ _).trans (feq hc15).1) k) ?_
      show Go p e below _ T2 (mkF m 18 #[.val (.ref a1), .val (.long p2), .second] [])
      refine Go.via (fun _ k => XS.aloadN X2.here hx rfl (hb hby own_d5_18) rfl (by rfl) k) ?_
      show Go p e below _ T2 (mkF m 19 #[.val (.ref a1), .val (.long p2), .second] [(.ref a1)])
      obtain ⟨T5, X5, e5, st5⟩ := getF X2 hx hZ hown (host := "") (Or.inl (hw _ (List.mem_of_getElem? (i := 11) rfl))) Via.refl e2 F_lapseNanos (g := (mkF m 19 #[.val (.ref a1), .val (.long p2), .second] [(.ref a1)])) rfl rfl (hb hby own_d5_19)
      refine Go.via (fun _ k => st5 _ k) ?_
      show Go p e below _ T5 (mkF m 22 #[.val (.ref a1), .val (.long p2), .second] [(.long ln)])
      refine Go.via (fun _ k => XS.goto X5.here hx rfl (pc0 := 22) (pc' := 36) rfl (hb hby own_d5_22) (by decide) (by decide) k) ?_
      show Go p e below _ T5 (mkF m 36 #[.val (.ref a1), .val (.long p2), .second] [(.long ln)])
      refine Go.retJ X5 hx hk hret (hb hby own_d5_36) (by decide) (by decide) ?_
      have hm : cm = false := b01_0.mp hc4
      have hf : f = true := by exact b01_n hc15
      exact ⟨by rw [hm, hf]; rfl, N0, e5⟩
  · skip
    refine Go.via (fun _ k => XS.ifNo X1.here hx rfl (hb hby own_d5_4) rfl ((if0 _ _).trans (feq hc4).1) k) ?_
    show Go p e below _ T1 (mkF m 7 #[.val (.ref a1), .val (.long p2), .second] [])
    refine Go.via (fun _ k => Stand.ldc2Long X1 hx hown (mvT hZ (hw _ (List.mem_of_getElem? (i := 33) rfl))) (g := (mkF m 7 #[.val (.ref a1), .val (.long p2), .second] [])) rfl (hb hby own_d5_7) _ k) ?_
    show Go p e below _ T1 (mkF m 10 #[.val (.ref a1), .val (.long p2), .second] [(.long (9223372036854775807 : Int64))])
    refine Go.retJ X1 hx hk hret (hb hby own_d5_10) (by decide) (by decide) ?_
    have hm : cm = true := b01_n hc4
    exact ⟨by rw [hm]; rfl, N0, e1⟩
theorem own_pn1 : plainName "com/example/austere_codec/austerecodec/jrmp/LapseLeftPinLaw" = true := by first | (simp [plainName, overriddenIn]; done) | decide +kernel
theorem ef_own_m0 (m : MethodId) (p1 : Int64) (p2 : Int64) (p3 : Int64) (p4 : Int64) (p5 : Int32) : entryFrame m #[(.long p1), (.long p2), (.long p3), (.long p4), (.int p5)] maxLocals = mkF m 0 #[.val (.long p1), .second, .val (.long p2), .second, .val (.long p3), .second, .val (.long p4), .second, .val (.int p5), .unset, .unset, .unset, .unset, .unset] [] := by first | (simp [entryFrame, mkF, argsToLocals, Value.category, maxLocals]; done) | rfl
set_option maxRecDepth 65536 in
set_option maxHeartbeats 40000000 in
theorem own_m0 (l : Launch) (Z : State) (a0 : Array Value) (hw : ∀ d ∈ tables_1, d.before a0 Z = true) (ws : List Jvm.Cond) (p1 : Int64) (p2 : Int64) (p3 : Int64) (p4 : Int64) (p5 : Int32)  (h0 : Heap) (n0 : Nat) (Z0 : n0 ≤ h0.size)  :
    Met l Z x code maxLocals ret ws room_1 #[(.long p1), (.long p2), (.long p3), (.long p4), (.int p5)] h0 (fun v h L => v = some (.int 1) ∧ Fr n0 L) := by
  refine Met.of (plainFor_of_name own_pn1) ?_
  intro p e s m below meth c T0 hx hby hml hk hret hnm hown hZ X0 e0
  have N0 := Fr.nil n0
  refine Go.cast (ef_own_m0 m p1 p2 p3 p4 p5) ?_
  show Go p e below _ T0 (mkF m 0 #[.val (.long p1), .second, .val (.long p2), .second, .val (.long p3), .second, .val (.long p4), .second, .val (.int p5), .unset, .unset, .unset, .unset, .unset] [])
  refine Go.via (fun _ k => XS.iload X0.here hx rfl (hb hby at_0) rfl  k) ?_
  show Go p e below _ T0 (mkF m 2 #[.val (.long p1), .second, .val (.long p2), .second, .val (.long p3), .second, .val (.long p4), .second, .val (.int p5), .unset, .unset, .unset, .unset, .unset] [(.int p5)])
  refine Go.via (fun _ k => XS.iconst X0.here hx rfl (hb hby at_2) k) ?_
  show Go p e below _ T0 (mkF m 3 #[.val (.long p1), .second, .val (.long p2), .second, .val (.long p3), .second, .val (.long p4), .second, .val (.int p5), .unset, .unset, .unset, .unset, .unset] [(.int (3 : Int32)), (.int p5)])
  refine Go.via (fun _ k => XS.iand X0.here hx rfl (hb hby at_3) rfl k) ?_
  show Go p e below _ T0 (mkF m 4 #[.val (.long p1), .second, .val (.long p2), .second, .val (.long p3), .second, .val (.long p4), .second, .val (.int p5), .unset, .unset, .unset, .unset, .unset] [(.int (p5 &&& (3 : Int32)))])
  refine Go.via (fun _ k => XS.istore X0.here hx rfl (hb hby at_4) rfl (l' := #[.val (.long p1), .second, .val (.long p2), .second, .val (.long p3), .second, .val (.long p4), .second, .val (.int p5), .val (.int (p5 &&& (3 : Int32))), .unset, .unset, .unset, .unset]) rfl k) ?_
  show Go p e below _ T0 (mkF m 6 #[.val (.long p1), .second, .val (.long p2), .second, .val (.long p3), .second, .val (.long p4), .second, .val (.int p5), .val (.int (p5 &&& (3 : Int32))), .unset, .unset, .unset, .unset] [])
  obtain ⟨T1, h1, X1, e1, E1, A1, D1, -, st1⟩ := newO X0 hx hZ hown (hw _ (List.mem_of_getElem? (i := 0) rfl)) (hw _ (List.mem_of_getElem? (i := 1) rfl)) (hw _ (List.mem_of_getElem? (i := 2) rfl)) e0 (g := (mkF m 6 #[.val (.long p1), .second, .val (.long p2), .second, .val (.long p3), .second, .val (.long p4), .second, .val (.int p5), .val (.int (p5 &&& (3 : Int32))), .unset, .unset, .unset, .unset] [])) rfl (hb hby at_6) (by decide) (by decide)
  obtain ⟨b1, g1⟩ : ∃ z, z = h0.size := ⟨_, rfl⟩
  rw [← g1] at A1 D1 st1
  refine Go.via (fun _ k => st1 _ k) ?_
  have ge_b1 : n0 ≤ b1 := Nat.le_trans Z0 (Nat.le_of_eq g1.symm)
  have Z1 : n0 ≤ h1.size := Nat.le_trans Z0 E1.1
  have F_fresh_1 : Fld Z h1 b1 "com/example/austere_codec/austerecodec/jrmp/Lapse" "fresh" "Z" (.int (0 : Int32)) := D1 (Or.inl (hw _ (List.mem_of_getElem? (i := 10) rfl))) (ty := .boolean) (by decide)
  have F_lapseNanos_1 : Fld Z h1 b1 "com/example/austere_codec/austerecodec/jrmp/Lapse" "lapseNanos" "J" (.long (0 : Int64)) := D1 (Or.inr (hw _ (List.mem_of_getElem? (i := 12) rfl))) (ty := .long) (by decide)
  have F_quietSince_1 : Fld Z h1 b1 "com/example/austere_codec/austerecodec/jrmp/Lapse" "quietSince" "J" (.long (0 : Int64)) := D1 (Or.inl (hw _ (List.mem_of_getElem? (i := 19) rfl))) (ty := .long) (by decide)
  have F_come_1 : Fld Z h1 b1 "com/example/austere_codec/austerecodec/jrmp/Lapse" "come" "Z" (.int (0 : Int32)) := D1 (Or.inl (hw _ (List.mem_of_getElem? (i := 21) rfl))) (ty := .boolean) (by decide)
  show Go p e below _ T1 (mkF m 9 #[.val (.long p1), .second, .val (.long p2), .second, .val (.long p3), .second, .val (.long p4), .second, .val (.int p5), .val (.int (p5 &&& (3 : Int32))), .unset, .unset, .unset, .unset] [(.ref b1)])
  refine Go.via (fun _ k => XS.dup X1.here hx rfl (hb hby at_9) rfl (by rfl) k) ?_
  show Go p e below _ T1 (mkF m 10 #[.val (.long p1), .second, .val (.long p2), .second, .val (.long p3), .second, .val (.long p4), .second, .val (.int p5), .val (.int (p5 &&& (3 : Int32))), .unset, .unset, .unset, .unset] [(.ref b1), (.ref b1)])
  refine Go.via (fun _ k => XS.lloadN X1.here hx rfl (hb hby at_10) rfl  k) ?_
  show Go p e below _ T1 (mkF m 11 #[.val (.long p1), .second, .val (.long p2), .second, .val (.long p3), .second, .val (.long p4), .second, .val (.int p5), .val (.int (p5 &&& (3 : Int32))), .unset, .unset, .unset, .unset] [(.long p1), (.ref b1), (.ref b1)])
  obtain ⟨v2, T2, L2, X2, ⟨rfl, Nq2, K2, G0_2, G1_2, G2_2, G3_2, G4_2⟩, st2⟩ := Go.callN X1 hx hZ hown e1 rfl (hw _ (List.mem_of_getElem? (i := 3) rfl)) (hw _ (List.mem_of_getElem? (i := 4) rfl)) (hw _ (List.mem_of_getElem? (i := 2) rfl)) (hw _ (List.mem_of_getElem? (i := 5) rfl)) (by decide) (own_init l Z a0 hw [] b1 p1  h1 n0 Z1 A1 F_fresh_1 F_lapseNanos_1 F_quietSince_1 F_come_1 ge_b1) (pc := 11) (Ls := #[.val (.long p1), .second, .val (.long p2), .second, .val (.long p3), .second, .val (.long p4), .second, .val (.int p5), .val (.int (p5 &&& (3 : Int32))), .unset, .unset, .unset, .unset]) (a := b1) (argsL := [(.long p1)]) (rest := [(.ref b1)]) own_pd0 rfl rfl (by rw [hml]; rfl) (hb hby at_11) (W := 1) (Nat.le_of_eq rfl) (by decide) (by decide) (by decide) (by decide)
  refine st2 ?_
  have N2 := Fr.app N0 Nq2
  have Z2 : n0 ≤ T2.heap.size := Nat.le_trans Z1 K2.1
  have e2 : T2.heap = T2.heap := rfl
  show Go p e below _ T2 (mkF m 14 #[.val (.long p1), .second, .val (.long p2), .second, .val (.long p3), .second, .val (.long p4), .second, .val (.int p5), .val (.int (p5 &&& (3 : Int32))), .unset, .unset, .unset, .unset] [(.ref b1)])
  refine Go.via (fun _ k => XS.astore X2.here hx rfl (hb hby at_14) rfl (by rfl) (l' := #[.val (.long p1), .second, .val (.long p2), .second, .val (.long p3), .second, .val (.long p4), .second, .val (.int p5), .val (.int (p5 &&& (3 : Int32))), .val (.ref b1), .unset, .unset, .unset]) rfl k) ?_
  show Go p e below _ T2 (mkF m 16 #[.val (.long p1), .second, .val (.long p2), .second, .val (.long p3), .second, .val (.long p4), .second, .val (.int p5), .val (.int (p5 &&& (3 : Int32))), .val (.ref b1), .unset, .unset, .unset] [])
  refine Go.via (fun _ k => XS.iload X2.here hx rfl (hb hby at_16) rfl  k) ?_
  show Go p e below _ T2 (mkF m 18 #[.val (.long p1), .second, .val (.long p2), .second, .val (.long p3), .second, .val (.long p4), .second, .val (.int p5), .val (.int (p5 &&& (3 : Int32))), .val (.ref b1), .unset, .unset, .unset] [(.int (p5 &&& (3 : Int32)))])
  by_cases hc18 : (p5 &&& (3 : Int32)) = (0 : Int32)
  · skip
    refine Go.via (fun _ k => XS.ifNo X2.here hx rfl (hb hby at_18) rfl ((if0 _ _).trans (teq hc18).2) k) ?_
    show Go p e below _ T2 (mkF m 21 #[.val (.long p1), .second, .val (.long p2), .second, .val (.long p3), .second, .val (.long p4), .second, .val (.int p5), .val (.int (p5 &&& (3 : Int32))), .val (.ref b1), .unset, .unset, .unset] [])
    refine Go.via (fun _ k => XS.aload X2.here hx rfl (hb hby at_21) rfl (by rfl) k) ?_
    show Go p e below _ T2 (mkF m 23 #[.val (.long p1), .second, .val (.long p2), .second, .val (.long p3), .second, .val (.long p4), .second, .val (.int p5), .val (.int (p5 &&& (3 : Int32))), .val (.ref b1), .unset, .unset, .unset] [(.ref b1)])
    refine Go.via (fun _ k => XS.lload X2.here hx rfl (hb hby at_23) rfl  k) ?_
    show Go p e below _ T2 (mkF m 25 #[.val (.long p1), .second, .val (.long p2), .second, .val (.long p3), .second, .val (.long p4), .second, .val (.int p5), .val (.int (p5 &&& (3 : Int32))), .val (.ref b1), .unset, .unset, .unset] [(.long p4), (.ref b1)])
    obtain ⟨v3, T3, L3, X3, ⟨rfl, Nq3, eq3⟩, st3⟩ := Go.callV X2 hx hZ hown e2 (hw _ (List.mem_of_getElem? (i := 27) rfl)) (hw _ (List.mem_of_getElem? (i := 28) rfl)) (hw _ (List.mem_of_getElem? (i := 30) rfl)) (hw _ (List.mem_of_getElem? (i := 29) rfl)) (hw _ (List.mem_of_getElem? (i := 2) rfl)) (hw _ (List.mem_of_getElem? (i := 31) rfl)) (by decide) G0_2 (own_lf l Z a0 hw [] b1 p4 true false p1 (0 : Int64) T2.heap n0 Z2 G0_2 G1_2 G2_2 G3_2 G4_2 ge_b1) (pc := 25) (Ls := #[.val (.long p1), .second, .val (.long p2), .second, .val (.long p3), .second, .val (.long p4), .second, .val (.int p5), .val (.int (p5 &&& (3 : Int32))), .val (.ref b1), .unset, .unset, .unset]) (argsL := [(.long p4)]) (rest := []) own_pd1 rfl rfl (by rw [hml]; rfl) (hb hby at_25) (W := 0) (Nat.le_of_eq rfl) (by decide) (by decide) (by decide) (by decide)
    refine st3 ?_
    have N3 := Fr.app N2 Nq3
    show Go p e below _ T3 (mkF m 28 #[.val (.long p1), .second, .val (.long p2), .second, .val (.long p3), .second, .val (.long p4), .second, .val (.int p5), .val (.int (p5 &&& (3 : Int32))), .val (.ref b1), .unset, .unset, .unset] [(.long (own_left true false p1 (0 : Int64) p4))])
    refine Go.via (fun _ k => XS.lloadN X3.here hx rfl (hb hby at_28) rfl  k) ?_
    show Go p e below _ T3 (mkF m 29 #[.val (.long p1), .second, .val (.long p2), .second, .val (.long p3), .second, .val (.long p4), .second, .val (.int p5), .val (.int (p5 &&& (3 : Int32))), .val (.ref b1), .unset, .unset, .unset] [(.long p1), (.long (own_left true false p1 (0 : Int64) p4))])
    refine Go.via (fun _ k => XS.lcmp X3.here hx rfl (hb hby at_29) rfl k) ?_
    show Go p e below _ T3 (mkF m 30 #[.val (.long p1), .second, .val (.long p2), .second, .val (.long p3), .second, .val (.long p4), .second, .val (.int p5), .val (.int (p5 &&& (3 : Int32))), .val (.ref b1), .unset, .unset, .unset] [(.int (lcmpW (own_left true false p1 (0 : Int64) p4) p1))])
    have hc30 : (own_left true false p1 (0 : Int64) p4) = p1 := rfl
    refine Go.via (fun _ k => XS.ifNo X3.here hx rfl (hb hby at_30) rfl ((if0 _ _).trans (teq ((lw_eq _ _).mpr hc30)).2) k) ?_
    show Go p e below _ T3 (mkF m 33 #[.val (.long p1), .second, .val (.long p2), .second, .val (.long p3), .second, .val (.long p4), .second, .val (.int p5), .val (.int (p5 &&& (3 : Int32))), .val (.ref b1), .unset, .unset, .unset] [])
    refine Go.via (fun _ k => XS.iconst X3.here hx rfl (hb hby at_33) k) ?_
    show Go p e below _ T3 (mkF m 34 #[.val (.long p1), .second, .val (.long p2), .second, .val (.long p3), .second, .val (.long p4), .second, .val (.int p5), .val (.int (p5 &&& (3 : Int32))), .val (.ref b1), .unset, .unset, .unset] [(.int (1 : Int32))])
    refine Go.via (fun _ k => XS.goto X3.here hx rfl (pc0 := 34) (pc' := 38) rfl (hb hby at_34) (by decide) (by decide) k) ?_
    show Go p e below _ T3 (mkF m 38 #[.val (.long p1), .second, .val (.long p2), .second, .val (.long p3), .second, .val (.long p4), .second, .val (.int p5), .val (.int (p5 &&& (3 : Int32))), .val (.ref b1), .unset, .unset, .unset] [(.int (1 : Int32))])
    refine Go.retN X3 hx hk (hret : meth.sig.returnType = some .boolean) (t := .boolean) (by simp) (hb hby at_38) (by decide) (by decide) ?_
    exact ⟨rfl, N3⟩
  · skip
    refine Go.via (fun _ k => XS.ifYes X2.here hx rfl (pc0 := 18) (pc' := 39) rfl (hb hby at_18) rfl ((if0 _ _).trans (feq hc18).2) (by decide) (by decide) k) ?_
    show Go p e below _ T2 (mkF m 39 #[.val (.long p1), .second, .val (.long p2), .second, .val (.long p3), .second, .val (.long p4), .second, .val (.int p5), .val (.int (p5 &&& (3 : Int32))), .val (.ref b1), .unset, .unset, .unset] [])
    refine Go.via (fun _ k => XS.aload X2.here hx rfl (hb hby at_39) rfl (by rfl) k) ?_
    show Go p e below _ T2 (mkF m 41 #[.val (.long p1), .second, .val (.long p2), .second, .val (.long p3), .second, .val (.long p4), .second, .val (.int p5), .val (.int (p5 &&& (3 : Int32))), .val (.ref b1), .unset, .unset, .unset] [(.ref b1)])
    refine Go.via (fun _ k => XS.lloadN X2.here hx rfl (hb hby at_41) rfl  k) ?_
    show Go p e below _ T2 (mkF m 42 #[.val (.long p1), .second, .val (.long p2), .second, .val (.long p3), .second, .val (.long p4), .second, .val (.int p5), .val (.int (p5 &&& (3 : Int32))), .val (.ref b1), .unset, .unset, .unset] [(.long p2), (.ref b1)])
    obtain ⟨v4, T4, L4, X4, ⟨rfl, Nq4, K4, G0_4, G1_4, G2_4, G3_4, G4_4⟩, st4⟩ := Go.callV X2 hx hZ hown e2 (hw _ (List.mem_of_getElem? (i := 13) rfl)) (hw _ (List.mem_of_getElem? (i := 14) rfl)) (hw _ (List.mem_of_getElem? (i := 16) rfl)) (hw _ (List.mem_of_getElem? (i := 15) rfl)) (hw _ (List.mem_of_getElem? (i := 2) rfl)) (hw _ (List.mem_of_getElem? (i := 17) rfl)) (by decide) G0_2 (own_has l Z a0 hw [] b1 p2 true false p1 (0 : Int64) T2.heap n0 Z2 G0_2 G1_2 G2_2 G3_2 G4_2 ge_b1) (pc := 42) (Ls := #[.val (.long p1), .second, .val (.long p2), .second, .val (.long p3), .second, .val (.long p4), .second, .val (.int p5), .val (.int (p5 &&& (3 : Int32))), .val (.ref b1), .unset, .unset, .unset]) (argsL := [(.long p2)]) (rest := []) own_pd2 rfl rfl (by rw [hml]; rfl) (hb hby at_42) (W := 0) (Nat.le_of_eq rfl) (by decide) (by decide) (by decide) (by decide)
    refine st4 ?_
    have N4 := Fr.app N2 Nq4
    have Z4 : n0 ≤ T4.heap.size := Nat.le_trans Z2 K4.1
    have e4 : T4.heap = T4.heap := rfl
    show Go p e below _ T4 (mkF m 45 #[.val (.long p1), .second, .val (.long p2), .second, .val (.long p3), .second, .val (.long p4), .second, .val (.int p5), .val (.int (p5 &&& (3 : Int32))), .val (.ref b1), .unset, .unset, .unset] [(.int (b01 (own_c true false (0 : Int64) p1 p2)))])
    refine Go.via (fun _ k => XS.pop X4.here hx rfl (hb hby at_45) rfl rfl k) ?_
    refine Go.cutE (α := Int32) (v := (i01 (¬ (0 : Int64) < p1))) (T' := T4) (g' := fun z5 => (mkF m 57 #[.val (.long p1), .second, .val (.long p2), .second, .val (.long p3), .second, .val (.long p4), .second, .val (.int p5), .val (.int (p5 &&& (3 : Int32))), .val (.ref b1), .unset, .unset, .unset] [(.int z5)])) (fun J5 => ?_) ?_
    · skip
      show Go p e below _ T4 (mkF m 46 #[.val (.long p1), .second, .val (.long p2), .second, .val (.long p3), .second, .val (.long p4), .second, .val (.int p5), .val (.int (p5 &&& (3 : Int32))), .val (.ref b1), .unset, .unset, .unset] [])
      refine Go.via (fun _ k => XS.lconst X4.here hx rfl (hb hby at_46) k) ?_
      show Go p e below _ T4 (mkF m 47 #[.val (.long p1), .second, .val (.long p2), .second, .val (.long p3), .second, .val (.long p4), .second, .val (.int p5), .val (.int (p5 &&& (3 : Int32))), .val (.ref b1), .unset, .unset, .unset] [(.long (0 : Int64))])
      refine Go.via (fun _ k => XS.lloadN X4.here hx rfl (hb hby at_47) rfl  k) ?_
      show Go p e below _ T4 (mkF m 48 #[.val (.long p1), .second, .val (.long p2), .second, .val (.long p3), .second, .val (.long p4), .second, .val (.int p5), .val (.int (p5 &&& (3 : Int32))), .val (.ref b1), .unset, .unset, .unset] [(.long p1), (.long (0 : Int64))])
      refine Go.via (fun _ k => XS.lcmp X4.here hx rfl (hb hby at_48) rfl k) ?_
      show Go p e below _ T4 (mkF m 49 #[.val (.long p1), .second, .val (.long p2), .second, .val (.long p3), .second, .val (.long p4), .second, .val (.int p5), .val (.int (p5 &&& (3 : Int32))), .val (.ref b1), .unset, .unset, .unset] [(.int (lcmpW (0 : Int64) p1))])
      by_cases hc49 : (0 : Int64) < p1
      · skip
        refine Go.via (fun _ k => XS.ifYes X4.here hx rfl (pc0 := 49) (pc' := 56) rfl (hb hby at_49) rfl ((if0 _ _).trans (tlt ((lw_lt _ _).mpr hc49)).1) (by decide) (by decide) k) ?_
        show Go p e below _ T4 (mkF m 56 #[.val (.long p1), .second, .val (.long p2), .second, .val (.long p3), .second, .val (.long p4), .second, .val (.int p5), .val (.int (p5 &&& (3 : Int32))), .val (.ref b1), .unset, .unset, .unset] [])
        refine Go.via (fun _ k => XS.iconst X4.here hx rfl (hb hby at_56) k) ?_
        exact J5 (0 : Int32) (show (i01 (¬ (0 : Int64) < p1)) = (0 : Int32) from i01_f (not_not_intro hc49)).symm
      · skip
        refine Go.via (fun _ k => XS.ifNo X4.here hx rfl (hb hby at_49) rfl ((if0 _ _).trans (flt (fun q => hc49 ((lw_lt _ _).mp q))).1) k) ?_
        show Go p e below _ T4 (mkF m 52 #[.val (.long p1), .second, .val (.long p2), .second, .val (.long p3), .second, .val (.long p4), .second, .val (.int p5), .val (.int (p5 &&& (3 : Int32))), .val (.ref b1), .unset, .unset, .unset] [])
        refine Go.via (fun _ k => XS.iconst X4.here hx rfl (hb hby at_52) k) ?_
        show Go p e below _ T4 (mkF m 53 #[.val (.long p1), .second, .val (.long p2), .second, .val (.long p3), .second, .val (.long p4), .second, .val (.int p5), .val (.int (p5 &&& (3 : Int32))), .val (.ref b1), .unset, .unset, .unset] [(.int (1 : Int32))])
        refine Go.via (fun _ k => XS.goto X4.here hx rfl (pc0 := 53) (pc' := 57) rfl (hb hby at_53) (by decide) (by decide) k) ?_
        exact J5 (1 : Int32) (show (i01 (¬ (0 : Int64) < p1)) = (1 : Int32) from i01_t hc49).symm
    show Go p e below _ T4 (mkF m 57 #[.val (.long p1), .second, .val (.long p2), .second, .val (.long p3), .second, .val (.long p4), .second, .val (.int p5), .val (.int (p5 &&& (3 : Int32))), .val (.ref b1), .unset, .unset, .unset] [(.int (i01 (¬ (0 : Int64) < p1)))])
    refine Go.via (fun _ k => XS.istore X4.here hx rfl (hb hby at_57) rfl (l' := #[.val (.long p1), .second, .val (.long p2), .second, .val (.long p3), .second, .val (.long p4), .second, .val (.int p5), .val (.int (p5 &&& (3 : Int32))), .val (.ref b1), .val (.int (i01 (¬ (0 : Int64) < p1))), .unset, .unset]) rfl k) ?_
    show Go p e below _ T4 (mkF m 59 #[.val (.long p1), .second, .val (.long p2), .second, .val (.long p3), .second, .val (.long p4), .second, .val (.int p5), .val (.int (p5 &&& (3 : Int32))), .val (.ref b1), .val (.int (i01 (¬ (0 : Int64) < p1))), .unset, .unset] [])
    refine Go.via (fun _ k => XS.iload X4.here hx rfl (hb hby at_59) rfl  k) ?_
    show Go p e below _ T4 (mkF m 61 #[.val (.long p1), .second, .val (.long p2), .second, .val (.long p3), .second, .val (.long p4), .second, .val (.int p5), .val (.int (p5 &&& (3 : Int32))), .val (.ref b1), .val (.int (i01 (¬ (0 : Int64) < p1))), .unset, .unset] [(.int (p5 &&& (3 : Int32)))])
    refine Go.via (fun _ k => XS.iconst X4.here hx rfl (hb hby at_61) k) ?_
    show Go p e below _ T4 (mkF m 62 #[.val (.long p1), .second, .val (.long p2), .second, .val (.long p3), .second, .val (.long p4), .second, .val (.int p5), .val (.int (p5 &&& (3 : Int32))), .val (.ref b1), .val (.int (i01 (¬ (0 : Int64) < p1))), .unset, .unset] [(.int (2 : Int32)), (.int (p5 &&& (3 : Int32)))])
    by_cases hc62 : (p5 &&& (3 : Int32)) < (2 : Int32)
    · skip
      refine Go.via (fun _ k => XS.icmpYes X4.here hx rfl (pc0 := 62) (pc' := 85) rfl (hb hby at_62) rfl (tlt hc62).1 (by decide) (by decide) k) ?_
      show Go p e below _ T4 (mkF m 85 #[.val (.long p1), .second, .val (.long p2), .second, .val (.long p3), .second, .val (.long p4), .second, .val (.int p5), .val (.int (p5 &&& (3 : Int32))), .val (.ref b1), .val (.int (i01 (¬ (0 : Int64) < p1))), .unset, .unset] [])
      refine Go.via (fun _ k => XS.iload X4.here hx rfl (hb hby at_85) rfl  k) ?_
      show Go p e below _ T4 (mkF m 87 #[.val (.long p1), .second, .val (.long p2), .second, .val (.long p3), .second, .val (.long p4), .second, .val (.int p5), .val (.int (p5 &&& (3 : Int32))), .val (.ref b1), .val (.int (i01 (¬ (0 : Int64) < p1))), .unset, .unset] [(.int (p5 &&& (3 : Int32)))])
      refine Go.via (fun _ k => XS.iconst X4.here hx rfl (hb hby at_87) k) ?_
      show Go p e below _ T4 (mkF m 88 #[.val (.long p1), .second, .val (.long p2), .second, .val (.long p3), .second, .val (.long p4), .second, .val (.int p5), .val (.int (p5 &&& (3 : Int32))), .val (.ref b1), .val (.int (i01 (¬ (0 : Int64) < p1))), .unset, .unset] [(.int (3 : Int32)), (.int (p5 &&& (3 : Int32)))])
      have hc88 : ¬ ((p5 &&& (3 : Int32)) = (3 : Int32)) := own_lt3 hc62
      refine Go.via (fun _ k => XS.icmpYes X4.here hx rfl (pc0 := 88) (pc' := 114) rfl (hb hby at_88) rfl (feq hc88).2 (by decide) (by decide) k) ?_
      show Go p e below _ T4 (mkF m 114 #[.val (.long p1), .second, .val (.long p2), .second, .val (.long p3), .second, .val (.long p4), .second, .val (.int p5), .val (.int (p5 &&& (3 : Int32))), .val (.ref b1), .val (.int (i01 (¬ (0 : Int64) < p1))), .unset, .unset] [])
      refine Go.via (fun _ k => XS.iload X4.here hx rfl (hb hby at_114) rfl  k) ?_
      show Go p e below _ T4 (mkF m 116 #[.val (.long p1), .second, .val (.long p2), .second, .val (.long p3), .second, .val (.long p4), .second, .val (.int p5), .val (.int (p5 &&& (3 : Int32))), .val (.ref b1), .val (.int (i01 (¬ (0 : Int64) < p1))), .unset, .unset] [(.int (i01 (¬ (0 : Int64) < p1)))])
      by_cases hc116 : (i01 (¬ (0 : Int64) < p1)) = (0 : Int32)
      · skip
        refine Go.via (fun _ k => XS.ifYes X4.here hx rfl (pc0 := 116) (pc' := 127) rfl (hb hby at_116) rfl ((if0 _ _).trans (teq hc116).1) (by decide) (by decide) k) ?_
        show Go p e below _ T4 (mkF m 127 #[.val (.long p1), .second, .val (.long p2), .second, .val (.long p3), .second, .val (.long p4), .second, .val (.int p5), .val (.int (p5 &&& (3 : Int32))), .val (.ref b1), .val (.int (i01 (¬ (0 : Int64) < p1))), .unset, .unset] [])
        refine Go.via (fun _ k => XS.lloadN X4.here hx rfl (hb hby at_127) rfl  k) ?_
        show Go p e below _ T4 (mkF m 128 #[.val (.long p1), .second, .val (.long p2), .second, .val (.long p3), .second, .val (.long p4), .second, .val (.int p5), .val (.int (p5 &&& (3 : Int32))), .val (.ref b1), .val (.int (i01 (¬ (0 : Int64) < p1))), .unset, .unset] [(.long p1)])
        refine Go.via (fun _ k => XS.lload X4.here hx rfl (hb hby at_128) rfl  k) ?_
        show Go p e below _ T4 (mkF m 130 #[.val (.long p1), .second, .val (.long p2), .second, .val (.long p3), .second, .val (.long p4), .second, .val (.int p5), .val (.int (p5 &&& (3 : Int32))), .val (.ref b1), .val (.int (i01 (¬ (0 : Int64) < p1))), .unset, .unset] [(.long p4), (.long p1)])
        refine Go.via (fun _ k => XS.lloadN X4.here hx rfl (hb hby at_130) rfl  k) ?_
        show Go p e below _ T4 (mkF m 131 #[.val (.long p1), .second, .val (.long p2), .second, .val (.long p3), .second, .val (.long p4), .second, .val (.int p5), .val (.int (p5 &&& (3 : Int32))), .val (.ref b1), .val (.int (i01 (¬ (0 : Int64) < p1))), .unset, .unset] [(.long p2), (.long p4), (.long p1)])
        refine Go.via (fun _ k => XS.lsub X4.here hx rfl (hb hby at_131) rfl k) ?_
        show Go p e below _ T4 (mkF m 132 #[.val (.long p1), .second, .val (.long p2), .second, .val (.long p3), .second, .val (.long p4), .second, .val (.int p5), .val (.int (p5 &&& (3 : Int32))), .val (.ref b1), .val (.int (i01 (¬ (0 : Int64) < p1))), .unset, .unset] [(.long (p4 - p2)), (.long p1)])
        refine Go.via (fun _ k => XS.lsub X4.here hx rfl (hb hby at_132) rfl k) ?_
        show Go p e below _ T4 (mkF m 133 #[.val (.long p1), .second, .val (.long p2), .second, .val (.long p3), .second, .val (.long p4), .second, .val (.int p5), .val (.int (p5 &&& (3 : Int32))), .val (.ref b1), .val (.int (i01 (¬ (0 : Int64) < p1))), .unset, .unset] [(.long (p1 - (p4 - p2)))])
        refine Go.via (fun _ k => XS.lstore X4.here hx rfl (hb hby at_133) rfl (l' := #[.val (.long p1), .second, .val (.long p2), .second, .val (.long p3), .second, .val (.long p4), .second, .val (.int p5), .val (.int (p5 &&& (3 : Int32))), .val (.ref b1), .val (.int (i01 (¬ (0 : Int64) < p1))), .val (.long (p1 - (p4 - p2))), .second]) rfl k) ?_
        show Go p e below _ T4 (mkF m 135 #[.val (.long p1), .second, .val (.long p2), .second, .val (.long p3), .second, .val (.long p4), .second, .val (.int p5), .val (.int (p5 &&& (3 : Int32))), .val (.ref b1), .val (.int (i01 (¬ (0 : Int64) < p1))), .val (.long (p1 - (p4 - p2))), .second] [])
        refine Go.via (fun _ k => XS.aload X4.here hx rfl (hb hby at_135) rfl (by rfl) k) ?_
        show Go p e below _ T4 (mkF m 137 #[.val (.long p1), .second, .val (.long p2), .second, .val (.long p3), .second, .val (.long p4), .second, .val (.int p5), .val (.int (p5 &&& (3 : Int32))), .val (.ref b1), .val (.int (i01 (¬ (0 : Int64) < p1))), .val (.long (p1 - (p4 - p2))), .second] [(.ref b1)])
        refine Go.via (fun _ k => XS.lload X4.here hx rfl (hb hby at_137) rfl  k) ?_
        show Go p e below _ T4 (mkF m 139 #[.val (.long p1), .second, .val (.long p2), .second, .val (.long p3), .second, .val (.long p4), .second, .val (.int p5), .val (.int (p5 &&& (3 : Int32))), .val (.ref b1), .val (.int (i01 (¬ (0 : Int64) < p1))), .val (.long (p1 - (p4 - p2))), .second] [(.long p4), (.ref b1)])
        obtain ⟨v6, T6, L6, X6, ⟨rfl, Nq6, eq6⟩, st6⟩ := Go.callV X4 hx hZ hown e4 (hw _ (List.mem_of_getElem? (i := 27) rfl)) (hw _ (List.mem_of_getElem? (i := 28) rfl)) (hw _ (List.mem_of_getElem? (i := 30) rfl)) (hw _ (List.mem_of_getElem? (i := 29) rfl)) (hw _ (List.mem_of_getElem? (i := 2) rfl)) (hw _ (List.mem_of_getElem? (i := 31) rfl)) (by decide) G0_4 (own_lf l Z a0 hw [] b1 p4 false (own_c true false (0 : Int64) p1 p2) p1 (own_q true (0 : Int64) p2) T4.heap n0 Z4 G0_4 G1_4 G2_4 G3_4 G4_4 ge_b1) (pc := 139) (Ls := #[.val (.long p1), .second, .val (.long p2), .second, .val (.long p3), .second, .val (.long p4), .second, .val (.int p5), .val (.int (p5 &&& (3 : Int32))), .val (.ref b1), .val (.int (i01 (¬ (0 : Int64) < p1))), .val (.long (p1 - (p4 - p2))), .second]) (argsL := [(.long p4)]) (rest := []) own_pd1 rfl rfl (by rw [hml]; rfl) (hb hby at_139) (W := 0) (Nat.le_of_eq rfl) (by decide) (by decide) (by decide) (by decide)
        refine st6 ?_
        have N6 := Fr.app N4 Nq6
        show Go p e below _ T6 (mkF m 142 #[.val (.long p1), .second, .val (.long p2), .second, .val (.long p3), .second, .val (.long p4), .second, .val (.int p5), .val (.int (p5 &&& (3 : Int32))), .val (.ref b1), .val (.int (i01 (¬ (0 : Int64) < p1))), .val (.long (p1 - (p4 - p2))), .second] [(.long (own_left false (own_c true false (0 : Int64) p1 p2) p1 (own_q true (0 : Int64) p2) p4))])
        refine Go.via (fun _ k => XS.lload X6.here hx rfl (hb hby at_142) rfl  k) ?_
        show Go p e below _ T6 (mkF m 144 #[.val (.long p1), .second, .val (.long p2), .second, .val (.long p3), .second, .val (.long p4), .second, .val (.int p5), .val (.int (p5 &&& (3 : Int32))), .val (.ref b1), .val (.int (i01 (¬ (0 : Int64) < p1))), .val (.long (p1 - (p4 - p2))), .second] [(.long (p1 - (p4 - p2))), (.long (own_left false (own_c true false (0 : Int64) p1 p2) p1 (own_q true (0 : Int64) p2) p4))])
        refine Go.via (fun _ k => XS.lcmp X6.here hx rfl (hb hby at_144) rfl k) ?_
        show Go p e below _ T6 (mkF m 145 #[.val (.long p1), .second, .val (.long p2), .second, .val (.long p3), .second, .val (.long p4), .second, .val (.int p5), .val (.int (p5 &&& (3 : Int32))), .val (.ref b1), .val (.int (i01 (¬ (0 : Int64) < p1))), .val (.long (p1 - (p4 - p2))), .second] [(.int (lcmpW (own_left false (own_c true false (0 : Int64) p1 p2) p1 (own_q true (0 : Int64) p2) p4) (p1 - (p4 - p2))))])
        have hc145 : (own_left false (own_c true false (0 : Int64) p1 p2) p1 (own_q true (0 : Int64) p2) p4) = (p1 - (p4 - p2)) := own_f1 hc116
        refine Go.via (fun _ k => XS.ifNo X6.here hx rfl (hb hby at_145) rfl ((if0 _ _).trans (teq ((lw_eq _ _).mpr hc145)).2) k) ?_
        show Go p e below _ T6 (mkF m 148 #[.val (.long p1), .second, .val (.long p2), .second, .val (.long p3), .second, .val (.long p4), .second, .val (.int p5), .val (.int (p5 &&& (3 : Int32))), .val (.ref b1), .val (.int (i01 (¬ (0 : Int64) < p1))), .val (.long (p1 - (p4 - p2))), .second] [])
        refine Go.via (fun _ k => XS.iconst X6.here hx rfl (hb hby at_148) k) ?_
        show Go p e below _ T6 (mkF m 149 #[.val (.long p1), .second, .val (.long p2), .second, .val (.long p3), .second, .val (.long p4), .second, .val (.int p5), .val (.int (p5 &&& (3 : Int32))), .val (.ref b1), .val (.int (i01 (¬ (0 : Int64) < p1))), .val (.long (p1 - (p4 - p2))), .second] [(.int (1 : Int32))])
        refine Go.via (fun _ k => XS.goto X6.here hx rfl (pc0 := 149) (pc' := 153) rfl (hb hby at_149) (by decide) (by decide) k) ?_
        show Go p e below _ T6 (mkF m 153 #[.val (.long p1), .second, .val (.long p2), .second, .val (.long p3), .second, .val (.long p4), .second, .val (.int p5), .val (.int (p5 &&& (3 : Int32))), .val (.ref b1), .val (.int (i01 (¬ (0 : Int64) < p1))), .val (.long (p1 - (p4 - p2))), .second] [(.int (1 : Int32))])
        refine Go.retN X6 hx hk (hret : meth.sig.returnType = some .boolean) (t := .boolean) (by simp) (hb hby at_153) (by decide) (by decide) ?_
        exact ⟨rfl, N6⟩
      · skip
        refine Go.via (fun _ k => XS.ifNo X4.here hx rfl (hb hby at_116) rfl ((if0 _ _).trans (feq hc116).1) k) ?_
        show Go p e below _ T4 (mkF m 119 #[.val (.long p1), .second, .val (.long p2), .second, .val (.long p3), .second, .val (.long p4), .second, .val (.int p5), .val (.int (p5 &&& (3 : Int32))), .val (.ref b1), .val (.int (i01 (¬ (0 : Int64) < p1))), .unset, .unset] [])
        refine Go.via (fun _ k => Stand.ldc2Long X4 hx hown (mvT hZ (hw _ (List.mem_of_getElem? (i := 32) rfl))) (g := (mkF m 119 #[.val (.long p1), .second, .val (.long p2), .second, .val (.long p3), .second, .val (.long p4), .second, .val (.int p5), .val (.int (p5 &&& (3 : Int32))), .val (.ref b1), .val (.int (i01 (¬ (0 : Int64) < p1))), .unset, .unset] [])) rfl (hb hby at_119) _ k) ?_
        show Go p e below _ T4 (mkF m 122 #[.val (.long p1), .second, .val (.long p2), .second, .val (.long p3), .second, .val (.long p4), .second, .val (.int p5), .val (.int (p5 &&& (3 : Int32))), .val (.ref b1), .val (.int (i01 (¬ (0 : Int64) < p1))), .unset, .unset] [(.long (9223372036854775807 : Int64))])
        refine Go.via (fun _ k => XS.lstore X4.here hx rfl (hb hby at_122) rfl (l' := #[.val (.long p1), .second, .val (.long p2), .second, .val (.long p3), .second, .val (.long p4), .second, .val (.int p5), .val (.int (p5 &&& (3 : Int32))), .val (.ref b1), .val (.int (i01 (¬ (0 : Int64) < p1))), .val (.long (9223372036854775807 : Int64)), .second]) rfl k) ?_
        show Go p e below _ T4 (mkF m 124 #[.val (.long p1), .second, .val (.long p2), .second, .val (.long p3), .second, .val (.long p4), .second, .val (.int p5), .val (.int (p5 &&& (3 : Int32))), .val (.ref b1), .val (.int (i01 (¬ (0 : Int64) < p1))), .val (.long (9223372036854775807 : Int64)), .second] [])
        refine Go.via (fun _ k => XS.goto X4.here hx rfl (pc0 := 124) (pc' := 135) rfl (hb hby at_124) (by decide) (by decide) k) ?_
        show Go p e below _ T4 (mkF m 135 #[.val (.long p1), .second, .val (.long p2), .second, .val (.long p3), .second, .val (.long p4), .second, .val (.int p5), .val (.int (p5 &&& (3 : Int32))), .val (.ref b1), .val (.int (i01 (¬ (0 : Int64) < p1))), .val (.long (9223372036854775807 : Int64)), .second] [])
        refine Go.via (fun _ k => XS.aload X4.here hx rfl (hb hby at_135) rfl (by rfl) k) ?_
        show Go p e below _ T4 (mkF m 137 #[.val (.long p1), .second, .val (.long p2), .second, .val (.long p3), .second, .val (.long p4), .second, .val (.int p5), .val (.int (p5 &&& (3 : Int32))), .val (.ref b1), .val (.int (i01 (¬ (0 : Int64) < p1))), .val (.long (9223372036854775807 : Int64)), .second] [(.ref b1)])
        refine Go.via (fun _ k => XS.lload X4.here hx rfl (hb hby at_137) rfl  k) ?_
        show Go p e below _ T4 (mkF m 139 #[.val (.long p1), .second, .val (.long p2), .second, .val (.long p3), .second, .val (.long p4), .second, .val (.int p5), .val (.int (p5 &&& (3 : Int32))), .val (.ref b1), .val (.int (i01 (¬ (0 : Int64) < p1))), .val (.long (9223372036854775807 : Int64)), .second] [(.long p4), (.ref b1)])
        obtain ⟨v7, T7, L7, X7, ⟨rfl, Nq7, eq7⟩, st7⟩ := Go.callV X4 hx hZ hown e4 (hw _ (List.mem_of_getElem? (i := 27) rfl)) (hw _ (List.mem_of_getElem? (i := 28) rfl)) (hw _ (List.mem_of_getElem? (i := 30) rfl)) (hw _ (List.mem_of_getElem? (i := 29) rfl)) (hw _ (List.mem_of_getElem? (i := 2) rfl)) (hw _ (List.mem_of_getElem? (i := 31) rfl)) (by decide) G0_4 (own_lf l Z a0 hw [] b1 p4 false (own_c true false (0 : Int64) p1 p2) p1 (own_q true (0 : Int64) p2) T4.heap n0 Z4 G0_4 G1_4 G2_4 G3_4 G4_4 ge_b1) (pc := 139) (Ls := #[.val (.long p1), .second, .val (.long p2), .second, .val (.long p3), .second, .val (.long p4), .second, .val (.int p5), .val (.int (p5 &&& (3 : Int32))), .val (.ref b1), .val (.int (i01 (¬ (0 : Int64) < p1))), .val (.long (9223372036854775807 : Int64)), .second]) (argsL := [(.long p4)]) (rest := []) own_pd1 rfl rfl (by rw [hml]; rfl) (hb hby at_139) (W := 0) (Nat.le_of_eq rfl) (by decide) (by decide) (by decide) (by decide)
        refine st7 ?_
        have N7 := Fr.app N4 Nq7
        show Go p e below _ T7 (mkF m 142 #[.val (.long p1), .second, .val (.long p2), .second, .val (.long p3), .second, .val (.long p4), .second, .val (.int p5), .val (.int (p5 &&& (3 : Int32))), .val (.ref b1), .val (.int (i01 (¬ (0 : Int64) < p1))), .val (.long (9223372036854775807 : Int64)), .second] [(.long (own_left false (own_c true false (0 : Int64) p1 p2) p1 (own_q true (0 : Int64) p2) p4))])
        refine Go.via (fun _ k => XS.lload X7.here hx rfl (hb hby at_142) rfl  k) ?_
        show Go p e below _ T7 (mkF m 144 #[.val (.long p1), .second, .val (.long p2), .second, .val (.long p3), .second, .val (.long p4), .second, .val (.int p5), .val (.int (p5 &&& (3 : Int32))), .val (.ref b1), .val (.int (i01 (¬ (0 : Int64) < p1))), .val (.long (9223372036854775807 : Int64)), .second] [(.long (9223372036854775807 : Int64)), (.long (own_left false (own_c true false (0 : Int64) p1 p2) p1 (own_q true (0 : Int64) p2) p4))])
        refine Go.via (fun _ k => XS.lcmp X7.here hx rfl (hb hby at_144) rfl k) ?_
        show Go p e below _ T7 (mkF m 145 #[.val (.long p1), .second, .val (.long p2), .second, .val (.long p3), .second, .val (.long p4), .second, .val (.int p5), .val (.int (p5 &&& (3 : Int32))), .val (.ref b1), .val (.int (i01 (¬ (0 : Int64) < p1))), .val (.long (9223372036854775807 : Int64)), .second] [(.int (lcmpW (own_left false (own_c true false (0 : Int64) p1 p2) p1 (own_q true (0 : Int64) p2) p4) (9223372036854775807 : Int64)))])
        have hc145 : (own_left false (own_c true false (0 : Int64) p1 p2) p1 (own_q true (0 : Int64) p2) p4) = (9223372036854775807 : Int64) := own_f2 hc116
        refine Go.via (fun _ k => XS.ifNo X7.here hx rfl (hb hby at_145) rfl ((if0 _ _).trans (teq ((lw_eq _ _).mpr hc145)).2) k) ?_
        show Go p e below _ T7 (mkF m 148 #[.val (.long p1), .second, .val (.long p2), .second, .val (.long p3), .second, .val (.long p4), .second, .val (.int p5), .val (.int (p5 &&& (3 : Int32))), .val (.ref b1), .val (.int (i01 (¬ (0 : Int64) < p1))), .val (.long (9223372036854775807 : Int64)), .second] [])
        refine Go.via (fun _ k => XS.iconst X7.here hx rfl (hb hby at_148) k) ?_
        show Go p e below _ T7 (mkF m 149 #[.val (.long p1), .second, .val (.long p2), .second, .val (.long p3), .second, .val (.long p4), .second, .val (.int p5), .val (.int (p5 &&& (3 : Int32))), .val (.ref b1), .val (.int (i01 (¬ (0 : Int64) < p1))), .val (.long (9223372036854775807 : Int64)), .second] [(.int (1 : Int32))])
        refine Go.via (fun _ k => XS.goto X7.here hx rfl (pc0 := 149) (pc' := 153) rfl (hb hby at_149) (by decide) (by decide) k) ?_
        show Go p e below _ T7 (mkF m 153 #[.val (.long p1), .second, .val (.long p2), .second, .val (.long p3), .second, .val (.long p4), .second, .val (.int p5), .val (.int (p5 &&& (3 : Int32))), .val (.ref b1), .val (.int (i01 (¬ (0 : Int64) < p1))), .val (.long (9223372036854775807 : Int64)), .second] [(.int (1 : Int32))])
        refine Go.retN X7 hx hk (hret : meth.sig.returnType = some .boolean) (t := .boolean) (by simp) (hb hby at_153) (by decide) (by decide) ?_
        exact ⟨rfl, N7⟩
    · skip
      refine Go.via (fun _ k => XS.icmpNo X4.here hx rfl (hb hby at_62) rfl (flt hc62).1 k) ?_
      show Go p e below _ T4 (mkF m 65 #[.val (.long p1), .second, .val (.long p2), .second, .val (.long p3), .second, .val (.long p4), .second, .val (.int p5), .val (.int (p5 &&& (3 : Int32))), .val (.ref b1), .val (.int (i01 (¬ (0 : Int64) < p1))), .unset, .unset] [])
      refine Go.via (fun _ k => XS.aload X4.here hx rfl (hb hby at_65) rfl (by rfl) k) ?_
      show Go p e below _ T4 (mkF m 67 #[.val (.long p1), .second, .val (.long p2), .second, .val (.long p3), .second, .val (.long p4), .second, .val (.int p5), .val (.int (p5 &&& (3 : Int32))), .val (.ref b1), .val (.int (i01 (¬ (0 : Int64) < p1))), .unset, .unset] [(.ref b1)])
      refine Go.via (fun _ k => XS.lload X4.here hx rfl (hb hby at_67) rfl  k) ?_
      show Go p e below _ T4 (mkF m 69 #[.val (.long p1), .second, .val (.long p2), .second, .val (.long p3), .second, .val (.long p4), .second, .val (.int p5), .val (.int (p5 &&& (3 : Int32))), .val (.ref b1), .val (.int (i01 (¬ (0 : Int64) < p1))), .unset, .unset] [(.long p3), (.ref b1)])
      obtain ⟨v8, T8, L8, X8, ⟨rfl, Nq8, K8, G0_8, G1_8, G2_8, G3_8, G4_8⟩, st8⟩ := Go.callV X4 hx hZ hown e4 (hw _ (List.mem_of_getElem? (i := 13) rfl)) (hw _ (List.mem_of_getElem? (i := 14) rfl)) (hw _ (List.mem_of_getElem? (i := 16) rfl)) (hw _ (List.mem_of_getElem? (i := 15) rfl)) (hw _ (List.mem_of_getElem? (i := 2) rfl)) (hw _ (List.mem_of_getElem? (i := 17) rfl)) (by decide) G0_4 (own_has l Z a0 hw [] b1 p3 false (own_c true false (0 : Int64) p1 p2) p1 (own_q true (0 : Int64) p2) T4.heap n0 Z4 G0_4 G1_4 G2_4 G3_4 G4_4 ge_b1) (pc := 69) (Ls := #[.val (.long p1), .second, .val (.long p2), .second, .val (.long p3), .second, .val (.long p4), .second, .val (.int p5), .val (.int (p5 &&& (3 : Int32))), .val (.ref b1), .val (.int (i01 (¬ (0 : Int64) < p1))), .unset, .unset]) (argsL := [(.long p3)]) (rest := []) own_pd2 rfl rfl (by rw [hml]; rfl) (hb hby at_69) (W := 0) (Nat.le_of_eq rfl) (by decide) (by decide) (by decide) (by decide)
      refine st8 ?_
      have N8 := Fr.app N4 Nq8
      have Z8 : n0 ≤ T8.heap.size := Nat.le_trans Z4 K8.1
      have e8 : T8.heap = T8.heap := rfl
      show Go p e below _ T8 (mkF m 72 #[.val (.long p1), .second, .val (.long p2), .second, .val (.long p3), .second, .val (.long p4), .second, .val (.int p5), .val (.int (p5 &&& (3 : Int32))), .val (.ref b1), .val (.int (i01 (¬ (0 : Int64) < p1))), .unset, .unset] [(.int (b01 (own_c false (own_c true false (0 : Int64) p1 p2) (own_q true (0 : Int64) p2) p1 p3)))])
      refine Go.via (fun _ k => XS.pop X8.here hx rfl (hb hby at_72) rfl rfl k) ?_
      show Go p e below _ T8 (mkF m 73 #[.val (.long p1), .second, .val (.long p2), .second, .val (.long p3), .second, .val (.long p4), .second, .val (.int p5), .val (.int (p5 &&& (3 : Int32))), .val (.ref b1), .val (.int (i01 (¬ (0 : Int64) < p1))), .unset, .unset] [])
      refine Go.via (fun _ k => XS.lload X8.here hx rfl (hb hby at_73) rfl  k) ?_
      show Go p e below _ T8 (mkF m 75 #[.val (.long p1), .second, .val (.long p2), .second, .val (.long p3), .second, .val (.long p4), .second, .val (.int p5), .val (.int (p5 &&& (3 : Int32))), .val (.ref b1), .val (.int (i01 (¬ (0 : Int64) < p1))), .unset, .unset] [(.long p3)])
      refine Go.via (fun _ k => XS.lloadN X8.here hx rfl (hb hby at_75) rfl  k) ?_
      show Go p e below _ T8 (mkF m 76 #[.val (.long p1), .second, .val (.long p2), .second, .val (.long p3), .second, .val (.long p4), .second, .val (.int p5), .val (.int (p5 &&& (3 : Int32))), .val (.ref b1), .val (.int (i01 (¬ (0 : Int64) < p1))), .unset, .unset] [(.long p2), (.long p3)])
      refine Go.via (fun _ k => XS.lsub X8.here hx rfl (hb hby at_76) rfl k) ?_
      show Go p e below _ T8 (mkF m 77 #[.val (.long p1), .second, .val (.long p2), .second, .val (.long p3), .second, .val (.long p4), .second, .val (.int p5), .val (.int (p5 &&& (3 : Int32))), .val (.ref b1), .val (.int (i01 (¬ (0 : Int64) < p1))), .unset, .unset] [(.long (p3 - p2))])
      refine Go.via (fun _ k => XS.lloadN X8.here hx rfl (hb hby at_77) rfl  k) ?_
      show Go p e below _ T8 (mkF m 78 #[.val (.long p1), .second, .val (.long p2), .second, .val (.long p3), .second, .val (.long p4), .second, .val (.int p5), .val (.int (p5 &&& (3 : Int32))), .val (.ref b1), .val (.int (i01 (¬ (0 : Int64) < p1))), .unset, .unset] [(.long p1), (.long (p3 - p2))])
      refine Go.via (fun _ k => XS.lcmp X8.here hx rfl (hb hby at_78) rfl k) ?_
      show Go p e below _ T8 (mkF m 79 #[.val (.long p1), .second, .val (.long p2), .second, .val (.long p3), .second, .val (.long p4), .second, .val (.int p5), .val (.int (p5 &&& (3 : Int32))), .val (.ref b1), .val (.int (i01 (¬ (0 : Int64) < p1))), .unset, .unset] [(.int (lcmpW (p3 - p2) p1))])
      by_cases hc79 : (p3 - p2) < p1
      · skip
        refine Go.via (fun _ k => XS.ifYes X8.here hx rfl (pc0 := 79) (pc' := 85) rfl (hb hby at_79) rfl ((if0 _ _).trans (tlt ((lw_lt _ _).mpr hc79)).1) (by decide) (by decide) k) ?_
        show Go p e below _ T8 (mkF m 85 #[.val (.long p1), .second, .val (.long p2), .second, .val (.long p3), .second, .val (.long p4), .second, .val (.int p5), .val (.int (p5 &&& (3 : Int32))), .val (.ref b1), .val (.int (i01 (¬ (0 : Int64) < p1))), .unset, .unset] [])
        refine Go.via (fun _ k => XS.iload X8.here hx rfl (hb hby at_85) rfl  k) ?_
        show Go p e below _ T8 (mkF m 87 #[.val (.long p1), .second, .val (.long p2), .second, .val (.long p3), .second, .val (.long p4), .second, .val (.int p5), .val (.int (p5 &&& (3 : Int32))), .val (.ref b1), .val (.int (i01 (¬ (0 : Int64) < p1))), .unset, .unset] [(.int (p5 &&& (3 : Int32)))])
        refine Go.via (fun _ k => XS.iconst X8.here hx rfl (hb hby at_87) k) ?_
        show Go p e below _ T8 (mkF m 88 #[.val (.long p1), .second, .val (.long p2), .second, .val (.long p3), .second, .val (.long p4), .second, .val (.int p5), .val (.int (p5 &&& (3 : Int32))), .val (.ref b1), .val (.int (i01 (¬ (0 : Int64) < p1))), .unset, .unset] [(.int (3 : Int32)), (.int (p5 &&& (3 : Int32)))])
        by_cases hc88 : (p5 &&& (3 : Int32)) = (3 : Int32)
        · skip
          refine Go.via (fun _ k => XS.icmpNo X8.here hx rfl (hb hby at_88) rfl (teq hc88).2 k) ?_
          show Go p e below _ T8 (mkF m 91 #[.val (.long p1), .second, .val (.long p2), .second, .val (.long p3), .second, .val (.long p4), .second, .val (.int p5), .val (.int (p5 &&& (3 : Int32))), .val (.ref b1), .val (.int (i01 (¬ (0 : Int64) < p1))), .unset, .unset] [])
          refine Go.via (fun _ k => XS.aload X8.here hx rfl (hb hby at_91) rfl (by rfl) k) ?_
          show Go p e below _ T8 (mkF m 93 #[.val (.long p1), .second, .val (.long p2), .second, .val (.long p3), .second, .val (.long p4), .second, .val (.int p5), .val (.int (p5 &&& (3 : Int32))), .val (.ref b1), .val (.int (i01 (¬ (0 : Int64) < p1))), .unset, .unset] [(.ref b1)])
          obtain ⟨v9, T9, L9, X9, ⟨rfl, Nq9, K9, G0_9, G1_9, G2_9, G3_9, G4_9⟩, st9⟩ := Go.callV X8 hx hZ hown e8 (hw _ (List.mem_of_getElem? (i := 22) rfl)) (hw _ (List.mem_of_getElem? (i := 23) rfl)) (hw _ (List.mem_of_getElem? (i := 25) rfl)) (hw _ (List.mem_of_getElem? (i := 24) rfl)) (hw _ (List.mem_of_getElem? (i := 2) rfl)) (hw _ (List.mem_of_getElem? (i := 26) rfl)) (by decide) G0_8 (own_restart l Z a0 hw [] b1 false (own_c false (own_c true false (0 : Int64) p1 p2) (own_q true (0 : Int64) p2) p1 p3) p1 (own_q false (own_q true (0 : Int64) p2) p3) T8.heap n0 Z8 G0_8 G1_8 G2_8 G3_8 G4_8 ge_b1) (pc := 93) (Ls := #[.val (.long p1), .second, .val (.long p2), .second, .val (.long p3), .second, .val (.long p4), .second, .val (.int p5), .val (.int (p5 &&& (3 : Int32))), .val (.ref b1), .val (.int (i01 (¬ (0 : Int64) < p1))), .unset, .unset]) (argsL := []) (rest := []) own_pd3 rfl rfl (by rw [hml]; rfl) (hb hby at_93) (W := 0) (Nat.le_of_eq rfl) (by decide) (by decide) (by decide) (by decide)
          refine st9 ?_
          have N9 := Fr.app N8 Nq9
          have Z9 : n0 ≤ T9.heap.size := Nat.le_trans Z8 K9.1
          have e9 : T9.heap = T9.heap := rfl
          show Go p e below _ T9 (mkF m 96 #[.val (.long p1), .second, .val (.long p2), .second, .val (.long p3), .second, .val (.long p4), .second, .val (.int p5), .val (.int (p5 &&& (3 : Int32))), .val (.ref b1), .val (.int (i01 (¬ (0 : Int64) < p1))), .unset, .unset] [])
          refine Go.via (fun _ k => XS.aload X9.here hx rfl (hb hby at_96) rfl (by rfl) k) ?_
          show Go p e below _ T9 (mkF m 98 #[.val (.long p1), .second, .val (.long p2), .second, .val (.long p3), .second, .val (.long p4), .second, .val (.int p5), .val (.int (p5 &&& (3 : Int32))), .val (.ref b1), .val (.int (i01 (¬ (0 : Int64) < p1))), .unset, .unset] [(.ref b1)])
          refine Go.via (fun _ k => XS.lload X9.here hx rfl (hb hby at_98) rfl  k) ?_
          show Go p e below _ T9 (mkF m 100 #[.val (.long p1), .second, .val (.long p2), .second, .val (.long p3), .second, .val (.long p4), .second, .val (.int p5), .val (.int (p5 &&& (3 : Int32))), .val (.ref b1), .val (.int (i01 (¬ (0 : Int64) < p1))), .unset, .unset] [(.long p4), (.ref b1)])
          obtain ⟨v10, T10, L10, X10, ⟨rfl, Nq10, eq10⟩, st10⟩ := Go.callV X9 hx hZ hown e9 (hw _ (List.mem_of_getElem? (i := 27) rfl)) (hw _ (List.mem_of_getElem? (i := 28) rfl)) (hw _ (List.mem_of_getElem? (i := 30) rfl)) (hw _ (List.mem_of_getElem? (i := 29) rfl)) (hw _ (List.mem_of_getElem? (i := 2) rfl)) (hw _ (List.mem_of_getElem? (i := 31) rfl)) (by decide) G0_9 (own_lf l Z a0 hw [] b1 p4 true false p1 (own_q false (own_q true (0 : Int64) p2) p3) T9.heap n0 Z9 G0_9 G1_9 G2_9 G3_9 G4_9 ge_b1) (pc := 100) (Ls := #[.val (.long p1), .second, .val (.long p2), .second, .val (.long p3), .second, .val (.long p4), .second, .val (.int p5), .val (.int (p5 &&& (3 : Int32))), .val (.ref b1), .val (.int (i01 (¬ (0 : Int64) < p1))), .unset, .unset]) (argsL := [(.long p4)]) (rest := []) own_pd1 rfl rfl (by rw [hml]; rfl) (hb hby at_100) (W := 0) (Nat.le_of_eq rfl) (by decide) (by decide) (by decide) (by decide)
          refine st10 ?_
          have N10 := Fr.app N9 Nq10
          show Go p e below _ T10 (mkF m 103 #[.val (.long p1), .second, .val (.long p2), .second, .val (.long p3), .second, .val (.long p4), .second, .val (.int p5), .val (.int (p5 &&& (3 : Int32))), .val (.ref b1), .val (.int (i01 (¬ (0 : Int64) < p1))), .unset, .unset] [(.long (own_left true false p1 (own_q false (own_q true (0 : Int64) p2) p3) p4))])
          refine Go.via (fun _ k => XS.lloadN X10.here hx rfl (hb hby at_103) rfl  k) ?_
          show Go p e below _ T10 (mkF m 104 #[.val (.long p1), .second, .val (.long p2), .second, .val (.long p3), .second, .val (.long p4), .second, .val (.int p5), .val (.int (p5 &&& (3 : Int32))), .val (.ref b1), .val (.int (i01 (¬ (0 : Int64) < p1))), .unset, .unset] [(.long p1), (.long (own_left true false p1 (own_q false (own_q true (0 : Int64) p2) p3) p4))])
          refine Go.via (fun _ k => XS.lcmp X10.here hx rfl (hb hby at_104) rfl k) ?_
          show Go p e below _ T10 (mkF m 105 #[.val (.long p1), .second, .val (.long p2), .second, .val (.long p3), .second, .val (.long p4), .second, .val (.int p5), .val (.int (p5 &&& (3 : Int32))), .val (.ref b1), .val (.int (i01 (¬ (0 : Int64) < p1))), .unset, .unset] [(.int (lcmpW (own_left true false p1 (own_q false (own_q true (0 : Int64) p2) p3) p4) p1))])
          have hc105 : (own_left true false p1 (own_q false (own_q true (0 : Int64) p2) p3) p4) = p1 := rfl
          refine Go.via (fun _ k => XS.ifNo X10.here hx rfl (hb hby at_105) rfl ((if0 _ _).trans (teq ((lw_eq _ _).mpr hc105)).2) k) ?_
          show Go p e below _ T10 (mkF m 108 #[.val (.long p1), .second, .val (.long p2), .second, .val (.long p3), .second, .val (.long p4), .second, .val (.int p5), .val (.int (p5 &&& (3 : Int32))), .val (.ref b1), .val (.int (i01 (¬ (0 : Int64) < p1))), .unset, .unset] [])
          refine Go.via (fun _ k => XS.iconst X10.here hx rfl (hb hby at_108) k) ?_
          show Go p e below _ T10 (mkF m 109 #[.val (.long p1), .second, .val (.long p2), .second, .val (.long p3), .second, .val (.long p4), .second, .val (.int p5), .val (.int (p5 &&& (3 : Int32))), .val (.ref b1), .val (.int (i01 (¬ (0 : Int64) < p1))), .unset, .unset] [(.int (1 : Int32))])
          refine Go.via (fun _ k => XS.goto X10.here hx rfl (pc0 := 109) (pc' := 113) rfl (hb hby at_109) (by decide) (by decide) k) ?_
          show Go p e below _ T10 (mkF m 113 #[.val (.long p1), .second, .val (.long p2), .second, .val (.long p3), .second, .val (.long p4), .second, .val (.int p5), .val (.int (p5 &&& (3 : Int32))), .val (.ref b1), .val (.int (i01 (¬ (0 : Int64) < p1))), .unset, .unset] [(.int (1 : Int32))])
          refine Go.retN X10 hx hk (hret : meth.sig.returnType = some .boolean) (t := .boolean) (by simp) (hb hby at_113) (by decide) (by decide) ?_
          exact ⟨rfl, N10⟩
        · skip
          refine Go.via (fun _ k => XS.icmpYes X8.here hx rfl (pc0 := 88) (pc' := 114) rfl (hb hby at_88) rfl (feq hc88).2 (by decide) (by decide) k) ?_
          show Go p e below _ T8 (mkF m 114 #[.val (.long p1), .second, .val (.long p2), .second, .val (.long p3), .second, .val (.long p4), .second, .val (.int p5), .val (.int (p5 &&& (3 : Int32))), .val (.ref b1), .val (.int (i01 (¬ (0 : Int64) < p1))), .unset, .unset] [])
          refine Go.via (fun _ k => XS.iload X8.here hx rfl (hb hby at_114) rfl  k) ?_
          show Go p e below _ T8 (mkF m 116 #[.val (.long p1), .second, .val (.long p2), .second, .val (.long p3), .second, .val (.long p4), .second, .val (.int p5), .val (.int (p5 &&& (3 : Int32))), .val (.ref b1), .val (.int (i01 (¬ (0 : Int64) < p1))), .unset, .unset] [(.int (i01 (¬ (0 : Int64) < p1)))])
          by_cases hc116 : (i01 (¬ (0 : Int64) < p1)) = (0 : Int32)
          · skip
            refine Go.via (fun _ k => XS.ifYes X8.here hx rfl (pc0 := 116) (pc' := 127) rfl (hb hby at_116) rfl ((if0 _ _).trans (teq hc116).1) (by decide) (by decide) k) ?_
            show Go p e below _ T8 (mkF m 127 #[.val (.long p1), .second, .val (.long p2), .second, .val (.long p3), .second, .val (.long p4), .second, .val (.int p5), .val (.int (p5 &&& (3 : Int32))), .val (.ref b1), .val (.int (i01 (¬ (0 : Int64) < p1))), .unset, .unset] [])
            refine Go.via (fun _ k => XS.lloadN X8.here hx rfl (hb hby at_127) rfl  k) ?_
            show Go p e below _ T8 (mkF m 128 #[.val (.long p1), .second, .val (.long p2), .second, .val (.long p3), .second, .val (.long p4), .second, .val (.int p5), .val (.int (p5 &&& (3 : Int32))), .val (.ref b1), .val (.int (i01 (¬ (0 : Int64) < p1))), .unset, .unset] [(.long p1)])
            refine Go.via (fun _ k => XS.lload X8.here hx rfl (hb hby at_128) rfl  k) ?_
            show Go p e below _ T8 (mkF m 130 #[.val (.long p1), .second, .val (.long p2), .second, .val (.long p3), .second, .val (.long p4), .second, .val (.int p5), .val (.int (p5 &&& (3 : Int32))), .val (.ref b1), .val (.int (i01 (¬ (0 : Int64) < p1))), .unset, .unset] [(.long p4), (.long p1)])
            refine Go.via (fun _ k => XS.lloadN X8.here hx rfl (hb hby at_130) rfl  k) ?_
            show Go p e below _ T8 (mkF m 131 #[.val (.long p1), .second, .val (.long p2), .second, .val (.long p3), .second, .val (.long p4), .second, .val (.int p5), .val (.int (p5 &&& (3 : Int32))), .val (.ref b1), .val (.int (i01 (¬ (0 : Int64) < p1))), .unset, .unset] [(.long p2), (.long p4), (.long p1)])
            refine Go.via (fun _ k => XS.lsub X8.here hx rfl (hb hby at_131) rfl k) ?_
            show Go p e below _ T8 (mkF m 132 #[.val (.long p1), .second, .val (.long p2), .second, .val (.long p3), .second, .val (.long p4), .second, .val (.int p5), .val (.int (p5 &&& (3 : Int32))), .val (.ref b1), .val (.int (i01 (¬ (0 : Int64) < p1))), .unset, .unset] [(.long (p4 - p2)), (.long p1)])
            refine Go.via (fun _ k => XS.lsub X8.here hx rfl (hb hby at_132) rfl k) ?_
            show Go p e below _ T8 (mkF m 133 #[.val (.long p1), .second, .val (.long p2), .second, .val (.long p3), .second, .val (.long p4), .second, .val (.int p5), .val (.int (p5 &&& (3 : Int32))), .val (.ref b1), .val (.int (i01 (¬ (0 : Int64) < p1))), .unset, .unset] [(.long (p1 - (p4 - p2)))])
            refine Go.via (fun _ k => XS.lstore X8.here hx rfl (hb hby at_133) rfl (l' := #[.val (.long p1), .second, .val (.long p2), .second, .val (.long p3), .second, .val (.long p4), .second, .val (.int p5), .val (.int (p5 &&& (3 : Int32))), .val (.ref b1), .val (.int (i01 (¬ (0 : Int64) < p1))), .val (.long (p1 - (p4 - p2))), .second]) rfl k) ?_
            show Go p e below _ T8 (mkF m 135 #[.val (.long p1), .second, .val (.long p2), .second, .val (.long p3), .second, .val (.long p4), .second, .val (.int p5), .val (.int (p5 &&& (3 : Int32))), .val (.ref b1), .val (.int (i01 (¬ (0 : Int64) < p1))), .val (.long (p1 - (p4 - p2))), .second] [])
            refine Go.via (fun _ k => XS.aload X8.here hx rfl (hb hby at_135) rfl (by rfl) k) ?_
            show Go p e below _ T8 (mkF m 137 #[.val (.long p1), .second, .val (.long p2), .second, .val (.long p3), .second, .val (.long p4), .second, .val (.int p5), .val (.int (p5 &&& (3 : Int32))), .val (.ref b1), .val (.int (i01 (¬ (0 : Int64) < p1))), .val (.long (p1 - (p4 - p2))), .second] [(.ref b1)])
            refine Go.via (fun _ k => XS.lload X8.here hx rfl (hb hby at_137) rfl  k) ?_
            show Go p e below _ T8 (mkF m 139 #[.val (.long p1), .second, .val (.long p2), .second, .val (.long p3), .second, .val (.long p4), .second, .val (.int p5), .val (.int (p5 &&& (3 : Int32))), .val (.ref b1), .val (.int (i01 (¬ (0 : Int64) < p1))), .val (.long (p1 - (p4 - p2))), .second] [(.long p4), (.ref b1)])
            obtain ⟨v11, T11, L11, X11, ⟨rfl, Nq11, eq11⟩, st11⟩ := Go.callV X8 hx hZ hown e8 (hw _ (List.mem_of_getElem? (i := 27) rfl)) (hw _ (List.mem_of_getElem? (i := 28) rfl)) (hw _ (List.mem_of_getElem? (i := 30) rfl)) (hw _ (List.mem_of_getElem? (i := 29) rfl)) (hw _ (List.mem_of_getElem? (i := 2) rfl)) (hw _ (List.mem_of_getElem? (i := 31) rfl)) (by decide) G0_8 (own_lf l Z a0 hw [] b1 p4 false (own_c false (own_c true false (0 : Int64) p1 p2) (own_q true (0 : Int64) p2) p1 p3) p1 (own_q false (own_q true (0 : Int64) p2) p3) T8.heap n0 Z8 G0_8 G1_8 G2_8 G3_8 G4_8 ge_b1) (pc := 139) (Ls := #[.val (.long p1), .second, .val (.long p2), .second, .val (.long p3), .second, .val (.long p4), .second, .val (.int p5), .val (.int (p5 &&& (3 : Int32))), .val (.ref b1), .val (.int (i01 (¬ (0 : Int64) < p1))), .val (.long (p1 - (p4 - p2))), .second]) (argsL := [(.long p4)]) (rest := []) own_pd1 rfl rfl (by rw [hml]; rfl) (hb hby at_139) (W := 0) (Nat.le_of_eq rfl) (by decide) (by decide) (by decide) (by decide)
            refine st11 ?_
            have N11 := Fr.app N8 Nq11
            show Go p e below _ T11 (mkF m 142 #[.val (.long p1), .second, .val (.long p2), .second, .val (.long p3), .second, .val (.long p4), .second, .val (.int p5), .val (.int (p5 &&& (3 : Int32))), .val (.ref b1), .val (.int (i01 (¬ (0 : Int64) < p1))), .val (.long (p1 - (p4 - p2))), .second] [(.long (own_left false (own_c false (own_c true false (0 : Int64) p1 p2) (own_q true (0 : Int64) p2) p1 p3) p1 (own_q false (own_q true (0 : Int64) p2) p3) p4))])
            refine Go.via (fun _ k => XS.lload X11.here hx rfl (hb hby at_142) rfl  k) ?_
            show Go p e below _ T11 (mkF m 144 #[.val (.long p1), .second, .val (.long p2), .second, .val (.long p3), .second, .val (.long p4), .second, .val (.int p5), .val (.int (p5 &&& (3 : Int32))), .val (.ref b1), .val (.int (i01 (¬ (0 : Int64) < p1))), .val (.long (p1 - (p4 - p2))), .second] [(.long (p1 - (p4 - p2))), (.long (own_left false (own_c false (own_c true false (0 : Int64) p1 p2) (own_q true (0 : Int64) p2) p1 p3) p1 (own_q false (own_q true (0 : Int64) p2) p3) p4))])
            refine Go.via (fun _ k => XS.lcmp X11.here hx rfl (hb hby at_144) rfl k) ?_
            show Go p e below _ T11 (mkF m 145 #[.val (.long p1), .second, .val (.long p2), .second, .val (.long p3), .second, .val (.long p4), .second, .val (.int p5), .val (.int (p5 &&& (3 : Int32))), .val (.ref b1), .val (.int (i01 (¬ (0 : Int64) < p1))), .val (.long (p1 - (p4 - p2))), .second] [(.int (lcmpW (own_left false (own_c false (own_c true false (0 : Int64) p1 p2) (own_q true (0 : Int64) p2) p1 p3) p1 (own_q false (own_q true (0 : Int64) p2) p3) p4) (p1 - (p4 - p2))))])
            have hc145 : (own_left false (own_c false (own_c true false (0 : Int64) p1 p2) (own_q true (0 : Int64) p2) p1 p3) p1 (own_q false (own_q true (0 : Int64) p2) p3) p4) = (p1 - (p4 - p2)) := own_f3 hc116 hc79
            refine Go.via (fun _ k => XS.ifNo X11.here hx rfl (hb hby at_145) rfl ((if0 _ _).trans (teq ((lw_eq _ _).mpr hc145)).2) k) ?_
            show Go p e below _ T11 (mkF m 148 #[.val (.long p1), .second, .val (.long p2), .second, .val (.long p3), .second, .val (.long p4), .second, .val (.int p5), .val (.int (p5 &&& (3 : Int32))), .val (.ref b1), .val (.int (i01 (¬ (0 : Int64) < p1))), .val (.long (p1 - (p4 - p2))), .second] [])
            refine Go.via (fun _ k => XS.iconst X11.here hx rfl (hb hby at_148) k) ?_
            show Go p e below _ T11 (mkF m 149 #[.val (.long p1), .second, .val (.long p2), .second, .val (.long p3), .second, .val (.long p4), .second, .val (.int p5), .val (.int (p5 &&& (3 : Int32))), .val (.ref b1), .val (.int (i01 (¬ (0 : Int64) < p1))), .val (.long (p1 - (p4 - p2))), .second] [(.int (1 : Int32))])
            refine Go.via (fun _ k => XS.goto X11.here hx rfl (pc0 := 149) (pc' := 153) rfl (hb hby at_149) (by decide) (by decide) k) ?_
            show Go p e below _ T11 (mkF m 153 #[.val (.long p1), .second, .val (.long p2), .second, .val (.long p3), .second, .val (.long p4), .second, .val (.int p5), .val (.int (p5 &&& (3 : Int32))), .val (.ref b1), .val (.int (i01 (¬ (0 : Int64) < p1))), .val (.long (p1 - (p4 - p2))), .second] [(.int (1 : Int32))])
            refine Go.retN X11 hx hk (hret : meth.sig.returnType = some .boolean) (t := .boolean) (by simp) (hb hby at_153) (by decide) (by decide) ?_
            exact ⟨rfl, N11⟩
          · skip
            refine Go.via (fun _ k => XS.ifNo X8.here hx rfl (hb hby at_116) rfl ((if0 _ _).trans (feq hc116).1) k) ?_
            show Go p e below _ T8 (mkF m 119 #[.val (.long p1), .second, .val (.long p2), .second, .val (.long p3), .second, .val (.long p4), .second, .val (.int p5), .val (.int (p5 &&& (3 : Int32))), .val (.ref b1), .val (.int (i01 (¬ (0 : Int64) < p1))), .unset, .unset] [])
            refine Go.via (fun _ k => Stand.ldc2Long X8 hx hown (mvT hZ (hw _ (List.mem_of_getElem? (i := 32) rfl))) (g := (mkF m 119 #[.val (.long p1), .second, .val (.long p2), .second, .val (.long p3), .second, .val (.long p4), .second, .val (.int p5), .val (.int (p5 &&& (3 : Int32))), .val (.ref b1), .val (.int (i01 (¬ (0 : Int64) < p1))), .unset, .unset] [])) rfl (hb hby at_119) _ k) ?_
            show Go p e below _ T8 (mkF m 122 #[.val (.long p1), .second, .val (.long p2), .second, .val (.long p3), .second, .val (.long p4), .second, .val (.int p5), .val (.int (p5 &&& (3 : Int32))), .val (.ref b1), .val (.int (i01 (¬ (0 : Int64) < p1))), .unset, .unset] [(.long (9223372036854775807 : Int64))])
            refine Go.via (fun _ k => XS.lstore X8.here hx rfl (hb hby at_122) rfl (l' := #[.val (.long p1), .second, .val (.long p2), .second, .val (.long p3), .second, .val (.long p4), .second, .val (.int p5), .val (.int (p5 &&& (3 : Int32))), .val (.ref b1), .val (.int (i01 (¬ (0 : Int64) < p1))), .val (.long (9223372036854775807 : Int64)), .second]) rfl k) ?_
            show Go p e below _ T8 (mkF m 124 #[.val (.long p1), .second, .val (.long p2), .second, .val (.long p3), .second, .val (.long p4), .second, .val (.int p5), .val (.int (p5 &&& (3 : Int32))), .val (.ref b1), .val (.int (i01 (¬ (0 : Int64) < p1))), .val (.long (9223372036854775807 : Int64)), .second] [])
            refine Go.via (fun _ k => XS.goto X8.here hx rfl (pc0 := 124) (pc' := 135) rfl (hb hby at_124) (by decide) (by decide) k) ?_
            show Go p e below _ T8 (mkF m 135 #[.val (.long p1), .second, .val (.long p2), .second, .val (.long p3), .second, .val (.long p4), .second, .val (.int p5), .val (.int (p5 &&& (3 : Int32))), .val (.ref b1), .val (.int (i01 (¬ (0 : Int64) < p1))), .val (.long (9223372036854775807 : Int64)), .second] [])
            refine Go.via (fun _ k => XS.aload X8.here hx rfl (hb hby at_135) rfl (by rfl) k) ?_
            show Go p e below _ T8 (mkF m 137 #[.val (.long p1), .second, .val (.long p2), .second, .val (.long p3), .second, .val (.long p4), .second, .val (.int p5), .val (.int (p5 &&& (3 : Int32))), .val (.ref b1), .val (.int (i01 (¬ (0 : Int64) < p1))), .val (.long (9223372036854775807 : Int64)), .second] [(.ref b1)])
            refine Go.via (fun _ k => XS.lload X8.here hx rfl (hb hby at_137) rfl  k) ?_
            show Go p e below _ T8 (mkF m 139 #[.val (.long p1), .second, .val (.long p2), .second, .val (.long p3), .second, .val (.long p4), .second, .val (.int p5), .val (.int (p5 &&& (3 : Int32))), .val (.ref b1), .val (.int (i01 (¬ (0 : Int64) < p1))), .val (.long (9223372036854775807 : Int64)), .second] [(.long p4), (.ref b1)])
            obtain ⟨v12, T12, L12, X12, ⟨rfl, Nq12, eq12⟩, st12⟩ := Go.callV X8 hx hZ hown e8 (hw _ (List.mem_of_getElem? (i := 27) rfl)) (hw _ (List.mem_of_getElem? (i := 28) rfl)) (hw _ (List.mem_of_getElem? (i := 30) rfl)) (hw _ (List.mem_of_getElem? (i := 29) rfl)) (hw _ (List.mem_of_getElem? (i := 2) rfl)) (hw _ (List.mem_of_getElem? (i := 31) rfl)) (by decide) G0_8 (own_lf l Z a0 hw [] b1 p4 false (own_c false (own_c true false (0 : Int64) p1 p2) (own_q true (0 : Int64) p2) p1 p3) p1 (own_q false (own_q true (0 : Int64) p2) p3) T8.heap n0 Z8 G0_8 G1_8 G2_8 G3_8 G4_8 ge_b1) (pc := 139) (Ls := #[.val (.long p1), .second, .val (.long p2), .second, .val (.long p3), .second, .val (.long p4), .second, .val (.int p5), .val (.int (p5 &&& (3 : Int32))), .val (.ref b1), .val (.int (i01 (¬ (0 : Int64) < p1))), .val (.long (9223372036854775807 : Int64)), .second]) (argsL := [(.long p4)]) (rest := []) own_pd1 rfl rfl (by rw [hml]; rfl) (hb hby at_139) (W := 0) (Nat.le_of_eq rfl) (by decide) (by decide) (by decide) (by decide)
            refine st12 ?_
            have N12 := Fr.app N8 Nq12
            show Go p e below _ T12 (mkF m 142 #[.val (.long p1), .second, .val (.long p2), .second, .val (.long p3), .second, .val (.long p4), .second, .val (.int p5), .val (.int (p5 &&& (3 : Int32))), .val (.ref b1), .val (.int (i01 (¬ (0 : Int64) < p1))), .val (.long (9223372036854775807 : Int64)), .second] [(.long (own_left false (own_c false (own_c true false (0 : Int64) p1 p2) (own_q true (0 : Int64) p2) p1 p3) p1 (own_q false (own_q true (0 : Int64) p2) p3) p4))])
            refine Go.via (fun _ k => XS.lload X12.here hx rfl (hb hby at_142) rfl  k) ?_
            show Go p e below _ T12 (mkF m 144 #[.val (.long p1), .second, .val (.long p2), .second, .val (.long p3), .second, .val (.long p4), .second, .val (.int p5), .val (.int (p5 &&& (3 : Int32))), .val (.ref b1), .val (.int (i01 (¬ (0 : Int64) < p1))), .val (.long (9223372036854775807 : Int64)), .second] [(.long (9223372036854775807 : Int64)), (.long (own_left false (own_c false (own_c true false (0 : Int64) p1 p2) (own_q true (0 : Int64) p2) p1 p3) p1 (own_q false (own_q true (0 : Int64) p2) p3) p4))])
            refine Go.via (fun _ k => XS.lcmp X12.here hx rfl (hb hby at_144) rfl k) ?_
            show Go p e below _ T12 (mkF m 145 #[.val (.long p1), .second, .val (.long p2), .second, .val (.long p3), .second, .val (.long p4), .second, .val (.int p5), .val (.int (p5 &&& (3 : Int32))), .val (.ref b1), .val (.int (i01 (¬ (0 : Int64) < p1))), .val (.long (9223372036854775807 : Int64)), .second] [(.int (lcmpW (own_left false (own_c false (own_c true false (0 : Int64) p1 p2) (own_q true (0 : Int64) p2) p1 p3) p1 (own_q false (own_q true (0 : Int64) p2) p3) p4) (9223372036854775807 : Int64)))])
            have hc145 : (own_left false (own_c false (own_c true false (0 : Int64) p1 p2) (own_q true (0 : Int64) p2) p1 p3) p1 (own_q false (own_q true (0 : Int64) p2) p3) p4) = (9223372036854775807 : Int64) := own_f4 hc116
            refine Go.via (fun _ k => XS.ifNo X12.here hx rfl (hb hby at_145) rfl ((if0 _ _).trans (teq ((lw_eq _ _).mpr hc145)).2) k) ?_
            show Go p e below _ T12 (mkF m 148 #[.val (.long p1), .second, .val (.long p2), .second, .val (.long p3), .second, .val (.long p4), .second, .val (.int p5), .val (.int (p5 &&& (3 : Int32))), .val (.ref b1), .val (.int (i01 (¬ (0 : Int64) < p1))), .val (.long (9223372036854775807 : Int64)), .second] [])
            refine Go.via (fun _ k => XS.iconst X12.here hx rfl (hb hby at_148) k) ?_
            show Go p e below _ T12 (mkF m 149 #[.val (.long p1), .second, .val (.long p2), .second, .val (.long p3), .second, .val (.long p4), .second, .val (.int p5), .val (.int (p5 &&& (3 : Int32))), .val (.ref b1), .val (.int (i01 (¬ (0 : Int64) < p1))), .val (.long (9223372036854775807 : Int64)), .second] [(.int (1 : Int32))])
            refine Go.via (fun _ k => XS.goto X12.here hx rfl (pc0 := 149) (pc' := 153) rfl (hb hby at_149) (by decide) (by decide) k) ?_
            show Go p e below _ T12 (mkF m 153 #[.val (.long p1), .second, .val (.long p2), .second, .val (.long p3), .second, .val (.long p4), .second, .val (.int p5), .val (.int (p5 &&& (3 : Int32))), .val (.ref b1), .val (.int (i01 (¬ (0 : Int64) < p1))), .val (.long (9223372036854775807 : Int64)), .second] [(.int (1 : Int32))])
            refine Go.retN X12 hx hk (hret : meth.sig.returnType = some .boolean) (t := .boolean) (by simp) (hb hby at_153) (by decide) (by decide) ?_
            exact ⟨rfl, N12⟩
      · skip
        refine Go.via (fun _ k => XS.ifNo X8.here hx rfl (hb hby at_79) rfl ((if0 _ _).trans (flt (fun q => hc79 ((lw_lt _ _).mp q))).1) k) ?_
        show Go p e below _ T8 (mkF m 82 #[.val (.long p1), .second, .val (.long p2), .second, .val (.long p3), .second, .val (.long p4), .second, .val (.int p5), .val (.int (p5 &&& (3 : Int32))), .val (.ref b1), .val (.int (i01 (¬ (0 : Int64) < p1))), .unset, .unset] [])
        refine Go.via (fun _ k => XS.iconst X8.here hx rfl (hb hby at_82) k) ?_
        show Go p e below _ T8 (mkF m 83 #[.val (.long p1), .second, .val (.long p2), .second, .val (.long p3), .second, .val (.long p4), .second, .val (.int p5), .val (.int (p5 &&& (3 : Int32))), .val (.ref b1), .val (.int (i01 (¬ (0 : Int64) < p1))), .unset, .unset] [(.int (1 : Int32))])
        refine Go.via (fun _ k => XS.istore X8.here hx rfl (hb hby at_83) rfl (l' := #[.val (.long p1), .second, .val (.long p2), .second, .val (.long p3), .second, .val (.long p4), .second, .val (.int p5), .val (.int (p5 &&& (3 : Int32))), .val (.ref b1), .val (.int (1 : Int32)), .unset, .unset]) rfl k) ?_
        show Go p e below _ T8 (mkF m 85 #[.val (.long p1), .second, .val (.long p2), .second, .val (.long p3), .second, .val (.long p4), .second, .val (.int p5), .val (.int (p5 &&& (3 : Int32))), .val (.ref b1), .val (.int (1 : Int32)), .unset, .unset] [])
        refine Go.via (fun _ k => XS.iload X8.here hx rfl (hb hby at_85) rfl  k) ?_
        show Go p e below _ T8 (mkF m 87 #[.val (.long p1), .second, .val (.long p2), .second, .val (.long p3), .second, .val (.long p4), .second, .val (.int p5), .val (.int (p5 &&& (3 : Int32))), .val (.ref b1), .val (.int (1 : Int32)), .unset, .unset] [(.int (p5 &&& (3 : Int32)))])
        refine Go.via (fun _ k => XS.iconst X8.here hx rfl (hb hby at_87) k) ?_
        show Go p e below _ T8 (mkF m 88 #[.val (.long p1), .second, .val (.long p2), .second, .val (.long p3), .second, .val (.long p4), .second, .val (.int p5), .val (.int (p5 &&& (3 : Int32))), .val (.ref b1), .val (.int (1 : Int32)), .unset, .unset] [(.int (3 : Int32)), (.int (p5 &&& (3 : Int32)))])
        by_cases hc88 : (p5 &&& (3 : Int32)) = (3 : Int32)
        · skip
          refine Go.via (fun _ k => XS.icmpNo X8.here hx rfl (hb hby at_88) rfl (teq hc88).2 k) ?_
          show Go p e below _ T8 (mkF m 91 #[.val (.long p1), .second, .val (.long p2), .second, .val (.long p3), .second, .val (.long p4), .second, .val (.int p5), .val (.int (p5 &&& (3 : Int32))), .val (.ref b1), .val (.int (1 : Int32)), .unset, .unset] [])
          refine Go.via (fun _ k => XS.aload X8.here hx rfl (hb hby at_91) rfl (by rfl) k) ?_
          show Go p e below _ T8 (mkF m 93 #[.val (.long p1), .second, .val (.long p2), .second, .val (.long p3), .second, .val (.long p4), .second, .val (.int p5), .val (.int (p5 &&& (3 : Int32))), .val (.ref b1), .val (.int (1 : Int32)), .unset, .unset] [(.ref b1)])
          obtain ⟨v13, T13, L13, X13, ⟨rfl, Nq13, K13, G0_13, G1_13, G2_13, G3_13, G4_13⟩, st13⟩ := Go.callV X8 hx hZ hown e8 (hw _ (List.mem_of_getElem? (i := 22) rfl)) (hw _ (List.mem_of_getElem? (i := 23) rfl)) (hw _ (List.mem_of_getElem? (i := 25) rfl)) (hw _ (List.mem_of_getElem? (i := 24) rfl)) (hw _ (List.mem_of_getElem? (i := 2) rfl)) (hw _ (List.mem_of_getElem? (i := 26) rfl)) (by decide) G0_8 (own_restart l Z a0 hw [] b1 false (own_c false (own_c true false (0 : Int64) p1 p2) (own_q true (0 : Int64) p2) p1 p3) p1 (own_q false (own_q true (0 : Int64) p2) p3) T8.heap n0 Z8 G0_8 G1_8 G2_8 G3_8 G4_8 ge_b1) (pc := 93) (Ls := #[.val (.long p1), .second, .val (.long p2), .second, .val (.long p3), .second, .val (.long p4), .second, .val (.int p5), .val (.int (p5 &&& (3 : Int32))), .val (.ref b1), .val (.int (1 : Int32)), .unset, .unset]) (argsL := []) (rest := []) own_pd3 rfl rfl (by rw [hml]; rfl) (hb hby at_93) (W := 0) (Nat.le_of_eq rfl) (by decide) (by decide) (by decide) (by decide)
          refine st13 ?_
          have N13 := Fr.app N8 Nq13
          have Z13 : n0 ≤ T13.heap.size := Nat.le_trans Z8 K13.1
          have e13 : T13.heap = T13.heap := rfl
          show Go p e below _ T13 (mkF m 96 #[.val (.long p1), .second, .val (.long p2), .second, .val (.long p3), .second, .val (.long p4), .second, .val (.int p5), .val (.int (p5 &&& (3 : Int32))), .val (.ref b1), .val (.int (1 : Int32)), .unset, .unset] [])
          refine Go.via (fun _ k => XS.aload X13.here hx rfl (hb hby at_96) rfl (by rfl) k) ?_
          show Go p e below _ T13 (mkF m 98 #[.val (.long p1), .second, .val (.long p2), .second, .val (.long p3), .second, .val (.long p4), .second, .val (.int p5), .val (.int (p5 &&& (3 : Int32))), .val (.ref b1), .val (.int (1 : Int32)), .unset, .unset] [(.ref b1)])
          refine Go.via (fun _ k => XS.lload X13.here hx rfl (hb hby at_98) rfl  k) ?_
          show Go p e below _ T13 (mkF m 100 #[.val (.long p1), .second, .val (.long p2), .second, .val (.long p3), .second, .val (.long p4), .second, .val (.int p5), .val (.int (p5 &&& (3 : Int32))), .val (.ref b1), .val (.int (1 : Int32)), .unset, .unset] [(.long p4), (.ref b1)])
          obtain ⟨v14, T14, L14, X14, ⟨rfl, Nq14, eq14⟩, st14⟩ := Go.callV X13 hx hZ hown e13 (hw _ (List.mem_of_getElem? (i := 27) rfl)) (hw _ (List.mem_of_getElem? (i := 28) rfl)) (hw _ (List.mem_of_getElem? (i := 30) rfl)) (hw _ (List.mem_of_getElem? (i := 29) rfl)) (hw _ (List.mem_of_getElem? (i := 2) rfl)) (hw _ (List.mem_of_getElem? (i := 31) rfl)) (by decide) G0_13 (own_lf l Z a0 hw [] b1 p4 true false p1 (own_q false (own_q true (0 : Int64) p2) p3) T13.heap n0 Z13 G0_13 G1_13 G2_13 G3_13 G4_13 ge_b1) (pc := 100) (Ls := #[.val (.long p1), .second, .val (.long p2), .second, .val (.long p3), .second, .val (.long p4), .second, .val (.int p5), .val (.int (p5 &&& (3 : Int32))), .val (.ref b1), .val (.int (1 : Int32)), .unset, .unset]) (argsL := [(.long p4)]) (rest := []) own_pd1 rfl rfl (by rw [hml]; rfl) (hb hby at_100) (W := 0) (Nat.le_of_eq rfl) (by decide) (by decide) (by decide) (by decide)
          refine st14 ?_
          have N14 := Fr.app N13 Nq14
          show Go p e below _ T14 (mkF m 103 #[.val (.long p1), .second, .val (.long p2), .second, .val (.long p3), .second, .val (.long p4), .second, .val (.int p5), .val (.int (p5 &&& (3 : Int32))), .val (.ref b1), .val (.int (1 : Int32)), .unset, .unset] [(.long (own_left true false p1 (own_q false (own_q true (0 : Int64) p2) p3) p4))])
          refine Go.via (fun _ k => XS.lloadN X14.here hx rfl (hb hby at_103) rfl  k) ?_
          show Go p e below _ T14 (mkF m 104 #[.val (.long p1), .second, .val (.long p2), .second, .val (.long p3), .second, .val (.long p4), .second, .val (.int p5), .val (.int (p5 &&& (3 : Int32))), .val (.ref b1), .val (.int (1 : Int32)), .unset, .unset] [(.long p1), (.long (own_left true false p1 (own_q false (own_q true (0 : Int64) p2) p3) p4))])
          refine Go.via (fun _ k => XS.lcmp X14.here hx rfl (hb hby at_104) rfl k) ?_
          show Go p e below _ T14 (mkF m 105 #[.val (.long p1), .second, .val (.long p2), .second, .val (.long p3), .second, .val (.long p4), .second, .val (.int p5), .val (.int (p5 &&& (3 : Int32))), .val (.ref b1), .val (.int (1 : Int32)), .unset, .unset] [(.int (lcmpW (own_left true false p1 (own_q false (own_q true (0 : Int64) p2) p3) p4) p1))])
          have hc105 : (own_left true false p1 (own_q false (own_q true (0 : Int64) p2) p3) p4) = p1 := rfl
          refine Go.via (fun _ k => XS.ifNo X14.here hx rfl (hb hby at_105) rfl ((if0 _ _).trans (teq ((lw_eq _ _).mpr hc105)).2) k) ?_
          show Go p e below _ T14 (mkF m 108 #[.val (.long p1), .second, .val (.long p2), .second, .val (.long p3), .second, .val (.long p4), .second, .val (.int p5), .val (.int (p5 &&& (3 : Int32))), .val (.ref b1), .val (.int (1 : Int32)), .unset, .unset] [])
          refine Go.via (fun _ k => XS.iconst X14.here hx rfl (hb hby at_108) k) ?_
          show Go p e below _ T14 (mkF m 109 #[.val (.long p1), .second, .val (.long p2), .second, .val (.long p3), .second, .val (.long p4), .second, .val (.int p5), .val (.int (p5 &&& (3 : Int32))), .val (.ref b1), .val (.int (1 : Int32)), .unset, .unset] [(.int (1 : Int32))])
          refine Go.via (fun _ k => XS.goto X14.here hx rfl (pc0 := 109) (pc' := 113) rfl (hb hby at_109) (by decide) (by decide) k) ?_
          show Go p e below _ T14 (mkF m 113 #[.val (.long p1), .second, .val (.long p2), .second, .val (.long p3), .second, .val (.long p4), .second, .val (.int p5), .val (.int (p5 &&& (3 : Int32))), .val (.ref b1), .val (.int (1 : Int32)), .unset, .unset] [(.int (1 : Int32))])
          refine Go.retN X14 hx hk (hret : meth.sig.returnType = some .boolean) (t := .boolean) (by simp) (hb hby at_113) (by decide) (by decide) ?_
          exact ⟨rfl, N14⟩
        · skip
          refine Go.via (fun _ k => XS.icmpYes X8.here hx rfl (pc0 := 88) (pc' := 114) rfl (hb hby at_88) rfl (feq hc88).2 (by decide) (by decide) k) ?_
          show Go p e below _ T8 (mkF m 114 #[.val (.long p1), .second, .val (.long p2), .second, .val (.long p3), .second, .val (.long p4), .second, .val (.int p5), .val (.int (p5 &&& (3 : Int32))), .val (.ref b1), .val (.int (1 : Int32)), .unset, .unset] [])
          refine Go.via (fun _ k => XS.iload X8.here hx rfl (hb hby at_114) rfl  k) ?_
          show Go p e below _ T8 (mkF m 116 #[.val (.long p1), .second, .val (.long p2), .second, .val (.long p3), .second, .val (.long p4), .second, .val (.int p5), .val (.int (p5 &&& (3 : Int32))), .val (.ref b1), .val (.int (1 : Int32)), .unset, .unset] [(.int (1 : Int32))])
          have hc116 : ¬ ((1 : Int32) = (0 : Int32)) := (by decide)
          refine Go.via (fun _ k => XS.ifNo X8.here hx rfl (hb hby at_116) rfl ((if0 _ _).trans (feq hc116).1) k) ?_
          show Go p e below _ T8 (mkF m 119 #[.val (.long p1), .second, .val (.long p2), .second, .val (.long p3), .second, .val (.long p4), .second, .val (.int p5), .val (.int (p5 &&& (3 : Int32))), .val (.ref b1), .val (.int (1 : Int32)), .unset, .unset] [])
          refine Go.via (fun _ k => Stand.ldc2Long X8 hx hown (mvT hZ (hw _ (List.mem_of_getElem? (i := 32) rfl))) (g := (mkF m 119 #[.val (.long p1), .second, .val (.long p2), .second, .val (.long p3), .second, .val (.long p4), .second, .val (.int p5), .val (.int (p5 &&& (3 : Int32))), .val (.ref b1), .val (.int (1 : Int32)), .unset, .unset] [])) rfl (hb hby at_119) _ k) ?_
          show Go p e below _ T8 (mkF m 122 #[.val (.long p1), .second, .val (.long p2), .second, .val (.long p3), .second, .val (.long p4), .second, .val (.int p5), .val (.int (p5 &&& (3 : Int32))), .val (.ref b1), .val (.int (1 : Int32)), .unset, .unset] [(.long (9223372036854775807 : Int64))])
          refine Go.via (fun _ k => XS.lstore X8.here hx rfl (hb hby at_122) rfl (l' := #[.val (.long p1), .second, .val (.long p2), .second, .val (.long p3), .second, .val (.long p4), .second, .val (.int p5), .val (.int (p5 &&& (3 : Int32))), .val (.ref b1), .val (.int (1 : Int32)), .val (.long (9223372036854775807 : Int64)), .second]) rfl k) ?_
          show Go p e below _ T8 (mkF m 124 #[.val (.long p1), .second, .val (.long p2), .second, .val (.long p3), .second, .val (.long p4), .second, .val (.int p5), .val (.int (p5 &&& (3 : Int32))), .val (.ref b1), .val (.int (1 : Int32)), .val (.long (9223372036854775807 : Int64)), .second] [])
          refine Go.via (fun _ k => XS.goto X8.here hx rfl (pc0 := 124) (pc' := 135) rfl (hb hby at_124) (by decide) (by decide) k) ?_
          show Go p e below _ T8 (mkF m 135 #[.val (.long p1), .second, .val (.long p2), .second, .val (.long p3), .second, .val (.long p4), .second, .val (.int p5), .val (.int (p5 &&& (3 : Int32))), .val (.ref b1), .val (.int (1 : Int32)), .val (.long (9223372036854775807 : Int64)), .second] [])
          refine Go.via (fun _ k => XS.aload X8.here hx rfl (hb hby at_135) rfl (by rfl) k) ?_
          show Go p e below _ T8 (mkF m 137 #[.val (.long p1), .second, .val (.long p2), .second, .val (.long p3), .second, .val (.long p4), .second, .val (.int p5), .val (.int (p5 &&& (3 : Int32))), .val (.ref b1), .val (.int (1 : Int32)), .val (.long (9223372036854775807 : Int64)), .second] [(.ref b1)])
          refine Go.via (fun _ k => XS.lload X8.here hx rfl (hb hby at_137) rfl  k) ?_
          show Go p e below _ T8 (mkF m 139 #[.val (.long p1), .second, .val (.long p2), .second, .val (.long p3), .second, .val (.long p4), .second, .val (.int p5), .val (.int (p5 &&& (3 : Int32))), .val (.ref b1), .val (.int (1 : Int32)), .val (.long (9223372036854775807 : Int64)), .second] [(.long p4), (.ref b1)])
          obtain ⟨v15, T15, L15, X15, ⟨rfl, Nq15, eq15⟩, st15⟩ := Go.callV X8 hx hZ hown e8 (hw _ (List.mem_of_getElem? (i := 27) rfl)) (hw _ (List.mem_of_getElem? (i := 28) rfl)) (hw _ (List.mem_of_getElem? (i := 30) rfl)) (hw _ (List.mem_of_getElem? (i := 29) rfl)) (hw _ (List.mem_of_getElem? (i := 2) rfl)) (hw _ (List.mem_of_getElem? (i := 31) rfl)) (by decide) G0_8 (own_lf l Z a0 hw [] b1 p4 false (own_c false (own_c true false (0 : Int64) p1 p2) (own_q true (0 : Int64) p2) p1 p3) p1 (own_q false (own_q true (0 : Int64) p2) p3) T8.heap n0 Z8 G0_8 G1_8 G2_8 G3_8 G4_8 ge_b1) (pc := 139) (Ls := #[.val (.long p1), .second, .val (.long p2), .second, .val (.long p3), .second, .val (.long p4), .second, .val (.int p5), .val (.int (p5 &&& (3 : Int32))), .val (.ref b1), .val (.int (1 : Int32)), .val (.long (9223372036854775807 : Int64)), .second]) (argsL := [(.long p4)]) (rest := []) own_pd1 rfl rfl (by rw [hml]; rfl) (hb hby at_139) (W := 0) (Nat.le_of_eq rfl) (by decide) (by decide) (by decide) (by decide)
          refine st15 ?_
          have N15 := Fr.app N8 Nq15
          show Go p e below _ T15 (mkF m 142 #[.val (.long p1), .second, .val (.long p2), .second, .val (.long p3), .second, .val (.long p4), .second, .val (.int p5), .val (.int (p5 &&& (3 : Int32))), .val (.ref b1), .val (.int (1 : Int32)), .val (.long (9223372036854775807 : Int64)), .second] [(.long (own_left false (own_c false (own_c true false (0 : Int64) p1 p2) (own_q true (0 : Int64) p2) p1 p3) p1 (own_q false (own_q true (0 : Int64) p2) p3) p4))])
          refine Go.via (fun _ k => XS.lload X15.here hx rfl (hb hby at_142) rfl  k) ?_
          show Go p e below _ T15 (mkF m 144 #[.val (.long p1), .second, .val (.long p2), .second, .val (.long p3), .second, .val (.long p4), .second, .val (.int p5), .val (.int (p5 &&& (3 : Int32))), .val (.ref b1), .val (.int (1 : Int32)), .val (.long (9223372036854775807 : Int64)), .second] [(.long (9223372036854775807 : Int64)), (.long (own_left false (own_c false (own_c true false (0 : Int64) p1 p2) (own_q true (0 : Int64) p2) p1 p3) p1 (own_q false (own_q true (0 : Int64) p2) p3) p4))])
          refine Go.via (fun _ k => XS.lcmp X15.here hx rfl (hb hby at_144) rfl k) ?_
          show Go p e below _ T15 (mkF m 145 #[.val (.long p1), .second, .val (.long p2), .second, .val (.long p3), .second, .val (.long p4), .second, .val (.int p5), .val (.int (p5 &&& (3 : Int32))), .val (.ref b1), .val (.int (1 : Int32)), .val (.long (9223372036854775807 : Int64)), .second] [(.int (lcmpW (own_left false (own_c false (own_c true false (0 : Int64) p1 p2) (own_q true (0 : Int64) p2) p1 p3) p1 (own_q false (own_q true (0 : Int64) p2) p3) p4) (9223372036854775807 : Int64)))])
          have hc145 : (own_left false (own_c false (own_c true false (0 : Int64) p1 p2) (own_q true (0 : Int64) p2) p1 p3) p1 (own_q false (own_q true (0 : Int64) p2) p3) p4) = (9223372036854775807 : Int64) := own_f5 hc79
          refine Go.via (fun _ k => XS.ifNo X15.here hx rfl (hb hby at_145) rfl ((if0 _ _).trans (teq ((lw_eq _ _).mpr hc145)).2) k) ?_
          show Go p e below _ T15 (mkF m 148 #[.val (.long p1), .second, .val (.long p2), .second, .val (.long p3), .second, .val (.long p4), .second, .val (.int p5), .val (.int (p5 &&& (3 : Int32))), .val (.ref b1), .val (.int (1 : Int32)), .val (.long (9223372036854775807 : Int64)), .second] [])
          refine Go.via (fun _ k => XS.iconst X15.here hx rfl (hb hby at_148) k) ?_
          show Go p e below _ T15 (mkF m 149 #[.val (.long p1), .second, .val (.long p2), .second, .val (.long p3), .second, .val (.long p4), .second, .val (.int p5), .val (.int (p5 &&& (3 : Int32))), .val (.ref b1), .val (.int (1 : Int32)), .val (.long (9223372036854775807 : Int64)), .second] [(.int (1 : Int32))])
          refine Go.via (fun _ k => XS.goto X15.here hx rfl (pc0 := 149) (pc' := 153) rfl (hb hby at_149) (by decide) (by decide) k) ?_
          show Go p e below _ T15 (mkF m 153 #[.val (.long p1), .second, .val (.long p2), .second, .val (.long p3), .second, .val (.long p4), .second, .val (.int p5), .val (.int (p5 &&& (3 : Int32))), .val (.ref b1), .val (.int (1 : Int32)), .val (.long (9223372036854775807 : Int64)), .second] [(.int (1 : Int32))])
          refine Go.retN X15 hx hk (hret : meth.sig.returnType = some .boolean) (t := .boolean) (by simp) (hb hby at_153) (by decide) (by decide) ?_
          exact ⟨rfl, N15⟩
set_option maxRecDepth 65536 in
set_option maxHeartbeats 40000000 in
theorem comes_1 {Post : Tables → Env → Array Value → State → Outcome → State → Prop} (hpost : ∀ tb e args s v u, (limb_1_1.after args s (.returned v) u = true ∧ limb_1_2.after args s (.returned v) u = true ∧ True) → FrameEnd s (.returned v) u (Jvm.fieldLocs frame_1_writes args s ++ Jvm.arrayLocs frame_1_arrays args s ++ Jvm.staticLocs frame_1_statics s) 16 128 → Post tb e args s (.returned v) u) :
    ArmFor flags0 classFile x code maxLocals ret World_1 tables_1 room_1 Calls_1 rest_1 Pre_1 Post := by
  intro l hfl _ _ p e ha hc hk s m args below hf hA hF happ hP
  obtain ⟨hcalls, hrest, hpre⟩ := hP
  obtain ⟨-, -, -, hnamed, -, -, -, hat⟩ := (Spec.applies_iff hf).mp happ
  obtain ⟨hg, hn⟩ := and_e (Cond.before_iff.mp (show (Jvm.Cond.and given_1 narrow_1).before args s = true from hpre))
  obtain ⟨hcnt, hg0⟩ := and_e hg
  obtain ⟨w0, w1, w2, w3, w4, rfl⟩ : ∃ w0 w1 w2 w3 w4 : Value, args = #[w0, w1, w2, w3, w4] := by
    have hs : args.size = 5 := by simpa [Cond.value, given_1] using hcnt
    obtain ⟨L⟩ := args
    match L, hs with
    | [w0, w1, w2, w3, w4], _ => exact ⟨w0, w1, w2, w3, w4, rfl⟩
  have hw := fun d (hd : d ∈ tables_1) => atoms_spec (ws := Jvm.Cond.code x code maxLocals ret :: tables_1) hat d (List.mem_cons_of_mem _ hd)
  have hfit : Fit s := fun {y c} hc i hi => by
    obtain ⟨ha, rfl⟩ := Array.getElem?_eq_some_iff.mp hc
    have q := List.all_eq_true.mp ((Array.all_eq_true_iff_forall_mem.mp hF) _ (Array.getElem_mem ha)) i (List.mem_range.mpr hi)
    simpa [Array.getElem?_eq_getElem hi] using q
  obtain ⟨hi0, hg1⟩ := and_e hg0
  obtain ⟨hi1, hg2⟩ := and_e hg1
  obtain ⟨hi2, hg3⟩ := and_e hg2
  obtain ⟨hi3, hg4⟩ := and_e hg3
  have hi4 := hg4
  obtain ⟨i0, hv0⟩ := isL_v hi0
  obtain rfl : w0 = (.long i0) := Option.some.inj hv0
  obtain ⟨i1, hv1⟩ := isL_v hi1
  obtain rfl : w1 = (.long i1) := Option.some.inj hv1
  obtain ⟨i2, hv2⟩ := isL_v hi2
  obtain rfl : w2 = (.long i2) := Option.some.inj hv2
  obtain ⟨i3, hv3⟩ := isL_v hi3
  obtain rfl : w3 = (.long i3) := Option.some.inj hv3
  obtain ⟨i4, hv4⟩ := is_v hi4
  obtain rfl : w4 = (.int i4) := Option.some.inj hv4
  obtain ⟨n, o, h1, h2, h3, _, L, rfl, ⟨rfl, N⟩, hq⟩ := own_m0 l s _ hw tables_1 i0 i1 i2 i3 i4 s.heap s.heap.size (Nat.le_refl _) p e ha hc hk s m _ below hf ((Spec.applies_iff_loose hf).mp happ).1 ⟨rfl, State.Warmed39.refl s, rfl⟩ trivial
  refine ⟨n, _, h1, h2, h3, hpost _ _ _ _ _ _ ⟨Cond.after_iff.mpr rfl, Cond.after_iff.mpr (eq_i res_at (Term.int_eval (1)) rfl), trivial⟩ ⟨hq.1, hq.2.1, (hq.2.2.sift fun y hy => Or.inr (N y hy)).mono (by decide) (by decide)⟩⟩
theorem main_1_1 : Claimed_1_1 := comes_1 fun _ _ _ _ _ _ h hF => ⟨h.1, hF⟩
theorem main_1_2 : Claimed_1_2 := comes_1 fun _ _ _ _ _ _ h hF => ⟨h.2.1, hF⟩
end Jvm.Pilot.@@N@@
namespace Jvm.Pilot.@@N@@
open Jvm Jvm.ClassFile Sem Op Lib Jvm.Free Jvm.Stand Jvm.Pilot.@@N@@.Jvm.D
/-! MADE BY PROGRAM (witnessworld.py) out of the Statement's table words and the real class files: 9 classes; the members and pool entries that the words name. The judged class is class 1, her method 1. -/
namespace start1
open Jvm.ClassFile
def u (s : String) : CpInfo := .utf8 (stringToUtf16 s)
/-- a pool by its gaps: so many unusable entries, then the entry; so many at the end -/
def gap : Nat → List CpInfo → List CpInfo
  | 0, r => r
  | n + 1, r => .unusable :: gap n r
def poolList (es : List (Nat × CpInfo)) (last : Nat) : List CpInfo := es.foldr (fun e r => gap e.1 (e.2 :: r)) (gap last [])
def pool (es : List (Nat × CpInfo)) (last : Nat) : Array CpInfo := ⟨poolList es last⟩
def fileOf (pool : Array CpInfo) (this : Nat) (attrs : Array Attribute := #[]) (ms : Array MethodInfo := #[]) (fl : Nat := 33) (sup : Nat := 0) (ifs : Array Nat := #[]) (fds : Array FieldInfo := #[]) : ClassFile where
  minorVersion := 0
  majorVersion := 65
  constantPool := pool
  accessFlags := fl
  thisClass := this
  superClass := sup
  interfaces := ifs
  fields := fds
  methods := ms
  attributes := attrs
def plain (name : String) (sup : Option ClassId) : Class where
  name := name
  kind := .ordinary
  loader := none
  accessFlags := 33
  super := sup
  interfaces := #[]
  cf := none
  fields := #[]
  methods := #[]
  instanceTypes := #[]
  staticTypes := #[]
  resolved := #[]
  callSites := []
  init := .initialized
  statics := none
  mirror := none

def pool0 : Array CpInfo := pool [(5, u "<init>"), (0, u "()V"), (1, .class_ 10), (1, u "java/lang/Object")] 113

def k0c0 : Code := { maxStack := 0, maxLocals := 1, code := object_method_1_code, exceptionTable := #[], attributes := #[] }
def k0m0 : Method := { name := "<init>", desc := "()V", sig := { parameters := [], returnType := none }, accessFlags := 1, code := some k0c0 }
/-- java/lang/Object -/
def k0 : Class := { plain "java/lang/Object" none with
  accessFlags := 33
  interfaces := #[]
  cf := some (fileOf pool0 8 #[] #[{ accessFlags := 1, nameIndex := 5, descriptorIndex := 6, attributes := #[] }] 33 0 #[] #[])
  fields := #[]
  methods := #[k0m0]
  instanceTypes := #[]
  staticTypes := #[]
  resolved := Array.replicate 124 none
  statics := none }

def pool1 : Array CpInfo := pool [(2, .class_ 4), (1, u "java/lang/Object"), (0, u "<init>"), (0, u "()V"), (0, .class_ 8), (0, u "com/example/austere_codec/austerecodec/jrmp/Lapse"), (0, .methodref 7 10), (0, .nameAndType 5 11), (0, u "(J)V"), (0, .methodref 7 13), (0, .nameAndType 14 15), (0, u "left"), (0, u "(J)J"), (0, .methodref 7 17), (0, .nameAndType 18 19), (0, u "hasCome"), (0, u "(J)Z"), (0, .methodref 7 21), (0, .nameAndType 22 6), (0, u "restart"), (2, .long 9223372036854775807), (1, .class_ 28), (0, u "com/example/austere_codec/austerecodec/jrmp/LapseLeftPinLaw"), (2, u "law"), (0, u "(JJJJI)Z")] 3

def k1m0 : Method := { name := "<init>", desc := "()V", sig := { parameters := [], returnType := none }, accessFlags := 1, code := none }
def k1c1 : Code := { maxStack := 6, maxLocals := 14, code := code, exceptionTable := #[], attributes := #[] }
def k1m1 : Method := { name := "law", desc := "(JJJJI)Z", sig := { parameters := [.long, .long, .long, .long, .int], returnType := some .boolean }, accessFlags := 9, code := some k1c1 }
/-- com/example/austere_codec/austerecodec/jrmp/LapseLeftPinLaw -/
def k1 : Class := { plain "com/example/austere_codec/austerecodec/jrmp/LapseLeftPinLaw" (some 0) with
  accessFlags := 49
  interfaces := #[]
  cf := some (fileOf pool1 27 #[] #[{ accessFlags := 1, nameIndex := 5, descriptorIndex := 6, attributes := #[] }, { accessFlags := 9, nameIndex := 31, descriptorIndex := 32, attributes := #[] }] 49 2 #[] #[])
  fields := #[]
  methods := #[k1m0, k1m1]
  instanceTypes := #[]
  staticTypes := #[]
  resolved := Array.replicate 36 none
  statics := none }

def pool2 : Array CpInfo := pool [(1, .methodref 2 3), (0, .class_ 4), (0, .nameAndType 5 6), (0, u "java/lang/Object"), (0, u "<init>"), (0, u "()V"), (0, .fieldref 8 9), (0, .class_ 10), (0, .nameAndType 11 12), (0, u "com/example/austere_codec/austerecodec/jrmp/Lapse"), (0, u "fresh"), (0, u "Z"), (0, .fieldref 8 14), (0, .nameAndType 15 16), (0, u "lapseNanos"), (0, u "J"), (0, .fieldref 8 18), (0, .nameAndType 19 12), (0, u "come"), (0, .fieldref 8 21), (0, .nameAndType 22 16), (0, u "quietSince"), (2, .long 9223372036854775807), (1, u "(J)V"), (2, u "restart"), (0, u "hasCome"), (0, u "(J)Z"), (1, u "left"), (0, u "(J)J")] 2

def k2c0 : Code := { maxStack := 3, maxLocals := 3, code := prog_109_method_1_code, exceptionTable := #[], attributes := #[] }
def k2m0 : Method := { name := "<init>", desc := "(J)V", sig := { parameters := [.long], returnType := none }, accessFlags := 0, code := some k2c0 }
def k2c1 : Code := { maxStack := 2, maxLocals := 1, code := prog_109_method_2_code, exceptionTable := #[], attributes := #[] }
def k2m1 : Method := { name := "restart", desc := "()V", sig := { parameters := [], returnType := none }, accessFlags := 0, code := some k2c1 }
def k2c2 : Code := { maxStack := 4, maxLocals := 3, code := prog_109_method_3_code, exceptionTable := #[], attributes := #[] }
def k2m2 : Method := { name := "hasCome", desc := "(J)Z", sig := { parameters := [.long], returnType := some .boolean }, accessFlags := 0, code := some k2c2 }
def k2c3 : Code := { maxStack := 6, maxLocals := 3, code := prog_109_method_4_code, exceptionTable := #[], attributes := #[] }
def k2m3 : Method := { name := "left", desc := "(J)J", sig := { parameters := [.long], returnType := some .long }, accessFlags := 0, code := some k2c3 }
/-- com/example/austere_codec/austerecodec/jrmp/Lapse -/
def k2 : Class := { plain "com/example/austere_codec/austerecodec/jrmp/Lapse" (some 0) with
  accessFlags := 48
  interfaces := #[]
  cf := some (fileOf pool2 8 #[] #[{ accessFlags := 0, nameIndex := 5, descriptorIndex := 27, attributes := #[] }, { accessFlags := 0, nameIndex := 30, descriptorIndex := 6, attributes := #[] }, { accessFlags := 0, nameIndex := 31, descriptorIndex := 32, attributes := #[] }, { accessFlags := 0, nameIndex := 34, descriptorIndex := 35, attributes := #[] }] 48 2 #[] #[{ accessFlags := 18, nameIndex := 15, descriptorIndex := 16, attributes := #[] }, { accessFlags := 2, nameIndex := 22, descriptorIndex := 16, attributes := #[] }, { accessFlags := 2, nameIndex := 11, descriptorIndex := 12, attributes := #[] }, { accessFlags := 2, nameIndex := 19, descriptorIndex := 12, attributes := #[] }])
  fields := #[{ name := "lapseNanos", type := .long, accessFlags := 18, slot := 0, constantValue := 0 }, { name := "quietSince", type := .long, accessFlags := 2, slot := 1, constantValue := 0 }, { name := "fresh", type := .boolean, accessFlags := 2, slot := 2, constantValue := 0 }, { name := "come", type := .boolean, accessFlags := 2, slot := 3, constantValue := 0 }]
  methods := #[k2m0, k2m1, k2m2, k2m3]
  instanceTypes := #[.long, .long, .boolean, .boolean]
  staticTypes := #[]
  resolved := Array.replicate 38 none
  statics := none }

def pool3 : Array CpInfo := pool [(1, u "java/lang/Cloneable"), (0, .class_ 1), (0, u "java/lang/Object"), (0, .class_ 3)] 3

/-- java/lang/Cloneable -/
def k3 : Class := { plain "java/lang/Cloneable" (some 0) with
  accessFlags := 1537
  interfaces := #[]
  cf := some (fileOf pool3 2 #[] #[] 1537 4 #[] #[])
  fields := #[]
  methods := #[]
  instanceTypes := #[]
  staticTypes := #[]
  resolved := Array.replicate 8 none
  statics := none }

def pool4 : Array CpInfo := pool [(1, u "java/io/Serializable"), (0, .class_ 1), (0, u "java/lang/Object"), (0, .class_ 3)] 3

/-- java/io/Serializable -/
def k4 : Class := { plain "java/io/Serializable" (some 0) with
  accessFlags := 1537
  interfaces := #[]
  cf := some (fileOf pool4 2 #[] #[] 1537 4 #[] #[])
  fields := #[]
  methods := #[]
  instanceTypes := #[]
  staticTypes := #[]
  resolved := Array.replicate 8 none
  statics := none }

/-- the primitive byte -/
def k5 : Class := { plain "byte" none with kind := .primitive 'B', accessFlags := 0x411 }
/-- [B -/
def k6 : Class := { plain "[B" (some 0) with kind := .array 5 .byte, interfaces := #[3, 4], accessFlags := 1041 }

/-- the primitive int -/
def k7 : Class := { plain "int" none with kind := .primitive 'I', accessFlags := 0x411 }
/-- [I -/
def k8 : Class := { plain "[I" (some 0) with kind := .array 7 .int, interfaces := #[3, 4], accessFlags := 1041 }

def heap : Heap := #[]
def classes : Array Class := #[k0, k1, k2, k3, k4, k5, k6, k7, k8]
def interned : List (Array UInt16 × Addr) := []
def slotsUsed : Nat := 0
def theMethod : MethodId := ⟨1, 1⟩
def args0 : Array Value := #[.long 5, .long 7, .long 6, .long 9, .int 2]
def aboutOver (below : List Frame) : State where
  vm := { classes := classes, interned := interned.toArray }
  heap := heap
  slotsUsed := slotsUsed
  threads := #[{ frames := .invoking theMethod args0 :: below }]
def below0 : List Frame := [.native { method := ⟨0, 0⟩, args := #[] }]
def about1 : State := aboutOver below0
def p0 : Program := .bare "" "" ""
def e0 : Env := launch0.env 0 0 0
theorem w_frames : about1.frames = Frame.invoking theMethod args0 :: below0 := rfl
set_option maxRecDepth 65536 in
theorem w_args : argsFit about1.vm theMethod args0 = true := by decide +kernel
set_option maxRecDepth 65536 in
theorem w_heap : heapFits about1 = true := by decide +kernel
set_option maxRecDepth 65536 in
theorem w_runnable : about1.curStatus? = some .runnable := by decide +kernel
set_option maxRecDepth 65536 in
theorem w_alone : about1.alone = true := by decide +kernel
set_option maxRecDepth 65536 in
theorem w_named : about1.methodNamed? x = some theMethod := by decide +kernel
set_option maxRecDepth 65536 in
theorem w_hears : about1.hears theMethod below0 = true := by decide +kernel
set_option maxRecDepth 65536 in
theorem w_ripe : about1.ripe theMethod args0 below0 = true := by decide +kernel
theorem w_running : about1.status = .running := rfl
set_option maxRecDepth 65536 in
theorem w_room : about1.hasRoom e0.platform room_1 = true :=
  launch0.hasRoom_least _ room_1 (by decide +kernel) (by decide +kernel) (by decide +kernel) (by decide +kernel) (by decide +kernel) (by decide +kernel)
theorem allAtoms_all (ts : List Jvm.Cond) (a : Array Jvm.Value) (st : Jvm.State) : (allAtoms ts).before a st = ts.all (fun c => c.before a st) := by
  induction ts with
  | nil => rfl
  | cons c t ih =>
    show (Jvm.Cond.and c (allAtoms t)).before a st = _
    rw [Jvm.Cond.before_and, ih, List.all_cons]
def words1 : List Jvm.Cond := Jvm.Cond.code x code maxLocals ret :: tables_1
/-- a 'code' word, met by the world's own term for the bytes: nothing is compared byte by byte -/
theorem code_word {y : MethodName} {bytes : ByteArray} {mx : Nat} {rt : Option FieldType} {a : Array Value} {s : State} {m : MethodId} {meth : Method} {c : Code} (h1 : s.methodNamed? y = some m) (h2 : s.vm.method? m = some meth) (h3 : meth.code = some c) (h4 : c.code = bytes)
    (h5 : (c.maxLocals == mx && c.exceptionTable.isEmpty && decide (c.maxStack ≤ mostOperands) && decide (meth.sig.returnType = rt) && !meth.locks && decide (parseMethodDescriptor y.desc = some meth.sig)) = true) : (Jvm.Cond.code y bytes mx rt).before a s = true := by
  simp only [Bool.and_eq_true, beq_iff_eq, Bool.not_eq_true', decide_eq_true_eq] at h5
  obtain ⟨⟨⟨⟨⟨g1, g2⟩, g3⟩, g4⟩, g5⟩, g6⟩ := h5
  simp [Cond.before, Cond.holds, Cond.value, h1, h2, h3, h4, g1, g2, g3, g4, g5, g6]
def isCode : Jvm.Cond → Bool
  | .code _ _ _ _ => true
  | _ => false
theorem all_split {L : List Jvm.Cond} {P : Jvm.Cond → Bool} (h1 : L.all (fun c => isCode c || P c) = true) (h2 : ∀ c ∈ L.filter isCode, P c = true) : L.all P = true := by
  refine List.all_eq_true.mpr fun c hc => ?_
  have h := List.all_eq_true.mp h1 c hc
  rcases Bool.eq_false_or_eq_true (isCode c) with hi | hi
  · exact h2 c (List.mem_filter.mpr ⟨hc, hi⟩)
  · simpa [hi] using h
set_option maxRecDepth 65536 in
theorem w_c0 : (Jvm.Cond.code x code maxLocals ret).before args0 about1 = true := code_word (m := ⟨1, 1⟩) (meth := k1m1) (c := k1c1) (by decide +kernel) rfl rfl rfl (by decide +kernel)
set_option maxRecDepth 65536 in
theorem w_c1 : (Jvm.Cond.code ({ cls := "com/example/austere_codec/austerecodec/jrmp/Lapse", name := "<init>", desc := "(J)V" } : Jvm.MethodName) prog_109_method_1_code (3 : Nat) (Option.none : Option Jvm.ClassFile.FieldType)).before args0 about1 = true := code_word (m := ⟨2, 0⟩) (meth := k2m0) (c := k2c0) (by decide +kernel) rfl rfl rfl (by decide +kernel)
set_option maxRecDepth 65536 in
theorem w_c2 : (Jvm.Cond.code ({ cls := "java/lang/Object", name := "<init>", desc := "()V" } : Jvm.MethodName) object_method_1_code (1 : Nat) (Option.none : Option Jvm.ClassFile.FieldType)).before args0 about1 = true := code_word (m := ⟨0, 0⟩) (meth := k0m0) (c := k0c0) (by decide +kernel) rfl rfl rfl (by decide +kernel)
set_option maxRecDepth 65536 in
theorem w_c3 : (Jvm.Cond.code ({ cls := "com/example/austere_codec/austerecodec/jrmp/Lapse", name := "hasCome", desc := "(J)Z" } : Jvm.MethodName) prog_109_method_3_code (3 : Nat) (Option.some Jvm.ClassFile.FieldType.boolean)).before args0 about1 = true := code_word (m := ⟨2, 2⟩) (meth := k2m2) (c := k2c2) (by decide +kernel) rfl rfl rfl (by decide +kernel)
set_option maxRecDepth 65536 in
theorem w_c4 : (Jvm.Cond.code ({ cls := "com/example/austere_codec/austerecodec/jrmp/Lapse", name := "restart", desc := "()V" } : Jvm.MethodName) prog_109_method_2_code (1 : Nat) (Option.none : Option Jvm.ClassFile.FieldType)).before args0 about1 = true := code_word (m := ⟨2, 1⟩) (meth := k2m1) (c := k2c1) (by decide +kernel) rfl rfl rfl (by decide +kernel)
set_option maxRecDepth 65536 in
theorem w_c5 : (Jvm.Cond.code ({ cls := "com/example/austere_codec/austerecodec/jrmp/Lapse", name := "left", desc := "(J)J" } : Jvm.MethodName) prog_109_method_4_code (3 : Nat) (Option.some Jvm.ClassFile.FieldType.long)).before args0 about1 = true := code_word (m := ⟨2, 3⟩) (meth := k2m3) (c := k2c3) (by decide +kernel) rfl rfl rfl (by decide +kernel)
def codes1 : List Jvm.Cond := [Jvm.Cond.code x code maxLocals ret, Jvm.Cond.code ({ cls := "com/example/austere_codec/austerecodec/jrmp/Lapse", name := "<init>", desc := "(J)V" } : Jvm.MethodName) prog_109_method_1_code (3 : Nat) (Option.none : Option Jvm.ClassFile.FieldType), Jvm.Cond.code ({ cls := "java/lang/Object", name := "<init>", desc := "()V" } : Jvm.MethodName) object_method_1_code (1 : Nat) (Option.none : Option Jvm.ClassFile.FieldType), Jvm.Cond.code ({ cls := "com/example/austere_codec/austerecodec/jrmp/Lapse", name := "hasCome", desc := "(J)Z" } : Jvm.MethodName) prog_109_method_3_code (3 : Nat) (Option.some Jvm.ClassFile.FieldType.boolean), Jvm.Cond.code ({ cls := "com/example/austere_codec/austerecodec/jrmp/Lapse", name := "restart", desc := "()V" } : Jvm.MethodName) prog_109_method_2_code (1 : Nat) (Option.none : Option Jvm.ClassFile.FieldType), Jvm.Cond.code ({ cls := "com/example/austere_codec/austerecodec/jrmp/Lapse", name := "left", desc := "(J)J" } : Jvm.MethodName) prog_109_method_4_code (3 : Nat) (Option.some Jvm.ClassFile.FieldType.long)]
set_option maxRecDepth 65536 in
theorem codes_eq : words1.filter isCode = codes1 := rfl
theorem w_codes : ∀ c ∈ words1.filter isCode, c.before args0 about1 = true := by
  rw [codes_eq]
  intro c hc
  simp only [codes1, List.mem_cons, List.not_mem_nil, or_false] at hc
  rcases hc with rfl | rfl | rfl | rfl | rfl | rfl
  · exact w_c0
  · exact w_c1
  · exact w_c2
  · exact w_c3
  · exact w_c4
  · exact w_c5
set_option maxRecDepth 65536 in
theorem w_t1 : (words1.take 24).all (fun c => isCode c || c.before args0 about1) = true := by decide +kernel
set_option maxRecDepth 65536 in
theorem w_t2 : (words1.drop 24).all (fun c => isCode c || c.before args0 about1) = true := by decide +kernel
theorem w_tables : (allAtoms (Jvm.Cond.code x code maxLocals ret :: tables_1)).before args0 about1 = true := by
  rw [allAtoms_all]
  show words1.all (fun c => c.before args0 about1) = true
  refine all_split ?_ w_codes
  rw [← List.take_append_drop 24 words1, List.all_append, w_t1, w_t2]
  rfl
set_option maxRecDepth 65536 in
theorem w_case : (Jvm.Cond.and given_1 narrow_1).before args0 about1 = true := by decide +kernel
theorem w_applies : (headSpec (Jvm.Cond.code x code maxLocals ret :: tables_1) room_1).applies x e0.platform about1 = true :=
  (Spec.applies_iff w_frames).mpr ⟨w_running, w_runnable, w_alone, w_named, w_hears, w_ripe, w_room, w_tables⟩
theorem atStart : AtStart classFile x code maxLocals ret World_1 tables_1 room_1 Calls_1 rest_1 Pre_1 launch0 p0 e0 about1 theMethod args0 below0 :=
  ⟨lists_1, trivial, launch0.admits_env _ _ _, launch0.least_env, fairChoices_fair.cas, fairChoices_fair.clock, w_frames, w_args, w_heap, w_applies, trivial, trivial, w_case⟩
end start1
theorem witness_1 : WitnessClaimed_1 := ⟨start1.p0, start1.e0, start1.about1, start1.theMethod, start1.args0, start1.below0, start1.atStart⟩
end Jvm.Pilot.@@N@@
