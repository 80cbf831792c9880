import JvmDerived
import JvmDerived.Pilot.@@N@@Statement
import JvmDerived.Pilot.@@N@@Code
set_option linter.unusedVariables false
set_option linter.unusedSimpArgs false
namespace Jvm.Pilot.@@N@@
open Jvm Jvm.ClassFile Sem Op Lib Jvm.Free Jvm.Stand Jvm.LawKit Jvm.RoadKit Bundle Jvm.Pilot.@@N@@.Jvm.D
section Own
variable {p : Program} {l : Launch} {e : Env} {R : Room} {s : State} {m : MethodId} {args : Array Value} {below : List Frame} {meth : Method} {c : Code} {T : State} {locs : List Loc} {cells slots : Nat} {k n : Nat} {Q : Option Value → Heap → List Loc → Prop} {pc q q' : Nat} {Ls l' : Array Slot} {st rest : List Value}
/-- from U the run comes to a return that Q allows, with at most k cells and n slots made -/
def own_Go (p : Program) (e : Env) (below : List Frame) (s : State) (k n : Nat) (Q : Option Value → Heap → List Loc → Prop) (U : State) : Prop :=
  ∃ s₂ o, Steps p.tables e below U s₂ ∧ s₂.status = .running ∧ Ended s₂ below o ∧ ∃ v L, o = .returned v ∧ Q v s₂.heap L ∧ FrameEnd s o s₂ L k n
theorem own_Go.via {U U' : State} (g : own_Go p e below s k n Q U') (h : ∀ t, Steps p.tables e below U' t → Steps p.tables e below U t) : own_Go p e below s k n Q U := by
  obtain ⟨s₂, o, h1, h2⟩ := g
  exact ⟨s₂, o, h _ h1, h2⟩
theorem own_retI (X : Stand p l e R s m args below meth c T locs cells slots) (hx : p.tables.exec = Jvm.exec) {z : Int32} (hret : meth.sig.returnType = some .int) (hlk : meth.locks = false) (hd : decode c.code pc = .ok (.ireturn, 1)) (hk : cells ≤ k) (hn : slots ≤ n) (hq : Q (some (.int z)) T.heap locs) :
    own_Go p e below s k n Q (T.setTop (mkF m pc Ls [.int z])) := by
  obtain ⟨fs, hr, hrun, hended, hW, hsame⟩ := X.leave (v := some (.int z)) (fun h => by rw [hret] at h; cases h) hlk
  exact ⟨_, _, X.ireturnOut hx hret rfl (Or.inl rfl) hd hr, hrun, hended, _, _, rfl, hq, ⟨_, rfl⟩, hW, hsame.mono hk hn⟩
theorem own_retN (X : Stand p l e R s m args below meth c T locs cells slots) (hx : p.tables.exec = Jvm.exec) {z w : Int32} {t : FieldType} (hret : meth.sig.returnType = some t) (hlk : meth.locks = false) (ht : t = .boolean ∨ t = .byte ∨ t = .char ∨ t = .short) (hd : decode c.code pc = .ok (.ireturn, 1)) (hk : cells ≤ k) (hn : slots ≤ n) (hz : nar t z = w) (hq : Q (some (.int w)) T.heap locs) :
    own_Go p e below s k n Q (T.setTop (mkF m pc Ls [.int z])) := by
  subst hz
  obtain ⟨fs, hr, hrun, hended, hW, hsame⟩ := X.leave (v := some (.int (nar t z))) (fun h => by rw [hret] at h; cases h) hlk
  exact ⟨_, _, retN X hx hret ht hd hr, hrun, hended, _, _, rfl, hq, ⟨_, rfl⟩, hW, hsame.mono hk hn⟩
theorem own_retL (X : Stand p l e R s m args below meth c T locs cells slots) (hx : p.tables.exec = Jvm.exec) {z : Int64} (hret : meth.sig.returnType = some .long) (hlk : meth.locks = false) (hd : decode c.code pc = .ok (.lreturn, 1)) (hk : cells ≤ k) (hn : slots ≤ n) (hq : Q (some (.long z)) T.heap locs) :
    own_Go p e below s k n Q (T.setTop (mkF m pc Ls [.long z])) := by
  obtain ⟨fs, hr, hrun, hended, hW, hsame⟩ := X.leave (v := some (.long z)) (fun h => by rw [hret] at h; cases h) hlk
  exact ⟨_, _, X.lreturnOut hx hret hd hr, hrun, hended, _, _, rfl, hq, ⟨_, rfl⟩, hW, hsame.mono hk hn⟩
theorem own_retV (X : Stand p l e R s m args below meth c T locs cells slots) (hx : p.tables.exec = Jvm.exec) (hret : meth.sig.returnType = none) (hlk : meth.locks = false) (hd : decode c.code pc = .ok (.return_, 1)) (hk : cells ≤ k) (hn : slots ≤ n) (hq : Q none T.heap locs) :
    own_Go p e below s k n Q (T.setTop (mkF m pc Ls [])) := by
  obtain ⟨fs, hr, hrun, hended, hW, hsame⟩ := X.leave (v := none) (fun _ => rfl) hlk
  exact ⟨_, _, X.returnOut hx hret hd hr, hrun, hended, _, _, rfl, hq, ⟨_, rfl⟩, hW, hsame.mono hk hn⟩
theorem own_body {y : MethodName} {bytes : ByteArray} {maxL : Nat} {ret : Option FieldType} {ws : List Jvm.Cond} {rm : Room} {as' : Array Value} {h0 : Heap} {Z : State} (hpn : plainName y.cls = true)
    (body : ∀ (p : Program) (e : Env) (s : State) (m : MethodId) (below : List Frame) (meth : Method) (c : Code) (s₁ : State), p.tables.exec = Jvm.exec → c.code = bytes → c.maxLocals = maxL → s.vm.findClass y.cls = some m.cls → meth.name = y.name → meth.sig.returnType = ret → meth.locks = false → Z.Warmed39 s.vm →
      Stand p l e rm s m as' below meth c s₁ [] 0 0 → s₁.heap = h0 → own_Go p e below s rm.cells rm.slots Q (s₁.setTop (entryFrame m as' maxL))) :
    MetFree l y (head1 (Jvm.Cond.code y bytes maxL ret :: ws) rm) (fun a U => a = as' ∧ Z.Warmed39 U.vm ∧ U.heap = h0) (fun _ _ _ _ _ => True) (fun _ U o U' => ∃ v L, o = .returned v ∧ Q v U'.heap L ∧ FrameEnd U o U' L rm.cells rm.slots) := by
  refine MetFree.of_bodySF (plainFor_of_name hpn) hisR ?_
  intro p e s m args below meth c s₁ Bd hml0 hP hK
  obtain ⟨rfl, hZ, hh⟩ := hP
  exact body p e s m below meth c s₁ Bd.exec Bd.bytes hml0 (findClass_of_methodNamed Bd.named) (name_of_methodNamed Bd.named Bd.method).1 Bd.returns Bd.notSynchronized hZ (Stand.of_body Bd) (by rw [← hh, Bd.state]; rfl)
/-- a static call by the callee's contract -/
theorem own_callS {Z : State} {a0 : Array Value} {h : Heap} (X : Stand p l e R s m args below meth c T locs cells slots) (hx : p.tables.exec = Jvm.exec) (hZ : Z.Warmed39 s.vm) {own : String} {index : Nat} {y : MethodName} {bytes : ByteArray} {maxL : Nat} {ret : Option FieldType}
    (hown : s.vm.findClass own = some m.cls) (w1 : (Jvm.Cond.methodLink own index y).before a0 Z = true) (w2 : (Jvm.Cond.static y).before a0 Z = true) (w3 : (Jvm.Cond.initialized y.cls).before a0 Z = true) (w4 : (Jvm.Cond.code y bytes maxL ret).before a0 Z = true)
    (hy : y.cls ≠ "java/lang/invoke/MethodHandle" ∧ y.cls ≠ "java/lang/invoke/VarHandle") {rm : Room} {as' : Array Value} {Q' : Option Value → Heap → List Loc → Prop} {W : Nat}
    (hM : MetFree l y (head1 [Jvm.Cond.code y bytes maxL ret] rm) (fun a U => a = as' ∧ Z.Warmed39 U.vm ∧ U.heap = h) (fun _ _ _ _ _ => True) (fun _ U o U' => ∃ v L, o = .returned v ∧ Q' v U'.heap L ∧ FrameEnd U o U' L rm.cells rm.slots))
    (hf : rm.frames + 1 ≤ R.frames) (hl : W + (maxL + 11) + rm.locals ≤ R.locals) (eT : T.heap = h) (hsize : Ls.size = c.maxLocals) {argsL : List Value}
    (hlen : ∀ sig, parseMethodDescriptor y.desc = some sig → argsL.length = sig.parameters.length) (hst : st = argsL.reverse ++ rest) (hW : (rest.map fun v => v.category).sum = W) (hd : decode c.code pc = .ok (.invokestatic index, 3)) (hq : pc + 3 = q) (has : argsL.toArray = as') (hc : cells + rm.cells ≤ R.cells) (hs : slots + rm.slots ≤ R.slots)
    (g : ∀ v T' L, Q' v T'.heap L → Stand p l e R s m args below meth c T' (locs ++ L) (cells + rm.cells) (slots + rm.slots) → own_Go p e below s k n Q (T'.setTop (mkF m q Ls (v.toList ++ rest)))) :
    own_Go p e below s k n Q (T.setTop (mkF m pc Ls st)) := by
  subst hq hst
  obtain ⟨v, _, ⟨T7, L7, k7, n7⟩, -, X7, ⟨Lc7, hQ7, l7, y7, z7⟩, st7⟩ := Jvm.LawKit.callS X hx hown (mvT hZ w1) (mvT hZ w2) (mvT hZ w3) (mvT hZ w4) hy (backOf (W := W) hM hZ w4 w3 hf hl) (g := mkF m pc Ls (argsL.reverse ++ rest)) rfl hsize hlen rfl (by show 2 * 0 + _ ≤ _; rw [hW]; omega) hd (fun _ _ => ⟨has, eT, hc, hs⟩)
  dsimp only [Pt.U, Pt.locs, Pt.cells, Pt.slots] at X7 l7 y7 z7 st7 hQ7
  subst l7 y7 z7
  exact (g v T7 Lc7 hQ7 X7).via fun t => st7 t
/-- a static call that leaves the heap as it was -/
theorem own_callSP {Z : State} {a0 : Array Value} {h : Heap} (X : Stand p l e R s m args below meth c T locs cells slots) (hx : p.tables.exec = Jvm.exec) (hZ : Z.Warmed39 s.vm) {own : String} {index : Nat} {y : MethodName} {bytes : ByteArray} {maxL : Nat} {ret : Option FieldType}
    (hown : s.vm.findClass own = some m.cls) (w1 : (Jvm.Cond.methodLink own index y).before a0 Z = true) (w2 : (Jvm.Cond.static y).before a0 Z = true) (w3 : (Jvm.Cond.initialized y.cls).before a0 Z = true) (w4 : (Jvm.Cond.code y bytes maxL ret).before a0 Z = true)
    (hy : y.cls ≠ "java/lang/invoke/MethodHandle" ∧ y.cls ≠ "java/lang/invoke/VarHandle") {rm : Room} {as' : Array Value} {P : Value → Prop} {W : Nat}
    (hM : MetFree l y (head1 [Jvm.Cond.code y bytes maxL ret] rm) (fun a U => a = as' ∧ Z.Warmed39 U.vm ∧ U.heap = h) (fun _ _ _ _ _ => True) (fun _ U o U' => ∃ v L, o = .returned v ∧ ((∃ w, v = some w ∧ P w) ∧ L = [] ∧ U'.heap = h) ∧ FrameEnd U o U' L rm.cells rm.slots))
    (hf : rm.frames + 1 ≤ R.frames) (hl : W + (maxL + 11) + rm.locals ≤ R.locals) (eT : T.heap = h) (hsize : Ls.size = c.maxLocals) {argsL : List Value}
    (hlen : ∀ sig, parseMethodDescriptor y.desc = some sig → argsL.length = sig.parameters.length) (hst : st = argsL.reverse ++ rest) (hW : (rest.map fun v => v.category).sum = W) (hd : decode c.code pc = .ok (.invokestatic index, 3)) (hq : pc + 3 = q) (has : argsL.toArray = as') (hc : rm.cells = 0) (hs : rm.slots = 0) (hcc : cells ≤ R.cells) (hss : slots ≤ R.slots)
    (g : ∀ w T', P w → Stand p l e R s m args below meth c T' locs cells slots → T'.heap = h → own_Go p e below s k n Q (T'.setTop (mkF m q Ls (w :: rest)))) :
    own_Go p e below s k n Q (T.setTop (mkF m pc Ls st)) := by
  refine own_callS (Q' := fun v U L => (∃ w, v = some w ∧ P w) ∧ L = [] ∧ U = h) X hx hZ hown w1 w2 w3 w4 hy hM hf hl eT hsize hlen hst hW hd hq has (by rw [hc]; exact hcc) (by rw [hs]; exact hss) ?_
  rintro v T' L ⟨⟨w, rfl, hP⟩, rfl, e'⟩ X'
  rw [List.append_nil, hc, hs] at X'
  exact g w T' hP X' e'
/-- a virtual call by the callee's contract; the receiver is exactly of class C -/
theorem own_callV {Z : State} {a0 : Array Value} {h : Heap} (X : Stand p l e R s m args below meth c T locs cells slots) (hx : p.tables.exec = Jvm.exec) (hZ : Z.Warmed39 s.vm) {own C : String} {index : Nat} {y : MethodName} {bytes : ByteArray} {maxL : Nat} {ret : Option FieldType}
    (hown : s.vm.findClass own = some m.cls) (w1 : (Jvm.Cond.methodLink own index y).before a0 Z = true) (w2 : (Jvm.Cond.declares y).before a0 Z = true) (w3 : (Jvm.Cond.selects C y y).before a0 Z = true) (w4 : (Jvm.Cond.instanceMethod y).before a0 Z = true) (w5 : (Jvm.Cond.code y bytes maxL ret).before a0 Z = true) (w6 : (Jvm.Cond.initialized y.cls).before a0 Z = true)
    (hy : y.cls ≠ "java/lang/invoke/MethodHandle" ∧ y.cls ≠ "java/lang/invoke/VarHandle") {rm : Room} {as' : Array Value} {Q' : Option Value → Heap → List Loc → Prop} {W : Nat}
    (hM : MetFree l y (head1 [Jvm.Cond.code y bytes maxL ret] rm) (fun a U => a = as' ∧ Z.Warmed39 U.vm ∧ U.heap = h) (fun _ _ _ _ _ => True) (fun _ U o U' => ∃ v L, o = .returned v ∧ Q' v U'.heap L ∧ FrameEnd U o U' L rm.cells rm.slots))
    {b : Addr} (E : Exa Z h b C)
    (hf : rm.frames + 1 ≤ R.frames) (hl : W + (maxL + 11) + rm.locals ≤ R.locals) (eT : T.heap = h) (hsize : Ls.size = c.maxLocals) {argsL : List Value}
    (hlen : ∀ sig, parseMethodDescriptor y.desc = some sig → argsL.length = sig.parameters.length) (hst : st = argsL.reverse ++ .ref b :: rest) (hW : (rest.map fun v => v.category).sum = W) (hd : decode c.code pc = .ok (.invokevirtual index, 3)) (hq : pc + 3 = q) (has : (.ref b :: argsL).toArray = as') (hc : cells + rm.cells ≤ R.cells) (hs : slots + rm.slots ≤ R.slots)
    (g : ∀ v T' L, Q' v T'.heap L → Stand p l e R s m args below meth c T' (locs ++ L) (cells + rm.cells) (slots + rm.slots) → own_Go p e below s k n Q (T'.setTop (mkF m q Ls (v.toList ++ rest)))) :
    own_Go p e below s k n Q (T.setTop (mkF m pc Ls st)) := by
  subst hq hst
  obtain ⟨cq, kq, qa, qb, qc⟩ := isOf hZ eT E
  obtain ⟨v, _, ⟨T7, L7, k7, n7⟩, -, X7, ⟨Lc7, hQ7, l7, y7, z7⟩, st7⟩ := X.virtualBack hx hown (mvT hZ w1) (mvT hZ w2) (notFace_of_selects (args := #[]) (mvT hZ w3)) (mvT hZ w3) (mvT hZ w4) hy (backOf (W := W) hM hZ w5 w6 hf hl) qa qc (g := mkF m pc Ls (argsL.reverse ++ .ref b :: rest)) rfl hsize (Steps.refl _) (argsL := argsL) (rest := rest) hlen rfl (by show 2 * 0 + _ ≤ _; rw [hW]; omega) hd (fun _ _ => ⟨has, eT, hc, hs⟩)
  dsimp only [Pt.U, Pt.locs, Pt.cells, Pt.slots] at X7 l7 y7 z7 st7 hQ7
  subst l7 y7 z7
  exact (g v T7 Lc7 hQ7 X7).via fun t hh => st7.trans hh
/-- a constructor's call by its contract -/
theorem own_callN {Z : State} {a0 : Array Value} {h : Heap} (X : Stand p l e R s m args below meth c T locs cells slots) (hx : p.tables.exec = Jvm.exec) (hZ : Z.Warmed39 s.vm) {own : String} {index : Nat} {y : MethodName} {bytes : ByteArray} {maxL : Nat}
    (hyn : y.name = "<init>") (hown : s.vm.findClass own = some m.cls) (w1 : (Jvm.Cond.methodLink own index y).before a0 Z = true) (w2 : (Jvm.Cond.instanceMethod y).before a0 Z = true) (w3 : (Jvm.Cond.initialized y.cls).before a0 Z = true) (w4 : (Jvm.Cond.code y bytes maxL none).before a0 Z = true)
    (hy : y.cls ≠ "java/lang/invoke/MethodHandle" ∧ y.cls ≠ "java/lang/invoke/VarHandle") {rm : Room} {as' : Array Value} {Q' : Option Value → Heap → List Loc → Prop} {W : Nat}
    (hM : MetFree l y (head1 [Jvm.Cond.code y bytes maxL none] rm) (fun a U => a = as' ∧ Z.Warmed39 U.vm ∧ U.heap = h) (fun _ _ _ _ _ => True) (fun _ U o U' => ∃ v L, o = .returned v ∧ Q' v U'.heap L ∧ FrameEnd U o U' L rm.cells rm.slots))
    {b : Addr} (hf : rm.frames + 1 ≤ R.frames) (hl : W + (maxL + 11) + rm.locals ≤ R.locals) (eT : T.heap = h) (hsize : Ls.size = c.maxLocals) {argsL : List Value}
    (hlen : ∀ sig, parseMethodDescriptor y.desc = some sig → argsL.length = sig.parameters.length) (hst : st = argsL.reverse ++ .ref b :: rest) (hW : (rest.map fun v => v.category).sum = W) (hd : decode c.code pc = .ok (.invokespecial index, 3)) (hq : pc + 3 = q) (has : (.ref b :: argsL).toArray = as') (hc : cells + rm.cells ≤ R.cells) (hs : slots + rm.slots ≤ R.slots)
    (g : ∀ v T' L, Q' v T'.heap L → Stand p l e R s m args below meth c T' (locs ++ L) (cells + rm.cells) (slots + rm.slots) → own_Go p e below s k n Q (T'.setTop (mkF m q Ls (v.toList ++ rest)))) :
    own_Go p e below s k n Q (T.setTop (mkF m pc Ls st)) := by
  subst hq hst
  obtain ⟨v, _, ⟨T7, L7, k7, n7⟩, -, X7, ⟨Lc7, hQ7, l7, y7, z7⟩, st7⟩ := X.specialBack hx hyn hown (mvT hZ w1) (mvT hZ w2) (mvT hZ w4) hy (backOf (W := W) hM hZ w4 w3 hf hl) (g := mkF m pc Ls (argsL.reverse ++ .ref b :: rest)) rfl hsize (Steps.refl _) (a := b) (argsL := argsL) (rest := rest) hlen rfl (by show 2 * 0 + _ ≤ _; rw [hW]; omega) hd (fun _ _ => ⟨has, eT, hc, hs⟩)
  dsimp only [Pt.U, Pt.locs, Pt.cells, Pt.slots] at X7 l7 y7 z7 st7 hQ7
  subst l7 y7 z7
  exact (g v T7 Lc7 hQ7 X7).via fun t hh => st7.trans hh
theorem own_ldcI {Z : State} {a0 : Array Value} (X : Stand p l e R s m args below meth c T locs cells slots) (hx : p.tables.exec = Jvm.exec) (hZ : Z.Warmed39 s.vm) {own : String} {index : Nat} {v : Int32} (hown : s.vm.findClass own = some m.cls) (w : (Jvm.Cond.constant own index v).before a0 Z = true) (hd : decode c.code pc = .ok (.ldc index, 2)) (hq : pc + 2 = q)
    (g : own_Go p e below s k n Q (T.setTop (mkF m q Ls (.int v :: st)))) : own_Go p e below s k n Q (T.setTop (mkF m pc Ls st)) := by
  subst hq; exact g.via fun t => X.ldcInt hx hown (mvT hZ w) (g := mkF m pc Ls st) rfl hd t
theorem own_ldcL {Z : State} {a0 : Array Value} (X : Stand p l e R s m args below meth c T locs cells slots) (hx : p.tables.exec = Jvm.exec) (hZ : Z.Warmed39 s.vm) {own : String} {index : Nat} {v : Int64} (hown : s.vm.findClass own = some m.cls) (w : (Jvm.Cond.constantLong own index v).before a0 Z = true) (hd : decode c.code pc = .ok (.ldc2_w index, 3)) (hq : pc + 3 = q)
    (g : own_Go p e below s k n Q (T.setTop (mkF m q Ls (.long v :: st)))) : own_Go p e below s k n Q (T.setTop (mkF m pc Ls st)) := by
  subst hq; exact g.via fun t => X.ldc2Long hx hown (mvT hZ w) (g := mkF m pc Ls st) rfl hd t
theorem own_iadd (X : Stand p l e R s m args below meth c T locs cells slots) (hx : p.tables.exec = Jvm.exec) {x y : Int32} (hd : decode c.code pc = .ok (.iadd, 1))  (hq : pc + 1 = q) (g : own_Go p e below s k n Q (T.setTop (mkF m q Ls (.int (x + y) :: rest)))) : own_Go p e below s k n Q (T.setTop (mkF m pc Ls (.int y :: .int x :: rest))) := by
  subst hq; exact g.via fun _ hr_ => XS.iadd (g := mkF m pc Ls (.int y :: .int x :: rest)) X.here hx rfl hd rfl hr_
theorem own_isub (X : Stand p l e R s m args below meth c T locs cells slots) (hx : p.tables.exec = Jvm.exec) {x y : Int32} (hd : decode c.code pc = .ok (.isub, 1))  (hq : pc + 1 = q) (g : own_Go p e below s k n Q (T.setTop (mkF m q Ls (.int (x - y) :: rest)))) : own_Go p e below s k n Q (T.setTop (mkF m pc Ls (.int y :: .int x :: rest))) := by
  subst hq; exact g.via fun _ hr_ => XS.isub (g := mkF m pc Ls (.int y :: .int x :: rest)) X.here hx rfl hd rfl hr_
theorem own_imul (X : Stand p l e R s m args below meth c T locs cells slots) (hx : p.tables.exec = Jvm.exec) {x y : Int32} (hd : decode c.code pc = .ok (.imul, 1))  (hq : pc + 1 = q) (g : own_Go p e below s k n Q (T.setTop (mkF m q Ls (.int (x * y) :: rest)))) : own_Go p e below s k n Q (T.setTop (mkF m pc Ls (.int y :: .int x :: rest))) := by
  subst hq; exact g.via fun _ hr_ => XS.imul (g := mkF m pc Ls (.int y :: .int x :: rest)) X.here hx rfl hd rfl hr_
theorem own_iand (X : Stand p l e R s m args below meth c T locs cells slots) (hx : p.tables.exec = Jvm.exec) {x y : Int32} (hd : decode c.code pc = .ok (.iand, 1))  (hq : pc + 1 = q) (g : own_Go p e below s k n Q (T.setTop (mkF m q Ls (.int (x &&& y) :: rest)))) : own_Go p e below s k n Q (T.setTop (mkF m pc Ls (.int y :: .int x :: rest))) := by
  subst hq; exact g.via fun _ hr_ => XS.iand (g := mkF m pc Ls (.int y :: .int x :: rest)) X.here hx rfl hd rfl hr_
theorem own_ixor (X : Stand p l e R s m args below meth c T locs cells slots) (hx : p.tables.exec = Jvm.exec) {x y : Int32} (hd : decode c.code pc = .ok (.ixor, 1))  (hq : pc + 1 = q) (g : own_Go p e below s k n Q (T.setTop (mkF m q Ls (.int (x ^^^ y) :: rest)))) : own_Go p e below s k n Q (T.setTop (mkF m pc Ls (.int y :: .int x :: rest))) := by
  subst hq; exact g.via fun _ hr_ => XT.ixor (g := mkF m pc Ls (.int y :: .int x :: rest)) X.here hx rfl hd rfl hr_
theorem own_ior (X : Stand p l e R s m args below meth c T locs cells slots) (hx : p.tables.exec = Jvm.exec) {x y : Int32} (hd : decode c.code pc = .ok (.ior, 1))  (hq : pc + 1 = q) (g : own_Go p e below s k n Q (T.setTop (mkF m q Ls (.int (x ||| y) :: rest)))) : own_Go p e below s k n Q (T.setTop (mkF m pc Ls (.int y :: .int x :: rest))) := by
  subst hq; exact g.via fun _ hr_ => XT.ior (g := mkF m pc Ls (.int y :: .int x :: rest)) X.here hx rfl hd rfl hr_
theorem own_ishl (X : Stand p l e R s m args below meth c T locs cells slots) (hx : p.tables.exec = Jvm.exec) {x y : Int32} (hd : decode c.code pc = .ok (.ishl, 1))  (hq : pc + 1 = q) (g : own_Go p e below s k n Q (T.setTop (mkF m q Ls (.int (x <<< (y &&& 31)) :: rest)))) : own_Go p e below s k n Q (T.setTop (mkF m pc Ls (.int y :: .int x :: rest))) := by
  subst hq; exact g.via fun _ hr_ => XT.ishl (g := mkF m pc Ls (.int y :: .int x :: rest)) X.here hx rfl hd rfl hr_
theorem own_ishr (X : Stand p l e R s m args below meth c T locs cells slots) (hx : p.tables.exec = Jvm.exec) {x y : Int32} (hd : decode c.code pc = .ok (.ishr, 1))  (hq : pc + 1 = q) (g : own_Go p e below s k n Q (T.setTop (mkF m q Ls (.int (x >>> (y &&& 31)) :: rest)))) : own_Go p e below s k n Q (T.setTop (mkF m pc Ls (.int y :: .int x :: rest))) := by
  subst hq; exact g.via fun _ hr_ => XT.ishr (g := mkF m pc Ls (.int y :: .int x :: rest)) X.here hx rfl hd rfl hr_
theorem own_iushr (X : Stand p l e R s m args below meth c T locs cells slots) (hx : p.tables.exec = Jvm.exec) {x y : Int32} (hd : decode c.code pc = .ok (.iushr, 1))  (hq : pc + 1 = q) (g : own_Go p e below s k n Q (T.setTop (mkF m q Ls (.int (XT.ushr x y) :: rest)))) : own_Go p e below s k n Q (T.setTop (mkF m pc Ls (.int y :: .int x :: rest))) := by
  subst hq; exact g.via fun _ hr_ => XT.iushr (g := mkF m pc Ls (.int y :: .int x :: rest)) X.here hx rfl hd rfl hr_
theorem own_idiv (X : Stand p l e R s m args below meth c T locs cells slots) (hx : p.tables.exec = Jvm.exec) {x y : Int32} (hd : decode c.code pc = .ok (.idiv, 1)) (hy : y ≠ 0) (hq : pc + 1 = q) (g : own_Go p e below s k n Q (T.setTop (mkF m q Ls (.int (x / y) :: rest)))) : own_Go p e below s k n Q (T.setTop (mkF m pc Ls (.int y :: .int x :: rest))) := by
  subst hq; exact g.via fun _ hr_ => XS.idiv (g := mkF m pc Ls (.int y :: .int x :: rest)) X.here hx rfl hd rfl hy hr_
theorem own_irem (X : Stand p l e R s m args below meth c T locs cells slots) (hx : p.tables.exec = Jvm.exec) {x y : Int32} (hd : decode c.code pc = .ok (.irem, 1)) (hy : y ≠ 0) (hq : pc + 1 = q) (g : own_Go p e below s k n Q (T.setTop (mkF m q Ls (.int (x - (x / y) * y) :: rest)))) : own_Go p e below s k n Q (T.setTop (mkF m pc Ls (.int y :: .int x :: rest))) := by
  subst hq; exact g.via fun _ hr_ => XS.irem (g := mkF m pc Ls (.int y :: .int x :: rest)) X.here hx rfl hd rfl hy hr_
theorem own_ladd (X : Stand p l e R s m args below meth c T locs cells slots) (hx : p.tables.exec = Jvm.exec) {x y : Int64} (hd : decode c.code pc = .ok (.ladd, 1))  (hq : pc + 1 = q) (g : own_Go p e below s k n Q (T.setTop (mkF m q Ls (.long (x + y) :: rest)))) : own_Go p e below s k n Q (T.setTop (mkF m pc Ls (.long y :: .long x :: rest))) := by
  subst hq; exact g.via fun _ hr_ => XT.ladd (g := mkF m pc Ls (.long y :: .long x :: rest)) X.here hx rfl hd rfl hr_
theorem own_lsub (X : Stand p l e R s m args below meth c T locs cells slots) (hx : p.tables.exec = Jvm.exec) {x y : Int64} (hd : decode c.code pc = .ok (.lsub, 1))  (hq : pc + 1 = q) (g : own_Go p e below s k n Q (T.setTop (mkF m q Ls (.long (x - y) :: rest)))) : own_Go p e below s k n Q (T.setTop (mkF m pc Ls (.long y :: .long x :: rest))) := by
  subst hq; exact g.via fun _ hr_ => XT.lsub (g := mkF m pc Ls (.long y :: .long x :: rest)) X.here hx rfl hd rfl hr_
theorem own_lmul (X : Stand p l e R s m args below meth c T locs cells slots) (hx : p.tables.exec = Jvm.exec) {x y : Int64} (hd : decode c.code pc = .ok (.lmul, 1))  (hq : pc + 1 = q) (g : own_Go p e below s k n Q (T.setTop (mkF m q Ls (.long (x * y) :: rest)))) : own_Go p e below s k n Q (T.setTop (mkF m pc Ls (.long y :: .long x :: rest))) := by
  subst hq; exact g.via fun _ hr_ => XT.lmul (g := mkF m pc Ls (.long y :: .long x :: rest)) X.here hx rfl hd rfl hr_
theorem own_land (X : Stand p l e R s m args below meth c T locs cells slots) (hx : p.tables.exec = Jvm.exec) {x y : Int64} (hd : decode c.code pc = .ok (.land, 1))  (hq : pc + 1 = q) (g : own_Go p e below s k n Q (T.setTop (mkF m q Ls (.long (x &&& y) :: rest)))) : own_Go p e below s k n Q (T.setTop (mkF m pc Ls (.long y :: .long x :: rest))) := by
  subst hq; exact g.via fun _ hr_ => XT.land (g := mkF m pc Ls (.long y :: .long x :: rest)) X.here hx rfl hd rfl hr_
theorem own_lor (X : Stand p l e R s m args below meth c T locs cells slots) (hx : p.tables.exec = Jvm.exec) {x y : Int64} (hd : decode c.code pc = .ok (.lor, 1))  (hq : pc + 1 = q) (g : own_Go p e below s k n Q (T.setTop (mkF m q Ls (.long (x ||| y) :: rest)))) : own_Go p e below s k n Q (T.setTop (mkF m pc Ls (.long y :: .long x :: rest))) := by
  subst hq; exact g.via fun _ hr_ => XT.lor (g := mkF m pc Ls (.long y :: .long x :: rest)) X.here hx rfl hd rfl hr_
theorem own_lxor (X : Stand p l e R s m args below meth c T locs cells slots) (hx : p.tables.exec = Jvm.exec) {x y : Int64} (hd : decode c.code pc = .ok (.lxor, 1))  (hq : pc + 1 = q) (g : own_Go p e below s k n Q (T.setTop (mkF m q Ls (.long (x ^^^ y) :: rest)))) : own_Go p e below s k n Q (T.setTop (mkF m pc Ls (.long y :: .long x :: rest))) := by
  subst hq; exact g.via fun _ hr_ => XT.lxor (g := mkF m pc Ls (.long y :: .long x :: rest)) X.here hx rfl hd rfl hr_
theorem own_ldiv (X : Stand p l e R s m args below meth c T locs cells slots) (hx : p.tables.exec = Jvm.exec) {x y : Int64} (hd : decode c.code pc = .ok (.ldiv, 1)) (hy : y ≠ 0) (hq : pc + 1 = q) (g : own_Go p e below s k n Q (T.setTop (mkF m q Ls (.long (x / y) :: rest)))) : own_Go p e below s k n Q (T.setTop (mkF m pc Ls (.long y :: .long x :: rest))) := by
  subst hq; exact g.via fun _ hr_ => XT.ldiv (g := mkF m pc Ls (.long y :: .long x :: rest)) X.here hx rfl hd rfl hy hr_
theorem own_lrem (X : Stand p l e R s m args below meth c T locs cells slots) (hx : p.tables.exec = Jvm.exec) {x y : Int64} (hd : decode c.code pc = .ok (.lrem, 1)) (hy : y ≠ 0) (hq : pc + 1 = q) (g : own_Go p e below s k n Q (T.setTop (mkF m q Ls (.long (x - (x / y) * y) :: rest)))) : own_Go p e below s k n Q (T.setTop (mkF m pc Ls (.long y :: .long x :: rest))) := by
  subst hq; exact g.via fun _ hr_ => XT.lrem (g := mkF m pc Ls (.long y :: .long x :: rest)) X.here hx rfl hd rfl hy hr_
theorem own_lcmp (X : Stand p l e R s m args below meth c T locs cells slots) (hx : p.tables.exec = Jvm.exec) {x y : Int64} (hd : decode c.code pc = .ok (.lcmp, 1))  (hq : pc + 1 = q) (g : own_Go p e below s k n Q (T.setTop (mkF m q Ls (.int (XT.cmpL x y) :: rest)))) : own_Go p e below s k n Q (T.setTop (mkF m pc Ls (.long y :: .long x :: rest))) := by
  subst hq; exact g.via fun _ hr_ => XT.lcmp (g := mkF m pc Ls (.long y :: .long x :: rest)) X.here hx rfl hd rfl hr_
theorem own_lshl (X : Stand p l e R s m args below meth c T locs cells slots) (hx : p.tables.exec = Jvm.exec) {x : Int64} {y : Int32} (hd : decode c.code pc = .ok (.lshl, 1))  (hq : pc + 1 = q) (g : own_Go p e below s k n Q (T.setTop (mkF m q Ls (.long (x <<< (y.toInt64 &&& 63)) :: rest)))) : own_Go p e below s k n Q (T.setTop (mkF m pc Ls (.int y :: .long x :: rest))) := by
  subst hq; exact g.via fun _ hr_ => XT.lshl (g := mkF m pc Ls (.int y :: .long x :: rest)) X.here hx rfl hd rfl hr_
theorem own_lshr (X : Stand p l e R s m args below meth c T locs cells slots) (hx : p.tables.exec = Jvm.exec) {x : Int64} {y : Int32} (hd : decode c.code pc = .ok (.lshr, 1))  (hq : pc + 1 = q) (g : own_Go p e below s k n Q (T.setTop (mkF m q Ls (.long (x >>> (y.toInt64 &&& 63)) :: rest)))) : own_Go p e below s k n Q (T.setTop (mkF m pc Ls (.int y :: .long x :: rest))) := by
  subst hq; exact g.via fun _ hr_ => XT.lshr (g := mkF m pc Ls (.int y :: .long x :: rest)) X.here hx rfl hd rfl hr_
theorem own_lushr (X : Stand p l e R s m args below meth c T locs cells slots) (hx : p.tables.exec = Jvm.exec) {x : Int64} {y : Int32} (hd : decode c.code pc = .ok (.lushr, 1))  (hq : pc + 1 = q) (g : own_Go p e below s k n Q (T.setTop (mkF m q Ls (.long (XT.ushrL x y) :: rest)))) : own_Go p e below s k n Q (T.setTop (mkF m pc Ls (.int y :: .long x :: rest))) := by
  subst hq; exact g.via fun _ hr_ => XT.lushr (g := mkF m pc Ls (.int y :: .long x :: rest)) X.here hx rfl hd rfl hr_
theorem own_ineg (X : Stand p l e R s m args below meth c T locs cells slots) (hx : p.tables.exec = Jvm.exec) {x : Int32} (hd : decode c.code pc = .ok (.ineg, 1))  (hq : pc + 1 = q) (g : own_Go p e below s k n Q (T.setTop (mkF m q Ls (.int (-x) :: rest)))) : own_Go p e below s k n Q (T.setTop (mkF m pc Ls (.int x :: rest))) := by
  subst hq; exact g.via fun _ hr_ => XS.ineg (g := mkF m pc Ls (.int x :: rest)) X.here hx rfl hd rfl hr_
theorem own_lneg (X : Stand p l e R s m args below meth c T locs cells slots) (hx : p.tables.exec = Jvm.exec) {x : Int64} (hd : decode c.code pc = .ok (.lneg, 1))  (hq : pc + 1 = q) (g : own_Go p e below s k n Q (T.setTop (mkF m q Ls (.long (-x) :: rest)))) : own_Go p e below s k n Q (T.setTop (mkF m pc Ls (.long x :: rest))) := by
  subst hq; exact g.via fun _ hr_ => XT.lneg (g := mkF m pc Ls (.long x :: rest)) X.here hx rfl hd rfl hr_
theorem own_i2l (X : Stand p l e R s m args below meth c T locs cells slots) (hx : p.tables.exec = Jvm.exec) {x : Int32} (hd : decode c.code pc = .ok (.i2l, 1))  (hq : pc + 1 = q) (g : own_Go p e below s k n Q (T.setTop (mkF m q Ls (.long (x.toInt64) :: rest)))) : own_Go p e below s k n Q (T.setTop (mkF m pc Ls (.int x :: rest))) := by
  subst hq; exact g.via fun _ hr_ => XT.i2l (g := mkF m pc Ls (.int x :: rest)) X.here hx rfl hd rfl hr_
theorem own_l2i (X : Stand p l e R s m args below meth c T locs cells slots) (hx : p.tables.exec = Jvm.exec) {x : Int64} (hd : decode c.code pc = .ok (.l2i, 1))  (hq : pc + 1 = q) (g : own_Go p e below s k n Q (T.setTop (mkF m q Ls (.int (x.toInt32) :: rest)))) : own_Go p e below s k n Q (T.setTop (mkF m pc Ls (.long x :: rest))) := by
  subst hq; exact g.via fun _ hr_ => XT.l2i (g := mkF m pc Ls (.long x :: rest)) X.here hx rfl hd rfl hr_
theorem own_i2b (X : Stand p l e R s m args below meth c T locs cells slots) (hx : p.tables.exec = Jvm.exec) {x : Int32} (hd : decode c.code pc = .ok (.i2b, 1))  (hq : pc + 1 = q) (g : own_Go p e below s k n Q (T.setTop (mkF m q Ls (.int (x.toInt8.toInt32) :: rest)))) : own_Go p e below s k n Q (T.setTop (mkF m pc Ls (.int x :: rest))) := by
  subst hq; exact g.via fun _ hr_ => XT.i2b (g := mkF m pc Ls (.int x :: rest)) X.here hx rfl hd rfl hr_
theorem own_i2c (X : Stand p l e R s m args below meth c T locs cells slots) (hx : p.tables.exec = Jvm.exec) {x : Int32} (hd : decode c.code pc = .ok (.i2c, 1))  (hq : pc + 1 = q) (g : own_Go p e below s k n Q (T.setTop (mkF m q Ls (.int (x.toUInt32.toUInt16.toUInt32.toInt32) :: rest)))) : own_Go p e below s k n Q (T.setTop (mkF m pc Ls (.int x :: rest))) := by
  subst hq; exact g.via fun _ hr_ => XT.i2c (g := mkF m pc Ls (.int x :: rest)) X.here hx rfl hd rfl hr_
theorem own_iconst (X : Stand p l e R s m args below meth c T locs cells slots) (hx : p.tables.exec = Jvm.exec) {i : Int} {v : Int32} (hd : decode c.code pc = .ok (.iconst i, 1)) (hv : Int32.ofInt i = v) (hq : pc + 1 = q) (g : own_Go p e below s k n Q (T.setTop (mkF m q Ls (.int v :: st)))) : own_Go p e below s k n Q (T.setTop (mkF m pc Ls (st))) := by
  subst hq; subst hv; exact g.via fun _ hr_ => XS.iconst (g := mkF m pc Ls (st)) X.here hx rfl hd  hr_
theorem own_bipush (X : Stand p l e R s m args below meth c T locs cells slots) (hx : p.tables.exec = Jvm.exec) {i : Int} {v : Int32} (hd : decode c.code pc = .ok (.bipush i, 2)) (hv : (Int8.ofInt i).toInt32 = v) (hq : pc + 2 = q) (g : own_Go p e below s k n Q (T.setTop (mkF m q Ls (.int v :: st)))) : own_Go p e below s k n Q (T.setTop (mkF m pc Ls (st))) := by
  subst hq; subst hv; exact g.via fun _ hr_ => XS.bipush (g := mkF m pc Ls (st)) X.here hx rfl hd  hr_
theorem own_sipush (X : Stand p l e R s m args below meth c T locs cells slots) (hx : p.tables.exec = Jvm.exec) {i : Int} {v : Int32} (hd : decode c.code pc = .ok (.sipush i, 3)) (hv : (Int16.ofInt i).toInt32 = v) (hq : pc + 3 = q) (g : own_Go p e below s k n Q (T.setTop (mkF m q Ls (.int v :: st)))) : own_Go p e below s k n Q (T.setTop (mkF m pc Ls (st))) := by
  subst hq; subst hv; exact g.via fun _ hr_ => XS.sipush (g := mkF m pc Ls (st)) X.here hx rfl hd  hr_
theorem own_lconst (X : Stand p l e R s m args below meth c T locs cells slots) (hx : p.tables.exec = Jvm.exec) {i : Fin 2} {v : Int64} (hd : decode c.code pc = .ok (.lconst i, 1)) (hv : Int64.ofNat i = v) (hq : pc + 1 = q) (g : own_Go p e below s k n Q (T.setTop (mkF m q Ls (.long v :: st)))) : own_Go p e below s k n Q (T.setTop (mkF m pc Ls (st))) := by
  subst hq; subst hv; exact g.via fun _ hr_ => XT.lconst (g := mkF m pc Ls (st)) X.here hx rfl hd  hr_
theorem own_aconst_null (X : Stand p l e R s m args below meth c T locs cells slots) (hx : p.tables.exec = Jvm.exec)  (hd : decode c.code pc = .ok (.aconst_null, 1))  (hq : pc + 1 = q) (g : own_Go p e below s k n Q (T.setTop (mkF m q Ls (.null :: st)))) : own_Go p e below s k n Q (T.setTop (mkF m pc Ls (st))) := by
  subst hq; exact g.via fun _ hr_ => XS.aconstNull (g := mkF m pc Ls (st)) X.here hx rfl hd  hr_
theorem own_iload_n (X : Stand p l e R s m args below meth c T locs cells slots) (hx : p.tables.exec = Jvm.exec) {i : Fin 4} {v : Int32} (hd : decode c.code pc = .ok (.iload_n i, 1)) (hl : Ls[i.val]? = some (.val (.int v))) (hq : pc + 1 = q) (g : own_Go p e below s k n Q (T.setTop (mkF m q Ls (.int v :: st)))) : own_Go p e below s k n Q (T.setTop (mkF m pc Ls (st))) := by
  subst hq; exact g.via fun _ hr_ => XS.iloadN (g := mkF m pc Ls (st)) X.here hx rfl hd hl hr_
theorem own_iload (X : Stand p l e R s m args below meth c T locs cells slots) (hx : p.tables.exec = Jvm.exec) {i : Nat} {v : Int32} (hd : decode c.code pc = .ok (.iload i, 2)) (hl : Ls[i]? = some (.val (.int v))) (hq : pc + 2 = q) (g : own_Go p e below s k n Q (T.setTop (mkF m q Ls (.int v :: st)))) : own_Go p e below s k n Q (T.setTop (mkF m pc Ls (st))) := by
  subst hq; exact g.via fun _ hr_ => XS.iload (g := mkF m pc Ls (st)) X.here hx rfl hd hl hr_
theorem own_lload_n (X : Stand p l e R s m args below meth c T locs cells slots) (hx : p.tables.exec = Jvm.exec) {i : Fin 4} {v : Int64} (hd : decode c.code pc = .ok (.lload_n i, 1)) (hl : Ls[i.val]? = some (.val (.long v))) (hq : pc + 1 = q) (g : own_Go p e below s k n Q (T.setTop (mkF m q Ls (.long v :: st)))) : own_Go p e below s k n Q (T.setTop (mkF m pc Ls (st))) := by
  subst hq; exact g.via fun _ hr_ => XT.lloadN (g := mkF m pc Ls (st)) X.here hx rfl hd hl hr_
theorem own_lload (X : Stand p l e R s m args below meth c T locs cells slots) (hx : p.tables.exec = Jvm.exec) {i : Nat} {v : Int64} (hd : decode c.code pc = .ok (.lload i, 2)) (hl : Ls[i]? = some (.val (.long v))) (hq : pc + 2 = q) (g : own_Go p e below s k n Q (T.setTop (mkF m q Ls (.long v :: st)))) : own_Go p e below s k n Q (T.setTop (mkF m pc Ls (st))) := by
  subst hq; exact g.via fun _ hr_ => XT.lload (g := mkF m pc Ls (st)) X.here hx rfl hd hl hr_
theorem own_aload_n (X : Stand p l e R s m args below meth c T locs cells slots) (hx : p.tables.exec = Jvm.exec) {i : Fin 4} {v : Value} (hd : decode c.code pc = .ok (.aload_n i, 1)) (hl : Ls[i.val]? = some (.val v)) (hr : v.isRef = true) (hq : pc + 1 = q) (g : own_Go p e below s k n Q (T.setTop (mkF m q Ls (v :: st)))) : own_Go p e below s k n Q (T.setTop (mkF m pc Ls (st))) := by
  subst hq; exact g.via fun _ hr_ => XS.aloadN (g := mkF m pc Ls (st)) X.here hx rfl hd hl hr hr_
theorem own_aload (X : Stand p l e R s m args below meth c T locs cells slots) (hx : p.tables.exec = Jvm.exec) {i : Nat} {v : Value} (hd : decode c.code pc = .ok (.aload i, 2)) (hl : Ls[i]? = some (.val v)) (hr : v.isRef = true) (hq : pc + 2 = q) (g : own_Go p e below s k n Q (T.setTop (mkF m q Ls (v :: st)))) : own_Go p e below s k n Q (T.setTop (mkF m pc Ls (st))) := by
  subst hq; exact g.via fun _ hr_ => XS.aload (g := mkF m pc Ls (st)) X.here hx rfl hd hl hr hr_
theorem own_istore_n (X : Stand p l e R s m args below meth c T locs cells slots) (hx : p.tables.exec = Jvm.exec) {i : Fin 4} {v : Int32} (hd : decode c.code pc = .ok (.istore_n i, 1)) (hl : storeLocals Ls i.val (.int v) = some l') (hq : pc + 1 = q) (g : own_Go p e below s k n Q (T.setTop (mkF m q l' (rest)))) : own_Go p e below s k n Q (T.setTop (mkF m pc Ls (.int v :: rest))) := by
  subst hq; exact g.via fun _ hr_ => XS.istoreN (g := mkF m pc Ls (.int v :: rest)) X.here hx rfl hd rfl hl hr_
theorem own_istore (X : Stand p l e R s m args below meth c T locs cells slots) (hx : p.tables.exec = Jvm.exec) {i : Nat} {v : Int32} (hd : decode c.code pc = .ok (.istore i, 2)) (hl : storeLocals Ls i (.int v) = some l') (hq : pc + 2 = q) (g : own_Go p e below s k n Q (T.setTop (mkF m q l' (rest)))) : own_Go p e below s k n Q (T.setTop (mkF m pc Ls (.int v :: rest))) := by
  subst hq; exact g.via fun _ hr_ => XS.istore (g := mkF m pc Ls (.int v :: rest)) X.here hx rfl hd rfl hl hr_
theorem own_lstore_n (X : Stand p l e R s m args below meth c T locs cells slots) (hx : p.tables.exec = Jvm.exec) {i : Fin 4} {v : Int64} (hd : decode c.code pc = .ok (.lstore_n i, 1)) (hl : storeLocals Ls i.val (.long v) = some l') (hq : pc + 1 = q) (g : own_Go p e below s k n Q (T.setTop (mkF m q l' (rest)))) : own_Go p e below s k n Q (T.setTop (mkF m pc Ls (.long v :: rest))) := by
  subst hq; exact g.via fun _ hr_ => XT.lstoreN (g := mkF m pc Ls (.long v :: rest)) X.here hx rfl hd rfl hl hr_
theorem own_lstore (X : Stand p l e R s m args below meth c T locs cells slots) (hx : p.tables.exec = Jvm.exec) {i : Nat} {v : Int64} (hd : decode c.code pc = .ok (.lstore i, 2)) (hl : storeLocals Ls i (.long v) = some l') (hq : pc + 2 = q) (g : own_Go p e below s k n Q (T.setTop (mkF m q l' (rest)))) : own_Go p e below s k n Q (T.setTop (mkF m pc Ls (.long v :: rest))) := by
  subst hq; exact g.via fun _ hr_ => XT.lstore (g := mkF m pc Ls (.long v :: rest)) X.here hx rfl hd rfl hl hr_
theorem own_astore_n (X : Stand p l e R s m args below meth c T locs cells slots) (hx : p.tables.exec = Jvm.exec) {i : Fin 4} {v : Value} (hd : decode c.code pc = .ok (.astore_n i, 1)) (hr : v.isRef = true) (hl : storeLocals Ls i.val v = some l') (hq : pc + 1 = q) (g : own_Go p e below s k n Q (T.setTop (mkF m q l' (rest)))) : own_Go p e below s k n Q (T.setTop (mkF m pc Ls (v :: rest))) := by
  subst hq; exact g.via fun _ hr_ => XS.astoreN (g := mkF m pc Ls (v :: rest)) X.here hx rfl hd rfl hr hl hr_
theorem own_astore (X : Stand p l e R s m args below meth c T locs cells slots) (hx : p.tables.exec = Jvm.exec) {i : Nat} {v : Value} (hd : decode c.code pc = .ok (.astore i, 2)) (hr : v.isRef = true) (hl : storeLocals Ls i v = some l') (hq : pc + 2 = q) (g : own_Go p e below s k n Q (T.setTop (mkF m q l' (rest)))) : own_Go p e below s k n Q (T.setTop (mkF m pc Ls (v :: rest))) := by
  subst hq; exact g.via fun _ hr_ => XS.astore (g := mkF m pc Ls (v :: rest)) X.here hx rfl hd rfl hr hl hr_
theorem own_iinc (X : Stand p l e R s m args below meth c T locs cells slots) (hx : p.tables.exec = Jvm.exec) {i : Nat} {cst : Int} {v w : Int32} (hd : decode c.code pc = .ok (.iinc i cst, 3)) (hl : Ls[i]? = some (.val (.int v))) (hv : v + Int32.ofInt cst = w) (hs : storeLocals Ls i (.int w) = some l') (hq : pc + 3 = q) (g : own_Go p e below s k n Q (T.setTop (mkF m q l' (st)))) : own_Go p e below s k n Q (T.setTop (mkF m pc Ls (st))) := by
  subst hq; subst hv; exact g.via fun _ hr_ => XS.iinc (g := mkF m pc Ls (st)) X.here hx rfl hd hl hs hr_
theorem own_dup (X : Stand p l e R s m args below meth c T locs cells slots) (hx : p.tables.exec = Jvm.exec) {v : Value} (hd : decode c.code pc = .ok (.dup, 1)) (hc : v.category = 1) (hq : pc + 1 = q) (g : own_Go p e below s k n Q (T.setTop (mkF m q Ls (v :: v :: rest)))) : own_Go p e below s k n Q (T.setTop (mkF m pc Ls (v :: rest))) := by
  subst hq; exact g.via fun _ hr_ => XS.dup (g := mkF m pc Ls (v :: rest)) X.here hx rfl hd rfl hc hr_
theorem own_pop (X : Stand p l e R s m args below meth c T locs cells slots) (hx : p.tables.exec = Jvm.exec) {v : Value} (hd : decode c.code pc = .ok (.pop, 1)) (hc : v.category = 1) (hq : pc + 1 = q) (g : own_Go p e below s k n Q (T.setTop (mkF m q Ls (rest)))) : own_Go p e below s k n Q (T.setTop (mkF m pc Ls (v :: rest))) := by
  subst hq; exact g.via fun _ hr_ => XT.pop (g := mkF m pc Ls (v :: rest)) X.here hx rfl hd rfl hc hr_
theorem own_dup2L (X : Stand p l e R s m args below meth c T locs cells slots) (hx : p.tables.exec = Jvm.exec) {x : Int64} (hd : decode c.code pc = .ok (.dup2, 1))  (hq : pc + 1 = q) (g : own_Go p e below s k n Q (T.setTop (mkF m q Ls (.long x :: .long x :: rest)))) : own_Go p e below s k n Q (T.setTop (mkF m pc Ls (.long x :: rest))) := by
  subst hq; exact g.via fun _ hr_ => XT.dup2L (g := mkF m pc Ls (.long x :: rest)) X.here hx rfl hd rfl hr_
theorem own_dup2 (X : Stand p l e R s m args below meth c T locs cells slots) (hx : p.tables.exec = Jvm.exec) {v w : Value} (hd : decode c.code pc = .ok (.dup2, 1)) (hc : v.category = 1) (hc' : w.category = 1) (hq : pc + 1 = q) (g : own_Go p e below s k n Q (T.setTop (mkF m q Ls (v :: w :: v :: w :: rest)))) : own_Go p e below s k n Q (T.setTop (mkF m pc Ls (v :: w :: rest))) := by
  subst hq; exact g.via fun _ hr_ => XT.dup2 (g := mkF m pc Ls (v :: w :: rest)) X.here hx rfl hd rfl hc hc' hr_
theorem own_dup_x1 (X : Stand p l e R s m args below meth c T locs cells slots) (hx : p.tables.exec = Jvm.exec) {v w : Value} (hd : decode c.code pc = .ok (.dup_x1, 1)) (hc : v.category = 1) (hc' : w.category = 1) (hq : pc + 1 = q) (g : own_Go p e below s k n Q (T.setTop (mkF m q Ls (v :: w :: v :: rest)))) : own_Go p e below s k n Q (T.setTop (mkF m pc Ls (v :: w :: rest))) := by
  subst hq; exact g.via fun _ hr_ => XT.dupX1 (g := mkF m pc Ls (v :: w :: rest)) X.here hx rfl hd rfl hc hc' hr_
theorem own_goto (X : Stand p l e R s m args below meth c T locs cells slots) (hx : p.tables.exec = Jvm.exec) {o : Int} (hd : decode c.code pc = .ok (.goto o, 3)) (ho : 0 ≤ (pc : Int) + o) (hp : ((pc : Int) + o).toNat = q) (g : own_Go p e below s k n Q (T.setTop (mkF m q Ls st))) : own_Go p e below s k n Q (T.setTop (mkF m pc Ls st)) :=
  g.via fun _ hr => XS.goto (g := mkF m pc Ls st) X.here hx rfl (pc0 := pc) rfl hd ho hp hr
theorem own_if (X : Stand p l e R s m args below meth c T locs cells slots) (hx : p.tables.exec = Jvm.exec) {cd : ClassFile.Cond} {x : Int32} {o : Int} {P : Prop} [Decidable P] (hd : decode c.code pc = .ok (.ifCond cd o, 3)) (ho : 0 ≤ (pc : Int) + o) (hp : ((pc : Int) + o).toNat = q) (hq : pc + 3 = q') (hP : ifCond.holds cd x = decide P) (gy : P → own_Go p e below s k n Q (T.setTop (mkF m q Ls rest))) (gn : ¬ P → own_Go p e below s k n Q (T.setTop (mkF m q' Ls rest))) : own_Go p e below s k n Q (T.setTop (mkF m pc Ls (.int x :: rest))) := by
  by_cases h : P
  · exact (gy h).via fun _ hr => XS.ifYes (g := mkF m pc Ls (.int x :: rest)) X.here hx rfl (pc0 := pc) rfl hd rfl (by rw [hP]; exact decide_eq_true h) ho hp hr
  · subst hq; exact (gn h).via fun _ hr => XS.ifNo (g := mkF m pc Ls (.int x :: rest)) X.here hx rfl hd rfl (by rw [hP]; exact decide_eq_false h) hr
theorem own_icmp (X : Stand p l e R s m args below meth c T locs cells slots) (hx : p.tables.exec = Jvm.exec) {cd : ClassFile.Cond} {x y : Int32} {o : Int} {P : Prop} [Decidable P] (hd : decode c.code pc = .ok (.if_icmp cd o, 3)) (ho : 0 ≤ (pc : Int) + o) (hp : ((pc : Int) + o).toNat = q) (hq : pc + 3 = q') (hP : if_icmp.holds cd x y = decide P) (gy : P → own_Go p e below s k n Q (T.setTop (mkF m q Ls rest))) (gn : ¬ P → own_Go p e below s k n Q (T.setTop (mkF m q' Ls rest))) : own_Go p e below s k n Q (T.setTop (mkF m pc Ls (.int y :: .int x :: rest))) := by
  by_cases h : P
  · exact (gy h).via fun _ hr => XS.icmpYes (g := mkF m pc Ls (.int y :: .int x :: rest)) X.here hx rfl (pc0 := pc) rfl hd rfl (by rw [hP]; exact decide_eq_true h) ho hp hr
  · subst hq; exact (gn h).via fun _ hr => XS.icmpNo (g := mkF m pc Ls (.int y :: .int x :: rest)) X.here hx rfl hd rfl (by rw [hP]; exact decide_eq_false h) hr
theorem own_h_eq (x y : Int32) : if_icmp.holds .eq x y = decide (x.toInt = y.toInt) := by
  by_cases h : x = y
  · rw [(teq h).1, h]; simp
  · rw [(feq h).1]; symm; exact decide_eq_false fun q => h (Int32.toInt_inj.mp q)
theorem own_h_ne (x y : Int32) : if_icmp.holds .ne x y = decide (x.toInt ≠ y.toInt) := by
  by_cases h : x = y
  · rw [(teq h).2, h]; simp
  · rw [(feq h).2]; symm; exact decide_eq_true fun q => h (Int32.toInt_inj.mp q)
theorem own_h_lt (x y : Int32) : if_icmp.holds .lt x y = decide (x.toInt < y.toInt) := by
  by_cases h : x < y
  · rw [(tlt h).1]; symm; exact decide_eq_true (Int32.lt_iff_toInt_lt.mp h)
  · rw [(flt h).1]; symm; exact decide_eq_false fun q => h (Int32.lt_iff_toInt_lt.mpr q)
theorem own_h_ge (x y : Int32) : if_icmp.holds .ge x y = decide (y.toInt ≤ x.toInt) := by
  by_cases h : x < y
  · rw [(tlt h).2.1]; symm; exact decide_eq_false fun q => absurd (Int32.lt_iff_toInt_lt.mp h) (by omega)
  · rw [(flt h).2.1]; symm; exact decide_eq_true (Int.not_lt.mp fun q => h (Int32.lt_iff_toInt_lt.mpr q))
theorem own_h_gt (x y : Int32) : if_icmp.holds .gt x y = decide (y.toInt < x.toInt) := by
  by_cases h : y < x
  · rw [(tlt h).2.2.1]; symm; exact decide_eq_true (Int32.lt_iff_toInt_lt.mp h)
  · rw [(flt h).2.2.1]; symm; exact decide_eq_false fun q => h (Int32.lt_iff_toInt_lt.mpr q)
theorem own_h_le (x y : Int32) : if_icmp.holds .le x y = decide (x.toInt ≤ y.toInt) := by
  by_cases h : y < x
  · rw [(tlt h).2.2.2]; symm; exact decide_eq_false fun q => absurd (Int32.lt_iff_toInt_lt.mp h) (by omega)
  · rw [(flt h).2.2.2]; symm; exact decide_eq_true (Int.not_lt.mp fun q => h (Int32.lt_iff_toInt_lt.mpr q))
theorem own_z_eq (x : Int32) : ifCond.holds .eq x = decide (x.toInt = 0) := (if0 _ _).trans (own_h_eq x 0)
theorem own_z_ne (x : Int32) : ifCond.holds .ne x = decide (x.toInt ≠ 0) := (if0 _ _).trans (own_h_ne x 0)
theorem own_z_lt (x : Int32) : ifCond.holds .lt x = decide (x.toInt < 0) := (if0 _ _).trans (own_h_lt x 0)
theorem own_z_ge (x : Int32) : ifCond.holds .ge x = decide (0 ≤ x.toInt) := (if0 _ _).trans (own_h_ge x 0)
theorem own_z_gt (x : Int32) : ifCond.holds .gt x = decide (0 < x.toInt) := (if0 _ _).trans (own_h_gt x 0)
theorem own_z_le (x : Int32) : ifCond.holds .le x = decide (x.toInt ≤ 0) := (if0 _ _).trans (own_h_le x 0)
theorem own_cmpL (x y : Int64) : (x.toInt < y.toInt ∧ (XT.cmpL x y).toInt = -1) ∨ (x.toInt = y.toInt ∧ (XT.cmpL x y).toInt = 0) ∨ (y.toInt < x.toInt ∧ (XT.cmpL x y).toInt = 1) := by
  unfold XT.cmpL
  by_cases h1 : y < x
  · rw [if_pos h1]; exact Or.inr (Or.inr ⟨Int64.lt_iff_toInt_lt.mp h1, rfl⟩)
  · rw [if_neg h1]
    by_cases h2 : x = y
    · rw [if_pos h2]; exact Or.inr (Or.inl ⟨by rw [h2], rfl⟩)
    · rw [if_neg h2]
      have h3 : ¬ y.toInt < x.toInt := fun q => h1 (Int64.lt_iff_toInt_lt.mpr q)
      have h4 : ¬ x.toInt = y.toInt := fun q => h2 (Int64.toInt_inj.mp q)
      exact Or.inl ⟨by omega, rfl⟩
theorem own_l_eq (x y : Int64) : ifCond.holds .eq (XT.cmpL x y) = decide (x.toInt = y.toInt) := by
  rw [own_z_eq]; rcases own_cmpL x y with ⟨h, q⟩ | ⟨h, q⟩ | ⟨h, q⟩ <;> rw [q] <;> simp <;> omega
theorem own_l_ne (x y : Int64) : ifCond.holds .ne (XT.cmpL x y) = decide (x.toInt ≠ y.toInt) := by
  rw [own_z_ne]; rcases own_cmpL x y with ⟨h, q⟩ | ⟨h, q⟩ | ⟨h, q⟩ <;> rw [q] <;> simp <;> omega
theorem own_l_lt (x y : Int64) : ifCond.holds .lt (XT.cmpL x y) = decide (x.toInt < y.toInt) := by
  rw [own_z_lt]; rcases own_cmpL x y with ⟨h, q⟩ | ⟨h, q⟩ | ⟨h, q⟩ <;> rw [q] <;> simp <;> omega
theorem own_l_ge (x y : Int64) : ifCond.holds .ge (XT.cmpL x y) = decide (y.toInt ≤ x.toInt) := by
  rw [own_z_ge]; rcases own_cmpL x y with ⟨h, q⟩ | ⟨h, q⟩ | ⟨h, q⟩ <;> rw [q] <;> simp <;> omega
theorem own_l_gt (x y : Int64) : ifCond.holds .gt (XT.cmpL x y) = decide (y.toInt < x.toInt) := by
  rw [own_z_gt]; rcases own_cmpL x y with ⟨h, q⟩ | ⟨h, q⟩ | ⟨h, q⟩ <;> rw [q] <;> simp <;> omega
theorem own_l_le (x y : Int64) : ifCond.holds .le (XT.cmpL x y) = decide (x.toInt ≤ y.toInt) := by
  rw [own_z_le]; rcases own_cmpL x y with ⟨h, q⟩ | ⟨h, q⟩ | ⟨h, q⟩ <;> rw [q] <;> simp <;> omega
theorem own_addI (x y : Int32) (h1 : -2147483648 ≤ x.toInt + y.toInt) (h2 : x.toInt + y.toInt < 2147483648) : (x + y).toInt = x.toInt + y.toInt := by
  have := c_iadd x y; have := rng32 (x + y); omega
theorem own_subI (x y : Int32) (h1 : -2147483648 ≤ x.toInt - y.toInt) (h2 : x.toInt - y.toInt < 2147483648) : (x - y).toInt = x.toInt - y.toInt := by
  have := c_isub x y; have := rng32 (x - y); omega
theorem own_mulI (x y : Int32) (h1 : -2147483648 ≤ x.toInt * y.toInt) (h2 : x.toInt * y.toInt < 2147483648) : (x * y).toInt = x.toInt * y.toInt := by
  have := c_imul x y; have := rng32 (x * y); omega
theorem own_rem (x y : Int32) (h0 : 0 ≤ x.toInt) (hy : 0 < y.toInt) : (x - (x / y) * y).toInt = x.toInt % y.toInt := by
  have hne : y ≠ -1 := fun q => by rw [q] at hy; exact absurd hy (by decide)
  have h1 := (c_idiv x y y.toInt rfl hne).1 h0
  have h2 := c_imul (x / y) y
  rw [h1] at h2
  have h3 := c_isub x ((x / y) * y)
  have h4 := rng32 (x - (x / y) * y)
  have h5 := Int.emod_def x.toInt y.toInt
  rw [Int.mul_comm] at h5
  have h6 := Int.emod_nonneg x.toInt (Int.ne_of_gt hy)
  have h7 := Int.emod_lt_of_pos x.toInt hy
  have h8 := rng32 y
  generalize x.toInt / y.toInt * y.toInt = P at *
  generalize x.toInt % y.toInt = M at *
  omega
end Own
section Own2
variable {p : Program} {l : Launch} {e : Env} {R : Room} {s : State} {m : MethodId} {args : Array Value} {below : List Frame} {meth : Method} {c : Code} {T : State} {locs : List Loc} {cells slots : Nat} {k n : Nat} {Q : Option Value → Heap → List Loc → Prop} {pc q q' : Nat} {Ls l' : Array Slot} {st rest : List Value}
variable {Z : State} {a0 : Array Value} {h h' : Heap} {a b : Addr} {ty : FieldType} {N i : Nat} {f : Nat → Value} {v : Value} {ws : List Addr} {sl n0 : Nat} {j x : Int32}
/-- an array of N places that hold f 0 .. f (N - 1) -/
def own_Arr (Z : State) (h : Heap) (a : Addr) (ty : FieldType) (N : Nat) (f : Nat → Value) : Prop := ∃ c : Cell, Arr Z h a c ty ∧ c.slots.size = N ∧ N < 2 ^ 31 ∧ ∀ i, i < N → c.slots[i]? = some (f i)
def own_upd (f : Nat → Value) (j : Nat) (v : Value) : Nat → Value := fun i => if i = j then v else f i
theorem own_upd_same (f : Nat → Value) (j : Nat) (v : Value) : own_upd f j v j = v := if_pos rfl
theorem own_upd_ne (f : Nat → Value) {i j : Nat} (v : Value) (q : i ≠ j) : own_upd f j v i = f i := if_neg q
def own_updI (f : Nat → Int32) (j : Nat) (v : Int32) : Nat → Int32 := fun i => if i = j then v else f i
def own_zero : Nat → Int32 := fun _ => 0
theorem own_updI_same (f : Nat → Int32) (j : Nat) (v : Int32) : own_updI f j v j = v := if_pos rfl
theorem own_updI_ne (f : Nat → Int32) {i j : Nat} (v : Int32) (q : i ≠ j) : own_updI f j v i = f i := if_neg q
theorem own_upd_I (f : Nat → Int32) (j : Nat) (v : Int32) : own_upd (fun i => .int (f i)) j (.int v) = fun i => .int (own_updI f j v i) := by
  funext i
  show (if i = j then Value.int v else Value.int (f i)) = Value.int (if i = j then v else f i)
  split <;> rfl
theorem own_Arr.ext (F : own_Arr Z h a ty N f) (E : Ext h h') : own_Arr Z h' a ty N f := by obtain ⟨c, A, r⟩ := F; exact ⟨c, A.ext E, r⟩
theorem own_Arr.keep (F : own_Arr Z h a ty N f) (K : Keep h h' ws) (q : a ∉ ws) : own_Arr Z h' a ty N f := by obtain ⟨c, A, r⟩ := F; exact ⟨c, ⟨K.2.1 a c A.1 q, A.2⟩, r⟩
theorem own_Arr.lt (F : own_Arr Z h a ty N f) : a < h.size := by obtain ⟨c, A, -⟩ := F; exact A.lt
theorem own_Arr.set (F : own_Arr Z h a ty N f) (W : Wr h h' a i v) : own_Arr Z h' a ty N (own_upd f i v) := by
  obtain ⟨c, A, S, hN, H⟩ := F
  refine ⟨_, Arr.same W A, by rw [sz_set]; exact S, hN, fun t ht => ?_⟩
  show (c.slots.setIfInBounds i v)[t]? = _
  rw [Array.getElem?_setIfInBounds]
  by_cases q : t = i
  · subst q; simp [own_upd, S, ht]
  · rw [if_neg (fun z => q z.symm), own_upd, if_neg q]; exact H t ht
theorem own_idx (hj : j.toInt = (i : Int)) (hi : i < N) : ¬ (j < 0 ∨ N ≤ j.toNatClampNeg) ∧ j.toNatClampNeg = i := by
  have h1 : j.toNatClampNeg = i := by show j.toInt.toNat = i; omega
  refine ⟨fun q => ?_, h1⟩
  rcases q with q | q
  · have := Int32.lt_iff_toInt_lt.mp q; have : (0 : Int32).toInt = 0 := rfl; omega
  · omega
theorem own_newP (X : Stand p l e R s m args below meth c T locs cells slots) (hx : p.tables.exec = Jvm.exec) (hZ : Z.Warmed39 s.vm) {aty : ArrayType} (w : (Jvm.Cond.arrayClass (newarray.typeOf aty)).before a0 Z = true) (eT : T.heap = h) (hd : decode c.code pc = .ok (.newarray aty, 2)) (hn : j.toInt = (N : Int)) {cap : Nat} (hcap : N ≤ cap) (hb : cap * 8 ≤ 536870912) (hc : cells + 1 ≤ R.cells) (hl : slots + cap ≤ R.slots) (hq : pc + 2 = q)
    (g : ∀ T' h' b, b = h.size → Stand p l e R s m args below meth c T' locs (cells + 1) (slots + cap) → T'.heap = h' → Ext h h' → own_Arr Z h' b (newarray.typeOf aty) N (fun _ => defaultValue (newarray.typeOf aty)) → own_Go p e below s k n Q (T'.setTop (mkF m q Ls (.ref b :: rest)))) :
    own_Go p e below s k n Q (T.setTop (mkF m pc Ls (.int j :: rest))) := by
  subst hq
  have hN : j.toNatClampNeg = N := by show j.toInt.toNat = N; omega
  have hn0 : ¬ j < 0 := fun q => by have := Int32.lt_iff_toInt_lt.mp q; have : (0 : Int32).toInt = 0 := rfl; omega
  obtain ⟨T', h', cA, X', e', E, A, st⟩ := newP X hx hZ w eT (g := mkF m pc Ls (.int j :: rest)) rfl hd rfl hn0 (cap := cap) (by rw [hN]; exact hcap) hb hc hl
  refine (g T' h' h.size rfl X' e' E ⟨_, A, by rw [sz_new]; exact hN, ?_, fun t ht => ?_⟩).via st
  · have := (back32 hn0).2; omega
  · show (Array.replicate j.toNatClampNeg _)[t]? = _
    rw [Array.getElem?_replicate, if_pos (by omega)]
theorem own_stB (X : Stand p l e R s m args below meth c T locs cells slots) (hx : p.tables.exec = Jvm.exec) (hZ : Z.Warmed39 s.vm) (eT : T.heap = h) {fi : Nat → Int32} (A : own_Arr Z h a .byte N (fun i => .int (fi i))) (hd : decode c.code pc = .ok (.bastore, 1)) (hj : j.toInt = (i : Int)) (hi : i < N) (Nf : Fr n0 locs) (ha : n0 ≤ a) (hq : pc + 1 = q)
    (g : ∀ T' h' L', Stand p l e R s m args below meth c T' L' cells slots → Fr n0 L' → T'.heap = h' → own_Arr Z h' a .byte N (fun t => .int (own_updI fi i (x.toInt8.toInt32) t)) → Wr h h' a i (.int (x.toInt8.toInt32)) → own_Go p e below s k n Q (T'.setTop (mkF m q Ls rest))) :
    own_Go p e below s k n Q (T.setTop (mkF m pc Ls (.int x :: .int j :: .ref a :: rest))) := by
  subst hq
  have A0 := A
  obtain ⟨cl, Ar, S, hN, H⟩ := A
  obtain ⟨h1, h2⟩ := own_idx (N := cl.slots.size) hj (by omega)
  obtain ⟨T', h', X', e', W, st⟩ := stB X hx hZ eT Ar (j := j) (x := x) h1 (g := mkF m pc Ls (.int x :: .int j :: .ref a :: rest)) rfl rfl hd
  have N' := Fr.snoc X' Nf ha
  rw [h2] at W
  have A1 := A0.set W
  rw [show (Value.int (nar .byte x)) = .int (x.toInt8.toInt32) from rfl, own_upd_I] at A1
  exact (g T' h' _ X' N' e' A1 W).via st
theorem own_baload (X : Stand p l e R s m args below meth c T locs cells slots) (hx : p.tables.exec = Jvm.exec) (hZ : Z.Warmed39 s.vm) (eT : T.heap = h) (A : own_Arr Z h a .byte N f) (hd : decode c.code pc = .ok (.baload, 1)) (hj : j.toInt = (i : Int)) (hi : i < N) (hv : f i = v) (hq : pc + 1 = q)
    (g : own_Go p e below s k n Q (T.setTop (mkF m q Ls (v :: rest)))) :
    own_Go p e below s k n Q (T.setTop (mkF m pc Ls (.int j :: .ref a :: rest))) := by
  subst hq
  obtain ⟨cl, Ar, S, hN, H⟩ := A
  obtain ⟨h1, h2⟩ := own_idx (N := cl.slots.size) hj (by omega)
  exact g.via fun t => X.baloadBytes hx (j := j) (v := v) (by rw [eT]; exact Ar.1) (State.isArrayOf_alike hZ.alike Ar.2.1) Ar.2.2 h1 (by rw [h2, ← hv]; exact H i hi) (g := mkF m pc Ls (.int j :: .ref a :: rest)) rfl rfl hd t
theorem own_zaload (X : Stand p l e R s m args below meth c T locs cells slots) (hx : p.tables.exec = Jvm.exec) (hZ : Z.Warmed39 s.vm) (eT : T.heap = h) (A : own_Arr Z h a .boolean N f) (hd : decode c.code pc = .ok (.baload, 1)) (hj : j.toInt = (i : Int)) (hi : i < N) (hv : f i = v) (hq : pc + 1 = q)
    (g : own_Go p e below s k n Q (T.setTop (mkF m q Ls (v :: rest)))) :
    own_Go p e below s k n Q (T.setTop (mkF m pc Ls (.int j :: .ref a :: rest))) := by
  subst hq
  obtain ⟨cl, Ar, S, hN, H⟩ := A
  obtain ⟨h1, h2⟩ := own_idx (N := cl.slots.size) hj (by omega)
  exact g.via fun t => X.baloadBooleans hx (j := j) (v := v) (by rw [eT]; exact Ar.1) (State.isArrayOf_alike hZ.alike Ar.2.1) Ar.2.2 h1 (by rw [h2, ← hv]; exact H i hi) (g := mkF m pc Ls (.int j :: .ref a :: rest)) rfl rfl hd t
theorem own_newO (X : Stand p l e R s m args below meth c T locs cells slots) (hx : p.tables.exec = Jvm.exec) (hZ : Z.Warmed39 s.vm) {own C : String} {index sz : Nat} (hown : s.vm.findClass own = some m.cls) (w : (Jvm.Cond.classLink own index C).before a0 Z = true) (wi : (Jvm.Cond.instantiable C sz).before a0 Z = true) (wz : (Jvm.Cond.initialized C).before a0 Z = true) (eT : T.heap = h) (hd : decode c.code pc = .ok (.new index, 3)) (hc : cells + 1 ≤ R.cells) (hl : slots + sz ≤ R.slots) (hq : pc + 3 = q)
    (g : ∀ T' h' b, b = h.size → Stand p l e R s m args below meth c T' locs (cells + 1) (slots + sz) → T'.heap = h' → Ext h h' → Exa Z h' b C → (∀ {O nm d : String} {ty : FieldType}, Laid Z a0 C O nm d → parseFieldDescriptor d = some ty → Fld Z h' b O nm d (defaultValue ty)) → own_Go p e below s k n Q (T'.setTop (mkF m q Ls (.ref b :: st)))) :
    own_Go p e below s k n Q (T.setTop (mkF m pc Ls st)) := by
  subst hq
  obtain ⟨T', h', X', e', E, A, D, -, stp⟩ := newO X hx hZ hown w wi wz eT (g := mkF m pc Ls st) rfl hd hc hl
  exact (g T' h' h.size rfl X' e' E A D).via stp
theorem own_initO (X : Stand p l e R s m args below meth c T locs cells slots) (hx : p.tables.exec = Jvm.exec) (hZ : Z.Warmed39 s.vm) {own : String} {idx : Nat} (hown : s.vm.findClass own = some m.cls) (w1 : (Jvm.Cond.methodLink own idx Lib.objectInit).before a0 Z = true) (w2 : (Jvm.Cond.instanceMethod Lib.objectInit).before a0 Z = true)
    (w3 : (Jvm.Cond.code Lib.objectInit ⟨#[0xb1]⟩ 1 none).before a0 Z = true) (eT : T.heap = h) (hsize : Ls.size = c.maxLocals) (hd : decode c.code pc = .ok (.invokespecial idx, 3)) (hf : 1 ≤ R.frames) {W : Nat} (hW : (rest.map fun v => v.category).sum = W) (hl : W + 12 ≤ R.locals) (hq : pc + 3 = q)
    (g : ∀ T', Stand p l e R s m args below meth c T' locs cells slots → T'.heap = h → own_Go p e below s k n Q (T'.setTop (mkF m q Ls rest))) :
    own_Go p e below s k n Q (T.setTop (mkF m pc Ls (.ref a :: rest))) := by
  subst hq
  obtain ⟨T', X', e', st⟩ := initO X hx hZ hown w1 w2 w3 eT (g := mkF m pc Ls (.ref a :: rest)) rfl hsize rfl hd hf (W := W) (by show 2 * 0 + _ ≤ _; rw [hW]; omega) hl
  exact (g T' X' e').via st
theorem own_putF (X : Stand p l e R s m args below meth c T locs cells slots) (hx : p.tables.exec = Jvm.exec) (hZ : Z.Warmed39 s.vm) {own O nm d C : String} {index kk : Nat} {ft : FieldType} (hown : s.vm.findClass own = some m.cls) (w : (Jvm.Cond.fieldLink own index O nm d).before a0 Z = true)
    (eT : T.heap = h) {old : Value} (F : Fld Z h a O nm d old) (E : Exa Z h a C) (L : (Jvm.Cond.lays C O nm d).before a0 Z = true ∨ ((Jvm.Cond.laysFinal C O nm d).before a0 Z = true ∧ own = O ∧ meth.name = "<init>")) (wi : (Jvm.Cond.instantiable C kk).before a0 Z = true)
    (hty : parseFieldDescriptor d = some ft) (hn : narrow ft v = v) (hf : fits ft v = true) (hd : decode c.code pc = .ok (.putfield index, 3)) (Nf : Fr n0 locs) (ha : n0 ≤ a) (hq : pc + 3 = q)
    (g : ∀ T' h' L', Stand p l e R s m args below meth c T' L' cells slots → Fr n0 L' → T'.heap = h' → Wr h h' a (Jvm.RoadKit.slotOf Z O nm d) v → own_Go p e below s k n Q (T'.setTop (mkF m q Ls rest))) :
    own_Go p e below s k n Q (T.setTop (mkF m pc Ls (v :: .ref a :: rest))) := by
  subst hq
  obtain ⟨T', h', X', e', W, st⟩ := putF X hx hZ hown (host := "") (Or.inl w) Via.refl eT F E L wi hty hn hf (g := mkF m pc Ls (v :: .ref a :: rest)) rfl rfl hd
  exact (g T' h' _ X' (Fr.snoc X' Nf ha) e' W).via st
theorem own_getF (X : Stand p l e R s m args below meth c T locs cells slots) (hx : p.tables.exec = Jvm.exec) (hZ : Z.Warmed39 s.vm) {own O nm d : String} {index : Nat} (hown : s.vm.findClass own = some m.cls) (w : (Jvm.Cond.fieldLink own index O nm d).before a0 Z = true)
    (eT : T.heap = h) (F : Fld Z h a O nm d v) (hd : decode c.code pc = .ok (.getfield index, 3)) (hq : pc + 3 = q)
    (g : ∀ T', Stand p l e R s m args below meth c T' locs cells slots → T'.heap = h → own_Go p e below s k n Q (T'.setTop (mkF m q Ls (v :: rest)))) :
    own_Go p e below s k n Q (T.setTop (mkF m pc Ls (.ref a :: rest))) := by
  subst hq
  obtain ⟨T', X', e', st⟩ := getF X hx hZ hown (host := "") (Or.inl w) Via.refl eT F (g := mkF m pc Ls (.ref a :: rest)) rfl rfl hd
  exact (g T' X' e').via st
theorem own_getS (X : Stand p l e R s m args below meth c T locs cells slots) (hx : p.tables.exec = Jvm.exec) (hZ : Z.Warmed39 s.vm) {own O nm d : String} {index : Nat} (hown : s.vm.findClass own = some m.cls) (w : (Jvm.Cond.fieldLink own index O nm d).before a0 Z = true)
    (eT : T.heap = h) (F : Sta Z h O nm d v) (hd : decode c.code pc = .ok (.getstatic index, 3)) (hq : pc + 3 = q)
    (g : ∀ T', Stand p l e R s m args below meth c T' locs cells slots → T'.heap = h → own_Go p e below s k n Q (T'.setTop (mkF m q Ls (v :: st)))) :
    own_Go p e below s k n Q (T.setTop (mkF m pc Ls st)) := by
  subst hq
  obtain ⟨T', X', e', stp⟩ := getS X hx hZ (host := "") hown w Via.refl eT F (g := mkF m pc Ls st) rfl hd
  exact (g T' X' e').via stp
theorem own_retA (X : Stand p l e R s m args below meth c T locs cells slots) (hx : p.tables.exec = Jvm.exec) {t : FieldType} (hv : v.isRef = true) (hret : meth.sig.returnType = some t) (ht : t.isReference = true) (hlk : meth.locks = false) (hd : decode c.code pc = .ok (.areturn, 1)) (hk : cells ≤ k) (hn : slots ≤ n) (hq : Q (some v) T.heap locs) :
    own_Go p e below s k n Q (T.setTop (mkF m pc Ls [v])) := by
  obtain ⟨fs, hr, hrun, hended, hW, hsame⟩ := X.leave (v := some v) (fun h => by rw [hret] at h; cases h) hlk
  exact ⟨_, _, X.areturnOut hx hv hret ht hd hr, hrun, hended, _, _, rfl, hq, ⟨_, rfl⟩, hW, hsame.mono hk hn⟩
theorem own_newR (X : Stand p l e R s m args below meth c T locs cells slots) (hx : p.tables.exec = Jvm.exec) (hZ : Z.Warmed39 s.vm) {own C : String} {index : Nat} (hown : s.vm.findClass own = some m.cls) (w1 : (Jvm.Cond.classLink own index C).before a0 Z = true) (w2 : (Jvm.Cond.arrayOver (.object C)).before a0 Z = true) (eT : T.heap = h) (hd : decode c.code pc = .ok (.anewarray index, 3)) (hn : j.toInt = (N : Int)) {cap : Nat} (hcap : N ≤ cap) (hb : cap * 8 ≤ 536870912) (hc : cells + 1 ≤ R.cells) (hl : slots + cap ≤ R.slots) (hq : pc + 3 = q)
    (g : ∀ T' h' b, b = h.size → Stand p l e R s m args below meth c T' locs (cells + 1) (slots + cap) → T'.heap = h' → Ext h h' → own_Arr Z h' b (.object C) N (fun _ => .null) → (∃ cl, Arr Z h' b cl (.object C) ∧ Ovr Z cl.cls C) → own_Go p e below s k n Q (T'.setTop (mkF m q Ls (.ref b :: rest)))) :
    own_Go p e below s k n Q (T.setTop (mkF m pc Ls (.int j :: rest))) := by
  subst hq
  have hN : j.toNatClampNeg = N := by show j.toInt.toNat = N; omega
  have hn0 : ¬ j < 0 := fun q => by have := Int32.lt_iff_toInt_lt.mp q; have : (0 : Int32).toInt = 0 := rfl; omega
  obtain ⟨T', h', cA, X', e', E, A, O, st⟩ := newR X hx hZ hown w1 w2 eT (g := mkF m pc Ls (.int j :: rest)) rfl hd rfl hn0 (cap := cap) (by rw [hN]; exact hcap) hb hc hl
  refine (g T' h' h.size rfl X' e' E ⟨_, A, by rw [sz_new]; exact hN, ?_, fun t ht => ?_⟩ ⟨_, A, O⟩).via st
  · have := (back32 hn0).2; omega
  · show (Array.replicate j.toNatClampNeg _)[t]? = _
    rw [Array.getElem?_replicate, if_pos (by omega)]; rfl
theorem own_ovr_keep {C : String} (F : ∃ cl : Cell, Arr Z h a cl (.object C) ∧ Ovr Z cl.cls C) (W : Wr h h' a i v) : ∃ cl : Cell, Arr Z h' a cl (.object C) ∧ Ovr Z cl.cls C := by
  obtain ⟨cl, A, O⟩ := F
  exact ⟨_, Arr.same W A, O⟩
theorem own_stR {C : String} (X : Stand p l e R s m args below meth c T locs cells slots) (hx : p.tables.exec = Jvm.exec) (hZ : Z.Warmed39 s.vm) (eT : T.heap = h) (A : own_Arr Z h a (.object C) N f) (O : ∃ cl : Cell, Arr Z h a cl (.object C) ∧ Ovr Z cl.cls C) (I : Ins Z h b C true) (hd : decode c.code pc = .ok (.aastore, 1)) (hj : j.toInt = (i : Int)) (hi : i < N) (Nf : Fr n0 locs) (ha : n0 ≤ a) (hq : pc + 1 = q)
    (g : ∀ T' h' L', Stand p l e R s m args below meth c T' L' cells slots → Fr n0 L' → T'.heap = h' → own_Arr Z h' a (.object C) N (own_upd f i (.ref b)) → (∃ cl : Cell, Arr Z h' a cl (.object C) ∧ Ovr Z cl.cls C) → Wr h h' a i (.ref b) → own_Go p e below s k n Q (T'.setTop (mkF m q Ls rest))) :
    own_Go p e below s k n Q (T.setTop (mkF m pc Ls (.ref b :: .int j :: .ref a :: rest))) := by
  subst hq
  have A0 := A
  have O0 := O
  obtain ⟨cl, Ar, S, hN, H⟩ := A
  obtain ⟨cl', Ar', Ov⟩ := O
  cases Ar.1.symm.trans Ar'.1
  obtain ⟨h1, h2⟩ := own_idx (N := cl.slots.size) hj (by omega)
  obtain ⟨T', h', X', e', W, st⟩ := stR X hx hZ eT Ar (j := j) (v := .ref b) h1 rfl (Sto.of Ar Ov I) (g := mkF m pc Ls (.ref b :: .int j :: .ref a :: rest)) rfl rfl hd
  have N' := Fr.snoc X' Nf ha
  rw [h2] at W
  exact (g T' h' _ X' N' e' (A0.set W) (own_ovr_keep O0 W) W).via st
theorem own_aaload {C : String} (X : Stand p l e R s m args below meth c T locs cells slots) (hx : p.tables.exec = Jvm.exec) (hZ : Z.Warmed39 s.vm) (eT : T.heap = h) (A : own_Arr Z h a (.object C) N f) (hd : decode c.code pc = .ok (.aaload, 1)) (hj : j.toInt = (i : Int)) (hi : i < N) (hv : f i = v) (hq : pc + 1 = q)
    (g : own_Go p e below s k n Q (T.setTop (mkF m q Ls (v :: rest)))) :
    own_Go p e below s k n Q (T.setTop (mkF m pc Ls (.int j :: .ref a :: rest))) := by
  subst hq
  obtain ⟨cl, Ar, S, hN, H⟩ := A
  obtain ⟨h1, h2⟩ := own_idx (N := cl.slots.size) hj (by omega)
  exact g.via fun t => X.aaload hx (j := j) (v := v) (by rw [eT]; exact Ar.1) (State.isArrayOf_alike hZ.alike Ar.2.1) rfl Ar.2.2 h1 (by rw [h2, ← hv]; exact H i hi) (g := mkF m pc Ls (.int j :: .ref a :: rest)) rfl rfl hd t
theorem own_acmp (X : Stand p l e R s m args below meth c T locs cells slots) (hx : p.tables.exec = Jvm.exec) {cd : ClassFile.ACond} {o : Int} {P : Prop} [Decidable P] {u v : Value} (hd : decode c.code pc = .ok (.if_acmp cd o, 3)) (ho : 0 ≤ (pc : Int) + o) (hp : ((pc : Int) + o).toNat = q) (hq : pc + 3 = q') (hu : u.isRef = true) (hv : v.isRef = true) (hP : XT.acmp cd u v = decide P) (gy : P → own_Go p e below s k n Q (T.setTop (mkF m q Ls rest))) (gn : ¬ P → own_Go p e below s k n Q (T.setTop (mkF m q' Ls rest))) : own_Go p e below s k n Q (T.setTop (mkF m pc Ls (v :: u :: rest))) := by
  by_cases h : P
  · exact (gy h).via fun _ hr => XT.acmpYes (g := mkF m pc Ls (v :: u :: rest)) X.here hx rfl (pc0 := pc) rfl hd rfl hu hv (by rw [hP]; exact decide_eq_true h) ho hp hr
  · subst hq; exact (gn h).via fun _ hr => XT.acmpNo (g := mkF m pc Ls (v :: u :: rest)) X.here hx rfl hd rfl hu hv (by rw [hP]; exact decide_eq_false h) hr
theorem own_callVP {C own : String} {index : Nat} {y : MethodName} {bytes : ByteArray} {maxL : Nat} {ret : Option FieldType} (X : Stand p l e R s m args below meth c T locs cells slots) (hx : p.tables.exec = Jvm.exec) (hZ : Z.Warmed39 s.vm)
    (hown : s.vm.findClass own = some m.cls) (w1 : (Jvm.Cond.methodLink own index y).before a0 Z = true) (w2 : (Jvm.Cond.declares y).before a0 Z = true) (w3 : (Jvm.Cond.selects C y y).before a0 Z = true) (w4 : (Jvm.Cond.instanceMethod y).before a0 Z = true) (w5 : (Jvm.Cond.code y bytes maxL ret).before a0 Z = true) (w6 : (Jvm.Cond.initialized y.cls).before a0 Z = true)
    (hy : y.cls ≠ "java/lang/invoke/MethodHandle" ∧ y.cls ≠ "java/lang/invoke/VarHandle") {rm : Room} {as' : Array Value} {P : Value → Prop} {W : Nat}
    (hM : MetFree l y (head1 [Jvm.Cond.code y bytes maxL ret] rm) (fun a U => a = as' ∧ Z.Warmed39 U.vm ∧ U.heap = h) (fun _ _ _ _ _ => True) (fun _ U o U' => ∃ v L, o = .returned v ∧ ((∃ w, v = some w ∧ P w) ∧ L = [] ∧ U'.heap = h) ∧ FrameEnd U o U' L rm.cells rm.slots))
    (E : Exa Z h b C) (hf : rm.frames + 1 ≤ R.frames) (hl : W + (maxL + 11) + rm.locals ≤ R.locals) (eT : T.heap = h) (hsize : Ls.size = c.maxLocals) {argsL : List Value}
    (hlen : ∀ sig, parseMethodDescriptor y.desc = some sig → argsL.length = sig.parameters.length) (hst : st = argsL.reverse ++ .ref b :: rest) (hW : (rest.map fun v => v.category).sum = W) (hd : decode c.code pc = .ok (.invokevirtual index, 3)) (hq : pc + 3 = q) (has : (.ref b :: argsL).toArray = as') (hc : rm.cells = 0) (hs : rm.slots = 0) (hcc : cells ≤ R.cells) (hss : slots ≤ R.slots)
    (g : ∀ w T', P w → Stand p l e R s m args below meth c T' locs cells slots → T'.heap = h → own_Go p e below s k n Q (T'.setTop (mkF m q Ls (w :: rest)))) :
    own_Go p e below s k n Q (T.setTop (mkF m pc Ls st)) := by
  refine own_callV (Q' := fun v U L => (∃ w, v = some w ∧ P w) ∧ L = [] ∧ U = h) X hx hZ hown w1 w2 w3 w4 w5 w6 hy hM E hf hl eT hsize hlen hst hW hd hq has (by rw [hc]; exact hcc) (by rw [hs]; exact hss) ?_
  rintro v T' L ⟨⟨w, rfl, hP⟩, rfl, e'⟩ X'
  rw [List.append_nil, hc, hs] at X'
  exact g w T' hP X' e'
/-- a private method by invokevirtual, the heap left as it was -/
theorem own_callPP {C own : String} {index kk : Nat} {y : MethodName} {bytes : ByteArray} {maxL : Nat} {ret : Option FieldType} (X : Stand p l e R s m args below meth c T locs cells slots) (hx : p.tables.exec = Jvm.exec) (hZ : Z.Warmed39 s.vm)
    (hown : s.vm.findClass own = some m.cls) (w1 : (Jvm.Cond.methodLink own index y).before a0 Z = true) (w2 : (Jvm.Cond.privateMethod y).before a0 Z = true) (w3 : (Jvm.Cond.instantiable y.cls kk).before a0 Z = true) (w4 : (Jvm.Cond.instanceMethod y).before a0 Z = true) (w5 : (Jvm.Cond.code y bytes maxL ret).before a0 Z = true) (w6 : (Jvm.Cond.initialized y.cls).before a0 Z = true)
    (hy : y.cls ≠ "java/lang/invoke/MethodHandle" ∧ y.cls ≠ "java/lang/invoke/VarHandle") {rm : Room} {as' : Array Value} {P : Value → Prop} {W : Nat}
    (hM : MetFree l y (head1 [Jvm.Cond.code y bytes maxL ret] rm) (fun a U => a = as' ∧ Z.Warmed39 U.vm ∧ U.heap = h) (fun _ _ _ _ _ => True) (fun _ U o U' => ∃ v L, o = .returned v ∧ ((∃ w, v = some w ∧ P w) ∧ L = [] ∧ U'.heap = h) ∧ FrameEnd U o U' L rm.cells rm.slots))
    (E : Exa Z h b C) (hf : rm.frames + 1 ≤ R.frames) (hl : W + (maxL + 11) + rm.locals ≤ R.locals) (eT : T.heap = h) (hsize : Ls.size = c.maxLocals) {argsL : List Value}
    (hlen : ∀ sig, parseMethodDescriptor y.desc = some sig → argsL.length = sig.parameters.length) (hst : st = argsL.reverse ++ .ref b :: rest) (hW : (rest.map fun v => v.category).sum = W) (hd : decode c.code pc = .ok (.invokevirtual index, 3)) (hq : pc + 3 = q) (has : (.ref b :: argsL).toArray = as') (hc : rm.cells = 0) (hs : rm.slots = 0) (hcc : cells ≤ R.cells) (hss : slots ≤ R.slots)
    (g : ∀ w T', P w → Stand p l e R s m args below meth c T' locs cells slots → T'.heap = h → own_Go p e below s k n Q (T'.setTop (mkF m q Ls (w :: rest)))) :
    own_Go p e below s k n Q (T.setTop (mkF m pc Ls st)) := by
  subst hq hst
  obtain ⟨cq, q1, q2⟩ := E.cell
  have hi := mvT (args := args) hZ w4
  have hp := Cond.privateMethod_at (mvP (args := #[]) hZ w2)
  obtain ⟨ci, ki, f1, f2, -, f3, -⟩ := Cond.instantiable_spec (mvT (args := args) hZ w3)
  have hsel := selects_self_of_private f1 f2 (Bool.or_eq_false_iff.mp f3).1 hp hi hy
  obtain ⟨v, _, ⟨T7, L7, k7, n7⟩, -, X7, ⟨Lc7, hQ7, l7, y7, z7⟩, st7⟩ := X.privateBack hx hown (mvT hZ w1) hi hsel hp (mvT hZ w5) hy (backOf (W := W) (Q := fun v U L => (∃ w, v = some w ∧ P w) ∧ L = [] ∧ U = h) hM hZ w5 w6 hf hl) (g := mkF m pc Ls (argsL.reverse ++ .ref b :: rest)) rfl hsize (Steps.refl _) (a := b) (by rw [eT]; exact q1) q2 (argsL := argsL) (rest := rest) hlen rfl (by show 2 * 0 + _ ≤ _; rw [hW]; omega) hd (fun _ _ => ⟨has, eT, by rw [hc]; exact hcc, by rw [hs]; exact hss⟩)
  dsimp only [Pt.U, Pt.locs, Pt.cells, Pt.slots] at X7 l7 y7 z7 st7 hQ7
  obtain ⟨⟨w, rfl, hP⟩, rfl, e'⟩ := hQ7
  rw [List.append_nil] at l7
  rw [hc] at y7
  rw [hs] at z7
  subst l7 y7 z7
  exact (g w T7 hP X7 e').via fun t hh => st7.trans hh
/-- a constructor that leaves the heap as it was (Record's, say) -/
theorem own_callNP {own : String} {index : Nat} {y : MethodName} {bytes : ByteArray} {maxL : Nat} (X : Stand p l e R s m args below meth c T locs cells slots) (hx : p.tables.exec = Jvm.exec) (hZ : Z.Warmed39 s.vm)
    (hyn : y.name = "<init>") (hown : s.vm.findClass own = some m.cls) (w1 : (Jvm.Cond.methodLink own index y).before a0 Z = true) (w2 : (Jvm.Cond.instanceMethod y).before a0 Z = true) (w3 : (Jvm.Cond.initialized y.cls).before a0 Z = true) (w4 : (Jvm.Cond.code y bytes maxL none).before a0 Z = true)
    (hy : y.cls ≠ "java/lang/invoke/MethodHandle" ∧ y.cls ≠ "java/lang/invoke/VarHandle") {rm : Room} {as' : Array Value} {W : Nat}
    (hM : MetFree l y (head1 [Jvm.Cond.code y bytes maxL none] rm) (fun a U => a = as' ∧ Z.Warmed39 U.vm ∧ U.heap = h) (fun _ _ _ _ _ => True) (fun _ U o U' => ∃ v L, o = .returned v ∧ (v = none ∧ L = [] ∧ U'.heap = h) ∧ FrameEnd U o U' L rm.cells rm.slots))
    (hf : rm.frames + 1 ≤ R.frames) (hl : W + (maxL + 11) + rm.locals ≤ R.locals) (eT : T.heap = h) (hsize : Ls.size = c.maxLocals) {argsL : List Value}
    (hlen : ∀ sig, parseMethodDescriptor y.desc = some sig → argsL.length = sig.parameters.length) (hst : st = argsL.reverse ++ .ref b :: rest) (hW : (rest.map fun v => v.category).sum = W) (hd : decode c.code pc = .ok (.invokespecial index, 3)) (hq : pc + 3 = q) (has : (.ref b :: argsL).toArray = as') (hc : rm.cells = 0) (hs : rm.slots = 0) (hcc : cells ≤ R.cells) (hss : slots ≤ R.slots)
    (g : ∀ T', Stand p l e R s m args below meth c T' locs cells slots → T'.heap = h → own_Go p e below s k n Q (T'.setTop (mkF m q Ls rest))) :
    own_Go p e below s k n Q (T.setTop (mkF m pc Ls st)) := by
  refine own_callN (Q' := fun v U L => v = none ∧ L = [] ∧ U = h) (b := b) X hx hZ hyn hown w1 w2 w3 w4 hy hM hf hl eT hsize hlen hst hW hd hq has (by rw [hc]; exact hcc) (by rw [hs]; exact hss) ?_
  rintro v T' L ⟨rfl, rfl, e'⟩ X'
  rw [List.append_nil, hc, hs] at X'
  exact g T' X' e'
theorem own_addL (x y : Int64) (h1 : -9223372036854775808 ≤ x.toInt + y.toInt) (h2 : x.toInt + y.toInt < 9223372036854775808) : (x + y).toInt = x.toInt + y.toInt := by
  have := c_ladd x y; have := rng64 (x + y); omega
theorem own_subL (x y : Int64) (h1 : -9223372036854775808 ≤ x.toInt - y.toInt) (h2 : x.toInt - y.toInt < 9223372036854775808) : (x - y).toInt = x.toInt - y.toInt := by
  have := c_lsub x y; have := rng64 (x - y); omega
theorem own_mulL (x y : Int64) (h1 : -9223372036854775808 ≤ x.toInt * y.toInt) (h2 : x.toInt * y.toInt < 9223372036854775808) : (x * y).toInt = x.toInt * y.toInt := by
  have := c_lmul x y; have := rng64 (x * y); omega
theorem own_nb (z : Int32) (h : z.toInt = 0 ∨ z.toInt = 1) : nar .boolean z = z := by
  rcases h with h | h
  · rw [show z = 0 from Int32.toInt_inj.mp h]; rfl
  · rw [show z = 1 from Int32.toInt_inj.mp h]; rfl
theorem own_rngU {f : Nat → Int32} (hf : ∀ j, -128 ≤ (f j).toInt ∧ (f j).toInt < 128) (i : Nat) (x : Int32) : ∀ j, -128 ≤ (own_updI f i (x.toInt8.toInt32) j).toInt ∧ (own_updI f i (x.toInt8.toInt32) j).toInt < 128 := by
  intro j
  by_cases q : j = i
  · subst q; rw [own_updI_same]; exact (c_i2b x).2
  · rw [own_updI_ne _ _ q]; exact hf j
theorem own_rng0 : ∀ j, -128 ≤ (own_zero j).toInt ∧ (own_zero j).toInt < 128 := fun _ => ⟨show (-128 : Int) ≤ (0 : Int32).toInt by decide, show (0 : Int32).toInt < (128 : Int) by decide⟩
end Own2
theorem own_pd0 : parseMethodDescriptor "(B)Z" = some ⟨[.byte], (some .boolean)⟩ := by decide +kernel
theorem own_pd1 : parseMethodDescriptor "(JII)B" = some ⟨[.long, .int, .int], (some .byte)⟩ := by decide +kernel
theorem own_pd2 : parseMethodDescriptor "(I[BIII)I" = some ⟨[.int, (.array .byte), .int, .int, .int], (some .int)⟩ := by decide +kernel
theorem own_pd3 : parseMethodDescriptor "([BIII)Z" = some ⟨[(.array .byte), .int, .int, .int], (some .boolean)⟩ := by decide +kernel
section OwnT
variable {args : Array Value} {s : State} {t : Term} {a : Addr} {cl : Cell} {F : Nat → Int32} {v : Int32}
theorem own_fold (g : Option Bool → Nat → Option Bool) (f : Nat → Option Bool) (h1 : ∀ i, g (some true) i = f i) (h2 : ∀ x i, x ≠ some true → g x i = x) (n : Nat) (h : (List.range n).foldl g (some true) = some true) : ∀ i, i < n → f i = some true := by
  induction n with
  | zero => intro i hi; exact absurd hi (Nat.not_lt_zero _)
  | succ n ih =>
    rw [List.range_succ, List.foldl_append, List.foldl_cons, List.foldl_nil] at h
    by_cases hp : (List.range n).foldl g (some true) = some true
    · rw [hp, h1] at h
      intro i hi
      by_cases q : i = n
      · subst q; exact h
      · exact ih hp i (by omega)
    · rw [h2 _ _ hp] at h; exact absurd h hp
theorem own_all {c : Jvm.Cond} (ht : t.eval args s none [] s = some (.ref a)) (ha : s.arrayAt? a = some cl) (h : (Jvm.Cond.all t c).value args s none s [] = some true) : ∀ j, j < cl.slots.size → c.value args s none s [j] = some true := by
  intro j hj
  simp only [Cond.value, ht, ha] at h
  exact own_fold _ (fun i => c.value args s none s [i]) (fun _ => rfl) (fun x _ hx => by
    cases x with
    | none => rfl
    | some b => cases b <;> first | rfl | exact absurd rfl hx) cl.slots.size h j hj
theorem own_idxv {j : Nat} (hj : j < 2 ^ 31) : (j.toInt32).toInt = (j : Int) ∧ ¬ j.toInt32 < 0 ∧ j.toInt32.toNatClampNeg = j := by
  have h1 : (j.toInt32).toInt = (j : Int) := len_toInt hj
  refine ⟨h1, fun q => ?_, by show (j.toInt32).toInt.toNat = j; omega⟩
  have := Int32.lt_iff_toInt_lt.mp q; have : (0 : Int32).toInt = 0 := rfl; omega
theorem own_t_at {j : Nat} {u : Term} {k : Int32} {idx : List Nat} (ev : ∀ idx, t.eval args s none idx s = some (.ref a)) (ha : s.arrayAt? a = some cl) (hF : ∀ i, i < cl.slots.size → cl.slots[i]? = some (.int (F i))) (hu : u.eval args s none idx s = some (.int k)) (hk : k.toInt = (j : Int)) (hj : j < cl.slots.size) : (Term.elem t u).eval args s none idx s = some (.int (F j)) := by
  obtain ⟨h1, h2⟩ := own_idx (N := cl.slots.size) hk hj
  rw [elem_f (ev idx) hu ha (fun q => h1 (Or.inl q)), h2]; exact hF j hj
theorem own_tE {k : Int32} {i : Nat} (ev : ∀ idx, t.eval args s none idx s = some (.ref a)) (ha : s.arrayAt? a = some cl) (hF : ∀ i, i < cl.slots.size → cl.slots[i]? = some (.int (F i))) (h : (Jvm.Cond.eq (.elem t (.int k)) (.int v)).value args s none s [] = some true) (hk : k.toInt = (i : Int)) (hi : i < cl.slots.size) : ∀ j, j ≠ i ∨ F j = v := by
  intro j
  by_cases q : j = i
  · subst q; exact Or.inr (gotT (Cond.eq_ints (own_t_at ev ha hF rfl hk hi) rfl) h)
  · exact Or.inl q
theorem own_tA {x : Int32} (ev : ∀ idx, t.eval args s none idx s = some (.ref a)) (ha : s.arrayAt? a = some cl) (hsz : cl.slots.size < 2 ^ 31) (hF : ∀ i, i < cl.slots.size → cl.slots[i]? = some (.int (F i))) (h : (Jvm.Cond.all t (.or (.le (.int x) (.index 0)) (.eq (.elem t (.index 0)) (.int v)))).value args s none s [] = some true) : ∀ j, j < cl.slots.size → x.toInt ≤ (j : Int) ∨ F j = v := by
  intro j hj
  obtain ⟨q1, q2, q3⟩ := own_idxv (Nat.lt_trans hj hsz)
  have e1 : (Term.index 0).eval args s none [j] s = some (.int j.toInt32) := rfl
  rcases or_e2 (Cond.le_ints (s := s) rfl e1) (Cond.eq_ints (own_t_at ev ha hF e1 q1 hj) rfl) (own_all (ev []) ha h j hj) with q | q
  · have := Int32.le_iff_toInt_le.mp q; rw [q1] at this; exact Or.inl this
  · exact Or.inr q
theorem own_tC {x : Int32} (ev : ∀ idx, t.eval args s none idx s = some (.ref a)) (ha : s.arrayAt? a = some cl) (hsz : cl.slots.size < 2 ^ 31) (hF : ∀ i, i < cl.slots.size → cl.slots[i]? = some (.int (F i))) (h : (Jvm.Cond.all t (.or (.lt (.index 0) (.int x)) (.eq (.elem t (.index 0)) (.int v)))).value args s none s [] = some true) : ∀ j, j < cl.slots.size → (j : Int) < x.toInt ∨ F j = v := by
  intro j hj
  obtain ⟨q1, q2, q3⟩ := own_idxv (Nat.lt_trans hj hsz)
  have e1 : (Term.index 0).eval args s none [j] s = some (.int j.toInt32) := rfl
  rcases or_e2 (Cond.lt_ints (s := s) e1 rfl) (Cond.eq_ints (own_t_at ev ha hF e1 q1 hj) rfl) (own_all (ev []) ha h j hj) with q | q
  · have := Int32.lt_iff_toInt_lt.mp q; rw [q1] at this; exact Or.inl this
  · exact Or.inr q
theorem own_or2 {P R : Prop} [Decidable P] [Decidable R] {c d : Jvm.Cond} {idx : List Nat} (h1 : c.value args s none s idx = some (decide P)) (h2 : d.value args s none s idx = some (decide R)) : (Jvm.Cond.or c d).value args s none s idx = some (decide (P ∨ R)) := by
  by_cases p : P <;> by_cases r : R <;> simp [Cond.value, h1, h2, p, r]
theorem own_tB {x y : Int32} (ev : ∀ idx, t.eval args s none idx s = some (.ref a)) (ha : s.arrayAt? a = some cl) (hsz : cl.slots.size < 2 ^ 31) (hF : ∀ i, i < cl.slots.size → cl.slots[i]? = some (.int (F i))) (h : (Jvm.Cond.all t (.or (.lt (.index 0) (.int x)) (.or (.le (.int y) (.index 0)) (.eq (.elem t (.index 0)) (.int v))))).value args s none s [] = some true) : ∀ j, j < cl.slots.size → (j : Int) < x.toInt ∨ y.toInt ≤ (j : Int) ∨ F j = v := by
  intro j hj
  obtain ⟨q1, q2, q3⟩ := own_idxv (Nat.lt_trans hj hsz)
  have e1 : (Term.index 0).eval args s none [j] s = some (.int j.toInt32) := rfl
  rcases gotT (own_or2 (Cond.lt_ints (s := s) e1 rfl) (own_or2 (Cond.le_ints (s := s) rfl e1) (Cond.eq_ints (own_t_at ev ha hF e1 q1 hj) rfl))) (own_all (ev []) ha h j hj) with q | q | q
  · have := Int32.lt_iff_toInt_lt.mp q; rw [q1] at this; exact Or.inl this
  · have := Int32.le_iff_toInt_le.mp q; rw [q1] at this; exact Or.inr (Or.inl this)
  · exact Or.inr (Or.inr q)
theorem own_t_len {z : Int32} {n : Nat} (ht : t.eval args s none [] s = some (.ref a)) (ha : s.arrayAt? a = some cl) (h : (Jvm.Cond.eq (.length t) (.int z)).value args s none s [] = some true) (hz : z.toInt = (n : Int)) : cl.slots.size = n ∧ cl.slots.size < 2 ^ 31 := by
  by_cases hl : cl.slots.size < 2 ^ 31
  · have h1 := gotT (Cond.eq_ints (len_f ht ha hl) rfl) h
    have h2 := len_toInt hl
    rw [h1, hz] at h2
    exact ⟨by omega, hl⟩
  · have h3 : (Term.length t).eval args s none [] s = none := by simp [Term.eval, ht, ha, hl]
    simp [Cond.value, h3] at h
def own_atF (cl : Cell) (i : Nat) : Int32 := match cl.slots[i]? with | some (.int x) => x | _ => 0
theorem own_t_F {ty : FieldType} (hfit : Fit s) (A : Arr s s.heap a cl ty) (hty : ty = .int ∨ ty = .boolean ∨ ty = .byte ∨ ty = .char ∨ ty = .short) (hsz : cl.slots.size < 2 ^ 31) : ∀ i, i < cl.slots.size → cl.slots[i]? = some (.int (own_atF cl i)) := by
  intro i hi
  obtain ⟨q1, q2, q3⟩ := own_idxv (Nat.lt_trans hi hsz)
  obtain ⟨h1, h2⟩ := own_idx (N := cl.slots.size) q1 hi
  obtain ⟨w, hw, hf⟩ := elem_fit hfit A h1
  obtain ⟨x, rfl⟩ := fit_I hf hty
  rw [h2] at hw
  rw [hw, own_atF, hw]
end OwnT
def own_Bl (F : Nat → Int) (j : Nat) : Prop := F j = 32 ∨ F j = 9
def own_De (F : Nat → Int) (j : Nat) : Prop := 48 ≤ F j ∧ F j ≤ 57
theorem own_bd {F : Nat → Int} {j : Nat} (h1 : own_Bl F j) (h2 : own_De F j) : False := by unfold own_Bl at h1; unfold own_De at h2; omega
def own_Good (F : Nat → Int) (a k : Nat) : Prop := ∃ m n, a ≤ m ∧ m ≤ n ∧ n ≤ k ∧ (∀ j, a ≤ j → j < m → own_Bl F j) ∧ (∀ j, m ≤ j → j < n → own_De F j) ∧ (∀ j, n ≤ j → j < k → own_Bl F j)
def own_Inv (F : Nat → Int) (a k : Nat) (s : Int) : Prop := (s = 0 ∧ ∀ j, a ≤ j → j < k → own_Bl F j) ∨ (s = 1 ∧ ∃ m, a ≤ m ∧ m < k ∧ (∀ j, a ≤ j → j < m → own_Bl F j) ∧ (∀ j, m ≤ j → j < k → own_De F j)) ∨ (s = 2 ∧ ∃ m n, a ≤ m ∧ m < n ∧ n < k ∧ (∀ j, a ≤ j → j < m → own_Bl F j) ∧ (∀ j, m ≤ j → j < n → own_De F j) ∧ (∀ j, n ≤ j → j < k → own_Bl F j)) ∨ (s = 3 ∧ ¬ own_Good F a k)
def own_Adv (s b z : Int) : Prop := (s = 0 ∧ (b = 32 ∨ b = 9) ∧ z = 0) ∨ (s = 0 ∧ (48 ≤ b ∧ b ≤ 57) ∧ z = 1) ∨ (s = 0 ∧ ¬ (b = 32 ∨ b = 9) ∧ ¬ (48 ≤ b ∧ b ≤ 57) ∧ z = 3) ∨ (s = 1 ∧ (b = 32 ∨ b = 9) ∧ z = 2) ∨ (s = 1 ∧ (48 ≤ b ∧ b ≤ 57) ∧ z = 1) ∨ (s = 1 ∧ ¬ (b = 32 ∨ b = 9) ∧ ¬ (48 ≤ b ∧ b ≤ 57) ∧ z = 3) ∨ (s = 2 ∧ (b = 32 ∨ b = 9) ∧ z = 2) ∨ (s = 2 ∧ ¬ (b = 32 ∨ b = 9) ∧ z = 3) ∨ (s ≠ 0 ∧ s ≠ 1 ∧ s ≠ 2 ∧ z = 3)
theorem own_good_pre {F : Nat → Int} {a k : Nat} (hak : a ≤ k) (h : own_Good F a (k + 1)) : own_Good F a k := by
  obtain ⟨m, n, h1, h2, h3, h4, h5, h6⟩ := h
  refine ⟨min m k, min n k, by omega, by omega, by omega, fun j q1 q2 => h4 j q1 (by omega), fun j q1 q2 => ?_, fun j q1 q2 => h6 j (by omega) (by omega)⟩
  exact h5 j (by omega) (by omega)
theorem own_good_at {F : Nat → Int} {a k : Nat} (hak : a ≤ k) (h : own_Good F a (k + 1)) : own_Bl F k ∨ own_De F k := by
  obtain ⟨m, n, h1, h2, h3, h4, h5, h6⟩ := h
  by_cases q : k < m
  · exact Or.inl (h4 k hak q)
  · by_cases q' : k < n
    · exact Or.inr (h5 k (by omega) q')
    · exact Or.inl (h6 k (by omega) (by omega))
theorem own_ext {P : Nat → Prop} {a k : Nat} (h : ∀ j, a ≤ j → j < k → P j) (hk : P k) : ∀ j, a ≤ j → j < k + 1 → P j := fun j q1 q2 => by
  by_cases q : j = k
  · subst q; exact hk
  · exact h j q1 (by omega)
theorem own_one {P : Nat → Prop} {k : Nat} (hk : P k) : ∀ j, k ≤ j → j < k + 1 → P j := fun j q1 q2 => (show k = j by omega) ▸ hk
theorem own_step {F : Nat → Int} {a k : Nat} {s z : Int} (hak : a ≤ k) (I : own_Inv F a k s) (A : own_Adv s (F k) z) : own_Inv F a (k + 1) z := by
  have no : ¬ (F k = 32 ∨ F k = 9) → ¬ (48 ≤ F k ∧ F k ≤ 57) → ¬ own_Good F a (k + 1) := fun h1 h2 h => (own_good_at hak h).elim h1 h2
  rcases I with ⟨rfl, I⟩ | ⟨rfl, m, i1, i2, i3, i4⟩ | ⟨rfl, m, n, i1, i2, i3, i4, i5, i6⟩ | ⟨rfl, I⟩
  · rcases A with ⟨-, h, rfl⟩ | ⟨-, h, rfl⟩ | ⟨-, h, h', rfl⟩ | ⟨h, -⟩ | ⟨h, -⟩ | ⟨h, -⟩ | ⟨h, -⟩ | ⟨h, -⟩ | ⟨h, -⟩
    · exact Or.inl ⟨rfl, own_ext I h⟩
    · exact Or.inr (Or.inl ⟨rfl, k, hak, by omega, I, own_one h⟩)
    · exact Or.inr (Or.inr (Or.inr ⟨rfl, no h h'⟩))
    all_goals (exfalso; omega)
  · rcases A with ⟨h, -⟩ | ⟨h, -⟩ | ⟨h, -⟩ | ⟨-, h, rfl⟩ | ⟨-, h, rfl⟩ | ⟨-, h, h', rfl⟩ | ⟨h, -⟩ | ⟨h, -⟩ | ⟨h, h', -⟩
    · exfalso; omega
    · exfalso; omega
    · exfalso; omega
    · exact Or.inr (Or.inr (Or.inl ⟨rfl, m, k, i1, i2, by omega, i3, i4, own_one h⟩))
    · exact Or.inr (Or.inl ⟨rfl, m, i1, by omega, i3, own_ext i4 h⟩)
    · exact Or.inr (Or.inr (Or.inr ⟨rfl, no h h'⟩))
    all_goals (exfalso; omega)
  · rcases A with ⟨h, -⟩ | ⟨h, -⟩ | ⟨h, -⟩ | ⟨h, -⟩ | ⟨h, -⟩ | ⟨h, -⟩ | ⟨-, h, rfl⟩ | ⟨-, h, rfl⟩ | ⟨-, -, h, -⟩
    · exfalso; omega
    · exfalso; omega
    · exfalso; omega
    · exfalso; omega
    · exfalso; omega
    · exfalso; omega
    · exact Or.inr (Or.inr (Or.inl ⟨rfl, m, n, i1, i2, by omega, i4, i5, own_ext i6 h⟩))
    · refine Or.inr (Or.inr (Or.inr ⟨rfl, ?_⟩))
      rintro ⟨m', n', h1, h2, h3, h4, h5, h6⟩
      have k1 : m' ≤ k := Nat.le_of_not_lt fun q => h (h4 k hak q)
      have k2 : k < n' := Nat.lt_of_not_le fun q => h (h6 k q (by omega))
      by_cases q : m' ≤ n
      · exact own_bd (i6 n (Nat.le_refl _) i3) (h5 n q (by omega))
      · exact own_bd (h4 m i1 (by omega)) (i5 m (Nat.le_refl _) i2)
    · exfalso; omega
  · have z3 : z = 3 := by rcases A with ⟨h, -⟩ | ⟨h, -⟩ | ⟨h, -⟩ | ⟨h, -⟩ | ⟨h, -⟩ | ⟨h, -⟩ | ⟨h, -⟩ | ⟨h, -⟩ | ⟨-, -, -, h⟩ <;> omega
    exact Or.inr (Or.inr (Or.inr ⟨z3, fun h => I (own_good_pre hak h)⟩))
theorem own_inv3 {F : Nat → Int} {a k : Nat} {s : Int} (hak : a ≤ k) (I : own_Inv F a k s) : s ≠ 3 ↔ own_Good F a k := by
  rcases I with ⟨rfl, I⟩ | ⟨rfl, m, i1, i2, i3, i4⟩ | ⟨rfl, m, n, i1, i2, i3, i4, i5, i6⟩ | ⟨rfl, I⟩
  · exact ⟨fun _ => ⟨a, a, Nat.le_refl _, Nat.le_refl _, hak, fun j q1 q2 => absurd q2 (by omega), fun j q1 q2 => absurd q2 (by omega), I⟩, fun _ => by decide⟩
  · exact ⟨fun _ => ⟨m, k, i1, by omega, Nat.le_refl _, i3, i4, fun j q1 q2 => absurd q2 (by omega)⟩, fun _ => by decide⟩
  · exact ⟨fun _ => ⟨m, n, i1, by omega, by omega, i4, i5, i6⟩, fun _ => by decide⟩
  · exact ⟨fun h => absurd rfl h, fun h => absurd h I⟩
def own_L (F : Nat → Int) (a k : Nat) (l : Int) : Prop := ((∀ j, a ≤ j → j < k → own_Bl F j) ∧ l = -1000) ∨ ∃ t, a ≤ t ∧ t < k ∧ ¬ own_Bl F t ∧ (∀ j, t < j → j < k → own_Bl F j) ∧ l = F t
def own_58 (F : Nat → Int) (a k : Nat) : Prop := ∃ t, a ≤ t ∧ t < k ∧ ¬ own_Bl F t ∧ (∀ j, t < j → j < k → own_Bl F j) ∧ F t = 58
theorem own_Lstep {F : Nat → Int} {a k : Nat} {l z : Int} (hak : a ≤ k) (I : own_L F a k l) (A : ((F k = 32 ∨ F k = 9) ∧ z = l) ∨ (¬ (F k = 32 ∨ F k = 9) ∧ z = F k)) : own_L F a (k + 1) z := by
  rcases A with ⟨h, rfl⟩ | ⟨h, rfl⟩
  · rcases I with ⟨i1, i2⟩ | ⟨t, i1, i2, i3, i4, i5⟩
    · exact Or.inl ⟨own_ext i1 h, i2⟩
    · exact Or.inr ⟨t, i1, by omega, i3, fun j q1 q2 => by
        by_cases q : j = k
        · subst q; exact h
        · exact i4 j q1 (by omega), i5⟩
  · exact Or.inr ⟨k, hak, by omega, h, fun j q1 q2 => absurd q2 (by omega), rfl⟩
theorem own_L58 {F : Nat → Int} {a k : Nat} {l : Int} (I : own_L F a k l) : l = 58 ↔ own_58 F a k := by
  rcases I with ⟨i1, i2⟩ | ⟨t, i1, i2, i3, i4, i5⟩
  · refine ⟨fun h => by omega, fun ⟨t, h1, h2, h3, _⟩ => absurd (i1 t h1 h2) h3⟩
  · refine ⟨fun h => ⟨t, i1, i2, i3, i4, by omega⟩, fun ⟨u, h1, h2, h3, h4, h5⟩ => ?_⟩
    have : t = u := by
      rcases Nat.lt_trichotomy t u with q | q | q
      · exact absurd (i4 u q h2) h3
      · exact q
      · exact absurd (h4 t q i2) i3
    subst this; omega
theorem own_law1 {F : Nat → Int} {a d i : Nat} {s z : Int} (had : a ≤ d) (I : own_Inv F a (max a (min i d)) s) (A : ((i < a ∨ d ≤ i) ∧ z = s) ∨ ((a ≤ i ∧ i < d) ∧ own_Adv s (F i) z)) : own_Inv F a (max a (min (i + 1) d)) z := by
  rcases A with ⟨h, rfl⟩ | ⟨h, A⟩
  · rw [show max a (min (i + 1) d) = max a (min i d) by omega]; exact I
  · rw [show max a (min (i + 1) d) = i + 1 by omega]; rw [show max a (min i d) = i by omega] at I; exact own_step h.1 I A
theorem own_law2 {F : Nat → Int} {a d i : Nat} {s z : Int} (had : a ≤ d) (I : own_L F a (max a (min i d)) s) (A : ((i < a ∨ d ≤ i) ∧ z = s) ∨ ((a ≤ i ∧ i < d) ∧ (((F i = 32 ∨ F i = 9) ∧ z = s) ∨ (¬ (F i = 32 ∨ F i = 9) ∧ z = F i)))) : own_L F a (max a (min (i + 1) d)) z := by
  rcases A with ⟨h, rfl⟩ | ⟨h, A⟩
  · rw [show max a (min (i + 1) d) = max a (min i d) by omega]; exact I
  · rw [show max a (min (i + 1) d) = i + 1 by omega]; rw [show max a (min i d) = i by omega] at I; exact own_Lstep h.1 I A
theorem own_law0 {F : Nat → Int} {a d : Nat} : own_Inv F a (max a (min 0 d)) 0 ∧ own_L F a (max a (min 0 d)) (-1000) := by
  rw [show max a (min 0 d) = a by omega]
  exact ⟨Or.inl ⟨rfl, fun j q1 q2 => absurd q2 (by omega)⟩, Or.inl ⟨fun j q1 q2 => absurd q2 (by omega), rfl⟩⟩
theorem own_fin {F : Nat → Int} {a at' num ne d : Nat} (h1 : a < at') (h2 : at' ≤ d) (hb : ∀ j, at' ≤ j → j < d → own_Bl F j) (hnb : ¬ own_Bl F (at' - 1)) (h58 : F (at' - 1) ≠ 58) (n1 : a ≤ num) (n2 : num ≤ at') (n3 : ∀ j, a ≤ j → j < num → own_Bl F j) (n4 : num = at' ∨ ¬ own_Bl F num) (e1 : num ≤ ne) (e2 : ne ≤ at') (e3 : ∀ j, num ≤ j → j < ne → own_De F j) (e4 : ne = at' ∨ ¬ own_De F ne) : (own_Good F a d ∨ own_58 F a d) ↔ (ne = at' ∧ num < ne) := by
  constructor
  · rintro (⟨m, n, g1, g2, g3, g4, g5, g6⟩ | ⟨t, t1, t2, t3, t4, t5⟩)
    · have k1 : m ≤ at' - 1 := Nat.le_of_not_lt fun q => hnb (g4 _ (by omega) q)
      have k2 : at' - 1 < n := Nat.lt_of_not_le fun q => hnb (g6 _ q (by omega))
      have k3 : n = at' := by
        rcases Nat.lt_or_ge at' n with q | q
        · exact (own_bd (hb at' (Nat.le_refl _) (by omega)) (g5 at' (by omega) q)).elim
        · omega
      have k4 : num = m := by
        rcases Nat.lt_trichotomy num m with q | q | q
        · rcases n4 with r | r
          · omega
          · exact absurd (g4 num n1 q) r
        · exact q
        · exact (own_bd (n3 m g1 q) (g5 m (Nat.le_refl _) (by omega))).elim
      have k5 : ne = at' := by
        rcases e4 with r | r
        · exact r
        · rcases Nat.lt_or_ge ne at' with q | q
          · exact absurd (g5 ne (by omega) (by omega)) r
          · omega
      omega
    · have : t = at' - 1 := by
        rcases Nat.lt_trichotomy t (at' - 1) with q | q | q
        · exact absurd (t4 _ q (by omega)) hnb
        · exact q
        · exact absurd (hb t (by omega) t2) t3
      subst this; exact absurd t5 h58
  · rintro ⟨q1, q2⟩
    subst q1
    exact Or.inl ⟨num, ne, n1, by omega, h2, n3, e3, hb⟩
def own_F (f : Nat → Int32) : Nat → Int := fun j => (f j).toInt
theorem own_kind (x : Int32) (g : Nat → Int32) (h1 : -128 ≤ x.toInt) (h2 : x.toInt < 128) (hT : ∀ i : Nat, i < 256 → (((i = 32 ∨ i = 9) ∧ (g i).toInt = 2) ∨ (¬ (i = 32 ∨ i = 9) ∧ (g i).toInt ≠ 2))) : ∃ u : Nat, (x &&& (255 : Int32)).toInt = (u : Int) ∧ u < 256 ∧ (((x.toInt = 32 ∨ x.toInt = 9) ∧ (g u).toInt = 2) ∨ (¬ (x.toInt = 32 ∨ x.toInt = 9) ∧ (g u).toInt ≠ 2)) := by
  have e : (x &&& (255 : Int32)).toInt = x.toInt % 256 := c_mask x 255 8 (by decide) (by decide)
  refine ⟨(x.toInt % 256).toNat, by omega, by omega, ?_⟩
  have := hT (x.toInt % 256).toNat (by omega)
  generalize g (x.toInt % 256).toNat = G at *
  omega
theorem own_kn {x : Int} {G : Int} (hw : ((x = 32 ∨ x = 9) ∧ G = 2) ∨ (¬ (x = 32 ∨ x = 9) ∧ G ≠ 2)) (h : G ≠ 2) : ¬ (x = 32 ∨ x = 9) := by omega
theorem own_ky {x : Int} {G : Int} (hw : ((x = 32 ∨ x = 9) ∧ G = 2) ∨ (¬ (x = 32 ∨ x = 9) ∧ G ≠ 2)) (h : G = 2) : x = 32 ∨ x = 9 := by omega
theorem own_good_all {F : Nat → Int} {a d : Nat} (had : a ≤ d) (h : ∀ j, a ≤ j → j < d → own_Bl F j) : own_Good F a d := ⟨a, a, Nat.le_refl _, Nat.le_refl _, had, fun j q1 q2 => absurd q2 (by omega), fun j q1 q2 => absurd q2 (by omega), h⟩
theorem own_58_mk {F : Nat → Int} {a k : Nat} (t : Nat) (h1 : a ≤ t) (h2 : t < k) (h3 : ¬ own_Bl F t) (h4 : ∀ j, t < j → j < k → own_Bl F j) (h5 : F t = 58) : own_58 F a k := ⟨t, h1, h2, h3, h4, h5⟩
theorem d1_0 : decode method_3_code 0 = .ok (.lload_n 0, 1) := by decide +kernel
theorem d1_1 : decode method_3_code 1 = .ok (.bipush 8, 2) := by decide +kernel
theorem d1_3 : decode method_3_code 3 = .ok (.iload_n 3, 1) := by decide +kernel
theorem d1_4 : decode method_3_code 4 = .ok (.imul, 1) := by decide +kernel
theorem d1_5 : decode method_3_code 5 = .ok (.lushr, 1) := by decide +kernel
theorem d1_6 : decode method_3_code 6 = .ok (.ldc2_w 26, 3) := by decide +kernel
theorem d1_9 : decode method_3_code 9 = .ok (.land, 1) := by decide +kernel
theorem d1_10 : decode method_3_code 10 = .ok (.l2i, 1) := by decide +kernel
theorem d1_11 : decode method_3_code 11 = .ok (.istore 4, 2) := by decide +kernel
theorem d1_13 : decode method_3_code 13 = .ok (.iload_n 2, 1) := by decide +kernel
theorem d1_14 : decode method_3_code 14 = .ok (.iconst 3, 1) := by decide +kernel
theorem d1_15 : decode method_3_code 15 = .ok (.iload_n 3, 1) := by decide +kernel
theorem d1_16 : decode method_3_code 16 = .ok (.imul, 1) := by decide +kernel
theorem d1_17 : decode method_3_code 17 = .ok (.iushr, 1) := by decide +kernel
theorem d1_18 : decode method_3_code 18 = .ok (.bipush 7, 2) := by decide +kernel
theorem d1_20 : decode method_3_code 20 = .ok (.iand, 1) := by decide +kernel
theorem d1_21 : decode method_3_code 21 = .ok (.istore 5, 2) := by decide +kernel
theorem d1_23 : decode method_3_code 23 = .ok (.iload 5, 2) := by decide +kernel
theorem d1_25 : decode method_3_code 25 = .ok (.ifCond .ne 6, 3) := by decide +kernel
theorem d1_28 : decode method_3_code 28 = .ok (.bipush 32, 2) := by decide +kernel
theorem d1_30 : decode method_3_code 30 = .ok (.ireturn, 1) := by decide +kernel
theorem d1_31 : decode method_3_code 31 = .ok (.iload 5, 2) := by decide +kernel
theorem d1_33 : decode method_3_code 33 = .ok (.iconst 1, 1) := by decide +kernel
theorem d1_34 : decode method_3_code 34 = .ok (.if_icmp .ne 6, 3) := by decide +kernel
theorem d1_37 : decode method_3_code 37 = .ok (.bipush 9, 2) := by decide +kernel
theorem d1_39 : decode method_3_code 39 = .ok (.ireturn, 1) := by decide +kernel
theorem d1_40 : decode method_3_code 40 = .ok (.iload 5, 2) := by decide +kernel
theorem d1_42 : decode method_3_code 42 = .ok (.iconst 2, 1) := by decide +kernel
theorem d1_43 : decode method_3_code 43 = .ok (.if_icmp .ne 6, 3) := by decide +kernel
theorem d1_46 : decode method_3_code 46 = .ok (.bipush 58, 2) := by decide +kernel
theorem d1_48 : decode method_3_code 48 = .ok (.ireturn, 1) := by decide +kernel
theorem d1_49 : decode method_3_code 49 = .ok (.iload 5, 2) := by decide +kernel
theorem d1_51 : decode method_3_code 51 = .ok (.iconst 3, 1) := by decide +kernel
theorem d1_52 : decode method_3_code 52 = .ok (.if_icmp .ne 13, 3) := by decide +kernel
theorem d1_55 : decode method_3_code 55 = .ok (.bipush 48, 2) := by decide +kernel
theorem d1_57 : decode method_3_code 57 = .ok (.iload 4, 2) := by decide +kernel
theorem d1_59 : decode method_3_code 59 = .ok (.bipush 10, 2) := by decide +kernel
theorem d1_61 : decode method_3_code 61 = .ok (.irem, 1) := by decide +kernel
theorem d1_62 : decode method_3_code 62 = .ok (.iadd, 1) := by decide +kernel
theorem d1_63 : decode method_3_code 63 = .ok (.i2b, 1) := by decide +kernel
theorem d1_64 : decode method_3_code 64 = .ok (.ireturn, 1) := by decide +kernel
theorem d1_65 : decode method_3_code 65 = .ok (.iload 4, 2) := by decide +kernel
theorem d1_67 : decode method_3_code 67 = .ok (.i2b, 1) := by decide +kernel
theorem d1_68 : decode method_3_code 68 = .ok (.ireturn, 1) := by decide +kernel
theorem own_pn1 : plainName "com/example/pillbug/pillbug/core/Base64RunsDigitsMayEndLineAlonePinLaw" = true := by first | (simp [plainName, overriddenIn]; done) | decide +kernel
theorem own_ef1 (m : MethodId) (q1 : Int64) (p1 : Int32) (p2 : Int32) : entryFrame m #[(.long q1), (.int p1), (.int p2)] 6 = mkF m 0 #[.val (.long q1), .second, .val (.int p1), .val (.int p2), .unset, .unset] [] := by first | (simp [entryFrame, mkF, argsToLocals, Value.category, maxLocals]; done) | rfl
set_option maxRecDepth 65536 in
set_option maxHeartbeats 40000000 in
theorem own_rm1 (l : Launch) (Z : State) (a0 : Array Value) (hw : ∀ d ∈ tables_1, d.before a0 Z = true) (ws : List Jvm.Cond) (q1 : Int64) (p1 : Int32) (p2 : Int32)  (h0 : Heap)  :
    MetFree l (⟨"com/example/pillbug/pillbug/core/Base64RunsDigitsMayEndLineAlonePinLaw", "pick", "(JII)B"⟩ : MethodName) (head1 (Jvm.Cond.code (⟨"com/example/pillbug/pillbug/core/Base64RunsDigitsMayEndLineAlonePinLaw", "pick", "(JII)B"⟩ : MethodName) method_3_code 6 (some .byte) :: ws) ({ frames := 0, cells := 0, slots := 0, locals := 0 } : Room)) (fun a U => a = #[(.long q1), (.int p1), (.int p2)] ∧ Z.Warmed39 U.vm ∧ U.heap = h0) (fun _ _ _ _ _ => True) (fun _ U o U' => ∃ v L, o = .returned v ∧ (fun v h L => (∃ w, v = some w ∧ (fun w => ∃ z : Int32, w = .int z) w) ∧ L = [] ∧ h = h0) v U'.heap L ∧ FrameEnd U o U' L ({ frames := 0, cells := 0, slots := 0, locals := 0 } : Room).cells ({ frames := 0, cells := 0, slots := 0, locals := 0 } : Room).slots) := by
  refine own_body (y := (⟨"com/example/pillbug/pillbug/core/Base64RunsDigitsMayEndLineAlonePinLaw", "pick", "(JII)B"⟩ : MethodName)) (Q := fun v h L => (∃ w, v = some w ∧ (fun w => ∃ z : Int32, w = .int z) w) ∧ L = [] ∧ h = h0) (rm := ({ frames := 0, cells := 0, slots := 0, locals := 0 } : Room)) (as' := #[(.long q1), (.int p1), (.int p2)]) (h0 := h0) (Z := Z) own_pn1 ?_
  intro p e s m below meth c s₁ hx hby hml hown hnm hret hlk hZ X0 e0
  have hown : s.vm.findClass "com/example/pillbug/pillbug/core/Base64RunsDigitsMayEndLineAlonePinLaw" = some m.cls := hown
  rw [own_ef1]
  refine own_lload_n X0 hx (hb hby d1_0) rfl (q := 1) rfl ?_
  refine own_bipush X0 hx (hb hby d1_1) (v := (8 : Int32)) rfl (q := 3) rfl ?_
  refine own_iload_n X0 hx (hb hby d1_3) rfl (q := 4) rfl ?_
  refine own_imul X0 hx (hb hby d1_4) (q := 5) rfl ?_
  refine own_lushr X0 hx (hb hby d1_5) (q := 6) rfl ?_
  refine own_ldcL X0 hx hZ hown (hw _ (List.mem_of_getElem? (i := 5) rfl)) (hb hby d1_6) (q := 9) rfl ?_
  refine own_land X0 hx (hb hby d1_9) (q := 10) rfl ?_
  refine own_l2i X0 hx (hb hby d1_10) (q := 11) rfl ?_
  refine own_istore X0 hx (hb hby d1_11) (l' := #[.val (.long q1), .second, .val (.int p1), .val (.int p2), .val (.int (((XT.ushrL q1 ((8 : Int32) * p2)) &&& (255 : Int64)).toInt32)), .unset]) rfl (q := 13) rfl ?_
  refine own_iload_n X0 hx (hb hby d1_13) rfl (q := 14) rfl ?_
  refine own_iconst X0 hx (hb hby d1_14) (v := (3 : Int32)) rfl (q := 15) rfl ?_
  refine own_iload_n X0 hx (hb hby d1_15) rfl (q := 16) rfl ?_
  refine own_imul X0 hx (hb hby d1_16) (q := 17) rfl ?_
  refine own_iushr X0 hx (hb hby d1_17) (q := 18) rfl ?_
  refine own_bipush X0 hx (hb hby d1_18) (v := (7 : Int32)) rfl (q := 20) rfl ?_
  refine own_iand X0 hx (hb hby d1_20) (q := 21) rfl ?_
  refine own_istore X0 hx (hb hby d1_21) (l' := #[.val (.long q1), .second, .val (.int p1), .val (.int p2), .val (.int (((XT.ushrL q1 ((8 : Int32) * p2)) &&& (255 : Int64)).toInt32)), .val (.int ((XT.ushr p1 ((3 : Int32) * p2)) &&& (7 : Int32)))]) rfl (q := 23) rfl ?_
  refine own_iload X0 hx (hb hby d1_23) rfl (q := 25) rfl ?_
  refine own_if X0 hx (hb hby d1_25) (by decide) (q := 31) rfl (q' := 28) rfl (own_z_ne _) (fun h25 => ?_) (fun h25 => ?_)
  · replace h25 : ((XT.ushr p1 ((3 : Int32) * p2)) &&& (7 : Int32)).toInt ≠ 0 := h25
    refine own_iload X0 hx (hb hby d1_31) rfl (q := 33) rfl ?_
    refine own_iconst X0 hx (hb hby d1_33) (v := (1 : Int32)) rfl (q := 34) rfl ?_
    refine own_icmp X0 hx (hb hby d1_34) (by decide) (q := 40) rfl (q' := 37) rfl (own_h_ne _ _) (fun h34 => ?_) (fun h34 => ?_)
    · replace h34 : ((XT.ushr p1 ((3 : Int32) * p2)) &&& (7 : Int32)).toInt ≠ 1 := h34
      refine own_iload X0 hx (hb hby d1_40) rfl (q := 42) rfl ?_
      refine own_iconst X0 hx (hb hby d1_42) (v := (2 : Int32)) rfl (q := 43) rfl ?_
      refine own_icmp X0 hx (hb hby d1_43) (by decide) (q := 49) rfl (q' := 46) rfl (own_h_ne _ _) (fun h43 => ?_) (fun h43 => ?_)
      · replace h43 : ((XT.ushr p1 ((3 : Int32) * p2)) &&& (7 : Int32)).toInt ≠ 2 := h43
        refine own_iload X0 hx (hb hby d1_49) rfl (q := 51) rfl ?_
        refine own_iconst X0 hx (hb hby d1_51) (v := (3 : Int32)) rfl (q := 52) rfl ?_
        refine own_icmp X0 hx (hb hby d1_52) (by decide) (q := 65) rfl (q' := 55) rfl (own_h_ne _ _) (fun h52 => ?_) (fun h52 => ?_)
        · replace h52 : ((XT.ushr p1 ((3 : Int32) * p2)) &&& (7 : Int32)).toInt ≠ 3 := h52
          refine own_iload X0 hx (hb hby d1_65) rfl (q := 67) rfl ?_
          refine own_i2b X0 hx (hb hby d1_67) (q := 68) rfl ?_
          exact own_retN X0 hx (t := .byte) hret hlk (by simp) (hb hby d1_68) (by decide) (by decide) rfl ⟨⟨_, rfl, ⟨_, rfl⟩⟩, rfl, e0⟩
        · replace h52 : ¬ (((XT.ushr p1 ((3 : Int32) * p2)) &&& (7 : Int32)).toInt ≠ 3) := h52
          refine own_bipush X0 hx (hb hby d1_55) (v := (48 : Int32)) rfl (q := 57) rfl ?_
          refine own_iload X0 hx (hb hby d1_57) rfl (q := 59) rfl ?_
          refine own_bipush X0 hx (hb hby d1_59) (v := (10 : Int32)) rfl (q := 61) rfl ?_
          refine own_irem X0 hx (hb hby d1_61) (by decide) (q := 62) rfl ?_
          refine own_iadd X0 hx (hb hby d1_62) (q := 63) rfl ?_
          refine own_i2b X0 hx (hb hby d1_63) (q := 64) rfl ?_
          exact own_retN X0 hx (t := .byte) hret hlk (by simp) (hb hby d1_64) (by decide) (by decide) rfl ⟨⟨_, rfl, ⟨_, rfl⟩⟩, rfl, e0⟩
      · replace h43 : ¬ (((XT.ushr p1 ((3 : Int32) * p2)) &&& (7 : Int32)).toInt ≠ 2) := h43
        refine own_bipush X0 hx (hb hby d1_46) (v := (58 : Int32)) rfl (q := 48) rfl ?_
        exact own_retN X0 hx (t := .byte) hret hlk (by simp) (hb hby d1_48) (by decide) (by decide) (w := (58 : Int32)) rfl ⟨⟨_, rfl, ⟨_, rfl⟩⟩, rfl, e0⟩
    · replace h34 : ¬ (((XT.ushr p1 ((3 : Int32) * p2)) &&& (7 : Int32)).toInt ≠ 1) := h34
      refine own_bipush X0 hx (hb hby d1_37) (v := (9 : Int32)) rfl (q := 39) rfl ?_
      exact own_retN X0 hx (t := .byte) hret hlk (by simp) (hb hby d1_39) (by decide) (by decide) (w := (9 : Int32)) rfl ⟨⟨_, rfl, ⟨_, rfl⟩⟩, rfl, e0⟩
  · replace h25 : ¬ (((XT.ushr p1 ((3 : Int32) * p2)) &&& (7 : Int32)).toInt ≠ 0) := h25
    refine own_bipush X0 hx (hb hby d1_28) (v := (32 : Int32)) rfl (q := 30) rfl ?_
    exact own_retN X0 hx (t := .byte) hret hlk (by simp) (hb hby d1_30) (by decide) (by decide) (w := (32 : Int32)) rfl ⟨⟨_, rfl, ⟨_, rfl⟩⟩, rfl, e0⟩
theorem d2_0 : decode method_4_code 0 = .ok (.iload_n 0, 1) := by decide +kernel
theorem d2_1 : decode method_4_code 1 = .ok (.bipush 32, 2) := by decide +kernel
theorem d2_3 : decode method_4_code 3 = .ok (.if_icmp .eq 9, 3) := by decide +kernel
theorem d2_6 : decode method_4_code 6 = .ok (.iload_n 0, 1) := by decide +kernel
theorem d2_7 : decode method_4_code 7 = .ok (.bipush 9, 2) := by decide +kernel
theorem d2_9 : decode method_4_code 9 = .ok (.if_icmp .ne 7, 3) := by decide +kernel
theorem d2_12 : decode method_4_code 12 = .ok (.iconst 1, 1) := by decide +kernel
theorem d2_13 : decode method_4_code 13 = .ok (.goto 4, 3) := by decide +kernel
theorem d2_16 : decode method_4_code 16 = .ok (.iconst 0, 1) := by decide +kernel
theorem d2_17 : decode method_4_code 17 = .ok (.ireturn, 1) := by decide +kernel
theorem own_pn2 : plainName "com/example/pillbug/pillbug/core/Base64RunsDigitsMayEndLineAlonePinLaw" = true := by first | (simp [plainName, overriddenIn]; done) | decide +kernel
theorem own_ef2 (m : MethodId) (p1 : Int32) : entryFrame m #[(.int p1)] 1 = mkF m 0 #[.val (.int p1)] [] := by first | (simp [entryFrame, mkF, argsToLocals, Value.category, maxLocals]; done) | rfl
set_option maxRecDepth 65536 in
set_option maxHeartbeats 40000000 in
theorem own_rm2 (l : Launch) (Z : State) (a0 : Array Value) (hw : ∀ d ∈ tables_1, d.before a0 Z = true) (ws : List Jvm.Cond) (p1 : Int32)  (h0 : Heap)  :
    MetFree l (⟨"com/example/pillbug/pillbug/core/Base64RunsDigitsMayEndLineAlonePinLaw", "isBlank", "(B)Z"⟩ : MethodName) (head1 (Jvm.Cond.code (⟨"com/example/pillbug/pillbug/core/Base64RunsDigitsMayEndLineAlonePinLaw", "isBlank", "(B)Z"⟩ : MethodName) method_4_code 1 (some .boolean) :: ws) ({ frames := 0, cells := 0, slots := 0, locals := 0 } : Room)) (fun a U => a = #[(.int p1)] ∧ Z.Warmed39 U.vm ∧ U.heap = h0) (fun _ _ _ _ _ => True) (fun _ U o U' => ∃ v L, o = .returned v ∧ (fun v h L => (∃ w, v = some w ∧ (fun w => ∃ z : Int32, w = .int z ∧ (((p1.toInt = 32 ∨ p1.toInt = 9) ∧ z.toInt = 1) ∨ (¬ (p1.toInt = 32 ∨ p1.toInt = 9) ∧ z.toInt = 0))) w) ∧ L = [] ∧ h = h0) v U'.heap L ∧ FrameEnd U o U' L ({ frames := 0, cells := 0, slots := 0, locals := 0 } : Room).cells ({ frames := 0, cells := 0, slots := 0, locals := 0 } : Room).slots) := by
  refine own_body (y := (⟨"com/example/pillbug/pillbug/core/Base64RunsDigitsMayEndLineAlonePinLaw", "isBlank", "(B)Z"⟩ : MethodName)) (Q := fun v h L => (∃ w, v = some w ∧ (fun w => ∃ z : Int32, w = .int z ∧ (((p1.toInt = 32 ∨ p1.toInt = 9) ∧ z.toInt = 1) ∨ (¬ (p1.toInt = 32 ∨ p1.toInt = 9) ∧ z.toInt = 0))) w) ∧ L = [] ∧ h = h0) (rm := ({ frames := 0, cells := 0, slots := 0, locals := 0 } : Room)) (as' := #[(.int p1)]) (h0 := h0) (Z := Z) own_pn2 ?_
  intro p e s m below meth c s₁ hx hby hml hown hnm hret hlk hZ X0 e0
  have hown : s.vm.findClass "com/example/pillbug/pillbug/core/Base64RunsDigitsMayEndLineAlonePinLaw" = some m.cls := hown
  rw [own_ef2]
  refine own_iload_n X0 hx (hb hby d2_0) rfl (q := 1) rfl ?_
  refine own_bipush X0 hx (hb hby d2_1) (v := (32 : Int32)) rfl (q := 3) rfl ?_
  refine own_icmp X0 hx (hb hby d2_3) (by decide) (q := 12) rfl (q' := 6) rfl (own_h_eq _ _) (fun h3 => ?_) (fun h3 => ?_)
  · replace h3 : p1.toInt = 32 := h3
    refine own_iconst X0 hx (hb hby d2_12) (v := (1 : Int32)) rfl (q := 13) rfl ?_
    refine own_goto X0 hx (hb hby d2_13) (by decide) (q := 17) rfl ?_
    exact own_retN X0 hx (t := .boolean) hret hlk (by simp) (hb hby d2_17) (by decide) (by decide) (w := (1 : Int32)) rfl ⟨⟨_, rfl, ⟨_, rfl, by have hc_ : (1 : Int32).toInt = 1 := rfl; omega⟩⟩, rfl, e0⟩
  · replace h3 : ¬ (p1.toInt = 32) := h3
    refine own_iload_n X0 hx (hb hby d2_6) rfl (q := 7) rfl ?_
    refine own_bipush X0 hx (hb hby d2_7) (v := (9 : Int32)) rfl (q := 9) rfl ?_
    refine own_icmp X0 hx (hb hby d2_9) (by decide) (q := 16) rfl (q' := 12) rfl (own_h_ne _ _) (fun h9 => ?_) (fun h9 => ?_)
    · replace h9 : p1.toInt ≠ 9 := h9
      refine own_iconst X0 hx (hb hby d2_16) (v := (0 : Int32)) rfl (q := 17) rfl ?_
      exact own_retN X0 hx (t := .boolean) hret hlk (by simp) (hb hby d2_17) (by decide) (by decide) (w := (0 : Int32)) rfl ⟨⟨_, rfl, ⟨_, rfl, by have hc_ : (0 : Int32).toInt = 0 := rfl; omega⟩⟩, rfl, e0⟩
    · replace h9 : ¬ (p1.toInt ≠ 9) := h9
      refine own_iconst X0 hx (hb hby d2_12) (v := (1 : Int32)) rfl (q := 13) rfl ?_
      refine own_goto X0 hx (hb hby d2_13) (by decide) (q := 17) rfl ?_
      exact own_retN X0 hx (t := .boolean) hret hlk (by simp) (hb hby d2_17) (by decide) (by decide) (w := (1 : Int32)) rfl ⟨⟨_, rfl, ⟨_, rfl, by have hc_ : (1 : Int32).toInt = 1 := rfl; omega⟩⟩, rfl, e0⟩
theorem d3_0 : decode method_5_code 0 = .ok (.iload_n 0, 1) := by decide +kernel
theorem d3_1 : decode method_5_code 1 = .ok (.bipush 48, 2) := by decide +kernel
theorem d3_3 : decode method_5_code 3 = .ok (.if_icmp .lt 13, 3) := by decide +kernel
theorem d3_6 : decode method_5_code 6 = .ok (.iload_n 0, 1) := by decide +kernel
theorem d3_7 : decode method_5_code 7 = .ok (.bipush 57, 2) := by decide +kernel
theorem d3_9 : decode method_5_code 9 = .ok (.if_icmp .gt 7, 3) := by decide +kernel
theorem d3_12 : decode method_5_code 12 = .ok (.iconst 1, 1) := by decide +kernel
theorem d3_13 : decode method_5_code 13 = .ok (.goto 4, 3) := by decide +kernel
theorem d3_16 : decode method_5_code 16 = .ok (.iconst 0, 1) := by decide +kernel
theorem d3_17 : decode method_5_code 17 = .ok (.ireturn, 1) := by decide +kernel
theorem own_pn3 : plainName "com/example/pillbug/pillbug/core/Base64RunsDigitsMayEndLineAlonePinLaw" = true := by first | (simp [plainName, overriddenIn]; done) | decide +kernel
theorem own_ef3 (m : MethodId) (p1 : Int32) : entryFrame m #[(.int p1)] 1 = mkF m 0 #[.val (.int p1)] [] := by first | (simp [entryFrame, mkF, argsToLocals, Value.category, maxLocals]; done) | rfl
set_option maxRecDepth 65536 in
set_option maxHeartbeats 40000000 in
theorem own_rm3 (l : Launch) (Z : State) (a0 : Array Value) (hw : ∀ d ∈ tables_1, d.before a0 Z = true) (ws : List Jvm.Cond) (p1 : Int32)  (h0 : Heap)  :
    MetFree l (⟨"com/example/pillbug/pillbug/core/Base64RunsDigitsMayEndLineAlonePinLaw", "isDec", "(B)Z"⟩ : MethodName) (head1 (Jvm.Cond.code (⟨"com/example/pillbug/pillbug/core/Base64RunsDigitsMayEndLineAlonePinLaw", "isDec", "(B)Z"⟩ : MethodName) method_5_code 1 (some .boolean) :: ws) ({ frames := 0, cells := 0, slots := 0, locals := 0 } : Room)) (fun a U => a = #[(.int p1)] ∧ Z.Warmed39 U.vm ∧ U.heap = h0) (fun _ _ _ _ _ => True) (fun _ U o U' => ∃ v L, o = .returned v ∧ (fun v h L => (∃ w, v = some w ∧ (fun w => ∃ z : Int32, w = .int z ∧ (((48 ≤ p1.toInt ∧ p1.toInt ≤ 57) ∧ z.toInt = 1) ∨ (¬ (48 ≤ p1.toInt ∧ p1.toInt ≤ 57) ∧ z.toInt = 0))) w) ∧ L = [] ∧ h = h0) v U'.heap L ∧ FrameEnd U o U' L ({ frames := 0, cells := 0, slots := 0, locals := 0 } : Room).cells ({ frames := 0, cells := 0, slots := 0, locals := 0 } : Room).slots) := by
  refine own_body (y := (⟨"com/example/pillbug/pillbug/core/Base64RunsDigitsMayEndLineAlonePinLaw", "isDec", "(B)Z"⟩ : MethodName)) (Q := fun v h L => (∃ w, v = some w ∧ (fun w => ∃ z : Int32, w = .int z ∧ (((48 ≤ p1.toInt ∧ p1.toInt ≤ 57) ∧ z.toInt = 1) ∨ (¬ (48 ≤ p1.toInt ∧ p1.toInt ≤ 57) ∧ z.toInt = 0))) w) ∧ L = [] ∧ h = h0) (rm := ({ frames := 0, cells := 0, slots := 0, locals := 0 } : Room)) (as' := #[(.int p1)]) (h0 := h0) (Z := Z) own_pn3 ?_
  intro p e s m below meth c s₁ hx hby hml hown hnm hret hlk hZ X0 e0
  have hown : s.vm.findClass "com/example/pillbug/pillbug/core/Base64RunsDigitsMayEndLineAlonePinLaw" = some m.cls := hown
  rw [own_ef3]
  refine own_iload_n X0 hx (hb hby d3_0) rfl (q := 1) rfl ?_
  refine own_bipush X0 hx (hb hby d3_1) (v := (48 : Int32)) rfl (q := 3) rfl ?_
  refine own_icmp X0 hx (hb hby d3_3) (by decide) (q := 16) rfl (q' := 6) rfl (own_h_lt _ _) (fun h3 => ?_) (fun h3 => ?_)
  · replace h3 : p1.toInt < 48 := h3
    refine own_iconst X0 hx (hb hby d3_16) (v := (0 : Int32)) rfl (q := 17) rfl ?_
    exact own_retN X0 hx (t := .boolean) hret hlk (by simp) (hb hby d3_17) (by decide) (by decide) (w := (0 : Int32)) rfl ⟨⟨_, rfl, ⟨_, rfl, by have hc_ : (0 : Int32).toInt = 0 := rfl; omega⟩⟩, rfl, e0⟩
  · replace h3 : ¬ (p1.toInt < 48) := h3
    refine own_iload_n X0 hx (hb hby d3_6) rfl (q := 7) rfl ?_
    refine own_bipush X0 hx (hb hby d3_7) (v := (57 : Int32)) rfl (q := 9) rfl ?_
    refine own_icmp X0 hx (hb hby d3_9) (by decide) (q := 16) rfl (q' := 12) rfl (own_h_gt _ _) (fun h9 => ?_) (fun h9 => ?_)
    · replace h9 : 57 < p1.toInt := h9
      refine own_iconst X0 hx (hb hby d3_16) (v := (0 : Int32)) rfl (q := 17) rfl ?_
      exact own_retN X0 hx (t := .boolean) hret hlk (by simp) (hb hby d3_17) (by decide) (by decide) (w := (0 : Int32)) rfl ⟨⟨_, rfl, ⟨_, rfl, by have hc_ : (0 : Int32).toInt = 0 := rfl; omega⟩⟩, rfl, e0⟩
    · replace h9 : ¬ (57 < p1.toInt) := h9
      refine own_iconst X0 hx (hb hby d3_12) (v := (1 : Int32)) rfl (q := 13) rfl ?_
      refine own_goto X0 hx (hb hby d3_13) (by decide) (q := 17) rfl ?_
      exact own_retN X0 hx (t := .boolean) hret hlk (by simp) (hb hby d3_17) (by decide) (by decide) (w := (1 : Int32)) rfl ⟨⟨_, rfl, ⟨_, rfl, by have hc_ : (1 : Int32).toInt = 1 := rfl; omega⟩⟩, rfl, e0⟩
theorem d4_0 : decode method_6_code 0 = .ok (.iload_n 2, 1) := by decide +kernel
theorem d4_1 : decode method_6_code 1 = .ok (.iload_n 3, 1) := by decide +kernel
theorem d4_2 : decode method_6_code 2 = .ok (.if_icmp .lt 9, 3) := by decide +kernel
theorem d4_5 : decode method_6_code 5 = .ok (.iload_n 2, 1) := by decide +kernel
theorem d4_6 : decode method_6_code 6 = .ok (.iload 4, 2) := by decide +kernel
theorem d4_8 : decode method_6_code 8 = .ok (.if_icmp .lt 5, 3) := by decide +kernel
theorem d4_11 : decode method_6_code 11 = .ok (.iload_n 0, 1) := by decide +kernel
theorem d4_12 : decode method_6_code 12 = .ok (.ireturn, 1) := by decide +kernel
theorem d4_13 : decode method_6_code 13 = .ok (.aload_n 1, 1) := by decide +kernel
theorem d4_14 : decode method_6_code 14 = .ok (.iload_n 2, 1) := by decide +kernel
theorem d4_15 : decode method_6_code 15 = .ok (.baload, 1) := by decide +kernel
theorem d4_16 : decode method_6_code 16 = .ok (.istore 5, 2) := by decide +kernel
theorem d4_18 : decode method_6_code 18 = .ok (.iload_n 0, 1) := by decide +kernel
theorem d4_19 : decode method_6_code 19 = .ok (.ifCond .ne 29, 3) := by decide +kernel
theorem d4_22 : decode method_6_code 22 = .ok (.iload 5, 2) := by decide +kernel
theorem d4_24 : decode method_6_code 24 = .ok (.invokestatic 28, 3) := by decide +kernel
theorem d4_27 : decode method_6_code 27 = .ok (.ifCond .eq 7, 3) := by decide +kernel
theorem d4_30 : decode method_6_code 30 = .ok (.iconst 0, 1) := by decide +kernel
theorem d4_31 : decode method_6_code 31 = .ok (.goto 16, 3) := by decide +kernel
theorem d4_34 : decode method_6_code 34 = .ok (.iload 5, 2) := by decide +kernel
theorem d4_36 : decode method_6_code 36 = .ok (.invokestatic 32, 3) := by decide +kernel
theorem d4_39 : decode method_6_code 39 = .ok (.ifCond .eq 7, 3) := by decide +kernel
theorem d4_42 : decode method_6_code 42 = .ok (.iconst 1, 1) := by decide +kernel
theorem d4_43 : decode method_6_code 43 = .ok (.goto 4, 3) := by decide +kernel
theorem d4_46 : decode method_6_code 46 = .ok (.iconst 3, 1) := by decide +kernel
theorem d4_47 : decode method_6_code 47 = .ok (.ireturn, 1) := by decide +kernel
theorem d4_48 : decode method_6_code 48 = .ok (.iload_n 0, 1) := by decide +kernel
theorem d4_49 : decode method_6_code 49 = .ok (.iconst 1, 1) := by decide +kernel
theorem d4_50 : decode method_6_code 50 = .ok (.if_icmp .ne 29, 3) := by decide +kernel
theorem d4_53 : decode method_6_code 53 = .ok (.iload 5, 2) := by decide +kernel
theorem d4_55 : decode method_6_code 55 = .ok (.invokestatic 28, 3) := by decide +kernel
theorem d4_58 : decode method_6_code 58 = .ok (.ifCond .eq 7, 3) := by decide +kernel
theorem d4_61 : decode method_6_code 61 = .ok (.iconst 2, 1) := by decide +kernel
theorem d4_62 : decode method_6_code 62 = .ok (.goto 16, 3) := by decide +kernel
theorem d4_65 : decode method_6_code 65 = .ok (.iload 5, 2) := by decide +kernel
theorem d4_67 : decode method_6_code 67 = .ok (.invokestatic 32, 3) := by decide +kernel
theorem d4_70 : decode method_6_code 70 = .ok (.ifCond .eq 7, 3) := by decide +kernel
theorem d4_73 : decode method_6_code 73 = .ok (.iconst 1, 1) := by decide +kernel
theorem d4_74 : decode method_6_code 74 = .ok (.goto 4, 3) := by decide +kernel
theorem d4_77 : decode method_6_code 77 = .ok (.iconst 3, 1) := by decide +kernel
theorem d4_78 : decode method_6_code 78 = .ok (.ireturn, 1) := by decide +kernel
theorem d4_79 : decode method_6_code 79 = .ok (.iload_n 0, 1) := by decide +kernel
theorem d4_80 : decode method_6_code 80 = .ok (.iconst 2, 1) := by decide +kernel
theorem d4_81 : decode method_6_code 81 = .ok (.if_icmp .ne 17, 3) := by decide +kernel
theorem d4_84 : decode method_6_code 84 = .ok (.iload 5, 2) := by decide +kernel
theorem d4_86 : decode method_6_code 86 = .ok (.invokestatic 28, 3) := by decide +kernel
theorem d4_89 : decode method_6_code 89 = .ok (.ifCond .eq 7, 3) := by decide +kernel
theorem d4_92 : decode method_6_code 92 = .ok (.iconst 2, 1) := by decide +kernel
theorem d4_93 : decode method_6_code 93 = .ok (.goto 4, 3) := by decide +kernel
theorem d4_96 : decode method_6_code 96 = .ok (.iconst 3, 1) := by decide +kernel
theorem d4_97 : decode method_6_code 97 = .ok (.ireturn, 1) := by decide +kernel
theorem d4_98 : decode method_6_code 98 = .ok (.iconst 3, 1) := by decide +kernel
theorem d4_99 : decode method_6_code 99 = .ok (.ireturn, 1) := by decide +kernel
theorem own_pn4 : plainName "com/example/pillbug/pillbug/core/Base64RunsDigitsMayEndLineAlonePinLaw" = true := by first | (simp [plainName, overriddenIn]; done) | decide +kernel
theorem own_ef4 (m : MethodId) (p1 : Int32) (a1 : Addr) (p2 : Int32) (p3 : Int32) (p4 : Int32) : entryFrame m #[(.int p1), (.ref a1), (.int p2), (.int p3), (.int p4)] 6 = mkF m 0 #[.val (.int p1), .val (.ref a1), .val (.int p2), .val (.int p3), .val (.int p4), .unset] [] := by first | (simp [entryFrame, mkF, argsToLocals, Value.category, maxLocals]; done) | rfl
set_option maxRecDepth 65536 in
set_option maxHeartbeats 40000000 in
theorem own_rm4 (l : Launch) (Z : State) (a0 : Array Value) (hw : ∀ d ∈ tables_1, d.before a0 Z = true) (ws : List Jvm.Cond) (p1 : Int32) (a1 : Addr) (p2 : Int32) (p3 : Int32) (p4 : Int32) (f : Nat → Int32) (n : Nat) (h0 : Heap) (A : own_Arr Z h0 a1 .byte 6 (fun i => .int (f i))) (hn : p2.toInt = (n : Int)) (hn6 : n < 6) :
    MetFree l (⟨"com/example/pillbug/pillbug/core/Base64RunsDigitsMayEndLineAlonePinLaw", "adv", "(I[BIII)I"⟩ : MethodName) (head1 (Jvm.Cond.code (⟨"com/example/pillbug/pillbug/core/Base64RunsDigitsMayEndLineAlonePinLaw", "adv", "(I[BIII)I"⟩ : MethodName) method_6_code 6 (some .int) :: ws) ({ frames := 1, cells := 0, slots := 0, locals := 12 } : Room)) (fun a U => a = #[(.int p1), (.ref a1), (.int p2), (.int p3), (.int p4)] ∧ Z.Warmed39 U.vm ∧ U.heap = h0) (fun _ _ _ _ _ => True) (fun _ U o U' => ∃ v L, o = .returned v ∧ (fun v h L => (∃ w, v = some w ∧ (fun w => ∃ z : Int32, w = .int z ∧ (((p2.toInt < p3.toInt ∨ p4.toInt ≤ p2.toInt) ∧ z.toInt = p1.toInt) ∨ ((p3.toInt ≤ p2.toInt ∧ p2.toInt < p4.toInt) ∧ own_Adv p1.toInt (f n).toInt z.toInt))) w) ∧ L = [] ∧ h = h0) v U'.heap L ∧ FrameEnd U o U' L ({ frames := 1, cells := 0, slots := 0, locals := 12 } : Room).cells ({ frames := 1, cells := 0, slots := 0, locals := 12 } : Room).slots) := by
  refine own_body (y := (⟨"com/example/pillbug/pillbug/core/Base64RunsDigitsMayEndLineAlonePinLaw", "adv", "(I[BIII)I"⟩ : MethodName)) (Q := fun v h L => (∃ w, v = some w ∧ (fun w => ∃ z : Int32, w = .int z ∧ (((p2.toInt < p3.toInt ∨ p4.toInt ≤ p2.toInt) ∧ z.toInt = p1.toInt) ∨ ((p3.toInt ≤ p2.toInt ∧ p2.toInt < p4.toInt) ∧ own_Adv p1.toInt (f n).toInt z.toInt))) w) ∧ L = [] ∧ h = h0) (rm := ({ frames := 1, cells := 0, slots := 0, locals := 12 } : Room)) (as' := #[(.int p1), (.ref a1), (.int p2), (.int p3), (.int p4)]) (h0 := h0) (Z := Z) own_pn4 ?_
  intro p e s m below meth c s₁ hx hby hml hown hnm hret hlk hZ X0 e0
  have hown : s.vm.findClass "com/example/pillbug/pillbug/core/Base64RunsDigitsMayEndLineAlonePinLaw" = some m.cls := hown
  rw [own_ef4]
  refine own_iload_n X0 hx (hb hby d4_0) rfl (q := 1) rfl ?_
  refine own_iload_n X0 hx (hb hby d4_1) rfl (q := 2) rfl ?_
  refine own_icmp X0 hx (hb hby d4_2) (by decide) (q := 11) rfl (q' := 5) rfl (own_h_lt _ _) (fun h2 => ?_) (fun h2 => ?_)
  · replace h2 : p2.toInt < p3.toInt := h2
    refine own_iload_n X0 hx (hb hby d4_11) rfl (q := 12) rfl ?_
    exact own_retI X0 hx hret hlk (hb hby d4_12) (by decide) (by decide) ⟨⟨_, rfl, ⟨_, rfl, by first | exact Or.inl ⟨by omega, by omega⟩ | (refine Or.inr ⟨by omega, ?_⟩; unfold own_Adv; first | exact Or.inl ⟨by omega, by omega, by omega⟩ | exact Or.inr (Or.inl ⟨by omega, by omega, by omega⟩) | exact Or.inr (Or.inr (Or.inl ⟨by omega, by omega, by omega, by omega⟩)) | exact Or.inr (Or.inr (Or.inr (Or.inl ⟨by omega, by omega, by omega⟩))) | exact Or.inr (Or.inr (Or.inr (Or.inr (Or.inl ⟨by omega, by omega, by omega⟩)))) | exact Or.inr (Or.inr (Or.inr (Or.inr (Or.inr (Or.inl ⟨by omega, by omega, by omega, by omega⟩))))) | exact Or.inr (Or.inr (Or.inr (Or.inr (Or.inr (Or.inr (Or.inl ⟨by omega, by omega, by omega⟩)))))) | exact Or.inr (Or.inr (Or.inr (Or.inr (Or.inr (Or.inr (Or.inr (Or.inl ⟨by omega, by omega, by omega⟩))))))) | exact Or.inr (Or.inr (Or.inr (Or.inr (Or.inr (Or.inr (Or.inr (Or.inr (⟨by omega, by omega, by omega, by omega⟩)))))))))⟩⟩, rfl, e0⟩
  · replace h2 : ¬ (p2.toInt < p3.toInt) := h2
    refine own_iload_n X0 hx (hb hby d4_5) rfl (q := 6) rfl ?_
    refine own_iload X0 hx (hb hby d4_6) rfl (q := 8) rfl ?_
    refine own_icmp X0 hx (hb hby d4_8) (by decide) (q := 13) rfl (q' := 11) rfl (own_h_lt _ _) (fun h8 => ?_) (fun h8 => ?_)
    · replace h8 : p2.toInt < p4.toInt := h8
      refine own_aload_n X0 hx (hb hby d4_13) rfl rfl (q := 14) rfl ?_
      refine own_iload_n X0 hx (hb hby d4_14) rfl (q := 15) rfl ?_
      refine own_baload X0 hx hZ e0 A (hb hby d4_15) (i := n) (hn) (by omega) (v := .int (f n)) rfl (q := 16) rfl ?_
      refine own_istore X0 hx (hb hby d4_16) (l' := #[.val (.int p1), .val (.ref a1), .val (.int p2), .val (.int p3), .val (.int p4), .val (.int (f n))]) rfl (q := 18) rfl ?_
      refine own_iload_n X0 hx (hb hby d4_18) rfl (q := 19) rfl ?_
      refine own_if X0 hx (hb hby d4_19) (by decide) (q := 48) rfl (q' := 22) rfl (own_z_ne _) (fun h19 => ?_) (fun h19 => ?_)
      · replace h19 : p1.toInt ≠ 0 := h19
        refine own_iload_n X0 hx (hb hby d4_48) rfl (q := 49) rfl ?_
        refine own_iconst X0 hx (hb hby d4_49) (v := (1 : Int32)) rfl (q := 50) rfl ?_
        refine own_icmp X0 hx (hb hby d4_50) (by decide) (q := 79) rfl (q' := 53) rfl (own_h_ne _ _) (fun h50 => ?_) (fun h50 => ?_)
        · replace h50 : p1.toInt ≠ 1 := h50
          refine own_iload_n X0 hx (hb hby d4_79) rfl (q := 80) rfl ?_
          refine own_iconst X0 hx (hb hby d4_80) (v := (2 : Int32)) rfl (q := 81) rfl ?_
          refine own_icmp X0 hx (hb hby d4_81) (by decide) (q := 98) rfl (q' := 84) rfl (own_h_ne _ _) (fun h81 => ?_) (fun h81 => ?_)
          · replace h81 : p1.toInt ≠ 2 := h81
            refine own_iconst X0 hx (hb hby d4_98) (v := (3 : Int32)) rfl (q := 99) rfl ?_
            exact own_retI X0 hx hret hlk (hb hby d4_99) (by decide) (by decide) ⟨⟨_, rfl, ⟨_, rfl, by have hc_ : (3 : Int32).toInt = 3 := rfl; first | exact Or.inl ⟨by omega, by omega⟩ | (refine Or.inr ⟨by omega, ?_⟩; unfold own_Adv; first | exact Or.inl ⟨by omega, by omega, by omega⟩ | exact Or.inr (Or.inl ⟨by omega, by omega, by omega⟩) | exact Or.inr (Or.inr (Or.inl ⟨by omega, by omega, by omega, by omega⟩)) | exact Or.inr (Or.inr (Or.inr (Or.inl ⟨by omega, by omega, by omega⟩))) | exact Or.inr (Or.inr (Or.inr (Or.inr (Or.inl ⟨by omega, by omega, by omega⟩)))) | exact Or.inr (Or.inr (Or.inr (Or.inr (Or.inr (Or.inl ⟨by omega, by omega, by omega, by omega⟩))))) | exact Or.inr (Or.inr (Or.inr (Or.inr (Or.inr (Or.inr (Or.inl ⟨by omega, by omega, by omega⟩)))))) | exact Or.inr (Or.inr (Or.inr (Or.inr (Or.inr (Or.inr (Or.inr (Or.inl ⟨by omega, by omega, by omega⟩))))))) | exact Or.inr (Or.inr (Or.inr (Or.inr (Or.inr (Or.inr (Or.inr (Or.inr (⟨by omega, by omega, by omega, by omega⟩)))))))))⟩⟩, rfl, e0⟩
          · replace h81 : ¬ (p1.toInt ≠ 2) := h81
            refine own_iload X0 hx (hb hby d4_84) rfl (q := 86) rfl ?_
            refine own_callSP X0 hx hZ hown (hw _ (List.mem_of_getElem? (i := 16) rfl)) (hw _ (List.mem_of_getElem? (i := 17) rfl)) (hw _ (List.mem_of_getElem? (i := 3) rfl)) (hw _ (List.mem_of_getElem? (i := 18) rfl)) (by decide) (own_rm2 l Z a0 hw [] (f n)  h0 ) (by decide) (by decide) e0 (by rw [hml]; rfl) (argsL := [(.int (f n))]) (rest := []) (lenOf own_pd0 rfl) rfl (W := 0) rfl (hb hby d4_86) (q := 89) rfl rfl rfl rfl (by decide) (by decide) ?_
            rintro _ T1 ⟨z1, rfl, hz1⟩ X1 e1
            refine own_if X1 hx (hb hby d4_89) (by decide) (q := 96) rfl (q' := 92) rfl (own_z_eq _) (fun h89 => ?_) (fun h89 => ?_)
            · replace h89 : z1.toInt = 0 := h89
              refine own_iconst X1 hx (hb hby d4_96) (v := (3 : Int32)) rfl (q := 97) rfl ?_
              exact own_retI X1 hx hret hlk (hb hby d4_97) (by decide) (by decide) ⟨⟨_, rfl, ⟨_, rfl, by have hc_ : (3 : Int32).toInt = 3 := rfl; first | exact Or.inl ⟨by omega, by omega⟩ | (refine Or.inr ⟨by omega, ?_⟩; unfold own_Adv; first | exact Or.inl ⟨by omega, by omega, by omega⟩ | exact Or.inr (Or.inl ⟨by omega, by omega, by omega⟩) | exact Or.inr (Or.inr (Or.inl ⟨by omega, by omega, by omega, by omega⟩)) | exact Or.inr (Or.inr (Or.inr (Or.inl ⟨by omega, by omega, by omega⟩))) | exact Or.inr (Or.inr (Or.inr (Or.inr (Or.inl ⟨by omega, by omega, by omega⟩)))) | exact Or.inr (Or.inr (Or.inr (Or.inr (Or.inr (Or.inl ⟨by omega, by omega, by omega, by omega⟩))))) | exact Or.inr (Or.inr (Or.inr (Or.inr (Or.inr (Or.inr (Or.inl ⟨by omega, by omega, by omega⟩)))))) | exact Or.inr (Or.inr (Or.inr (Or.inr (Or.inr (Or.inr (Or.inr (Or.inl ⟨by omega, by omega, by omega⟩))))))) | exact Or.inr (Or.inr (Or.inr (Or.inr (Or.inr (Or.inr (Or.inr (Or.inr (⟨by omega, by omega, by omega, by omega⟩)))))))))⟩⟩, rfl, e1⟩
            · replace h89 : ¬ (z1.toInt = 0) := h89
              refine own_iconst X1 hx (hb hby d4_92) (v := (2 : Int32)) rfl (q := 93) rfl ?_
              refine own_goto X1 hx (hb hby d4_93) (by decide) (q := 97) rfl ?_
              exact own_retI X1 hx hret hlk (hb hby d4_97) (by decide) (by decide) ⟨⟨_, rfl, ⟨_, rfl, by have hc_ : (2 : Int32).toInt = 2 := rfl; first | exact Or.inl ⟨by omega, by omega⟩ | (refine Or.inr ⟨by omega, ?_⟩; unfold own_Adv; first | exact Or.inl ⟨by omega, by omega, by omega⟩ | exact Or.inr (Or.inl ⟨by omega, by omega, by omega⟩) | exact Or.inr (Or.inr (Or.inl ⟨by omega, by omega, by omega, by omega⟩)) | exact Or.inr (Or.inr (Or.inr (Or.inl ⟨by omega, by omega, by omega⟩))) | exact Or.inr (Or.inr (Or.inr (Or.inr (Or.inl ⟨by omega, by omega, by omega⟩)))) | exact Or.inr (Or.inr (Or.inr (Or.inr (Or.inr (Or.inl ⟨by omega, by omega, by omega, by omega⟩))))) | exact Or.inr (Or.inr (Or.inr (Or.inr (Or.inr (Or.inr (Or.inl ⟨by omega, by omega, by omega⟩)))))) | exact Or.inr (Or.inr (Or.inr (Or.inr (Or.inr (Or.inr (Or.inr (Or.inl ⟨by omega, by omega, by omega⟩))))))) | exact Or.inr (Or.inr (Or.inr (Or.inr (Or.inr (Or.inr (Or.inr (Or.inr (⟨by omega, by omega, by omega, by omega⟩)))))))))⟩⟩, rfl, e1⟩
        · replace h50 : ¬ (p1.toInt ≠ 1) := h50
          refine own_iload X0 hx (hb hby d4_53) rfl (q := 55) rfl ?_
          refine own_callSP X0 hx hZ hown (hw _ (List.mem_of_getElem? (i := 16) rfl)) (hw _ (List.mem_of_getElem? (i := 17) rfl)) (hw _ (List.mem_of_getElem? (i := 3) rfl)) (hw _ (List.mem_of_getElem? (i := 18) rfl)) (by decide) (own_rm2 l Z a0 hw [] (f n)  h0 ) (by decide) (by decide) e0 (by rw [hml]; rfl) (argsL := [(.int (f n))]) (rest := []) (lenOf own_pd0 rfl) rfl (W := 0) rfl (hb hby d4_55) (q := 58) rfl rfl rfl rfl (by decide) (by decide) ?_
          rintro _ T2 ⟨z2, rfl, hz2⟩ X2 e2
          refine own_if X2 hx (hb hby d4_58) (by decide) (q := 65) rfl (q' := 61) rfl (own_z_eq _) (fun h58 => ?_) (fun h58 => ?_)
          · replace h58 : z2.toInt = 0 := h58
            refine own_iload X2 hx (hb hby d4_65) rfl (q := 67) rfl ?_
            refine own_callSP X2 hx hZ hown (hw _ (List.mem_of_getElem? (i := 19) rfl)) (hw _ (List.mem_of_getElem? (i := 20) rfl)) (hw _ (List.mem_of_getElem? (i := 3) rfl)) (hw _ (List.mem_of_getElem? (i := 21) rfl)) (by decide) (own_rm3 l Z a0 hw [] (f n)  h0 ) (by decide) (by decide) e2 (by rw [hml]; rfl) (argsL := [(.int (f n))]) (rest := []) (lenOf own_pd0 rfl) rfl (W := 0) rfl (hb hby d4_67) (q := 70) rfl rfl rfl rfl (by decide) (by decide) ?_
            rintro _ T3 ⟨z3, rfl, hz3⟩ X3 e3
            refine own_if X3 hx (hb hby d4_70) (by decide) (q := 77) rfl (q' := 73) rfl (own_z_eq _) (fun h70 => ?_) (fun h70 => ?_)
            · replace h70 : z3.toInt = 0 := h70
              refine own_iconst X3 hx (hb hby d4_77) (v := (3 : Int32)) rfl (q := 78) rfl ?_
              exact own_retI X3 hx hret hlk (hb hby d4_78) (by decide) (by decide) ⟨⟨_, rfl, ⟨_, rfl, by have hc_ : (3 : Int32).toInt = 3 := rfl; first | exact Or.inl ⟨by omega, by omega⟩ | (refine Or.inr ⟨by omega, ?_⟩; unfold own_Adv; first | exact Or.inl ⟨by omega, by omega, by omega⟩ | exact Or.inr (Or.inl ⟨by omega, by omega, by omega⟩) | exact Or.inr (Or.inr (Or.inl ⟨by omega, by omega, by omega, by omega⟩)) | exact Or.inr (Or.inr (Or.inr (Or.inl ⟨by omega, by omega, by omega⟩))) | exact Or.inr (Or.inr (Or.inr (Or.inr (Or.inl ⟨by omega, by omega, by omega⟩)))) | exact Or.inr (Or.inr (Or.inr (Or.inr (Or.inr (Or.inl ⟨by omega, by omega, by omega, by omega⟩))))) | exact Or.inr (Or.inr (Or.inr (Or.inr (Or.inr (Or.inr (Or.inl ⟨by omega, by omega, by omega⟩)))))) | exact Or.inr (Or.inr (Or.inr (Or.inr (Or.inr (Or.inr (Or.inr (Or.inl ⟨by omega, by omega, by omega⟩))))))) | exact Or.inr (Or.inr (Or.inr (Or.inr (Or.inr (Or.inr (Or.inr (Or.inr (⟨by omega, by omega, by omega, by omega⟩)))))))))⟩⟩, rfl, e3⟩
            · replace h70 : ¬ (z3.toInt = 0) := h70
              refine own_iconst X3 hx (hb hby d4_73) (v := (1 : Int32)) rfl (q := 74) rfl ?_
              refine own_goto X3 hx (hb hby d4_74) (by decide) (q := 78) rfl ?_
              exact own_retI X3 hx hret hlk (hb hby d4_78) (by decide) (by decide) ⟨⟨_, rfl, ⟨_, rfl, by have hc_ : (1 : Int32).toInt = 1 := rfl; first | exact Or.inl ⟨by omega, by omega⟩ | (refine Or.inr ⟨by omega, ?_⟩; unfold own_Adv; first | exact Or.inl ⟨by omega, by omega, by omega⟩ | exact Or.inr (Or.inl ⟨by omega, by omega, by omega⟩) | exact Or.inr (Or.inr (Or.inl ⟨by omega, by omega, by omega, by omega⟩)) | exact Or.inr (Or.inr (Or.inr (Or.inl ⟨by omega, by omega, by omega⟩))) | exact Or.inr (Or.inr (Or.inr (Or.inr (Or.inl ⟨by omega, by omega, by omega⟩)))) | exact Or.inr (Or.inr (Or.inr (Or.inr (Or.inr (Or.inl ⟨by omega, by omega, by omega, by omega⟩))))) | exact Or.inr (Or.inr (Or.inr (Or.inr (Or.inr (Or.inr (Or.inl ⟨by omega, by omega, by omega⟩)))))) | exact Or.inr (Or.inr (Or.inr (Or.inr (Or.inr (Or.inr (Or.inr (Or.inl ⟨by omega, by omega, by omega⟩))))))) | exact Or.inr (Or.inr (Or.inr (Or.inr (Or.inr (Or.inr (Or.inr (Or.inr (⟨by omega, by omega, by omega, by omega⟩)))))))))⟩⟩, rfl, e3⟩
          · replace h58 : ¬ (z2.toInt = 0) := h58
            refine own_iconst X2 hx (hb hby d4_61) (v := (2 : Int32)) rfl (q := 62) rfl ?_
            refine own_goto X2 hx (hb hby d4_62) (by decide) (q := 78) rfl ?_
            exact own_retI X2 hx hret hlk (hb hby d4_78) (by decide) (by decide) ⟨⟨_, rfl, ⟨_, rfl, by have hc_ : (2 : Int32).toInt = 2 := rfl; first | exact Or.inl ⟨by omega, by omega⟩ | (refine Or.inr ⟨by omega, ?_⟩; unfold own_Adv; first | exact Or.inl ⟨by omega, by omega, by omega⟩ | exact Or.inr (Or.inl ⟨by omega, by omega, by omega⟩) | exact Or.inr (Or.inr (Or.inl ⟨by omega, by omega, by omega, by omega⟩)) | exact Or.inr (Or.inr (Or.inr (Or.inl ⟨by omega, by omega, by omega⟩))) | exact Or.inr (Or.inr (Or.inr (Or.inr (Or.inl ⟨by omega, by omega, by omega⟩)))) | exact Or.inr (Or.inr (Or.inr (Or.inr (Or.inr (Or.inl ⟨by omega, by omega, by omega, by omega⟩))))) | exact Or.inr (Or.inr (Or.inr (Or.inr (Or.inr (Or.inr (Or.inl ⟨by omega, by omega, by omega⟩)))))) | exact Or.inr (Or.inr (Or.inr (Or.inr (Or.inr (Or.inr (Or.inr (Or.inl ⟨by omega, by omega, by omega⟩))))))) | exact Or.inr (Or.inr (Or.inr (Or.inr (Or.inr (Or.inr (Or.inr (Or.inr (⟨by omega, by omega, by omega, by omega⟩)))))))))⟩⟩, rfl, e2⟩
      · replace h19 : ¬ (p1.toInt ≠ 0) := h19
        refine own_iload X0 hx (hb hby d4_22) rfl (q := 24) rfl ?_
        refine own_callSP X0 hx hZ hown (hw _ (List.mem_of_getElem? (i := 16) rfl)) (hw _ (List.mem_of_getElem? (i := 17) rfl)) (hw _ (List.mem_of_getElem? (i := 3) rfl)) (hw _ (List.mem_of_getElem? (i := 18) rfl)) (by decide) (own_rm2 l Z a0 hw [] (f n)  h0 ) (by decide) (by decide) e0 (by rw [hml]; rfl) (argsL := [(.int (f n))]) (rest := []) (lenOf own_pd0 rfl) rfl (W := 0) rfl (hb hby d4_24) (q := 27) rfl rfl rfl rfl (by decide) (by decide) ?_
        rintro _ T4 ⟨z4, rfl, hz4⟩ X4 e4
        refine own_if X4 hx (hb hby d4_27) (by decide) (q := 34) rfl (q' := 30) rfl (own_z_eq _) (fun h27 => ?_) (fun h27 => ?_)
        · replace h27 : z4.toInt = 0 := h27
          refine own_iload X4 hx (hb hby d4_34) rfl (q := 36) rfl ?_
          refine own_callSP X4 hx hZ hown (hw _ (List.mem_of_getElem? (i := 19) rfl)) (hw _ (List.mem_of_getElem? (i := 20) rfl)) (hw _ (List.mem_of_getElem? (i := 3) rfl)) (hw _ (List.mem_of_getElem? (i := 21) rfl)) (by decide) (own_rm3 l Z a0 hw [] (f n)  h0 ) (by decide) (by decide) e4 (by rw [hml]; rfl) (argsL := [(.int (f n))]) (rest := []) (lenOf own_pd0 rfl) rfl (W := 0) rfl (hb hby d4_36) (q := 39) rfl rfl rfl rfl (by decide) (by decide) ?_
          rintro _ T5 ⟨z5, rfl, hz5⟩ X5 e5
          refine own_if X5 hx (hb hby d4_39) (by decide) (q := 46) rfl (q' := 42) rfl (own_z_eq _) (fun h39 => ?_) (fun h39 => ?_)
          · replace h39 : z5.toInt = 0 := h39
            refine own_iconst X5 hx (hb hby d4_46) (v := (3 : Int32)) rfl (q := 47) rfl ?_
            exact own_retI X5 hx hret hlk (hb hby d4_47) (by decide) (by decide) ⟨⟨_, rfl, ⟨_, rfl, by have hc_ : (3 : Int32).toInt = 3 := rfl; first | exact Or.inl ⟨by omega, by omega⟩ | (refine Or.inr ⟨by omega, ?_⟩; unfold own_Adv; first | exact Or.inl ⟨by omega, by omega, by omega⟩ | exact Or.inr (Or.inl ⟨by omega, by omega, by omega⟩) | exact Or.inr (Or.inr (Or.inl ⟨by omega, by omega, by omega, by omega⟩)) | exact Or.inr (Or.inr (Or.inr (Or.inl ⟨by omega, by omega, by omega⟩))) | exact Or.inr (Or.inr (Or.inr (Or.inr (Or.inl ⟨by omega, by omega, by omega⟩)))) | exact Or.inr (Or.inr (Or.inr (Or.inr (Or.inr (Or.inl ⟨by omega, by omega, by omega, by omega⟩))))) | exact Or.inr (Or.inr (Or.inr (Or.inr (Or.inr (Or.inr (Or.inl ⟨by omega, by omega, by omega⟩)))))) | exact Or.inr (Or.inr (Or.inr (Or.inr (Or.inr (Or.inr (Or.inr (Or.inl ⟨by omega, by omega, by omega⟩))))))) | exact Or.inr (Or.inr (Or.inr (Or.inr (Or.inr (Or.inr (Or.inr (Or.inr (⟨by omega, by omega, by omega, by omega⟩)))))))))⟩⟩, rfl, e5⟩
          · replace h39 : ¬ (z5.toInt = 0) := h39
            refine own_iconst X5 hx (hb hby d4_42) (v := (1 : Int32)) rfl (q := 43) rfl ?_
            refine own_goto X5 hx (hb hby d4_43) (by decide) (q := 47) rfl ?_
            exact own_retI X5 hx hret hlk (hb hby d4_47) (by decide) (by decide) ⟨⟨_, rfl, ⟨_, rfl, by have hc_ : (1 : Int32).toInt = 1 := rfl; first | exact Or.inl ⟨by omega, by omega⟩ | (refine Or.inr ⟨by omega, ?_⟩; unfold own_Adv; first | exact Or.inl ⟨by omega, by omega, by omega⟩ | exact Or.inr (Or.inl ⟨by omega, by omega, by omega⟩) | exact Or.inr (Or.inr (Or.inl ⟨by omega, by omega, by omega, by omega⟩)) | exact Or.inr (Or.inr (Or.inr (Or.inl ⟨by omega, by omega, by omega⟩))) | exact Or.inr (Or.inr (Or.inr (Or.inr (Or.inl ⟨by omega, by omega, by omega⟩)))) | exact Or.inr (Or.inr (Or.inr (Or.inr (Or.inr (Or.inl ⟨by omega, by omega, by omega, by omega⟩))))) | exact Or.inr (Or.inr (Or.inr (Or.inr (Or.inr (Or.inr (Or.inl ⟨by omega, by omega, by omega⟩)))))) | exact Or.inr (Or.inr (Or.inr (Or.inr (Or.inr (Or.inr (Or.inr (Or.inl ⟨by omega, by omega, by omega⟩))))))) | exact Or.inr (Or.inr (Or.inr (Or.inr (Or.inr (Or.inr (Or.inr (Or.inr (⟨by omega, by omega, by omega, by omega⟩)))))))))⟩⟩, rfl, e5⟩
        · replace h27 : ¬ (z4.toInt = 0) := h27
          refine own_iconst X4 hx (hb hby d4_30) (v := (0 : Int32)) rfl (q := 31) rfl ?_
          refine own_goto X4 hx (hb hby d4_31) (by decide) (q := 47) rfl ?_
          exact own_retI X4 hx hret hlk (hb hby d4_47) (by decide) (by decide) ⟨⟨_, rfl, ⟨_, rfl, by have hc_ : (0 : Int32).toInt = 0 := rfl; first | exact Or.inl ⟨by omega, by omega⟩ | (refine Or.inr ⟨by omega, ?_⟩; unfold own_Adv; first | exact Or.inl ⟨by omega, by omega, by omega⟩ | exact Or.inr (Or.inl ⟨by omega, by omega, by omega⟩) | exact Or.inr (Or.inr (Or.inl ⟨by omega, by omega, by omega, by omega⟩)) | exact Or.inr (Or.inr (Or.inr (Or.inl ⟨by omega, by omega, by omega⟩))) | exact Or.inr (Or.inr (Or.inr (Or.inr (Or.inl ⟨by omega, by omega, by omega⟩)))) | exact Or.inr (Or.inr (Or.inr (Or.inr (Or.inr (Or.inl ⟨by omega, by omega, by omega, by omega⟩))))) | exact Or.inr (Or.inr (Or.inr (Or.inr (Or.inr (Or.inr (Or.inl ⟨by omega, by omega, by omega⟩)))))) | exact Or.inr (Or.inr (Or.inr (Or.inr (Or.inr (Or.inr (Or.inr (Or.inl ⟨by omega, by omega, by omega⟩))))))) | exact Or.inr (Or.inr (Or.inr (Or.inr (Or.inr (Or.inr (Or.inr (Or.inr (⟨by omega, by omega, by omega, by omega⟩)))))))))⟩⟩, rfl, e4⟩
    · replace h8 : ¬ (p2.toInt < p4.toInt) := h8
      refine own_iload_n X0 hx (hb hby d4_11) rfl (q := 12) rfl ?_
      exact own_retI X0 hx hret hlk (hb hby d4_12) (by decide) (by decide) ⟨⟨_, rfl, ⟨_, rfl, by first | exact Or.inl ⟨by omega, by omega⟩ | (refine Or.inr ⟨by omega, ?_⟩; unfold own_Adv; first | exact Or.inl ⟨by omega, by omega, by omega⟩ | exact Or.inr (Or.inl ⟨by omega, by omega, by omega⟩) | exact Or.inr (Or.inr (Or.inl ⟨by omega, by omega, by omega, by omega⟩)) | exact Or.inr (Or.inr (Or.inr (Or.inl ⟨by omega, by omega, by omega⟩))) | exact Or.inr (Or.inr (Or.inr (Or.inr (Or.inl ⟨by omega, by omega, by omega⟩)))) | exact Or.inr (Or.inr (Or.inr (Or.inr (Or.inr (Or.inl ⟨by omega, by omega, by omega, by omega⟩))))) | exact Or.inr (Or.inr (Or.inr (Or.inr (Or.inr (Or.inr (Or.inl ⟨by omega, by omega, by omega⟩)))))) | exact Or.inr (Or.inr (Or.inr (Or.inr (Or.inr (Or.inr (Or.inr (Or.inl ⟨by omega, by omega, by omega⟩))))))) | exact Or.inr (Or.inr (Or.inr (Or.inr (Or.inr (Or.inr (Or.inr (Or.inr (⟨by omega, by omega, by omega, by omega⟩)))))))))⟩⟩, rfl, e0⟩
theorem d5_0 : decode method_7_code 0 = .ok (.iload_n 2, 1) := by decide +kernel
theorem d5_1 : decode method_7_code 1 = .ok (.iload_n 3, 1) := by decide +kernel
theorem d5_2 : decode method_7_code 2 = .ok (.if_icmp .lt 9, 3) := by decide +kernel
theorem d5_5 : decode method_7_code 5 = .ok (.iload_n 2, 1) := by decide +kernel
theorem d5_6 : decode method_7_code 6 = .ok (.iload 4, 2) := by decide +kernel
theorem d5_8 : decode method_7_code 8 = .ok (.if_icmp .lt 5, 3) := by decide +kernel
theorem d5_11 : decode method_7_code 11 = .ok (.iload_n 0, 1) := by decide +kernel
theorem d5_12 : decode method_7_code 12 = .ok (.ireturn, 1) := by decide +kernel
theorem d5_13 : decode method_7_code 13 = .ok (.aload_n 1, 1) := by decide +kernel
theorem d5_14 : decode method_7_code 14 = .ok (.iload_n 2, 1) := by decide +kernel
theorem d5_15 : decode method_7_code 15 = .ok (.baload, 1) := by decide +kernel
theorem d5_16 : decode method_7_code 16 = .ok (.invokestatic 28, 3) := by decide +kernel
theorem d5_19 : decode method_7_code 19 = .ok (.ifCond .eq 7, 3) := by decide +kernel
theorem d5_22 : decode method_7_code 22 = .ok (.iload_n 0, 1) := by decide +kernel
theorem d5_23 : decode method_7_code 23 = .ok (.goto 6, 3) := by decide +kernel
theorem d5_26 : decode method_7_code 26 = .ok (.aload_n 1, 1) := by decide +kernel
theorem d5_27 : decode method_7_code 27 = .ok (.iload_n 2, 1) := by decide +kernel
theorem d5_28 : decode method_7_code 28 = .ok (.baload, 1) := by decide +kernel
theorem d5_29 : decode method_7_code 29 = .ok (.ireturn, 1) := by decide +kernel
theorem own_pn5 : plainName "com/example/pillbug/pillbug/core/Base64RunsDigitsMayEndLineAlonePinLaw" = true := by first | (simp [plainName, overriddenIn]; done) | decide +kernel
theorem own_ef5 (m : MethodId) (p1 : Int32) (a1 : Addr) (p2 : Int32) (p3 : Int32) (p4 : Int32) : entryFrame m #[(.int p1), (.ref a1), (.int p2), (.int p3), (.int p4)] 5 = mkF m 0 #[.val (.int p1), .val (.ref a1), .val (.int p2), .val (.int p3), .val (.int p4)] [] := by first | (simp [entryFrame, mkF, argsToLocals, Value.category, maxLocals]; done) | rfl
set_option maxRecDepth 65536 in
set_option maxHeartbeats 40000000 in
theorem own_rm5 (l : Launch) (Z : State) (a0 : Array Value) (hw : ∀ d ∈ tables_1, d.before a0 Z = true) (ws : List Jvm.Cond) (p1 : Int32) (a1 : Addr) (p2 : Int32) (p3 : Int32) (p4 : Int32) (f : Nat → Int32) (n : Nat) (h0 : Heap) (A : own_Arr Z h0 a1 .byte 6 (fun i => .int (f i))) (hn : p2.toInt = (n : Int)) (hn6 : n < 6) :
    MetFree l (⟨"com/example/pillbug/pillbug/core/Base64RunsDigitsMayEndLineAlonePinLaw", "lastNb", "(I[BIII)I"⟩ : MethodName) (head1 (Jvm.Cond.code (⟨"com/example/pillbug/pillbug/core/Base64RunsDigitsMayEndLineAlonePinLaw", "lastNb", "(I[BIII)I"⟩ : MethodName) method_7_code 5 (some .int) :: ws) ({ frames := 1, cells := 0, slots := 0, locals := 12 } : Room)) (fun a U => a = #[(.int p1), (.ref a1), (.int p2), (.int p3), (.int p4)] ∧ Z.Warmed39 U.vm ∧ U.heap = h0) (fun _ _ _ _ _ => True) (fun _ U o U' => ∃ v L, o = .returned v ∧ (fun v h L => (∃ w, v = some w ∧ (fun w => ∃ z : Int32, w = .int z ∧ (((p2.toInt < p3.toInt ∨ p4.toInt ≤ p2.toInt) ∧ z.toInt = p1.toInt) ∨ ((p3.toInt ≤ p2.toInt ∧ p2.toInt < p4.toInt) ∧ ((((f n).toInt = 32 ∨ (f n).toInt = 9) ∧ z.toInt = p1.toInt) ∨ (¬ ((f n).toInt = 32 ∨ (f n).toInt = 9) ∧ z.toInt = (f n).toInt))))) w) ∧ L = [] ∧ h = h0) v U'.heap L ∧ FrameEnd U o U' L ({ frames := 1, cells := 0, slots := 0, locals := 12 } : Room).cells ({ frames := 1, cells := 0, slots := 0, locals := 12 } : Room).slots) := by
  refine own_body (y := (⟨"com/example/pillbug/pillbug/core/Base64RunsDigitsMayEndLineAlonePinLaw", "lastNb", "(I[BIII)I"⟩ : MethodName)) (Q := fun v h L => (∃ w, v = some w ∧ (fun w => ∃ z : Int32, w = .int z ∧ (((p2.toInt < p3.toInt ∨ p4.toInt ≤ p2.toInt) ∧ z.toInt = p1.toInt) ∨ ((p3.toInt ≤ p2.toInt ∧ p2.toInt < p4.toInt) ∧ ((((f n).toInt = 32 ∨ (f n).toInt = 9) ∧ z.toInt = p1.toInt) ∨ (¬ ((f n).toInt = 32 ∨ (f n).toInt = 9) ∧ z.toInt = (f n).toInt))))) w) ∧ L = [] ∧ h = h0) (rm := ({ frames := 1, cells := 0, slots := 0, locals := 12 } : Room)) (as' := #[(.int p1), (.ref a1), (.int p2), (.int p3), (.int p4)]) (h0 := h0) (Z := Z) own_pn5 ?_
  intro p e s m below meth c s₁ hx hby hml hown hnm hret hlk hZ X0 e0
  have hown : s.vm.findClass "com/example/pillbug/pillbug/core/Base64RunsDigitsMayEndLineAlonePinLaw" = some m.cls := hown
  rw [own_ef5]
  refine own_iload_n X0 hx (hb hby d5_0) rfl (q := 1) rfl ?_
  refine own_iload_n X0 hx (hb hby d5_1) rfl (q := 2) rfl ?_
  refine own_icmp X0 hx (hb hby d5_2) (by decide) (q := 11) rfl (q' := 5) rfl (own_h_lt _ _) (fun h2 => ?_) (fun h2 => ?_)
  · replace h2 : p2.toInt < p3.toInt := h2
    refine own_iload_n X0 hx (hb hby d5_11) rfl (q := 12) rfl ?_
    exact own_retI X0 hx hret hlk (hb hby d5_12) (by decide) (by decide) ⟨⟨_, rfl, ⟨_, rfl, by omega⟩⟩, rfl, e0⟩
  · replace h2 : ¬ (p2.toInt < p3.toInt) := h2
    refine own_iload_n X0 hx (hb hby d5_5) rfl (q := 6) rfl ?_
    refine own_iload X0 hx (hb hby d5_6) rfl (q := 8) rfl ?_
    refine own_icmp X0 hx (hb hby d5_8) (by decide) (q := 13) rfl (q' := 11) rfl (own_h_lt _ _) (fun h8 => ?_) (fun h8 => ?_)
    · replace h8 : p2.toInt < p4.toInt := h8
      refine own_aload_n X0 hx (hb hby d5_13) rfl rfl (q := 14) rfl ?_
      refine own_iload_n X0 hx (hb hby d5_14) rfl (q := 15) rfl ?_
      refine own_baload X0 hx hZ e0 A (hb hby d5_15) (i := n) (hn) (by omega) (v := .int (f n)) rfl (q := 16) rfl ?_
      refine own_callSP X0 hx hZ hown (hw _ (List.mem_of_getElem? (i := 16) rfl)) (hw _ (List.mem_of_getElem? (i := 17) rfl)) (hw _ (List.mem_of_getElem? (i := 3) rfl)) (hw _ (List.mem_of_getElem? (i := 18) rfl)) (by decide) (own_rm2 l Z a0 hw [] (f n)  h0 ) (by decide) (by decide) e0 (by rw [hml]; rfl) (argsL := [(.int (f n))]) (rest := []) (lenOf own_pd0 rfl) rfl (W := 0) rfl (hb hby d5_16) (q := 19) rfl rfl rfl rfl (by decide) (by decide) ?_
      rintro _ T1 ⟨z1, rfl, hz1⟩ X1 e1
      refine own_if X1 hx (hb hby d5_19) (by decide) (q := 26) rfl (q' := 22) rfl (own_z_eq _) (fun h19 => ?_) (fun h19 => ?_)
      · replace h19 : z1.toInt = 0 := h19
        refine own_aload_n X1 hx (hb hby d5_26) rfl rfl (q := 27) rfl ?_
        refine own_iload_n X1 hx (hb hby d5_27) rfl (q := 28) rfl ?_
        refine own_baload X1 hx hZ e1 A (hb hby d5_28) (i := n) (hn) (by omega) (v := .int (f n)) rfl (q := 29) rfl ?_
        exact own_retI X1 hx hret hlk (hb hby d5_29) (by decide) (by decide) ⟨⟨_, rfl, ⟨_, rfl, by omega⟩⟩, rfl, e1⟩
      · replace h19 : ¬ (z1.toInt = 0) := h19
        refine own_iload_n X1 hx (hb hby d5_22) rfl (q := 23) rfl ?_
        refine own_goto X1 hx (hb hby d5_23) (by decide) (q := 29) rfl ?_
        exact own_retI X1 hx hret hlk (hb hby d5_29) (by decide) (by decide) ⟨⟨_, rfl, ⟨_, rfl, by omega⟩⟩, rfl, e1⟩
    · replace h8 : ¬ (p2.toInt < p4.toInt) := h8
      refine own_iload_n X0 hx (hb hby d5_11) rfl (q := 12) rfl ?_
      exact own_retI X0 hx hret hlk (hb hby d5_12) (by decide) (by decide) ⟨⟨_, rfl, ⟨_, rfl, by omega⟩⟩, rfl, e0⟩
theorem d6_0 : decode prog_7_method_34_code 0 = .ok (.iload_n 2, 1) := by decide +kernel
theorem d6_1 : decode prog_7_method_34_code 1 = .ok (.istore 4, 2) := by decide +kernel
theorem d6_3 : decode prog_7_method_34_code 3 = .ok (.iload 4, 2) := by decide +kernel
theorem d6_5 : decode prog_7_method_34_code 5 = .ok (.iload_n 3, 1) := by decide +kernel
theorem d6_6 : decode prog_7_method_34_code 6 = .ok (.if_icmp .ge 7, 3) := by decide +kernel
theorem d6_9 : decode prog_7_method_34_code 9 = .ok (.iconst 1, 1) := by decide +kernel
theorem d6_10 : decode prog_7_method_34_code 10 = .ok (.goto 4, 3) := by decide +kernel
theorem d6_13 : decode prog_7_method_34_code 13 = .ok (.iconst 0, 1) := by decide +kernel
theorem d6_14 : decode prog_7_method_34_code 14 = .ok (.istore 5, 2) := by decide +kernel
theorem d6_16 : decode prog_7_method_34_code 16 = .ok (.iload 4, 2) := by decide +kernel
theorem d6_18 : decode prog_7_method_34_code 18 = .ok (.iload_n 1, 1) := by decide +kernel
theorem d6_19 : decode prog_7_method_34_code 19 = .ok (.if_icmp .le 27, 3) := by decide +kernel
theorem d6_22 : decode prog_7_method_34_code 22 = .ok (.getstatic 1, 3) := by decide +kernel
theorem d6_25 : decode prog_7_method_34_code 25 = .ok (.aload_n 0, 1) := by decide +kernel
theorem d6_26 : decode prog_7_method_34_code 26 = .ok (.iload 4, 2) := by decide +kernel
theorem d6_28 : decode prog_7_method_34_code 28 = .ok (.iconst 1, 1) := by decide +kernel
theorem d6_29 : decode prog_7_method_34_code 29 = .ok (.isub, 1) := by decide +kernel
theorem d6_30 : decode prog_7_method_34_code 30 = .ok (.baload, 1) := by decide +kernel
theorem d6_31 : decode prog_7_method_34_code 31 = .ok (.sipush 255, 3) := by decide +kernel
theorem d6_34 : decode prog_7_method_34_code 34 = .ok (.iand, 1) := by decide +kernel
theorem d6_35 : decode prog_7_method_34_code 35 = .ok (.baload, 1) := by decide +kernel
theorem d6_36 : decode prog_7_method_34_code 36 = .ok (.iconst 2, 1) := by decide +kernel
theorem d6_37 : decode prog_7_method_34_code 37 = .ok (.if_icmp .ne 9, 3) := by decide +kernel
theorem d6_40 : decode prog_7_method_34_code 40 = .ok (.iinc 4 (-1), 3) := by decide +kernel
theorem d6_43 : decode prog_7_method_34_code 43 = .ok (.goto (-27), 3) := by decide +kernel
theorem d6_46 : decode prog_7_method_34_code 46 = .ok (.iload 5, 2) := by decide +kernel
theorem d6_48 : decode prog_7_method_34_code 48 = .ok (.ifCond .eq 108, 3) := by decide +kernel
theorem d6_51 : decode prog_7_method_34_code 51 = .ok (.iload 4, 2) := by decide +kernel
theorem d6_53 : decode prog_7_method_34_code 53 = .ok (.iload_n 1, 1) := by decide +kernel
theorem d6_54 : decode prog_7_method_34_code 54 = .ok (.if_icmp .le 102, 3) := by decide +kernel
theorem d6_57 : decode prog_7_method_34_code 57 = .ok (.aload_n 0, 1) := by decide +kernel
theorem d6_58 : decode prog_7_method_34_code 58 = .ok (.iload 4, 2) := by decide +kernel
theorem d6_60 : decode prog_7_method_34_code 60 = .ok (.iconst 1, 1) := by decide +kernel
theorem d6_61 : decode prog_7_method_34_code 61 = .ok (.isub, 1) := by decide +kernel
theorem d6_62 : decode prog_7_method_34_code 62 = .ok (.baload, 1) := by decide +kernel
theorem d6_63 : decode prog_7_method_34_code 63 = .ok (.bipush 58, 2) := by decide +kernel
theorem d6_65 : decode prog_7_method_34_code 65 = .ok (.if_icmp .eq 91, 3) := by decide +kernel
theorem d6_68 : decode prog_7_method_34_code 68 = .ok (.iload_n 1, 1) := by decide +kernel
theorem d6_69 : decode prog_7_method_34_code 69 = .ok (.istore 6, 2) := by decide +kernel
theorem d6_71 : decode prog_7_method_34_code 71 = .ok (.iload 6, 2) := by decide +kernel
theorem d6_73 : decode prog_7_method_34_code 73 = .ok (.iload 4, 2) := by decide +kernel
theorem d6_75 : decode prog_7_method_34_code 75 = .ok (.if_icmp .ge 25, 3) := by decide +kernel
theorem d6_78 : decode prog_7_method_34_code 78 = .ok (.getstatic 1, 3) := by decide +kernel
theorem d6_81 : decode prog_7_method_34_code 81 = .ok (.aload_n 0, 1) := by decide +kernel
theorem d6_82 : decode prog_7_method_34_code 82 = .ok (.iload 6, 2) := by decide +kernel
theorem d6_84 : decode prog_7_method_34_code 84 = .ok (.baload, 1) := by decide +kernel
theorem d6_85 : decode prog_7_method_34_code 85 = .ok (.sipush 255, 3) := by decide +kernel
theorem d6_88 : decode prog_7_method_34_code 88 = .ok (.iand, 1) := by decide +kernel
theorem d6_89 : decode prog_7_method_34_code 89 = .ok (.baload, 1) := by decide +kernel
theorem d6_90 : decode prog_7_method_34_code 90 = .ok (.iconst 2, 1) := by decide +kernel
theorem d6_91 : decode prog_7_method_34_code 91 = .ok (.if_icmp .ne 9, 3) := by decide +kernel
theorem d6_94 : decode prog_7_method_34_code 94 = .ok (.iinc 6 1, 3) := by decide +kernel
theorem d6_97 : decode prog_7_method_34_code 97 = .ok (.goto (-26), 3) := by decide +kernel
theorem d6_100 : decode prog_7_method_34_code 100 = .ok (.iload 6, 2) := by decide +kernel
theorem d6_102 : decode prog_7_method_34_code 102 = .ok (.istore 7, 2) := by decide +kernel
theorem d6_104 : decode prog_7_method_34_code 104 = .ok (.iload 7, 2) := by decide +kernel
theorem d6_106 : decode prog_7_method_34_code 106 = .ok (.iload 4, 2) := by decide +kernel
theorem d6_108 : decode prog_7_method_34_code 108 = .ok (.if_icmp .ge 27, 3) := by decide +kernel
theorem d6_111 : decode prog_7_method_34_code 111 = .ok (.aload_n 0, 1) := by decide +kernel
theorem d6_112 : decode prog_7_method_34_code 112 = .ok (.iload 7, 2) := by decide +kernel
theorem d6_114 : decode prog_7_method_34_code 114 = .ok (.baload, 1) := by decide +kernel
theorem d6_115 : decode prog_7_method_34_code 115 = .ok (.bipush 48, 2) := by decide +kernel
theorem d6_117 : decode prog_7_method_34_code 117 = .ok (.if_icmp .lt 18, 3) := by decide +kernel
theorem d6_120 : decode prog_7_method_34_code 120 = .ok (.aload_n 0, 1) := by decide +kernel
theorem d6_121 : decode prog_7_method_34_code 121 = .ok (.iload 7, 2) := by decide +kernel
theorem d6_123 : decode prog_7_method_34_code 123 = .ok (.baload, 1) := by decide +kernel
theorem d6_124 : decode prog_7_method_34_code 124 = .ok (.bipush 57, 2) := by decide +kernel
theorem d6_126 : decode prog_7_method_34_code 126 = .ok (.if_icmp .gt 9, 3) := by decide +kernel
theorem d6_129 : decode prog_7_method_34_code 129 = .ok (.iinc 7 1, 3) := by decide +kernel
theorem d6_132 : decode prog_7_method_34_code 132 = .ok (.goto (-28), 3) := by decide +kernel
theorem d6_135 : decode prog_7_method_34_code 135 = .ok (.iload 7, 2) := by decide +kernel
theorem d6_137 : decode prog_7_method_34_code 137 = .ok (.iload 4, 2) := by decide +kernel
theorem d6_139 : decode prog_7_method_34_code 139 = .ok (.if_icmp .ne 14, 3) := by decide +kernel
theorem d6_142 : decode prog_7_method_34_code 142 = .ok (.iload 7, 2) := by decide +kernel
theorem d6_144 : decode prog_7_method_34_code 144 = .ok (.iload 6, 2) := by decide +kernel
theorem d6_146 : decode prog_7_method_34_code 146 = .ok (.if_icmp .le 7, 3) := by decide +kernel
theorem d6_149 : decode prog_7_method_34_code 149 = .ok (.iconst 1, 1) := by decide +kernel
theorem d6_150 : decode prog_7_method_34_code 150 = .ok (.goto 4, 3) := by decide +kernel
theorem d6_153 : decode prog_7_method_34_code 153 = .ok (.iconst 0, 1) := by decide +kernel
theorem d6_154 : decode prog_7_method_34_code 154 = .ok (.istore 5, 2) := by decide +kernel
theorem d6_156 : decode prog_7_method_34_code 156 = .ok (.iload 5, 2) := by decide +kernel
theorem d6_158 : decode prog_7_method_34_code 158 = .ok (.ireturn, 1) := by decide +kernel
theorem own_pn6 : plainName "com/example/pillbug/pillbug/core/Base64Runs" = true := by first | (simp [plainName, overriddenIn]; done) | decide +kernel
theorem own_ef6 (m : MethodId) (a1 : Addr) (p1 : Int32) (p2 : Int32) (p3 : Int32) : entryFrame m #[(.ref a1), (.int p1), (.int p2), (.int p3)] 8 = mkF m 0 #[.val (.ref a1), .val (.int p1), .val (.int p2), .val (.int p3), .unset, .unset, .unset, .unset] [] := by first | (simp [entryFrame, mkF, argsToLocals, Value.category, maxLocals]; done) | rfl
set_option maxRecDepth 65536 in
set_option maxHeartbeats 40000000 in
theorem own_rm6 (l : Launch) (Z : State) (a0 : Array Value) (hw : ∀ d ∈ tables_1, d.before a0 Z = true) (ws : List Jvm.Cond) (a1 : Addr) (p1 : Int32) (p2 : Int32) (p3 : Int32) (f : Nat → Int32) (aT : Addr) (g : Nat → Int32) (a d : Nat) (h0 : Heap) (A : own_Arr Z h0 a1 .byte 6 (fun i => .int (f i))) (hf : ∀ j, -128 ≤ (f j).toInt ∧ (f j).toInt < 128) (ST : Sta Z h0 "com/example/pillbug/pillbug/core/Base64Runs" "KINDS" "[B" (.ref aT)) (AT : own_Arr Z h0 aT .byte 256 (fun i => .int (g i))) (hT : ∀ i : Nat, i < 256 → (((i = 32 ∨ i = 9) ∧ (g i).toInt = 2) ∨ (¬ (i = 32 ∨ i = 9) ∧ (g i).toInt ≠ 2))) (hpa : p1.toInt = (a : Int)) (hpd : p2.toInt = (d : Int)) (had : a ≤ d) (hd6 : d ≤ 6) :
    MetFree l (⟨"com/example/pillbug/pillbug/core/Base64Runs", "digitsMayEndLineAlone", "([BIII)Z"⟩ : MethodName) (head1 (Jvm.Cond.code (⟨"com/example/pillbug/pillbug/core/Base64Runs", "digitsMayEndLineAlone", "([BIII)Z"⟩ : MethodName) prog_7_method_34_code 8 (some .boolean) :: ws) ({ frames := 0, cells := 0, slots := 0, locals := 0 } : Room)) (fun a U => a = #[(.ref a1), (.int p1), (.int p2), (.int p3)] ∧ Z.Warmed39 U.vm ∧ U.heap = h0) (fun _ _ _ _ _ => True) (fun _ U o U' => ∃ v L, o = .returned v ∧ (fun v h L => (∃ w, v = some w ∧ (fun w => ∃ z : Int32, w = .int z ∧ (((p2.toInt < p3.toInt ∧ (own_Good (own_F f) a d ∨ own_58 (own_F f) a d)) ∧ z.toInt = 1) ∨ (¬ (p2.toInt < p3.toInt ∧ (own_Good (own_F f) a d ∨ own_58 (own_F f) a d)) ∧ z.toInt = 0))) w) ∧ L = [] ∧ h = h0) v U'.heap L ∧ FrameEnd U o U' L ({ frames := 0, cells := 0, slots := 0, locals := 0 } : Room).cells ({ frames := 0, cells := 0, slots := 0, locals := 0 } : Room).slots) := by
  refine own_body (y := (⟨"com/example/pillbug/pillbug/core/Base64Runs", "digitsMayEndLineAlone", "([BIII)Z"⟩ : MethodName)) (Q := fun v h L => (∃ w, v = some w ∧ (fun w => ∃ z : Int32, w = .int z ∧ (((p2.toInt < p3.toInt ∧ (own_Good (own_F f) a d ∨ own_58 (own_F f) a d)) ∧ z.toInt = 1) ∨ (¬ (p2.toInt < p3.toInt ∧ (own_Good (own_F f) a d ∨ own_58 (own_F f) a d)) ∧ z.toInt = 0))) w) ∧ L = [] ∧ h = h0) (rm := ({ frames := 0, cells := 0, slots := 0, locals := 0 } : Room)) (as' := #[(.ref a1), (.int p1), (.int p2), (.int p3)]) (h0 := h0) (Z := Z) own_pn6 ?_
  intro p e s m below meth c s₁ hx hby hml hown hnm hret hlk hZ X0 e0
  have hown : s.vm.findClass "com/example/pillbug/pillbug/core/Base64Runs" = some m.cls := hown
  rw [own_ef6]
  refine own_iload_n X0 hx (hb hby d6_0) rfl (q := 1) rfl ?_
  refine own_istore X0 hx (hb hby d6_1) (l' := #[.val (.ref a1), .val (.int p1), .val (.int p2), .val (.int p3), .val (.int p2), .unset, .unset, .unset]) rfl (q := 3) rfl ?_
  refine own_iload X0 hx (hb hby d6_3) rfl (q := 5) rfl ?_
  refine own_iload_n X0 hx (hb hby d6_5) rfl (q := 6) rfl ?_
  have J14_1 : ∀ (al : Int32) (g14_0 : (((p2.toInt < p3.toInt) ∧ al.toInt = 1) ∨ (¬ (p2.toInt < p3.toInt) ∧ al.toInt = 0))), own_Go p e below s ({ frames := 0, cells := 0, slots := 0, locals := 0 } : Room).cells ({ frames := 0, cells := 0, slots := 0, locals := 0 } : Room).slots (fun v h L => (∃ w, v = some w ∧ (fun w => ∃ z : Int32, w = .int z ∧ (((p2.toInt < p3.toInt ∧ (own_Good (own_F f) a d ∨ own_58 (own_F f) a d)) ∧ z.toInt = 1) ∨ (¬ (p2.toInt < p3.toInt ∧ (own_Good (own_F f) a d ∨ own_58 (own_F f) a d)) ∧ z.toInt = 0))) w) ∧ L = [] ∧ h = h0) (s₁.setTop (mkF m 14 #[.val (.ref a1), .val (.int p1), .val (.int p2), .val (.int p3), .val (.int p2), .unset, .unset, .unset] [(.int al)])) := by
    intro al g14_0
    refine own_istore X0 hx (hb hby d6_14) (l' := #[.val (.ref a1), .val (.int p1), .val (.int p2), .val (.int p3), .val (.int p2), .val (.int al), .unset, .unset]) rfl (q := 16) rfl ?_
    have P16_2 : ∀ (k_ : Nat) (T3 : State) (X3 : Stand p l e ({ frames := 0, cells := 0, slots := 0, locals := 0 } : Room) s m #[(.ref a1), (.int p1), (.int p2), (.int p3)] below meth c T3 [] (0) (0)) (e3 : T3.heap = h0) (at1 : Int32) (hk_ : at1.toInt.toNat = k_) (g16_0 : (a : Int) ≤ at1.toInt) (g16_1 : at1.toInt ≤ (d : Int)) (g16_2 : ∀ j : Nat, at1.toInt ≤ (j : Int) → j < d → own_Bl (own_F f) j), own_Go p e below s ({ frames := 0, cells := 0, slots := 0, locals := 0 } : Room).cells ({ frames := 0, cells := 0, slots := 0, locals := 0 } : Room).slots (fun v h L => (∃ w, v = some w ∧ (fun w => ∃ z : Int32, w = .int z ∧ (((p2.toInt < p3.toInt ∧ (own_Good (own_F f) a d ∨ own_58 (own_F f) a d)) ∧ z.toInt = 1) ∨ (¬ (p2.toInt < p3.toInt ∧ (own_Good (own_F f) a d ∨ own_58 (own_F f) a d)) ∧ z.toInt = 0))) w) ∧ L = [] ∧ h = h0) (T3.setTop (mkF m 16 #[.val (.ref a1), .val (.int p1), .val (.int p2), .val (.int p3), .val (.int at1), .val (.int al), .unset, .unset] [])) := by
      intro k_
      induction k_ using Nat.strongRecOn with
      | _ k_ ih_16 =>
      intro T3 X3 e3 at1 hk_ g16_0 g16_1 g16_2
      refine own_iload X3 hx (hb hby d6_16) rfl (q := 18) rfl ?_
      refine own_iload_n X3 hx (hb hby d6_18) rfl (q := 19) rfl ?_
      have J46_4 : ∀ (T5 : State) (X5 : Stand p l e ({ frames := 0, cells := 0, slots := 0, locals := 0 } : Room) s m #[(.ref a1), (.int p1), (.int p2), (.int p3)] below meth c T5 [] (0) (0)) (e5 : T5.heap = h0) (g46_0 : at1.toInt = (a : Int) ∨ ((a : Int) < at1.toInt ∧ ¬ own_Bl (own_F f) (at1.toInt.toNat - 1))), own_Go p e below s ({ frames := 0, cells := 0, slots := 0, locals := 0 } : Room).cells ({ frames := 0, cells := 0, slots := 0, locals := 0 } : Room).slots (fun v h L => (∃ w, v = some w ∧ (fun w => ∃ z : Int32, w = .int z ∧ (((p2.toInt < p3.toInt ∧ (own_Good (own_F f) a d ∨ own_58 (own_F f) a d)) ∧ z.toInt = 1) ∨ (¬ (p2.toInt < p3.toInt ∧ (own_Good (own_F f) a d ∨ own_58 (own_F f) a d)) ∧ z.toInt = 0))) w) ∧ L = [] ∧ h = h0) (T5.setTop (mkF m 46 #[.val (.ref a1), .val (.int p1), .val (.int p2), .val (.int p3), .val (.int at1), .val (.int al), .unset, .unset] [])) := by
        intro T5 X5 e5 g46_0
        refine own_iload X5 hx (hb hby d6_46) rfl (q := 48) rfl ?_
        refine own_if X5 hx (hb hby d6_48) (by decide) (q := 156) rfl (q' := 51) rfl (own_z_eq _) (fun h48 => ?_) (fun h48 => ?_)
        · replace h48 : al.toInt = 0 := h48
          have hC : ¬ (p2.toInt < p3.toInt ∧ (own_Good (own_F f) a d ∨ own_58 (own_F f) a d)) := fun q => by have q1 := q.1; clear q; omega
          refine own_iload X5 hx (hb hby d6_156) rfl (q := 158) rfl ?_
          exact own_retN X5 hx (t := .boolean) hret hlk (by simp) (hb hby d6_158) (by decide) (by decide) (w := al) (own_nb _ (by omega)) ⟨⟨_, rfl, ⟨_, rfl, by first | exact Or.inl ⟨hC, by omega⟩ | exact Or.inr ⟨hC, by omega⟩⟩⟩, rfl, e5⟩
        · replace h48 : ¬ (al.toInt = 0) := h48
          refine own_iload X5 hx (hb hby d6_51) rfl (q := 53) rfl ?_
          refine own_iload_n X5 hx (hb hby d6_53) rfl (q := 54) rfl ?_
          refine own_icmp X5 hx (hb hby d6_54) (by decide) (q := 156) rfl (q' := 57) rfl (own_h_le _ _) (fun h54 => ?_) (fun h54 => ?_)
          · replace h54 : at1.toInt ≤ p1.toInt := h54
            have hC : p2.toInt < p3.toInt ∧ (own_Good (own_F f) a d ∨ own_58 (own_F f) a d) := ⟨by omega, Or.inl (own_good_all had (fun j q1 q2 => g16_2 j (by omega) q2))⟩
            refine own_iload X5 hx (hb hby d6_156) rfl (q := 158) rfl ?_
            exact own_retN X5 hx (t := .boolean) hret hlk (by simp) (hb hby d6_158) (by decide) (by decide) (w := al) (own_nb _ (by omega)) ⟨⟨_, rfl, ⟨_, rfl, by first | exact Or.inl ⟨hC, by omega⟩ | exact Or.inr ⟨hC, by omega⟩⟩⟩, rfl, e5⟩
          · replace h54 : ¬ (at1.toInt ≤ p1.toInt) := h54
            refine own_aload_n X5 hx (hb hby d6_57) rfl rfl (q := 58) rfl ?_
            refine own_iload X5 hx (hb hby d6_58) rfl (q := 60) rfl ?_
            refine own_iconst X5 hx (hb hby d6_60) (v := (1 : Int32)) rfl (q := 61) rfl ?_
            obtain ⟨n2, hn2⟩ : ∃ n : Nat, at1.toInt = (n : Int) := ⟨at1.toInt.toNat, by omega⟩
            have i61 : (at1 - (1 : Int32)).toInt = at1.toInt - 1 := own_subI at1 (1 : Int32) (show (-2147483648 : Int) ≤ at1.toInt - 1 by omega) (show at1.toInt - 1 < 2147483648 by omega)
            have hnb : ¬ own_Bl (own_F f) (n2 - 1) := by rcases g46_0 with q | q; (exfalso; omega); exact (show at1.toInt.toNat - 1 = n2 - 1 by omega) ▸ q.2
            refine own_isub X5 hx (hb hby d6_61) (q := 62) rfl ?_
            refine own_baload X5 hx hZ e5 A (hb hby d6_62) (i := n2 - 1) (by rw [i61]; omega) (by omega) (v := .int (f (n2 - 1))) rfl (q := 63) rfl ?_
            refine own_bipush X5 hx (hb hby d6_63) (v := (58 : Int32)) rfl (q := 65) rfl ?_
            refine own_icmp X5 hx (hb hby d6_65) (by decide) (q := 156) rfl (q' := 68) rfl (own_h_eq _ _) (fun h65 => ?_) (fun h65 => ?_)
            · replace h65 : (f (n2 - 1)).toInt = 58 := h65
              have hC : p2.toInt < p3.toInt ∧ (own_Good (own_F f) a d ∨ own_58 (own_F f) a d) := ⟨by omega, Or.inr (own_58_mk (n2 - 1) (by omega) (by omega) hnb (fun j q1 q2 => g16_2 j (by omega) q2) h65)⟩
              refine own_iload X5 hx (hb hby d6_156) rfl (q := 158) rfl ?_
              exact own_retN X5 hx (t := .boolean) hret hlk (by simp) (hb hby d6_158) (by decide) (by decide) (w := al) (own_nb _ (by omega)) ⟨⟨_, rfl, ⟨_, rfl, by first | exact Or.inl ⟨hC, by omega⟩ | exact Or.inr ⟨hC, by omega⟩⟩⟩, rfl, e5⟩
            · replace h65 : ¬ ((f (n2 - 1)).toInt = 58) := h65
              refine own_iload_n X5 hx (hb hby d6_68) rfl (q := 69) rfl ?_
              refine own_istore X5 hx (hb hby d6_69) (l' := #[.val (.ref a1), .val (.int p1), .val (.int p2), .val (.int p3), .val (.int at1), .val (.int al), .val (.int p1), .unset]) rfl (q := 71) rfl ?_
              have P71_6 : ∀ (k_ : Nat) (T7 : State) (X7 : Stand p l e ({ frames := 0, cells := 0, slots := 0, locals := 0 } : Room) s m #[(.ref a1), (.int p1), (.int p2), (.int p3)] below meth c T7 [] (0) (0)) (e7 : T7.heap = h0) (nu : Int32) (hk_ : (at1.toInt - nu.toInt).toNat = k_) (g71_0 : (a : Int) ≤ nu.toInt) (g71_1 : nu.toInt ≤ at1.toInt) (g71_2 : ∀ j : Nat, a ≤ j → (j : Int) < nu.toInt → own_Bl (own_F f) j), own_Go p e below s ({ frames := 0, cells := 0, slots := 0, locals := 0 } : Room).cells ({ frames := 0, cells := 0, slots := 0, locals := 0 } : Room).slots (fun v h L => (∃ w, v = some w ∧ (fun w => ∃ z : Int32, w = .int z ∧ (((p2.toInt < p3.toInt ∧ (own_Good (own_F f) a d ∨ own_58 (own_F f) a d)) ∧ z.toInt = 1) ∨ (¬ (p2.toInt < p3.toInt ∧ (own_Good (own_F f) a d ∨ own_58 (own_F f) a d)) ∧ z.toInt = 0))) w) ∧ L = [] ∧ h = h0) (T7.setTop (mkF m 71 #[.val (.ref a1), .val (.int p1), .val (.int p2), .val (.int p3), .val (.int at1), .val (.int al), .val (.int nu), .unset] [])) := by
                intro k_
                induction k_ using Nat.strongRecOn with
                | _ k_ ih_71 =>
                intro T7 X7 e7 nu hk_ g71_0 g71_1 g71_2
                refine own_iload X7 hx (hb hby d6_71) rfl (q := 73) rfl ?_
                refine own_iload X7 hx (hb hby d6_73) rfl (q := 75) rfl ?_
                have J100_8 : ∀ (T9 : State) (X9 : Stand p l e ({ frames := 0, cells := 0, slots := 0, locals := 0 } : Room) s m #[(.ref a1), (.int p1), (.int p2), (.int p3)] below meth c T9 [] (0) (0)) (e9 : T9.heap = h0) (g100_0 : nu.toInt = at1.toInt ∨ ¬ own_Bl (own_F f) nu.toInt.toNat), own_Go p e below s ({ frames := 0, cells := 0, slots := 0, locals := 0 } : Room).cells ({ frames := 0, cells := 0, slots := 0, locals := 0 } : Room).slots (fun v h L => (∃ w, v = some w ∧ (fun w => ∃ z : Int32, w = .int z ∧ (((p2.toInt < p3.toInt ∧ (own_Good (own_F f) a d ∨ own_58 (own_F f) a d)) ∧ z.toInt = 1) ∨ (¬ (p2.toInt < p3.toInt ∧ (own_Good (own_F f) a d ∨ own_58 (own_F f) a d)) ∧ z.toInt = 0))) w) ∧ L = [] ∧ h = h0) (T9.setTop (mkF m 100 #[.val (.ref a1), .val (.int p1), .val (.int p2), .val (.int p3), .val (.int at1), .val (.int al), .val (.int nu), .unset] [])) := by
                  intro T9 X9 e9 g100_0
                  refine own_iload X9 hx (hb hby d6_100) rfl (q := 102) rfl ?_
                  refine own_istore X9 hx (hb hby d6_102) (l' := #[.val (.ref a1), .val (.int p1), .val (.int p2), .val (.int p3), .val (.int at1), .val (.int al), .val (.int nu), .val (.int nu)]) rfl (q := 104) rfl ?_
                  have P104_10 : ∀ (k_ : Nat) (T11 : State) (X11 : Stand p l e ({ frames := 0, cells := 0, slots := 0, locals := 0 } : Room) s m #[(.ref a1), (.int p1), (.int p2), (.int p3)] below meth c T11 [] (0) (0)) (e11 : T11.heap = h0) (en : Int32) (hk_ : (at1.toInt - en.toInt).toNat = k_) (g104_0 : nu.toInt ≤ en.toInt) (g104_1 : en.toInt ≤ at1.toInt) (g104_2 : ∀ j : Nat, nu.toInt ≤ (j : Int) → (j : Int) < en.toInt → own_De (own_F f) j), own_Go p e below s ({ frames := 0, cells := 0, slots := 0, locals := 0 } : Room).cells ({ frames := 0, cells := 0, slots := 0, locals := 0 } : Room).slots (fun v h L => (∃ w, v = some w ∧ (fun w => ∃ z : Int32, w = .int z ∧ (((p2.toInt < p3.toInt ∧ (own_Good (own_F f) a d ∨ own_58 (own_F f) a d)) ∧ z.toInt = 1) ∨ (¬ (p2.toInt < p3.toInt ∧ (own_Good (own_F f) a d ∨ own_58 (own_F f) a d)) ∧ z.toInt = 0))) w) ∧ L = [] ∧ h = h0) (T11.setTop (mkF m 104 #[.val (.ref a1), .val (.int p1), .val (.int p2), .val (.int p3), .val (.int at1), .val (.int al), .val (.int nu), .val (.int en)] [])) := by
                    intro k_
                    induction k_ using Nat.strongRecOn with
                    | _ k_ ih_104 =>
                    intro T11 X11 e11 en hk_ g104_0 g104_1 g104_2
                    refine own_iload X11 hx (hb hby d6_104) rfl (q := 106) rfl ?_
                    refine own_iload X11 hx (hb hby d6_106) rfl (q := 108) rfl ?_
                    have J135_12 : ∀ (g135_0 : en.toInt = at1.toInt ∨ ¬ own_De (own_F f) en.toInt.toNat), own_Go p e below s ({ frames := 0, cells := 0, slots := 0, locals := 0 } : Room).cells ({ frames := 0, cells := 0, slots := 0, locals := 0 } : Room).slots (fun v h L => (∃ w, v = some w ∧ (fun w => ∃ z : Int32, w = .int z ∧ (((p2.toInt < p3.toInt ∧ (own_Good (own_F f) a d ∨ own_58 (own_F f) a d)) ∧ z.toInt = 1) ∨ (¬ (p2.toInt < p3.toInt ∧ (own_Good (own_F f) a d ∨ own_58 (own_F f) a d)) ∧ z.toInt = 0))) w) ∧ L = [] ∧ h = h0) (T11.setTop (mkF m 135 #[.val (.ref a1), .val (.int p1), .val (.int p2), .val (.int p3), .val (.int at1), .val (.int al), .val (.int nu), .val (.int en)] [])) := by
                      intro g135_0
                      obtain ⟨n3, hn3⟩ : ∃ n : Nat, nu.toInt = (n : Int) := ⟨nu.toInt.toNat, by omega⟩
                      obtain ⟨n4, hn4⟩ : ∃ n : Nat, en.toInt = (n : Int) := ⟨en.toInt.toNat, by omega⟩
                      have hF := own_fin (F := own_F f) (a := a) (at' := n2) (num := n3) (ne := n4) (d := d) (by omega) (by omega) (fun j q1 q2 => g16_2 j (by omega) q2) hnb h65 (by omega) (by omega) (fun j q1 q2 => g71_2 j q1 (by omega)) (by rcases g100_0 with q | q; exact Or.inl (by omega); exact Or.inr ((show nu.toInt.toNat = n3 by omega) ▸ q)) (by omega) (by omega) (fun j q1 q2 => g104_2 j (by omega) (by omega)) (by rcases g135_0 with q | q; exact Or.inl (by omega); exact Or.inr ((show en.toInt.toNat = n4 by omega) ▸ q))
                      refine own_iload X11 hx (hb hby d6_135) rfl (q := 137) rfl ?_
                      refine own_iload X11 hx (hb hby d6_137) rfl (q := 139) rfl ?_
                      refine own_icmp X11 hx (hb hby d6_139) (by decide) (q := 153) rfl (q' := 142) rfl (own_h_ne _ _) (fun h139 => ?_) (fun h139 => ?_)
                      · replace h139 : en.toInt ≠ at1.toInt := h139
                        have hC : ¬ (p2.toInt < p3.toInt ∧ (own_Good (own_F f) a d ∨ own_58 (own_F f) a d)) := fun q => by have q1 := hF.mp q.2; clear q; omega
                        refine own_iconst X11 hx (hb hby d6_153) (v := (0 : Int32)) rfl (q := 154) rfl ?_
                        refine own_istore X11 hx (hb hby d6_154) (l' := #[.val (.ref a1), .val (.int p1), .val (.int p2), .val (.int p3), .val (.int at1), .val (.int (0 : Int32)), .val (.int nu), .val (.int en)]) rfl (q := 156) rfl ?_
                        refine own_iload X11 hx (hb hby d6_156) rfl (q := 158) rfl ?_
                        exact own_retN X11 hx (t := .boolean) hret hlk (by simp) (hb hby d6_158) (by decide) (by decide) (w := (0 : Int32)) rfl ⟨⟨_, rfl, ⟨_, rfl, by have hc_ : (0 : Int32).toInt = 0 := rfl; first | exact Or.inl ⟨hC, by omega⟩ | exact Or.inr ⟨hC, by omega⟩⟩⟩, rfl, e11⟩
                      · replace h139 : ¬ (en.toInt ≠ at1.toInt) := h139
                        refine own_iload X11 hx (hb hby d6_142) rfl (q := 144) rfl ?_
                        refine own_iload X11 hx (hb hby d6_144) rfl (q := 146) rfl ?_
                        refine own_icmp X11 hx (hb hby d6_146) (by decide) (q := 153) rfl (q' := 149) rfl (own_h_le _ _) (fun h146 => ?_) (fun h146 => ?_)
                        · replace h146 : en.toInt ≤ nu.toInt := h146
                          have hC : ¬ (p2.toInt < p3.toInt ∧ (own_Good (own_F f) a d ∨ own_58 (own_F f) a d)) := fun q => by have q1 := hF.mp q.2; clear q; omega
                          refine own_iconst X11 hx (hb hby d6_153) (v := (0 : Int32)) rfl (q := 154) rfl ?_
                          refine own_istore X11 hx (hb hby d6_154) (l' := #[.val (.ref a1), .val (.int p1), .val (.int p2), .val (.int p3), .val (.int at1), .val (.int (0 : Int32)), .val (.int nu), .val (.int en)]) rfl (q := 156) rfl ?_
                          refine own_iload X11 hx (hb hby d6_156) rfl (q := 158) rfl ?_
                          exact own_retN X11 hx (t := .boolean) hret hlk (by simp) (hb hby d6_158) (by decide) (by decide) (w := (0 : Int32)) rfl ⟨⟨_, rfl, ⟨_, rfl, by have hc_ : (0 : Int32).toInt = 0 := rfl; first | exact Or.inl ⟨hC, by omega⟩ | exact Or.inr ⟨hC, by omega⟩⟩⟩, rfl, e11⟩
                        · replace h146 : ¬ (en.toInt ≤ nu.toInt) := h146
                          have hC : p2.toInt < p3.toInt ∧ (own_Good (own_F f) a d ∨ own_58 (own_F f) a d) := ⟨by omega, hF.mpr ⟨by omega, by omega⟩⟩
                          refine own_iconst X11 hx (hb hby d6_149) (v := (1 : Int32)) rfl (q := 150) rfl ?_
                          refine own_goto X11 hx (hb hby d6_150) (by decide) (q := 154) rfl ?_
                          refine own_istore X11 hx (hb hby d6_154) (l' := #[.val (.ref a1), .val (.int p1), .val (.int p2), .val (.int p3), .val (.int at1), .val (.int (1 : Int32)), .val (.int nu), .val (.int en)]) rfl (q := 156) rfl ?_
                          refine own_iload X11 hx (hb hby d6_156) rfl (q := 158) rfl ?_
                          exact own_retN X11 hx (t := .boolean) hret hlk (by simp) (hb hby d6_158) (by decide) (by decide) (w := (1 : Int32)) rfl ⟨⟨_, rfl, ⟨_, rfl, by have hc_ : (1 : Int32).toInt = 1 := rfl; first | exact Or.inl ⟨hC, by omega⟩ | exact Or.inr ⟨hC, by omega⟩⟩⟩, rfl, e11⟩
                    refine own_icmp X11 hx (hb hby d6_108) (by decide) (q := 135) rfl (q' := 111) rfl (own_h_ge _ _) (fun h108 => ?_) (fun h108 => ?_)
                    · replace h108 : at1.toInt ≤ en.toInt := h108
                      exact J135_12 (by first | exact Or.inl (by omega) | exact Or.inr (by rw [show en.toInt.toNat = n6 by omega]; exact fun q => by have q1 : 48 ≤ (f n6).toInt := q.1; have q2 : (f n6).toInt ≤ 57 := q.2; omega))
                    · replace h108 : ¬ (at1.toInt ≤ en.toInt) := h108
                      refine own_aload_n X11 hx (hb hby d6_111) rfl rfl (q := 112) rfl ?_
                      refine own_iload X11 hx (hb hby d6_112) rfl (q := 114) rfl ?_
                      obtain ⟨n6, hn6⟩ : ∃ n : Nat, en.toInt = (n : Int) := ⟨en.toInt.toNat, by omega⟩
                      refine own_baload X11 hx hZ e11 A (hb hby d6_114) (i := n6) (hn6) (by omega) (v := .int (f n6)) rfl (q := 115) rfl ?_
                      refine own_bipush X11 hx (hb hby d6_115) (v := (48 : Int32)) rfl (q := 117) rfl ?_
                      refine own_icmp X11 hx (hb hby d6_117) (by decide) (q := 135) rfl (q' := 120) rfl (own_h_lt _ _) (fun h117 => ?_) (fun h117 => ?_)
                      · replace h117 : (f n6).toInt < 48 := h117
                        exact J135_12 (by first | exact Or.inl (by omega) | exact Or.inr (by rw [show en.toInt.toNat = n6 by omega]; exact fun q => by have q1 : 48 ≤ (f n6).toInt := q.1; have q2 : (f n6).toInt ≤ 57 := q.2; omega))
                      · replace h117 : ¬ ((f n6).toInt < 48) := h117
                        refine own_aload_n X11 hx (hb hby d6_120) rfl rfl (q := 121) rfl ?_
                        refine own_iload X11 hx (hb hby d6_121) rfl (q := 123) rfl ?_
                        refine own_baload X11 hx hZ e11 A (hb hby d6_123) (i := n6) (hn6) (by omega) (v := .int (f n6)) rfl (q := 124) rfl ?_
                        refine own_bipush X11 hx (hb hby d6_124) (v := (57 : Int32)) rfl (q := 126) rfl ?_
                        refine own_icmp X11 hx (hb hby d6_126) (by decide) (q := 135) rfl (q' := 129) rfl (own_h_gt _ _) (fun h126 => ?_) (fun h126 => ?_)
                        · replace h126 : 57 < (f n6).toInt := h126
                          exact J135_12 (by first | exact Or.inl (by omega) | exact Or.inr (by rw [show en.toInt.toNat = n6 by omega]; exact fun q => by have q1 : 48 ≤ (f n6).toInt := q.1; have q2 : (f n6).toInt ≤ 57 := q.2; omega))
                        · replace h126 : ¬ (57 < (f n6).toInt) := h126
                          have i129 : (en + (1 : Int32)).toInt = en.toInt + 1 := own_addI en (1 : Int32) (show (-2147483648 : Int) ≤ en.toInt + 1 by omega) (show en.toInt + 1 < 2147483648 by omega)
                          refine own_iinc X11 hx (hb hby d6_129) (w := (en + (1 : Int32))) rfl rfl (l' := #[.val (.ref a1), .val (.int p1), .val (.int p2), .val (.int p3), .val (.int at1), .val (.int al), .val (.int nu), .val (.int (en + (1 : Int32)))]) rfl (q := 132) rfl ?_
                          refine own_goto X11 hx (hb hby d6_132) (by decide) (q := 104) rfl ?_
                          exact ih_104 _ (by omega) T11 X11 e11 (en + (1 : Int32)) rfl (by omega) (by omega) (by intro j q1 q2; rcases Nat.lt_or_ge j n6 with q | q; exact g104_2 j q1 (by omega); exact (show n6 = j by omega) ▸ (show own_De (own_F f) n6 from And.intro (show (48 : Int) ≤ (f n6).toInt by omega) (show (f n6).toInt ≤ 57 by omega)))
                  exact P104_10 _ T9 X9 e9 nu rfl (by omega) (by omega) (by intro j q1 q2; omega)
                refine own_icmp X7 hx (hb hby d6_75) (by decide) (q := 100) rfl (q' := 78) rfl (own_h_ge _ _) (fun h75 => ?_) (fun h75 => ?_)
                · replace h75 : at1.toInt ≤ nu.toInt := h75
                  exact J100_8 T7 X7 e7 (by first | exact Or.inl (by omega) | exact Or.inr (by rw [show nu.toInt.toNat = n5 by omega]; exact hnb91))
                · replace h75 : ¬ (at1.toInt ≤ nu.toInt) := h75
                  refine own_getS X7 hx hZ hown (hw _ (List.mem_of_getElem? (i := 22) rfl)) e7 ST (hb hby d6_78) (q := 81) rfl ?_
                  intro T13 X13 e13
                  refine own_aload_n X13 hx (hb hby d6_81) rfl rfl (q := 82) rfl ?_
                  refine own_iload X13 hx (hb hby d6_82) rfl (q := 84) rfl ?_
                  obtain ⟨n5, hn5⟩ : ∃ n : Nat, nu.toInt = (n : Int) := ⟨nu.toInt.toNat, by omega⟩
                  refine own_baload X13 hx hZ e13 A (hb hby d6_84) (i := n5) (hn5) (by omega) (v := .int (f n5)) rfl (q := 85) rfl ?_
                  refine own_sipush X13 hx (hb hby d6_85) (v := (255 : Int32)) rfl (q := 88) rfl ?_
                  refine own_iand X13 hx (hb hby d6_88) (q := 89) rfl ?_
                  obtain ⟨u89, hu89, hv89, hw89⟩ := own_kind (f (n5)) g (hf _).1 (hf _).2 hT
                  refine own_baload X13 hx hZ e13 AT (hb hby d6_89) (i := u89) (hu89) (by omega) (v := .int (g u89)) rfl (q := 90) rfl ?_
                  refine own_iconst X13 hx (hb hby d6_90) (v := (2 : Int32)) rfl (q := 91) rfl ?_
                  refine own_icmp X13 hx (hb hby d6_91) (by decide) (q := 100) rfl (q' := 94) rfl (own_h_ne _ _) (fun h91 => ?_) (fun h91 => ?_)
                  · replace h91 : (g u89).toInt ≠ 2 := h91
                    have hnb91 : ¬ own_Bl (own_F f) n5 := own_kn hw89 h91
                    exact J100_8 T13 X13 e13 (by first | exact Or.inl (by omega) | exact Or.inr (by rw [show nu.toInt.toNat = n5 by omega]; exact hnb91))
                  · replace h91 : ¬ ((g u89).toInt ≠ 2) := h91
                    have hbl91 : own_Bl (own_F f) n5 := own_ky hw89 (by omega)
                    have i94 : (nu + (1 : Int32)).toInt = nu.toInt + 1 := own_addI nu (1 : Int32) (show (-2147483648 : Int) ≤ nu.toInt + 1 by omega) (show nu.toInt + 1 < 2147483648 by omega)
                    refine own_iinc X13 hx (hb hby d6_94) (w := (nu + (1 : Int32))) rfl rfl (l' := #[.val (.ref a1), .val (.int p1), .val (.int p2), .val (.int p3), .val (.int at1), .val (.int al), .val (.int (nu + (1 : Int32))), .unset]) rfl (q := 97) rfl ?_
                    refine own_goto X13 hx (hb hby d6_97) (by decide) (q := 71) rfl ?_
                    exact ih_71 _ (by omega) T13 X13 e13 (nu + (1 : Int32)) rfl (by omega) (by omega) (by intro j q1 q2; rcases Nat.lt_or_ge j n5 with q | q; exact g71_2 j q1 (by omega); exact (show n5 = j by omega) ▸ hbl91)
              exact P71_6 _ T5 X5 e5 p1 rfl (by omega) (by omega) (by intro j q1 q2; omega)
      refine own_icmp X3 hx (hb hby d6_19) (by decide) (q := 46) rfl (q' := 22) rfl (own_h_le _ _) (fun h19 => ?_) (fun h19 => ?_)
      · replace h19 : at1.toInt ≤ p1.toInt := h19
        exact J46_4 T3 X3 e3 (by first | exact Or.inl (by omega) | exact Or.inr ⟨by omega, by rw [show at1.toInt.toNat - 1 = n1 - 1 by omega]; exact hnb37⟩)
      · replace h19 : ¬ (at1.toInt ≤ p1.toInt) := h19
        refine own_getS X3 hx hZ hown (hw _ (List.mem_of_getElem? (i := 22) rfl)) e3 ST (hb hby d6_22) (q := 25) rfl ?_
        intro T14 X14 e14
        refine own_aload_n X14 hx (hb hby d6_25) rfl rfl (q := 26) rfl ?_
        refine own_iload X14 hx (hb hby d6_26) rfl (q := 28) rfl ?_
        refine own_iconst X14 hx (hb hby d6_28) (v := (1 : Int32)) rfl (q := 29) rfl ?_
        obtain ⟨n1, hn1⟩ : ∃ n : Nat, at1.toInt = (n : Int) := ⟨at1.toInt.toNat, by omega⟩
        have i29 : (at1 - (1 : Int32)).toInt = at1.toInt - 1 := own_subI at1 (1 : Int32) (show (-2147483648 : Int) ≤ at1.toInt - 1 by omega) (show at1.toInt - 1 < 2147483648 by omega)
        refine own_isub X14 hx (hb hby d6_29) (q := 30) rfl ?_
        refine own_baload X14 hx hZ e14 A (hb hby d6_30) (i := n1 - 1) (by rw [i29]; omega) (by omega) (v := .int (f (n1 - 1))) rfl (q := 31) rfl ?_
        refine own_sipush X14 hx (hb hby d6_31) (v := (255 : Int32)) rfl (q := 34) rfl ?_
        refine own_iand X14 hx (hb hby d6_34) (q := 35) rfl ?_
        obtain ⟨u35, hu35, hv35, hw35⟩ := own_kind (f (n1 - 1)) g (hf _).1 (hf _).2 hT
        refine own_baload X14 hx hZ e14 AT (hb hby d6_35) (i := u35) (hu35) (by omega) (v := .int (g u35)) rfl (q := 36) rfl ?_
        refine own_iconst X14 hx (hb hby d6_36) (v := (2 : Int32)) rfl (q := 37) rfl ?_
        refine own_icmp X14 hx (hb hby d6_37) (by decide) (q := 46) rfl (q' := 40) rfl (own_h_ne _ _) (fun h37 => ?_) (fun h37 => ?_)
        · replace h37 : (g u35).toInt ≠ 2 := h37
          have hnb37 : ¬ own_Bl (own_F f) (n1 - 1) := own_kn hw35 h37
          exact J46_4 T14 X14 e14 (by first | exact Or.inl (by omega) | exact Or.inr ⟨by omega, by rw [show at1.toInt.toNat - 1 = n1 - 1 by omega]; exact hnb37⟩)
        · replace h37 : ¬ ((g u35).toInt ≠ 2) := h37
          have hbl37 : own_Bl (own_F f) (n1 - 1) := own_ky hw35 (by omega)
          refine own_iinc X14 hx (hb hby d6_40) (w := (at1 + (-1 : Int32))) rfl rfl (l' := #[.val (.ref a1), .val (.int p1), .val (.int p2), .val (.int p3), .val (.int (at1 + (-1 : Int32))), .val (.int al), .unset, .unset]) rfl (q := 43) rfl ?_
          obtain ⟨v15_, hv15_⟩ : ∃ z, z = (at1 + (-1 : Int32)) := ⟨_, rfl⟩
          rw [← hv15_]
          have iv15_ : v15_.toInt = at1.toInt + (-1) := by rw [hv15_]; exact own_addI at1 (-1 : Int32) (show (-2147483648 : Int) ≤ at1.toInt + (-1) by omega) (show at1.toInt + (-1) < 2147483648 by omega)
          refine own_goto X14 hx (hb hby d6_43) (by decide) (q := 16) rfl ?_
          exact ih_16 _ (by omega) T14 X14 e14 v15_ rfl (by omega) (by omega) (by intro j q1 q2; rcases Nat.lt_or_ge j n1 with q | q; exact (show n1 - 1 = j by omega) ▸ hbl37; exact g16_2 j (by omega) q2)
    exact P16_2 _ s₁ X0 e0 p2 rfl (by omega) (by omega) (by intro j q1 q2; omega)
  refine own_icmp X0 hx (hb hby d6_6) (by decide) (q := 13) rfl (q' := 9) rfl (own_h_ge _ _) (fun h6 => ?_) (fun h6 => ?_)
  · replace h6 : p3.toInt ≤ p2.toInt := h6
    refine own_iconst X0 hx (hb hby d6_13) (v := (0 : Int32)) rfl (q := 14) rfl ?_
    exact J14_1 (0 : Int32) (by have hc_0 : (0 : Int32).toInt = 0 := rfl; omega)
  · replace h6 : ¬ (p3.toInt ≤ p2.toInt) := h6
    refine own_iconst X0 hx (hb hby d6_9) (v := (1 : Int32)) rfl (q := 10) rfl ?_
    refine own_goto X0 hx (hb hby d6_10) (by decide) (q := 14) rfl ?_
    exact J14_1 (1 : Int32) (by have hc_0 : (1 : Int32).toInt = 1 := rfl; omega)
theorem own_pn0 : plainName "com/example/pillbug/pillbug/core/Base64RunsDigitsMayEndLineAlonePinLaw" = true := by first | (simp [plainName, overriddenIn]; done) | decide +kernel
theorem own_ef0 (m : MethodId) (q1 : Int64) (p1 : Int32) (p2 : Int32) : entryFrame m #[(.long q1), (.int p1), (.int p2)] maxLocals = mkF m 0 #[.val (.long q1), .second, .val (.int p1), .val (.int p2), .unset, .unset, .unset, .unset, .unset, .unset, .unset] [] := by first | (simp [entryFrame, mkF, argsToLocals, Value.category, maxLocals]; done) | rfl
set_option maxRecDepth 65536 in
set_option maxHeartbeats 40000000 in
theorem own_rm0 (l : Launch) (Z : State) (a0 : Array Value) (hw : ∀ d ∈ tables_1, d.before a0 Z = true) (ws : List Jvm.Cond) (q1 : Int64) (p1 : Int32) (p2 : Int32) (aT : Addr) (g : Nat → Int32) (h0 : Heap) (ST : Sta Z h0 "com/example/pillbug/pillbug/core/Base64Runs" "KINDS" "[B" (.ref aT)) (AT : own_Arr Z h0 aT .byte 256 (fun i => .int (g i))) (hT : ∀ i : Nat, i < 256 → (((i = 32 ∨ i = 9) ∧ (g i).toInt = 2) ∨ (¬ (i = 32 ∨ i = 9) ∧ (g i).toInt ≠ 2))) :
    MetFree l x (head1 (Jvm.Cond.code x code maxLocals ret :: ws) room_1) (fun a U => a = #[(.long q1), (.int p1), (.int p2)] ∧ Z.Warmed39 U.vm ∧ U.heap = h0) (fun _ _ _ _ _ => True) (fun _ U o U' => ∃ v L, o = .returned v ∧ (fun v h L => v = some (.int 1) ∧ Fr h0.size L) v U'.heap L ∧ FrameEnd U o U' L room_1.cells room_1.slots) := by
  refine own_body (y := x) (Q := fun v h L => v = some (.int 1) ∧ Fr h0.size L) (rm := room_1) (as' := #[(.long q1), (.int p1), (.int p2)]) (h0 := h0) (Z := Z) own_pn0 ?_
  intro p e s m below meth c s₁ hx hby hml hown hnm hret hlk hZ X0 e0
  have hown : s.vm.findClass "com/example/pillbug/pillbug/core/Base64RunsDigitsMayEndLineAlonePinLaw" = some m.cls := hown
  rw [own_ef0]
  refine own_bipush X0 hx (hb hby at_0) (v := (6 : Int32)) rfl (q := 2) rfl ?_
  refine own_newP X0 hx hZ (hw _ (List.mem_of_getElem? (i := 0) rfl)) e0 (hb hby at_2) (N := 6) (rfl) (cap := 6) (by decide) (by decide) (by decide) (by decide) (q := 4) rfl ?_
  intro T1 h1_ b1 g1 X1 e1 E1 A1
  have ne_aT_b1 : aT ≠ b1 := Nat.ne_of_lt (by rw [g1]; exact AT.lt)
  have ST_1 := ST.ext E1
  have AT_1 := AT.ext E1
  have o1 : h0.size ≤ b1 := by rw [g1]; exact (Nat.le_refl _)
  have z1_ : h0.size ≤ h1_.size := Nat.le_trans (Nat.le_refl _) E1.1
  have A1 : own_Arr Z h1_ b1 .byte 6 (fun i => .int (own_zero i)) := A1
  refine own_astore X1 hx (hb hby at_4) rfl (l' := #[.val (.long q1), .second, .val (.int p1), .val (.int p2), .val (.ref b1), .unset, .unset, .unset, .unset, .unset, .unset]) rfl (q := 6) rfl ?_
  refine own_aload X1 hx (hb hby at_6) rfl rfl (q := 8) rfl ?_
  refine own_iconst X1 hx (hb hby at_8) (v := (0 : Int32)) rfl (q := 9) rfl ?_
  refine own_lload_n X1 hx (hb hby at_9) rfl (q := 10) rfl ?_
  refine own_iload_n X1 hx (hb hby at_10) rfl (q := 11) rfl ?_
  refine own_iconst X1 hx (hb hby at_11) (v := (0 : Int32)) rfl (q := 12) rfl ?_
  refine own_callSP X1 hx hZ hown (hw _ (List.mem_of_getElem? (i := 1) rfl)) (hw _ (List.mem_of_getElem? (i := 2) rfl)) (hw _ (List.mem_of_getElem? (i := 3) rfl)) (hw _ (List.mem_of_getElem? (i := 4) rfl)) (by decide) (own_rm1 l Z a0 hw [] q1 p1 (0 : Int32)  h1_ ) (by decide) (by decide) e1 (by rw [hml]; rfl) (argsL := [(.long q1), (.int p1), (.int (0 : Int32))]) (rest := [(.int (0 : Int32)), (.ref b1)]) (lenOf own_pd1 rfl) rfl (W := 2) rfl (hb hby at_12) (q := 15) rfl rfl rfl rfl (by decide) (by decide) ?_
  rintro _ T2 ⟨z2, rfl⟩ X2 e2
  refine own_stB X2 hx hZ e2 A1 (hb hby at_15) (i := 0) (rfl) (by decide) (Fr.nil _) o1 (q := 16) rfl ?_
  intro T3 h3_ L3 X3 N3 e3 A3 W3
  have K3 := Keep.of_wr W3
  have ST_3 := ST_1.wr W3
  have AT_3 := AT_1.keep K3 (ninS ne_aT_b1 nin0)
  have z3_ : h0.size ≤ h3_.size := Nat.le_trans z1_ K3.1
  refine own_aload X3 hx (hb hby at_16) rfl rfl (q := 18) rfl ?_
  refine own_iconst X3 hx (hb hby at_18) (v := (1 : Int32)) rfl (q := 19) rfl ?_
  refine own_lload_n X3 hx (hb hby at_19) rfl (q := 20) rfl ?_
  refine own_iload_n X3 hx (hb hby at_20) rfl (q := 21) rfl ?_
  refine own_iconst X3 hx (hb hby at_21) (v := (1 : Int32)) rfl (q := 22) rfl ?_
  refine own_callSP X3 hx hZ hown (hw _ (List.mem_of_getElem? (i := 1) rfl)) (hw _ (List.mem_of_getElem? (i := 2) rfl)) (hw _ (List.mem_of_getElem? (i := 3) rfl)) (hw _ (List.mem_of_getElem? (i := 4) rfl)) (by decide) (own_rm1 l Z a0 hw [] q1 p1 (1 : Int32)  h3_ ) (by decide) (by decide) e3 (by rw [hml]; rfl) (argsL := [(.long q1), (.int p1), (.int (1 : Int32))]) (rest := [(.int (1 : Int32)), (.ref b1)]) (lenOf own_pd1 rfl) rfl (W := 2) rfl (hb hby at_22) (q := 25) rfl rfl rfl rfl (by decide) (by decide) ?_
  rintro _ T4 ⟨z4, rfl⟩ X4 e4
  refine own_stB X4 hx hZ e4 A3 (hb hby at_25) (i := 1) (rfl) (by decide) N3 o1 (q := 26) rfl ?_
  intro T5 h5_ L5 X5 N5 e5 A5 W5
  have K5 := Keep.of_wr W5
  have ST_5 := ST_3.wr W5
  have AT_5 := AT_3.keep K5 (ninS ne_aT_b1 nin0)
  have z5_ : h0.size ≤ h5_.size := Nat.le_trans z3_ K5.1
  refine own_aload X5 hx (hb hby at_26) rfl rfl (q := 28) rfl ?_
  refine own_iconst X5 hx (hb hby at_28) (v := (2 : Int32)) rfl (q := 29) rfl ?_
  refine own_lload_n X5 hx (hb hby at_29) rfl (q := 30) rfl ?_
  refine own_iload_n X5 hx (hb hby at_30) rfl (q := 31) rfl ?_
  refine own_iconst X5 hx (hb hby at_31) (v := (2 : Int32)) rfl (q := 32) rfl ?_
  refine own_callSP X5 hx hZ hown (hw _ (List.mem_of_getElem? (i := 1) rfl)) (hw _ (List.mem_of_getElem? (i := 2) rfl)) (hw _ (List.mem_of_getElem? (i := 3) rfl)) (hw _ (List.mem_of_getElem? (i := 4) rfl)) (by decide) (own_rm1 l Z a0 hw [] q1 p1 (2 : Int32)  h5_ ) (by decide) (by decide) e5 (by rw [hml]; rfl) (argsL := [(.long q1), (.int p1), (.int (2 : Int32))]) (rest := [(.int (2 : Int32)), (.ref b1)]) (lenOf own_pd1 rfl) rfl (W := 2) rfl (hb hby at_32) (q := 35) rfl rfl rfl rfl (by decide) (by decide) ?_
  rintro _ T6 ⟨z6, rfl⟩ X6 e6
  refine own_stB X6 hx hZ e6 A5 (hb hby at_35) (i := 2) (rfl) (by decide) N5 o1 (q := 36) rfl ?_
  intro T7 h7_ L7 X7 N7 e7 A7 W7
  have K7 := Keep.of_wr W7
  have ST_7 := ST_5.wr W7
  have AT_7 := AT_5.keep K7 (ninS ne_aT_b1 nin0)
  have z7_ : h0.size ≤ h7_.size := Nat.le_trans z5_ K7.1
  refine own_aload X7 hx (hb hby at_36) rfl rfl (q := 38) rfl ?_
  refine own_iconst X7 hx (hb hby at_38) (v := (3 : Int32)) rfl (q := 39) rfl ?_
  refine own_lload_n X7 hx (hb hby at_39) rfl (q := 40) rfl ?_
  refine own_iload_n X7 hx (hb hby at_40) rfl (q := 41) rfl ?_
  refine own_iconst X7 hx (hb hby at_41) (v := (3 : Int32)) rfl (q := 42) rfl ?_
  refine own_callSP X7 hx hZ hown (hw _ (List.mem_of_getElem? (i := 1) rfl)) (hw _ (List.mem_of_getElem? (i := 2) rfl)) (hw _ (List.mem_of_getElem? (i := 3) rfl)) (hw _ (List.mem_of_getElem? (i := 4) rfl)) (by decide) (own_rm1 l Z a0 hw [] q1 p1 (3 : Int32)  h7_ ) (by decide) (by decide) e7 (by rw [hml]; rfl) (argsL := [(.long q1), (.int p1), (.int (3 : Int32))]) (rest := [(.int (3 : Int32)), (.ref b1)]) (lenOf own_pd1 rfl) rfl (W := 2) rfl (hb hby at_42) (q := 45) rfl rfl rfl rfl (by decide) (by decide) ?_
  rintro _ T8 ⟨z8, rfl⟩ X8 e8
  refine own_stB X8 hx hZ e8 A7 (hb hby at_45) (i := 3) (rfl) (by decide) N7 o1 (q := 46) rfl ?_
  intro T9 h9_ L9 X9 N9 e9 A9 W9
  have K9 := Keep.of_wr W9
  have ST_9 := ST_7.wr W9
  have AT_9 := AT_7.keep K9 (ninS ne_aT_b1 nin0)
  have z9_ : h0.size ≤ h9_.size := Nat.le_trans z7_ K9.1
  refine own_aload X9 hx (hb hby at_46) rfl rfl (q := 48) rfl ?_
  refine own_iconst X9 hx (hb hby at_48) (v := (4 : Int32)) rfl (q := 49) rfl ?_
  refine own_lload_n X9 hx (hb hby at_49) rfl (q := 50) rfl ?_
  refine own_iload_n X9 hx (hb hby at_50) rfl (q := 51) rfl ?_
  refine own_iconst X9 hx (hb hby at_51) (v := (4 : Int32)) rfl (q := 52) rfl ?_
  refine own_callSP X9 hx hZ hown (hw _ (List.mem_of_getElem? (i := 1) rfl)) (hw _ (List.mem_of_getElem? (i := 2) rfl)) (hw _ (List.mem_of_getElem? (i := 3) rfl)) (hw _ (List.mem_of_getElem? (i := 4) rfl)) (by decide) (own_rm1 l Z a0 hw [] q1 p1 (4 : Int32)  h9_ ) (by decide) (by decide) e9 (by rw [hml]; rfl) (argsL := [(.long q1), (.int p1), (.int (4 : Int32))]) (rest := [(.int (4 : Int32)), (.ref b1)]) (lenOf own_pd1 rfl) rfl (W := 2) rfl (hb hby at_52) (q := 55) rfl rfl rfl rfl (by decide) (by decide) ?_
  rintro _ T10 ⟨z10, rfl⟩ X10 e10
  refine own_stB X10 hx hZ e10 A9 (hb hby at_55) (i := 4) (rfl) (by decide) N9 o1 (q := 56) rfl ?_
  intro T11 h11_ L11 X11 N11 e11 A11 W11
  have K11 := Keep.of_wr W11
  have ST_11 := ST_9.wr W11
  have AT_11 := AT_9.keep K11 (ninS ne_aT_b1 nin0)
  have z11_ : h0.size ≤ h11_.size := Nat.le_trans z9_ K11.1
  refine own_aload X11 hx (hb hby at_56) rfl rfl (q := 58) rfl ?_
  refine own_iconst X11 hx (hb hby at_58) (v := (5 : Int32)) rfl (q := 59) rfl ?_
  refine own_lload_n X11 hx (hb hby at_59) rfl (q := 60) rfl ?_
  refine own_iload_n X11 hx (hb hby at_60) rfl (q := 61) rfl ?_
  refine own_iconst X11 hx (hb hby at_61) (v := (5 : Int32)) rfl (q := 62) rfl ?_
  refine own_callSP X11 hx hZ hown (hw _ (List.mem_of_getElem? (i := 1) rfl)) (hw _ (List.mem_of_getElem? (i := 2) rfl)) (hw _ (List.mem_of_getElem? (i := 3) rfl)) (hw _ (List.mem_of_getElem? (i := 4) rfl)) (by decide) (own_rm1 l Z a0 hw [] q1 p1 (5 : Int32)  h11_ ) (by decide) (by decide) e11 (by rw [hml]; rfl) (argsL := [(.long q1), (.int p1), (.int (5 : Int32))]) (rest := [(.int (5 : Int32)), (.ref b1)]) (lenOf own_pd1 rfl) rfl (W := 2) rfl (hb hby at_62) (q := 65) rfl rfl rfl rfl (by decide) (by decide) ?_
  rintro _ T12 ⟨z12, rfl⟩ X12 e12
  refine own_stB X12 hx hZ e12 A11 (hb hby at_65) (i := 5) (rfl) (by decide) N11 o1 (q := 66) rfl ?_
  intro T13 h13_ L13 X13 N13 e13 A13 W13
  have K13 := Keep.of_wr W13
  have ST_13 := ST_11.wr W13
  have AT_13 := AT_11.keep K13 (ninS ne_aT_b1 nin0)
  have z13_ : h0.size ≤ h13_.size := Nat.le_trans z11_ K13.1
  obtain ⟨f, Af, hf⟩ : ∃ f : Nat → Int32, own_Arr Z h13_ b1 .byte 6 (fun i => .int (f i)) ∧ ∀ j, -128 ≤ (f j).toInt ∧ (f j).toInt < 128 := ⟨_, A13, (own_rngU (own_rngU (own_rngU (own_rngU (own_rngU (own_rngU own_rng0 _ _) _ _) _ _) _ _) _ _) _ _)⟩
  refine own_iload_n X13 hx (hb hby at_66) rfl (q := 67) rfl ?_
  refine own_bipush X13 hx (hb hby at_67) (v := (7 : Int32)) rfl (q := 69) rfl ?_
  refine own_iand X13 hx (hb hby at_69) (q := 70) rfl ?_
  refine own_bipush X13 hx (hb hby at_70) (v := (7 : Int32)) rfl (q := 72) rfl ?_
  refine own_irem X13 hx (hb hby at_72) (by decide) (q := 73) rfl ?_
  refine own_istore X13 hx (hb hby at_73) (l' := #[.val (.long q1), .second, .val (.int p1), .val (.int p2), .val (.ref b1), .val (.int ((p2 &&& (7 : Int32)) - ((p2 &&& (7 : Int32)) / (7 : Int32)) * (7 : Int32))), .unset, .unset, .unset, .unset, .unset]) rfl (q := 75) rfl ?_
  have r1 : (p2 &&& (7 : Int32)).toInt = p2.toInt % 8 := c_mask p2 7 3 (by decide) (by decide)
  have r2 : ((p2 &&& (7 : Int32)) - ((p2 &&& (7 : Int32)) / (7 : Int32)) * (7 : Int32)).toInt = (p2 &&& (7 : Int32)).toInt % 7 := own_rem _ 7 (by omega) (by decide)
  obtain ⟨fr, e_fr⟩ : ∃ z, z = ((p2 &&& (7 : Int32)) - ((p2 &&& (7 : Int32)) / (7 : Int32)) * (7 : Int32)) := ⟨_, rfl⟩
  rw [← e_fr] at r2 ⊢
  obtain ⟨a, hpa⟩ : ∃ n : Nat, fr.toInt = (n : Int) := ⟨fr.toInt.toNat, by omega⟩
  refine own_iload X13 hx (hb hby at_75) rfl (q := 77) rfl ?_
  refine own_iload_n X13 hx (hb hby at_77) rfl (q := 78) rfl ?_
  refine own_iconst X13 hx (hb hby at_78) (v := (3 : Int32)) rfl (q := 79) rfl ?_
  refine own_iushr X13 hx (hb hby at_79) (q := 80) rfl ?_
  refine own_bipush X13 hx (hb hby at_80) (v := (7 : Int32)) rfl (q := 82) rfl ?_
  refine own_iand X13 hx (hb hby at_82) (q := 83) rfl ?_
  refine own_bipush X13 hx (hb hby at_83) (v := (7 : Int32)) rfl (q := 85) rfl ?_
  refine own_iload X13 hx (hb hby at_85) rfl (q := 87) rfl ?_
  have r3 : ((7 : Int32) - fr).toInt = 7 - fr.toInt := own_subI (7 : Int32) fr (show (-2147483648 : Int) ≤ 7 - fr.toInt by omega) (show 7 - fr.toInt < 2147483648 by omega)
  refine own_isub X13 hx (hb hby at_87) (q := 88) rfl ?_
  refine own_irem X13 hx (hb hby at_88) (fun q => by have q1 := congrArg Int32.toInt q; have q2 : (0 : Int32).toInt = 0 := rfl; omega) (q := 89) rfl ?_
  have s3a : ((XT.ushr p2 (3 : Int32)) &&& (7 : Int32)).toInt = (XT.ushr p2 (3 : Int32)).toInt % 8 := c_mask _ 7 3 (by decide) (by decide)
  have s3b : (((XT.ushr p2 (3 : Int32)) &&& (7 : Int32)) - (((XT.ushr p2 (3 : Int32)) &&& (7 : Int32)) / ((7 : Int32) - fr)) * ((7 : Int32) - fr)).toInt = ((XT.ushr p2 (3 : Int32)) &&& (7 : Int32)).toInt % ((7 : Int32) - fr).toInt := own_rem _ _ (by omega) (by omega)
  have s3c := Int.emod_nonneg ((XT.ushr p2 (3 : Int32)) &&& (7 : Int32)).toInt (show ((7 : Int32) - fr).toInt ≠ 0 by omega)
  have s3d := Int.emod_lt_of_pos ((XT.ushr p2 (3 : Int32)) &&& (7 : Int32)).toInt (show 0 < ((7 : Int32) - fr).toInt by omega)
  rw [← s3b] at s3c s3d
  obtain ⟨s3v, e_s3v⟩ : ∃ z, z = (((XT.ushr p2 (3 : Int32)) &&& (7 : Int32)) - (((XT.ushr p2 (3 : Int32)) &&& (7 : Int32)) / ((7 : Int32) - fr)) * ((7 : Int32) - fr)) := ⟨_, rfl⟩
  rw [← e_s3v] at s3c s3d ⊢
  clear s3b s3a
  have s3e : (fr + s3v).toInt = fr.toInt + s3v.toInt := own_addI fr s3v (show (-2147483648 : Int) ≤ fr.toInt + s3v.toInt by omega) (show fr.toInt + s3v.toInt < 2147483648 by omega)
  refine own_iadd X13 hx (hb hby at_89) (q := 90) rfl ?_
  refine own_istore X13 hx (hb hby at_90) (l' := #[.val (.long q1), .second, .val (.int p1), .val (.int p2), .val (.ref b1), .val (.int fr), .val (.int (fr + s3v)), .unset, .unset, .unset, .unset]) rfl (q := 92) rfl ?_
  obtain ⟨ds, e_ds⟩ : ∃ z, z = (fr + s3v) := ⟨_, rfl⟩
  rw [← e_ds] at s3e ⊢
  obtain ⟨d, hpd⟩ : ∃ n : Nat, ds.toInt = (n : Int) := ⟨ds.toInt.toNat, by omega⟩
  have had : a ≤ d := by omega
  have hd6 : d ≤ 6 := by omega
  refine own_iload X13 hx (hb hby at_92) rfl (q := 94) rfl ?_
  refine own_iload_n X13 hx (hb hby at_94) rfl (q := 95) rfl ?_
  refine own_bipush X13 hx (hb hby at_95) (v := (6 : Int32)) rfl (q := 97) rfl ?_
  refine own_iushr X13 hx (hb hby at_97) (q := 98) rfl ?_
  refine own_bipush X13 hx (hb hby at_98) (v := (7 : Int32)) rfl (q := 100) rfl ?_
  refine own_iand X13 hx (hb hby at_100) (q := 101) rfl ?_
  refine own_bipush X13 hx (hb hby at_101) (v := (7 : Int32)) rfl (q := 103) rfl ?_
  refine own_iload X13 hx (hb hby at_103) rfl (q := 105) rfl ?_
  have r4 : ((7 : Int32) - ds).toInt = 7 - ds.toInt := own_subI (7 : Int32) ds (show (-2147483648 : Int) ≤ 7 - ds.toInt by omega) (show 7 - ds.toInt < 2147483648 by omega)
  refine own_isub X13 hx (hb hby at_105) (q := 106) rfl ?_
  refine own_irem X13 hx (hb hby at_106) (fun q => by have q1 := congrArg Int32.toInt q; have q2 : (0 : Int32).toInt = 0 := rfl; omega) (q := 107) rfl ?_
  have s6a : ((XT.ushr p2 (6 : Int32)) &&& (7 : Int32)).toInt = (XT.ushr p2 (6 : Int32)).toInt % 8 := c_mask _ 7 3 (by decide) (by decide)
  have s6b : (((XT.ushr p2 (6 : Int32)) &&& (7 : Int32)) - (((XT.ushr p2 (6 : Int32)) &&& (7 : Int32)) / ((7 : Int32) - ds)) * ((7 : Int32) - ds)).toInt = ((XT.ushr p2 (6 : Int32)) &&& (7 : Int32)).toInt % ((7 : Int32) - ds).toInt := own_rem _ _ (by omega) (by omega)
  have s6c := Int.emod_nonneg ((XT.ushr p2 (6 : Int32)) &&& (7 : Int32)).toInt (show ((7 : Int32) - ds).toInt ≠ 0 by omega)
  have s6d := Int.emod_lt_of_pos ((XT.ushr p2 (6 : Int32)) &&& (7 : Int32)).toInt (show 0 < ((7 : Int32) - ds).toInt by omega)
  rw [← s6b] at s6c s6d
  obtain ⟨s6v, e_s6v⟩ : ∃ z, z = (((XT.ushr p2 (6 : Int32)) &&& (7 : Int32)) - (((XT.ushr p2 (6 : Int32)) &&& (7 : Int32)) / ((7 : Int32) - ds)) * ((7 : Int32) - ds)) := ⟨_, rfl⟩
  rw [← e_s6v] at s6c s6d ⊢
  clear s6b s6a
  have s6e : (ds + s6v).toInt = ds.toInt + s6v.toInt := own_addI ds s6v (show (-2147483648 : Int) ≤ ds.toInt + s6v.toInt by omega) (show ds.toInt + s6v.toInt < 2147483648 by omega)
  refine own_iadd X13 hx (hb hby at_107) (q := 108) rfl ?_
  refine own_istore X13 hx (hb hby at_108) (l' := #[.val (.long q1), .second, .val (.int p1), .val (.int p2), .val (.ref b1), .val (.int fr), .val (.int ds), .val (.int (ds + s6v)), .unset, .unset, .unset]) rfl (q := 110) rfl ?_
  obtain ⟨de, e_de⟩ : ∃ z, z = (ds + s6v) := ⟨_, rfl⟩
  rw [← e_de] at s6e ⊢
  have I0 := (own_law0 (F := own_F f) (a := a) (d := d)).1
  have M0 := (own_law0 (F := own_F f) (a := a) (d := d)).2
  refine own_iconst X13 hx (hb hby at_110) (v := (0 : Int32)) rfl (q := 111) rfl ?_
  refine own_istore X13 hx (hb hby at_111) (l' := #[.val (.long q1), .second, .val (.int p1), .val (.int p2), .val (.ref b1), .val (.int fr), .val (.int ds), .val (.int de), .val (.int (0 : Int32)), .unset, .unset]) rfl (q := 113) rfl ?_
  refine own_sipush X13 hx (hb hby at_113) (v := (-1000 : Int32)) rfl (q := 116) rfl ?_
  refine own_istore X13 hx (hb hby at_116) (l' := #[.val (.long q1), .second, .val (.int p1), .val (.int p2), .val (.ref b1), .val (.int fr), .val (.int ds), .val (.int de), .val (.int (0 : Int32)), .val (.int (-1000 : Int32)), .unset]) rfl (q := 118) rfl ?_
  refine own_iload X13 hx (hb hby at_118) rfl (q := 120) rfl ?_
  refine own_aload X13 hx (hb hby at_120) rfl rfl (q := 122) rfl ?_
  refine own_iconst X13 hx (hb hby at_122) (v := (0 : Int32)) rfl (q := 123) rfl ?_
  refine own_iload X13 hx (hb hby at_123) rfl (q := 125) rfl ?_
  refine own_iload X13 hx (hb hby at_125) rfl (q := 127) rfl ?_
  refine own_callSP X13 hx hZ hown (hw _ (List.mem_of_getElem? (i := 6) rfl)) (hw _ (List.mem_of_getElem? (i := 7) rfl)) (hw _ (List.mem_of_getElem? (i := 3) rfl)) (hw _ (List.mem_of_getElem? (i := 8) rfl)) (by decide) (own_rm4 l Z a0 hw [] (0 : Int32) b1 (0 : Int32) fr ds f 0 h13_ Af rfl (by decide)) (by decide) (by decide) e13 (by rw [hml]; rfl) (argsL := [(.int (0 : Int32)), (.ref b1), (.int (0 : Int32)), (.int fr), (.int ds)]) (rest := []) (lenOf own_pd2 rfl) rfl (W := 0) rfl (hb hby at_127) (q := 130) rfl rfl rfl rfl (by decide) (by decide) ?_
  rintro _ T14 ⟨z14, rfl, hz14⟩ X14 e14
  have I1 := own_law1 (F := own_F f) (a := a) (d := d) (i := 0) (s := (0 : Int32).toInt) (z := z14.toInt) had I0 (by rcases hz14 with ⟨q, r⟩ | ⟨q, r⟩; exact Or.inl ⟨by have q1 : (0 : Int32).toInt = 0 := rfl; omega, r⟩; exact Or.inr ⟨by have q1 : (0 : Int32).toInt = 0 := rfl; omega, r⟩)
  refine own_istore X14 hx (hb hby at_130) (l' := #[.val (.long q1), .second, .val (.int p1), .val (.int p2), .val (.ref b1), .val (.int fr), .val (.int ds), .val (.int de), .val (.int z14), .val (.int (-1000 : Int32)), .unset]) rfl (q := 132) rfl ?_
  refine own_iload X14 hx (hb hby at_132) rfl (q := 134) rfl ?_
  refine own_aload X14 hx (hb hby at_134) rfl rfl (q := 136) rfl ?_
  refine own_iconst X14 hx (hb hby at_136) (v := (0 : Int32)) rfl (q := 137) rfl ?_
  refine own_iload X14 hx (hb hby at_137) rfl (q := 139) rfl ?_
  refine own_iload X14 hx (hb hby at_139) rfl (q := 141) rfl ?_
  refine own_callSP X14 hx hZ hown (hw _ (List.mem_of_getElem? (i := 9) rfl)) (hw _ (List.mem_of_getElem? (i := 10) rfl)) (hw _ (List.mem_of_getElem? (i := 3) rfl)) (hw _ (List.mem_of_getElem? (i := 11) rfl)) (by decide) (own_rm5 l Z a0 hw [] (-1000 : Int32) b1 (0 : Int32) fr ds f 0 h13_ Af rfl (by decide)) (by decide) (by decide) e14 (by rw [hml]; rfl) (argsL := [(.int (-1000 : Int32)), (.ref b1), (.int (0 : Int32)), (.int fr), (.int ds)]) (rest := []) (lenOf own_pd2 rfl) rfl (W := 0) rfl (hb hby at_141) (q := 144) rfl rfl rfl rfl (by decide) (by decide) ?_
  rintro _ T15 ⟨z15, rfl, hz15⟩ X15 e15
  have M1 := own_law2 (F := own_F f) (a := a) (d := d) (i := 0) (s := (-1000 : Int32).toInt) (z := z15.toInt) had M0 (by rcases hz15 with ⟨q, r⟩ | ⟨q, r⟩; exact Or.inl ⟨by have q1 : (0 : Int32).toInt = 0 := rfl; omega, r⟩; exact Or.inr ⟨by have q1 : (0 : Int32).toInt = 0 := rfl; omega, r⟩)
  refine own_istore X15 hx (hb hby at_144) (l' := #[.val (.long q1), .second, .val (.int p1), .val (.int p2), .val (.ref b1), .val (.int fr), .val (.int ds), .val (.int de), .val (.int z14), .val (.int z15), .unset]) rfl (q := 146) rfl ?_
  refine own_iload X15 hx (hb hby at_146) rfl (q := 148) rfl ?_
  refine own_aload X15 hx (hb hby at_148) rfl rfl (q := 150) rfl ?_
  refine own_iconst X15 hx (hb hby at_150) (v := (1 : Int32)) rfl (q := 151) rfl ?_
  refine own_iload X15 hx (hb hby at_151) rfl (q := 153) rfl ?_
  refine own_iload X15 hx (hb hby at_153) rfl (q := 155) rfl ?_
  refine own_callSP X15 hx hZ hown (hw _ (List.mem_of_getElem? (i := 6) rfl)) (hw _ (List.mem_of_getElem? (i := 7) rfl)) (hw _ (List.mem_of_getElem? (i := 3) rfl)) (hw _ (List.mem_of_getElem? (i := 8) rfl)) (by decide) (own_rm4 l Z a0 hw [] z14 b1 (1 : Int32) fr ds f 1 h13_ Af rfl (by decide)) (by decide) (by decide) e15 (by rw [hml]; rfl) (argsL := [(.int z14), (.ref b1), (.int (1 : Int32)), (.int fr), (.int ds)]) (rest := []) (lenOf own_pd2 rfl) rfl (W := 0) rfl (hb hby at_155) (q := 158) rfl rfl rfl rfl (by decide) (by decide) ?_
  rintro _ T16 ⟨z16, rfl, hz16⟩ X16 e16
  have I2 := own_law1 (F := own_F f) (a := a) (d := d) (i := 1) (s := z14.toInt) (z := z16.toInt) had I1 (by rcases hz16 with ⟨q, r⟩ | ⟨q, r⟩; exact Or.inl ⟨by have q1 : (1 : Int32).toInt = 1 := rfl; omega, r⟩; exact Or.inr ⟨by have q1 : (1 : Int32).toInt = 1 := rfl; omega, r⟩)
  refine own_istore X16 hx (hb hby at_158) (l' := #[.val (.long q1), .second, .val (.int p1), .val (.int p2), .val (.ref b1), .val (.int fr), .val (.int ds), .val (.int de), .val (.int z16), .val (.int z15), .unset]) rfl (q := 160) rfl ?_
  refine own_iload X16 hx (hb hby at_160) rfl (q := 162) rfl ?_
  refine own_aload X16 hx (hb hby at_162) rfl rfl (q := 164) rfl ?_
  refine own_iconst X16 hx (hb hby at_164) (v := (1 : Int32)) rfl (q := 165) rfl ?_
  refine own_iload X16 hx (hb hby at_165) rfl (q := 167) rfl ?_
  refine own_iload X16 hx (hb hby at_167) rfl (q := 169) rfl ?_
  refine own_callSP X16 hx hZ hown (hw _ (List.mem_of_getElem? (i := 9) rfl)) (hw _ (List.mem_of_getElem? (i := 10) rfl)) (hw _ (List.mem_of_getElem? (i := 3) rfl)) (hw _ (List.mem_of_getElem? (i := 11) rfl)) (by decide) (own_rm5 l Z a0 hw [] z15 b1 (1 : Int32) fr ds f 1 h13_ Af rfl (by decide)) (by decide) (by decide) e16 (by rw [hml]; rfl) (argsL := [(.int z15), (.ref b1), (.int (1 : Int32)), (.int fr), (.int ds)]) (rest := []) (lenOf own_pd2 rfl) rfl (W := 0) rfl (hb hby at_169) (q := 172) rfl rfl rfl rfl (by decide) (by decide) ?_
  rintro _ T17 ⟨z17, rfl, hz17⟩ X17 e17
  have M2 := own_law2 (F := own_F f) (a := a) (d := d) (i := 1) (s := z15.toInt) (z := z17.toInt) had M1 (by rcases hz17 with ⟨q, r⟩ | ⟨q, r⟩; exact Or.inl ⟨by have q1 : (1 : Int32).toInt = 1 := rfl; omega, r⟩; exact Or.inr ⟨by have q1 : (1 : Int32).toInt = 1 := rfl; omega, r⟩)
  refine own_istore X17 hx (hb hby at_172) (l' := #[.val (.long q1), .second, .val (.int p1), .val (.int p2), .val (.ref b1), .val (.int fr), .val (.int ds), .val (.int de), .val (.int z16), .val (.int z17), .unset]) rfl (q := 174) rfl ?_
  refine own_iload X17 hx (hb hby at_174) rfl (q := 176) rfl ?_
  refine own_aload X17 hx (hb hby at_176) rfl rfl (q := 178) rfl ?_
  refine own_iconst X17 hx (hb hby at_178) (v := (2 : Int32)) rfl (q := 179) rfl ?_
  refine own_iload X17 hx (hb hby at_179) rfl (q := 181) rfl ?_
  refine own_iload X17 hx (hb hby at_181) rfl (q := 183) rfl ?_
  refine own_callSP X17 hx hZ hown (hw _ (List.mem_of_getElem? (i := 6) rfl)) (hw _ (List.mem_of_getElem? (i := 7) rfl)) (hw _ (List.mem_of_getElem? (i := 3) rfl)) (hw _ (List.mem_of_getElem? (i := 8) rfl)) (by decide) (own_rm4 l Z a0 hw [] z16 b1 (2 : Int32) fr ds f 2 h13_ Af rfl (by decide)) (by decide) (by decide) e17 (by rw [hml]; rfl) (argsL := [(.int z16), (.ref b1), (.int (2 : Int32)), (.int fr), (.int ds)]) (rest := []) (lenOf own_pd2 rfl) rfl (W := 0) rfl (hb hby at_183) (q := 186) rfl rfl rfl rfl (by decide) (by decide) ?_
  rintro _ T18 ⟨z18, rfl, hz18⟩ X18 e18
  have I3 := own_law1 (F := own_F f) (a := a) (d := d) (i := 2) (s := z16.toInt) (z := z18.toInt) had I2 (by rcases hz18 with ⟨q, r⟩ | ⟨q, r⟩; exact Or.inl ⟨by have q1 : (2 : Int32).toInt = 2 := rfl; omega, r⟩; exact Or.inr ⟨by have q1 : (2 : Int32).toInt = 2 := rfl; omega, r⟩)
  refine own_istore X18 hx (hb hby at_186) (l' := #[.val (.long q1), .second, .val (.int p1), .val (.int p2), .val (.ref b1), .val (.int fr), .val (.int ds), .val (.int de), .val (.int z18), .val (.int z17), .unset]) rfl (q := 188) rfl ?_
  refine own_iload X18 hx (hb hby at_188) rfl (q := 190) rfl ?_
  refine own_aload X18 hx (hb hby at_190) rfl rfl (q := 192) rfl ?_
  refine own_iconst X18 hx (hb hby at_192) (v := (2 : Int32)) rfl (q := 193) rfl ?_
  refine own_iload X18 hx (hb hby at_193) rfl (q := 195) rfl ?_
  refine own_iload X18 hx (hb hby at_195) rfl (q := 197) rfl ?_
  refine own_callSP X18 hx hZ hown (hw _ (List.mem_of_getElem? (i := 9) rfl)) (hw _ (List.mem_of_getElem? (i := 10) rfl)) (hw _ (List.mem_of_getElem? (i := 3) rfl)) (hw _ (List.mem_of_getElem? (i := 11) rfl)) (by decide) (own_rm5 l Z a0 hw [] z17 b1 (2 : Int32) fr ds f 2 h13_ Af rfl (by decide)) (by decide) (by decide) e18 (by rw [hml]; rfl) (argsL := [(.int z17), (.ref b1), (.int (2 : Int32)), (.int fr), (.int ds)]) (rest := []) (lenOf own_pd2 rfl) rfl (W := 0) rfl (hb hby at_197) (q := 200) rfl rfl rfl rfl (by decide) (by decide) ?_
  rintro _ T19 ⟨z19, rfl, hz19⟩ X19 e19
  have M3 := own_law2 (F := own_F f) (a := a) (d := d) (i := 2) (s := z17.toInt) (z := z19.toInt) had M2 (by rcases hz19 with ⟨q, r⟩ | ⟨q, r⟩; exact Or.inl ⟨by have q1 : (2 : Int32).toInt = 2 := rfl; omega, r⟩; exact Or.inr ⟨by have q1 : (2 : Int32).toInt = 2 := rfl; omega, r⟩)
  refine own_istore X19 hx (hb hby at_200) (l' := #[.val (.long q1), .second, .val (.int p1), .val (.int p2), .val (.ref b1), .val (.int fr), .val (.int ds), .val (.int de), .val (.int z18), .val (.int z19), .unset]) rfl (q := 202) rfl ?_
  refine own_iload X19 hx (hb hby at_202) rfl (q := 204) rfl ?_
  refine own_aload X19 hx (hb hby at_204) rfl rfl (q := 206) rfl ?_
  refine own_iconst X19 hx (hb hby at_206) (v := (3 : Int32)) rfl (q := 207) rfl ?_
  refine own_iload X19 hx (hb hby at_207) rfl (q := 209) rfl ?_
  refine own_iload X19 hx (hb hby at_209) rfl (q := 211) rfl ?_
  refine own_callSP X19 hx hZ hown (hw _ (List.mem_of_getElem? (i := 6) rfl)) (hw _ (List.mem_of_getElem? (i := 7) rfl)) (hw _ (List.mem_of_getElem? (i := 3) rfl)) (hw _ (List.mem_of_getElem? (i := 8) rfl)) (by decide) (own_rm4 l Z a0 hw [] z18 b1 (3 : Int32) fr ds f 3 h13_ Af rfl (by decide)) (by decide) (by decide) e19 (by rw [hml]; rfl) (argsL := [(.int z18), (.ref b1), (.int (3 : Int32)), (.int fr), (.int ds)]) (rest := []) (lenOf own_pd2 rfl) rfl (W := 0) rfl (hb hby at_211) (q := 214) rfl rfl rfl rfl (by decide) (by decide) ?_
  rintro _ T20 ⟨z20, rfl, hz20⟩ X20 e20
  have I4 := own_law1 (F := own_F f) (a := a) (d := d) (i := 3) (s := z18.toInt) (z := z20.toInt) had I3 (by rcases hz20 with ⟨q, r⟩ | ⟨q, r⟩; exact Or.inl ⟨by have q1 : (3 : Int32).toInt = 3 := rfl; omega, r⟩; exact Or.inr ⟨by have q1 : (3 : Int32).toInt = 3 := rfl; omega, r⟩)
  refine own_istore X20 hx (hb hby at_214) (l' := #[.val (.long q1), .second, .val (.int p1), .val (.int p2), .val (.ref b1), .val (.int fr), .val (.int ds), .val (.int de), .val (.int z20), .val (.int z19), .unset]) rfl (q := 216) rfl ?_
  refine own_iload X20 hx (hb hby at_216) rfl (q := 218) rfl ?_
  refine own_aload X20 hx (hb hby at_218) rfl rfl (q := 220) rfl ?_
  refine own_iconst X20 hx (hb hby at_220) (v := (3 : Int32)) rfl (q := 221) rfl ?_
  refine own_iload X20 hx (hb hby at_221) rfl (q := 223) rfl ?_
  refine own_iload X20 hx (hb hby at_223) rfl (q := 225) rfl ?_
  refine own_callSP X20 hx hZ hown (hw _ (List.mem_of_getElem? (i := 9) rfl)) (hw _ (List.mem_of_getElem? (i := 10) rfl)) (hw _ (List.mem_of_getElem? (i := 3) rfl)) (hw _ (List.mem_of_getElem? (i := 11) rfl)) (by decide) (own_rm5 l Z a0 hw [] z19 b1 (3 : Int32) fr ds f 3 h13_ Af rfl (by decide)) (by decide) (by decide) e20 (by rw [hml]; rfl) (argsL := [(.int z19), (.ref b1), (.int (3 : Int32)), (.int fr), (.int ds)]) (rest := []) (lenOf own_pd2 rfl) rfl (W := 0) rfl (hb hby at_225) (q := 228) rfl rfl rfl rfl (by decide) (by decide) ?_
  rintro _ T21 ⟨z21, rfl, hz21⟩ X21 e21
  have M4 := own_law2 (F := own_F f) (a := a) (d := d) (i := 3) (s := z19.toInt) (z := z21.toInt) had M3 (by rcases hz21 with ⟨q, r⟩ | ⟨q, r⟩; exact Or.inl ⟨by have q1 : (3 : Int32).toInt = 3 := rfl; omega, r⟩; exact Or.inr ⟨by have q1 : (3 : Int32).toInt = 3 := rfl; omega, r⟩)
  refine own_istore X21 hx (hb hby at_228) (l' := #[.val (.long q1), .second, .val (.int p1), .val (.int p2), .val (.ref b1), .val (.int fr), .val (.int ds), .val (.int de), .val (.int z20), .val (.int z21), .unset]) rfl (q := 230) rfl ?_
  refine own_iload X21 hx (hb hby at_230) rfl (q := 232) rfl ?_
  refine own_aload X21 hx (hb hby at_232) rfl rfl (q := 234) rfl ?_
  refine own_iconst X21 hx (hb hby at_234) (v := (4 : Int32)) rfl (q := 235) rfl ?_
  refine own_iload X21 hx (hb hby at_235) rfl (q := 237) rfl ?_
  refine own_iload X21 hx (hb hby at_237) rfl (q := 239) rfl ?_
  refine own_callSP X21 hx hZ hown (hw _ (List.mem_of_getElem? (i := 6) rfl)) (hw _ (List.mem_of_getElem? (i := 7) rfl)) (hw _ (List.mem_of_getElem? (i := 3) rfl)) (hw _ (List.mem_of_getElem? (i := 8) rfl)) (by decide) (own_rm4 l Z a0 hw [] z20 b1 (4 : Int32) fr ds f 4 h13_ Af rfl (by decide)) (by decide) (by decide) e21 (by rw [hml]; rfl) (argsL := [(.int z20), (.ref b1), (.int (4 : Int32)), (.int fr), (.int ds)]) (rest := []) (lenOf own_pd2 rfl) rfl (W := 0) rfl (hb hby at_239) (q := 242) rfl rfl rfl rfl (by decide) (by decide) ?_
  rintro _ T22 ⟨z22, rfl, hz22⟩ X22 e22
  have I5 := own_law1 (F := own_F f) (a := a) (d := d) (i := 4) (s := z20.toInt) (z := z22.toInt) had I4 (by rcases hz22 with ⟨q, r⟩ | ⟨q, r⟩; exact Or.inl ⟨by have q1 : (4 : Int32).toInt = 4 := rfl; omega, r⟩; exact Or.inr ⟨by have q1 : (4 : Int32).toInt = 4 := rfl; omega, r⟩)
  refine own_istore X22 hx (hb hby at_242) (l' := #[.val (.long q1), .second, .val (.int p1), .val (.int p2), .val (.ref b1), .val (.int fr), .val (.int ds), .val (.int de), .val (.int z22), .val (.int z21), .unset]) rfl (q := 244) rfl ?_
  refine own_iload X22 hx (hb hby at_244) rfl (q := 246) rfl ?_
  refine own_aload X22 hx (hb hby at_246) rfl rfl (q := 248) rfl ?_
  refine own_iconst X22 hx (hb hby at_248) (v := (4 : Int32)) rfl (q := 249) rfl ?_
  refine own_iload X22 hx (hb hby at_249) rfl (q := 251) rfl ?_
  refine own_iload X22 hx (hb hby at_251) rfl (q := 253) rfl ?_
  refine own_callSP X22 hx hZ hown (hw _ (List.mem_of_getElem? (i := 9) rfl)) (hw _ (List.mem_of_getElem? (i := 10) rfl)) (hw _ (List.mem_of_getElem? (i := 3) rfl)) (hw _ (List.mem_of_getElem? (i := 11) rfl)) (by decide) (own_rm5 l Z a0 hw [] z21 b1 (4 : Int32) fr ds f 4 h13_ Af rfl (by decide)) (by decide) (by decide) e22 (by rw [hml]; rfl) (argsL := [(.int z21), (.ref b1), (.int (4 : Int32)), (.int fr), (.int ds)]) (rest := []) (lenOf own_pd2 rfl) rfl (W := 0) rfl (hb hby at_253) (q := 256) rfl rfl rfl rfl (by decide) (by decide) ?_
  rintro _ T23 ⟨z23, rfl, hz23⟩ X23 e23
  have M5 := own_law2 (F := own_F f) (a := a) (d := d) (i := 4) (s := z21.toInt) (z := z23.toInt) had M4 (by rcases hz23 with ⟨q, r⟩ | ⟨q, r⟩; exact Or.inl ⟨by have q1 : (4 : Int32).toInt = 4 := rfl; omega, r⟩; exact Or.inr ⟨by have q1 : (4 : Int32).toInt = 4 := rfl; omega, r⟩)
  refine own_istore X23 hx (hb hby at_256) (l' := #[.val (.long q1), .second, .val (.int p1), .val (.int p2), .val (.ref b1), .val (.int fr), .val (.int ds), .val (.int de), .val (.int z22), .val (.int z23), .unset]) rfl (q := 258) rfl ?_
  refine own_iload X23 hx (hb hby at_258) rfl (q := 260) rfl ?_
  refine own_aload X23 hx (hb hby at_260) rfl rfl (q := 262) rfl ?_
  refine own_iconst X23 hx (hb hby at_262) (v := (5 : Int32)) rfl (q := 263) rfl ?_
  refine own_iload X23 hx (hb hby at_263) rfl (q := 265) rfl ?_
  refine own_iload X23 hx (hb hby at_265) rfl (q := 267) rfl ?_
  refine own_callSP X23 hx hZ hown (hw _ (List.mem_of_getElem? (i := 6) rfl)) (hw _ (List.mem_of_getElem? (i := 7) rfl)) (hw _ (List.mem_of_getElem? (i := 3) rfl)) (hw _ (List.mem_of_getElem? (i := 8) rfl)) (by decide) (own_rm4 l Z a0 hw [] z22 b1 (5 : Int32) fr ds f 5 h13_ Af rfl (by decide)) (by decide) (by decide) e23 (by rw [hml]; rfl) (argsL := [(.int z22), (.ref b1), (.int (5 : Int32)), (.int fr), (.int ds)]) (rest := []) (lenOf own_pd2 rfl) rfl (W := 0) rfl (hb hby at_267) (q := 270) rfl rfl rfl rfl (by decide) (by decide) ?_
  rintro _ T24 ⟨z24, rfl, hz24⟩ X24 e24
  have I6 := own_law1 (F := own_F f) (a := a) (d := d) (i := 5) (s := z22.toInt) (z := z24.toInt) had I5 (by rcases hz24 with ⟨q, r⟩ | ⟨q, r⟩; exact Or.inl ⟨by have q1 : (5 : Int32).toInt = 5 := rfl; omega, r⟩; exact Or.inr ⟨by have q1 : (5 : Int32).toInt = 5 := rfl; omega, r⟩)
  refine own_istore X24 hx (hb hby at_270) (l' := #[.val (.long q1), .second, .val (.int p1), .val (.int p2), .val (.ref b1), .val (.int fr), .val (.int ds), .val (.int de), .val (.int z24), .val (.int z23), .unset]) rfl (q := 272) rfl ?_
  refine own_iload X24 hx (hb hby at_272) rfl (q := 274) rfl ?_
  refine own_aload X24 hx (hb hby at_274) rfl rfl (q := 276) rfl ?_
  refine own_iconst X24 hx (hb hby at_276) (v := (5 : Int32)) rfl (q := 277) rfl ?_
  refine own_iload X24 hx (hb hby at_277) rfl (q := 279) rfl ?_
  refine own_iload X24 hx (hb hby at_279) rfl (q := 281) rfl ?_
  refine own_callSP X24 hx hZ hown (hw _ (List.mem_of_getElem? (i := 9) rfl)) (hw _ (List.mem_of_getElem? (i := 10) rfl)) (hw _ (List.mem_of_getElem? (i := 3) rfl)) (hw _ (List.mem_of_getElem? (i := 11) rfl)) (by decide) (own_rm5 l Z a0 hw [] z23 b1 (5 : Int32) fr ds f 5 h13_ Af rfl (by decide)) (by decide) (by decide) e24 (by rw [hml]; rfl) (argsL := [(.int z23), (.ref b1), (.int (5 : Int32)), (.int fr), (.int ds)]) (rest := []) (lenOf own_pd2 rfl) rfl (W := 0) rfl (hb hby at_281) (q := 284) rfl rfl rfl rfl (by decide) (by decide) ?_
  rintro _ T25 ⟨z25, rfl, hz25⟩ X25 e25
  have M6 := own_law2 (F := own_F f) (a := a) (d := d) (i := 5) (s := z23.toInt) (z := z25.toInt) had M5 (by rcases hz25 with ⟨q, r⟩ | ⟨q, r⟩; exact Or.inl ⟨by have q1 : (5 : Int32).toInt = 5 := rfl; omega, r⟩; exact Or.inr ⟨by have q1 : (5 : Int32).toInt = 5 := rfl; omega, r⟩)
  refine own_istore X25 hx (hb hby at_284) (l' := #[.val (.long q1), .second, .val (.int p1), .val (.int p2), .val (.ref b1), .val (.int fr), .val (.int ds), .val (.int de), .val (.int z24), .val (.int z25), .unset]) rfl (q := 286) rfl ?_
  rw [show max a (min (5 + 1) d) = d by omega] at I6 M6
  have hG := own_inv3 had I6
  have hL := own_L58 M6
  refine own_iload X25 hx (hb hby at_286) rfl (q := 288) rfl ?_
  refine own_iload X25 hx (hb hby at_288) rfl (q := 290) rfl ?_
  have J311_26 : ∀ (ex : Int32) (g311_0 : (((ds.toInt < de.toInt ∧ (z24.toInt ≠ 3 ∨ z25.toInt = 58)) ∧ ex.toInt = 1) ∨ (¬ (ds.toInt < de.toInt ∧ (z24.toInt ≠ 3 ∨ z25.toInt = 58)) ∧ ex.toInt = 0))), own_Go p e below s room_1.cells room_1.slots (fun v h L => v = some (.int 1) ∧ Fr h0.size L) (T25.setTop (mkF m 311 #[.val (.long q1), .second, .val (.int p1), .val (.int p2), .val (.ref b1), .val (.int fr), .val (.int ds), .val (.int de), .val (.int z24), .val (.int z25), .unset] [(.int ex)])) := by
    intro ex g311_0
    refine own_istore X25 hx (hb hby at_311) (l' := #[.val (.long q1), .second, .val (.int p1), .val (.int p2), .val (.ref b1), .val (.int fr), .val (.int ds), .val (.int de), .val (.int z24), .val (.int z25), .val (.int ex)]) rfl (q := 313) rfl ?_
    refine own_aload X25 hx (hb hby at_313) rfl rfl (q := 315) rfl ?_
    refine own_iload X25 hx (hb hby at_315) rfl (q := 317) rfl ?_
    refine own_iload X25 hx (hb hby at_317) rfl (q := 319) rfl ?_
    refine own_iload X25 hx (hb hby at_319) rfl (q := 321) rfl ?_
    refine own_callSP X25 hx hZ hown (hw _ (List.mem_of_getElem? (i := 12) rfl)) (hw _ (List.mem_of_getElem? (i := 13) rfl)) (hw _ (List.mem_of_getElem? (i := 14) rfl)) (hw _ (List.mem_of_getElem? (i := 15) rfl)) (by decide) (own_rm6 l Z a0 hw [] b1 fr ds de f aT g a d h13_ Af hf ST_13 AT_13 hT hpa hpd had hd6) (by decide) (by decide) e25 (by rw [hml]; rfl) (argsL := [(.ref b1), (.int fr), (.int ds), (.int de)]) (rest := []) (lenOf own_pd3 rfl) rfl (W := 0) rfl (hb hby at_321) (q := 324) rfl rfl rfl rfl (by decide) (by decide) ?_
    rintro _ T27 ⟨z27, rfl, hz27⟩ X27 e27
    rw [← hG, ← hL] at hz27
    refine own_iload X27 hx (hb hby at_324) rfl (q := 326) rfl ?_
    refine own_icmp X27 hx (hb hby at_326) (by decide) (q := 333) rfl (q' := 329) rfl (own_h_ne _ _) (fun h326 => ?_) (fun h326 => ?_)
    · replace h326 : z27.toInt ≠ ex.toInt := h326
      exfalso; omega
    · replace h326 : ¬ (z27.toInt ≠ ex.toInt) := h326
      refine own_iconst X27 hx (hb hby at_329) (v := (1 : Int32)) rfl (q := 330) rfl ?_
      refine own_goto X27 hx (hb hby at_330) (by decide) (q := 334) rfl ?_
      exact own_retN X27 hx (t := .boolean) hret hlk (by simp) (hb hby at_334) (by decide) (by decide) (w := 1) rfl ⟨rfl, N13⟩
  refine own_icmp X25 hx (hb hby at_290) (by decide) (q := 310) rfl (q' := 293) rfl (own_h_ge _ _) (fun h290 => ?_) (fun h290 => ?_)
  · replace h290 : de.toInt ≤ ds.toInt := h290
    refine own_iconst X25 hx (hb hby at_310) (v := (0 : Int32)) rfl (q := 311) rfl ?_
    exact J311_26 (0 : Int32) (by have hc_0 : (0 : Int32).toInt = 0 := rfl; omega)
  · replace h290 : ¬ (de.toInt ≤ ds.toInt) := h290
    refine own_iload X25 hx (hb hby at_293) rfl (q := 295) rfl ?_
    refine own_iconst X25 hx (hb hby at_295) (v := (3 : Int32)) rfl (q := 296) rfl ?_
    refine own_icmp X25 hx (hb hby at_296) (by decide) (q := 306) rfl (q' := 299) rfl (own_h_ne _ _) (fun h296 => ?_) (fun h296 => ?_)
    · replace h296 : z24.toInt ≠ 3 := h296
      refine own_iconst X25 hx (hb hby at_306) (v := (1 : Int32)) rfl (q := 307) rfl ?_
      refine own_goto X25 hx (hb hby at_307) (by decide) (q := 311) rfl ?_
      exact J311_26 (1 : Int32) (by have hc_0 : (1 : Int32).toInt = 1 := rfl; omega)
    · replace h296 : ¬ (z24.toInt ≠ 3) := h296
      refine own_iload X25 hx (hb hby at_299) rfl (q := 301) rfl ?_
      refine own_bipush X25 hx (hb hby at_301) (v := (58 : Int32)) rfl (q := 303) rfl ?_
      refine own_icmp X25 hx (hb hby at_303) (by decide) (q := 310) rfl (q' := 306) rfl (own_h_ne _ _) (fun h303 => ?_) (fun h303 => ?_)
      · replace h303 : z25.toInt ≠ 58 := h303
        refine own_iconst X25 hx (hb hby at_310) (v := (0 : Int32)) rfl (q := 311) rfl ?_
        exact J311_26 (0 : Int32) (by have hc_0 : (0 : Int32).toInt = 0 := rfl; omega)
      · replace h303 : ¬ (z25.toInt ≠ 58) := h303
        refine own_iconst X25 hx (hb hby at_306) (v := (1 : Int32)) rfl (q := 307) rfl ?_
        refine own_goto X25 hx (hb hby at_307) (by decide) (q := 311) rfl ?_
        exact J311_26 (1 : Int32) (by have hc_0 : (1 : Int32).toInt = 1 := rfl; omega)
set_option maxRecDepth 65536 in
set_option maxHeartbeats 40000000 in
theorem own_comes {Post : Tables → Env → Array Value → State → Outcome → State → Prop} (hpost : ∀ tb e args s v u, (limb_1_1.after args s (.returned v) u = true ∧ limb_1_2.after args s (.returned v) u = true ∧ True) → FrameEnd s (.returned v) u (Jvm.fieldLocs frame_1_writes args s ++ Jvm.arrayLocs frame_1_arrays args s ++ Jvm.staticLocs frame_1_statics s) 16 128 → Post tb e args s (.returned v) u) :
    ArmFor flags0 classFile x code maxLocals ret World_1 tables_1 room_1 Calls_1 rest_1 Pre_1 Post := by
  intro l hfl _ _ p e ha hc hk s m args below hf hA hF happ hP
  obtain ⟨hcalls, hrest, hpre⟩ := hP
  obtain ⟨-, -, -, hnamed, -, -, -, hat⟩ := (Spec.applies_iff hf).mp happ
  obtain ⟨hg, hn⟩ := and_e (Cond.before_iff.mp (show (Jvm.Cond.and given_1 narrow_1).before args s = true from hpre))
  obtain ⟨hcount, k0⟩ := and_e hg
  obtain ⟨w0, w1, w2, rfl⟩ : ∃ w0 w1 w2 : Value, args = #[w0, w1, w2] := by
    have hs : args.size = 3 := by simpa [Cond.value, given_1] using hcount
    obtain ⟨L⟩ := args
    match L, hs with
    | [w0, w1, w2], _ => exact ⟨w0, w1, w2, rfl⟩
  have hw := fun d (hd : d ∈ tables_1) => atoms_spec (ws := Jvm.Cond.code x code maxLocals ret :: tables_1) hat d (List.mem_cons_of_mem _ hd)
  have hfit : Fit s := fun {y c} hc i hi => by
    obtain ⟨ha, rfl⟩ := Array.getElem?_eq_some_iff.mp hc
    have q := List.all_eq_true.mp ((Array.all_eq_true_iff_forall_mem.mp hF) _ (Array.getElem_mem ha)) i (List.mem_range.mpr hi)
    simpa [Array.getElem?_eq_getElem hi] using q
  obtain ⟨j0, k1⟩ := and_e k0
  obtain ⟨i0, e0⟩ := isL_v j0
  obtain rfl : w0 = (.long i0) := Option.some.inj e0
  obtain ⟨j1, k2⟩ := and_e k1
  obtain ⟨i1, e1⟩ := is_v j1
  obtain rfl : w1 = (.int i1) := Option.some.inj e1
  have j2 := k2
  obtain ⟨i2, e2⟩ := is_v j2
  obtain rfl : w2 = (.int i2) := Option.some.inj e2
  obtain ⟨t0_, u0_⟩ := and_e hn
  obtain ⟨t1_, u1_⟩ := and_e u0_
  obtain ⟨q0_, r0_⟩ := and_e u1_
  obtain ⟨q1_, r1_⟩ := and_e r0_
  obtain ⟨q2_, r2_⟩ := and_e r1_
  obtain ⟨q3_, r3_⟩ := and_e r2_
  obtain ⟨q4_, r4_⟩ := and_e r3_
  obtain ⟨q5_, r5_⟩ := and_e r4_
  obtain ⟨q6_, r6_⟩ := and_e r5_
  obtain ⟨q7_, r7_⟩ := and_e r6_
  obtain ⟨q8_, r8_⟩ := and_e r7_
  obtain ⟨q9_, r9_⟩ := and_e r8_
  obtain ⟨q10_, r10_⟩ := and_e r9_
  obtain ⟨q11_, r11_⟩ := and_e r10_
  obtain ⟨q12_, r12_⟩ := and_e r11_
  obtain ⟨q13_, r13_⟩ := and_e r12_
  obtain ⟨q14_, r14_⟩ := and_e r13_
  obtain ⟨q15_, r15_⟩ := and_e r14_
  obtain ⟨q16_, r16_⟩ := and_e r15_
  obtain ⟨q17_, r17_⟩ := and_e r16_
  obtain ⟨q18_, r18_⟩ := and_e r17_
  obtain ⟨q19_, r19_⟩ := and_e r18_
  obtain ⟨q20_, r20_⟩ := and_e r19_
  obtain ⟨q21_, r21_⟩ := and_e r20_
  obtain ⟨q22_, r22_⟩ := and_e r21_
  have q23_ := r22_
  obtain ⟨aT, evT⟩ := arr_v t0_
  obtain ⟨clT, ArT⟩ := Arr.start evT t0_
  have evA : ∀ idx, (Term.static "com/example/pillbug/pillbug/core/Base64Runs" "KINDS" "[B").eval #[(.long i0), (.int i1), (.int i2)] s none idx s = some (.ref aT) := fun _ => evT
  have haT := Arr.fin (Vm.Alike.refl _) ArT
  obtain ⟨szT, ltT⟩ := own_t_len evT haT t1_ (n := 256) rfl
  have FT := own_t_F hfit ArT (by simp) ltT
  have ST := Sta.start evT (Or.inr ⟨(hw _ (List.mem_of_getElem? (i := 14) rfl)), (hw _ (List.mem_of_getElem? (i := 23) rfl))⟩)
  have AT : own_Arr s s.heap aT .byte 256 (fun i => .int (own_atF clT i)) := ⟨clT, ArT, szT, by decide, fun i hi => FT i (by omega)⟩
  have y0_ := own_tA evA haT ltT FT q0_
  have y1_ := own_tE evA haT FT q1_ (i := 9) rfl (by omega)
  have y2_ := own_tE evA haT FT q2_ (i := 10) rfl (by omega)
  have y3_ := own_tE evA haT FT q3_ (i := 11) rfl (by omega)
  have y4_ := own_tE evA haT FT q4_ (i := 12) rfl (by omega)
  have y5_ := own_tE evA haT FT q5_ (i := 13) rfl (by omega)
  have y6_ := own_tB evA haT ltT FT q6_
  have y7_ := own_tE evA haT FT q7_ (i := 32) rfl (by omega)
  have y8_ := own_tB evA haT ltT FT q8_
  have y9_ := own_tE evA haT FT q9_ (i := 43) rfl (by omega)
  have y10_ := own_tE evA haT FT q10_ (i := 44) rfl (by omega)
  have y11_ := own_tE evA haT FT q11_ (i := 45) rfl (by omega)
  have y12_ := own_tE evA haT FT q12_ (i := 46) rfl (by omega)
  have y13_ := own_tB evA haT ltT FT q13_
  have y14_ := own_tB evA haT ltT FT q14_
  have y15_ := own_tB evA haT ltT FT q15_
  have y16_ := own_tE evA haT FT q16_ (i := 91) rfl (by omega)
  have y17_ := own_tE evA haT FT q17_ (i := 92) rfl (by omega)
  have y18_ := own_tE evA haT FT q18_ (i := 93) rfl (by omega)
  have y19_ := own_tE evA haT FT q19_ (i := 94) rfl (by omega)
  have y20_ := own_tE evA haT FT q20_ (i := 95) rfl (by omega)
  have y21_ := own_tE evA haT FT q21_ (i := 96) rfl (by omega)
  have y22_ := own_tB evA haT ltT FT q22_
  have y23_ := own_tC evA haT ltT FT q23_
  have hT : ∀ i, i < 256 → (((i = 32 ∨ i = 9) ∧ (own_atF clT i).toInt = 2) ∨ (¬ (i = 32 ∨ i = 9) ∧ (own_atF clT i).toInt ≠ 2)) := by
    intro i hi
    have z0_ : (9 : Int) ≤ i ∨ (own_atF clT i).toInt = 0 := (y0_ i (by omega)).imp id (fun q => by rw [q]; rfl)
    have z1_ : i ≠ 9 ∨ (own_atF clT i).toInt = 2 := (y1_ i).imp id (fun q => by rw [q]; rfl)
    have z2_ : i ≠ 10 ∨ (own_atF clT i).toInt = 3 := (y2_ i).imp id (fun q => by rw [q]; rfl)
    have z3_ : i ≠ 11 ∨ (own_atF clT i).toInt = 0 := (y3_ i).imp id (fun q => by rw [q]; rfl)
    have z4_ : i ≠ 12 ∨ (own_atF clT i).toInt = 0 := (y4_ i).imp id (fun q => by rw [q]; rfl)
    have z5_ : i ≠ 13 ∨ (own_atF clT i).toInt = 3 := (y5_ i).imp id (fun q => by rw [q]; rfl)
    have z6_ : (i : Int) < 14 ∨ (32 : Int) ≤ i ∨ (own_atF clT i).toInt = 0 := (y6_ i (by omega)).imp id (Or.imp id (fun q => by rw [q]; rfl))
    have z7_ : i ≠ 32 ∨ (own_atF clT i).toInt = 2 := (y7_ i).imp id (fun q => by rw [q]; rfl)
    have z8_ : (i : Int) < 33 ∨ (43 : Int) ≤ i ∨ (own_atF clT i).toInt = 0 := (y8_ i (by omega)).imp id (Or.imp id (fun q => by rw [q]; rfl))
    have z9_ : i ≠ 43 ∨ (own_atF clT i).toInt = 1 := (y9_ i).imp id (fun q => by rw [q]; rfl)
    have z10_ : i ≠ 44 ∨ (own_atF clT i).toInt = 0 := (y10_ i).imp id (fun q => by rw [q]; rfl)
    have z11_ : i ≠ 45 ∨ (own_atF clT i).toInt = 1 := (y11_ i).imp id (fun q => by rw [q]; rfl)
    have z12_ : i ≠ 46 ∨ (own_atF clT i).toInt = 0 := (y12_ i).imp id (fun q => by rw [q]; rfl)
    have z13_ : (i : Int) < 47 ∨ (58 : Int) ≤ i ∨ (own_atF clT i).toInt = 1 := (y13_ i (by omega)).imp id (Or.imp id (fun q => by rw [q]; rfl))
    have z14_ : (i : Int) < 58 ∨ (65 : Int) ≤ i ∨ (own_atF clT i).toInt = 0 := (y14_ i (by omega)).imp id (Or.imp id (fun q => by rw [q]; rfl))
    have z15_ : (i : Int) < 65 ∨ (91 : Int) ≤ i ∨ (own_atF clT i).toInt = 1 := (y15_ i (by omega)).imp id (Or.imp id (fun q => by rw [q]; rfl))
    have z16_ : i ≠ 91 ∨ (own_atF clT i).toInt = 0 := (y16_ i).imp id (fun q => by rw [q]; rfl)
    have z17_ : i ≠ 92 ∨ (own_atF clT i).toInt = 3 := (y17_ i).imp id (fun q => by rw [q]; rfl)
    have z18_ : i ≠ 93 ∨ (own_atF clT i).toInt = 0 := (y18_ i).imp id (fun q => by rw [q]; rfl)
    have z19_ : i ≠ 94 ∨ (own_atF clT i).toInt = 0 := (y19_ i).imp id (fun q => by rw [q]; rfl)
    have z20_ : i ≠ 95 ∨ (own_atF clT i).toInt = 1 := (y20_ i).imp id (fun q => by rw [q]; rfl)
    have z21_ : i ≠ 96 ∨ (own_atF clT i).toInt = 0 := (y21_ i).imp id (fun q => by rw [q]; rfl)
    have z22_ : (i : Int) < 97 ∨ (123 : Int) ≤ i ∨ (own_atF clT i).toInt = 1 := (y22_ i (by omega)).imp id (Or.imp id (fun q => by rw [q]; rfl))
    have z23_ : (i : Int) < 123 ∨ (own_atF clT i).toInt = 0 := (y23_ i (by omega)).imp id (fun q => by rw [q]; rfl)
    clear y0_ y1_ y2_ y3_ y4_ y5_ y6_ y7_ y8_ y9_ y10_ y11_ y12_ y13_ y14_ y15_ y16_ y17_ y18_ y19_ y20_ y21_ y22_ y23_
    omega
  obtain ⟨n, o, h1, h2, h3, _, L, rfl, ⟨rfl, N⟩, hq⟩ := own_rm0 l s _ hw tables_1 i0 i1 i2 aT (own_atF clT) s.heap ST AT hT p e ha hc hk s m _ below hf ((Spec.applies_iff_loose hf).mp happ).1 ⟨rfl, State.Warmed39.refl s, rfl⟩ trivial
  refine ⟨n, _, h1, h2, h3, hpost _ _ _ _ _ _ ⟨Cond.after_iff.mpr rfl, Cond.after_iff.mpr (eq_i res_at (Term.int_eval (1)) rfl), trivial⟩ ⟨hq.1, hq.2.1, (hq.2.2.sift fun y hy => Or.inr (N y hy)).mono (by decide) (by decide)⟩⟩
theorem main_1_1 : Claimed_1_1 := own_comes fun _ _ _ _ _ _ h hF => ⟨h.1, hF⟩
theorem main_1_2 : Claimed_1_2 := own_comes fun _ _ _ _ _ _ h hF => ⟨h.2.1, hF⟩
end Jvm.Pilot.@@N@@
namespace Jvm.Pilot.@@N@@
open Jvm Jvm.ClassFile Sem Op Lib Jvm.Free Jvm.Stand Jvm.Pilot.@@N@@.Jvm.D
/-! MADE BY PROGRAM (witnessworld.py) out of the Statement's table words and the real class files: 9 classes; the members and pool entries that the words name. The judged class is class 1, her method 1. -/
namespace start1
open Jvm.ClassFile
def u (s : String) : CpInfo := .utf8 (stringToUtf16 s)
/-- a pool by its gaps: so many unusable entries, then the entry; so many at the end -/
def gap : Nat → List CpInfo → List CpInfo
  | 0, r => r
  | n + 1, r => .unusable :: gap n r
def poolList (es : List (Nat × CpInfo)) (last : Nat) : List CpInfo := es.foldr (fun e r => gap e.1 (e.2 :: r)) (gap last [])
def pool (es : List (Nat × CpInfo)) (last : Nat) : Array CpInfo := ⟨poolList es last⟩
def fileOf (pool : Array CpInfo) (this : Nat) (attrs : Array Attribute := #[]) (ms : Array MethodInfo := #[]) (fl : Nat := 33) (sup : Nat := 0) (ifs : Array Nat := #[]) (fds : Array FieldInfo := #[]) : ClassFile where
  minorVersion := 0
  majorVersion := 65
  constantPool := pool
  accessFlags := fl
  thisClass := this
  superClass := sup
  interfaces := ifs
  fields := fds
  methods := ms
  attributes := attrs
def plain (name : String) (sup : Option ClassId) : Class where
  name := name
  kind := .ordinary
  loader := none
  accessFlags := 33
  super := sup
  interfaces := #[]
  cf := none
  fields := #[]
  methods := #[]
  instanceTypes := #[]
  staticTypes := #[]
  resolved := #[]
  callSites := []
  init := .initialized
  statics := none
  mirror := none

def pool0 : Array CpInfo := pool [(5, u "<init>"), (0, u "()V"), (1, .class_ 10), (1, u "java/lang/Object")] 113

def k0m0 : Method := { name := "<init>", desc := "()V", sig := { parameters := [], returnType := none }, accessFlags := 1, code := none }
/-- java/lang/Object -/
def k0 : Class := { plain "java/lang/Object" none with
  accessFlags := 33
  interfaces := #[]
  cf := some (fileOf pool0 8 #[] #[{ accessFlags := 1, nameIndex := 5, descriptorIndex := 6, attributes := #[] }] 33 0 #[] #[])
  fields := #[]
  methods := #[k0m0]
  instanceTypes := #[]
  staticTypes := #[]
  resolved := Array.replicate 124 none
  statics := none }

def pool1 : Array CpInfo := pool [(2, .class_ 4), (1, u "java/lang/Object"), (0, u "<init>"), (0, u "()V"), (0, .methodref 8 9), (0, .class_ 10), (0, .nameAndType 11 12), (0, u "com/example/pillbug/pillbug/core/Base64RunsDigitsMayEndLineAlonePinLaw"), (0, u "pick"), (0, u "(JII)B"), (0, .methodref 8 14), (0, .nameAndType 15 16), (0, u "adv"), (0, u "(I[BIII)I"), (0, .methodref 8 18), (0, .nameAndType 19 16), (0, u "lastNb"), (0, .methodref 21 22), (0, .class_ 23), (0, .nameAndType 24 25), (0, u "com/example/pillbug/pillbug/core/Base64Runs"), (0, u "digitsMayEndLineAlone"), (0, u "([BIII)Z"), (0, .long 255), (1, .methodref 8 29), (0, .nameAndType 30 31), (0, u "isBlank"), (0, u "(B)Z"), (0, .methodref 8 33), (0, .nameAndType 34 31), (0, u "isDec"), (2, u "law"), (0, u "(JII)Z")] 5

def k1m0 : Method := { name := "<init>", desc := "()V", sig := { parameters := [], returnType := none }, accessFlags := 1, code := none }
def k1c1 : Code := { maxStack := 6, maxLocals := 11, code := code, exceptionTable := #[], attributes := #[] }
def k1m1 : Method := { name := "law", desc := "(JII)Z", sig := { parameters := [.long, .int, .int], returnType := some .boolean }, accessFlags := 9, code := some k1c1 }
def k1c2 : Code := { maxStack := 4, maxLocals := 6, code := method_3_code, exceptionTable := #[], attributes := #[] }
def k1m2 : Method := { name := "pick", desc := "(JII)B", sig := { parameters := [.long, .int, .int], returnType := some .byte }, accessFlags := 10, code := some k1c2 }
def k1c3 : Code := { maxStack := 2, maxLocals := 1, code := method_4_code, exceptionTable := #[], attributes := #[] }
def k1m3 : Method := { name := "isBlank", desc := "(B)Z", sig := { parameters := [.byte], returnType := some .boolean }, accessFlags := 10, code := some k1c3 }
def k1c4 : Code := { maxStack := 2, maxLocals := 1, code := method_5_code, exceptionTable := #[], attributes := #[] }
def k1m4 : Method := { name := "isDec", desc := "(B)Z", sig := { parameters := [.byte], returnType := some .boolean }, accessFlags := 10, code := some k1c4 }
def k1c5 : Code := { maxStack := 2, maxLocals := 6, code := method_6_code, exceptionTable := #[], attributes := #[] }
def k1m5 : Method := { name := "adv", desc := "(I[BIII)I", sig := { parameters := [.int, (.array .byte), .int, .int, .int], returnType := some .int }, accessFlags := 10, code := some k1c5 }
def k1c6 : Code := { maxStack := 2, maxLocals := 5, code := method_7_code, exceptionTable := #[], attributes := #[] }
def k1m6 : Method := { name := "lastNb", desc := "(I[BIII)I", sig := { parameters := [.int, (.array .byte), .int, .int, .int], returnType := some .int }, accessFlags := 10, code := some k1c6 }
/-- com/example/pillbug/pillbug/core/Base64RunsDigitsMayEndLineAlonePinLaw -/
def k1 : Class := { plain "com/example/pillbug/pillbug/core/Base64RunsDigitsMayEndLineAlonePinLaw" (some 0) with
  accessFlags := 49
  interfaces := #[]
  cf := some (fileOf pool1 8 #[] #[{ accessFlags := 1, nameIndex := 5, descriptorIndex := 6, attributes := #[] }, { accessFlags := 9, nameIndex := 37, descriptorIndex := 38, attributes := #[] }, { accessFlags := 10, nameIndex := 11, descriptorIndex := 12, attributes := #[] }, { accessFlags := 10, nameIndex := 30, descriptorIndex := 31, attributes := #[] }, { accessFlags := 10, nameIndex := 34, descriptorIndex := 31, attributes := #[] }, { accessFlags := 10, nameIndex := 15, descriptorIndex := 16, attributes := #[] }, { accessFlags := 10, nameIndex := 19, descriptorIndex := 16, attributes := #[] }] 49 2 #[] #[])
  fields := #[]
  methods := #[k1m0, k1m1, k1m2, k1m3, k1m4, k1m5, k1m6]
  instanceTypes := #[]
  staticTypes := #[]
  resolved := Array.replicate 44 none
  statics := none }

def pool2 : Array CpInfo := pool [(1, .fieldref 2 3), (0, .class_ 4), (0, .nameAndType 5 6), (0, u "com/example/pillbug/pillbug/core/Base64Runs"), (0, u "KINDS"), (0, u "[B"), (2, u "VALUES"), (33, .class_ 45), (1, u "java/lang/Object"), (3, u "prefixedBreak"), (0, u "I"), (2, u "nextFeed"), (2, u "nextEscapedBreak"), (2, u "lines"), (0, u "[I"), (2, u "text"), (0, u "Ljava/lang/String;"), (2, u "from"), (2, u "at"), (2, u "before"), (0, u "Lcom/example/pillbug/pillbug/core/Base64Runs$Wrapping;"), (13, .class_ 90), (1, u "com/example/pillbug/pillbug/core/Base64Runs$Wrapping"), (3, u "frame"), (7, u "continues"), (0, u "Z"), (2, u "start"), (2, u "lineCount"), (2, u "digitCount"), (2, u "digits"), (2, u "goesOn"), (2, u "Lcom/example/pillbug/pillbug/core/LineFrame;"), (13, u "end"), (42, u "stretchEnd"), (93, u "digitsMayEndLineAlone"), (0, u "([BIII)Z"), (5, u "PADDING"), (0, u "C"), (2, u "OTHER"), (0, u "B"), (1, u "DIGIT"), (1, u "BLANK"), (1, u "BREAK")] 27

def k2c0 : Code := { maxStack := 4, maxLocals := 8, code := prog_7_method_34_code, exceptionTable := #[], attributes := #[] }
def k2m0 : Method := { name := "digitsMayEndLineAlone", desc := "([BIII)Z", sig := { parameters := [(.array .byte), .int, .int, .int], returnType := some .boolean }, accessFlags := 8, code := some k2c0 }
/-- com/example/pillbug/pillbug/core/Base64Runs -/
def k2 : Class := { plain "com/example/pillbug/pillbug/core/Base64Runs" (some 0) with
  accessFlags := 32
  interfaces := #[]
  cf := some (fileOf pool2 2 #[.nestMembers #[88]] #[{ accessFlags := 8, nameIndex := 272, descriptorIndex := 273, attributes := #[] }] 32 43 #[] #[{ accessFlags := 26, nameIndex := 279, descriptorIndex := 280, attributes := #[] }, { accessFlags := 26, nameIndex := 5, descriptorIndex := 6, attributes := #[] }, { accessFlags := 26, nameIndex := 283, descriptorIndex := 284, attributes := #[] }, { accessFlags := 26, nameIndex := 286, descriptorIndex := 284, attributes := #[] }, { accessFlags := 26, nameIndex := 288, descriptorIndex := 284, attributes := #[] }, { accessFlags := 26, nameIndex := 290, descriptorIndex := 284, attributes := #[] }, { accessFlags := 26, nameIndex := 9, descriptorIndex := 6, attributes := #[] }, { accessFlags := 18, nameIndex := 63, descriptorIndex := 64, attributes := #[] }, { accessFlags := 18, nameIndex := 67, descriptorIndex := 50, attributes := #[] }, { accessFlags := 2, nameIndex := 70, descriptorIndex := 50, attributes := #[] }, { accessFlags := 2, nameIndex := 73, descriptorIndex := 74, attributes := #[] }, { accessFlags := 2, nameIndex := 178, descriptorIndex := 50, attributes := #[] }, { accessFlags := 2, nameIndex := 49, descriptorIndex := 50, attributes := #[] }, { accessFlags := 2, nameIndex := 53, descriptorIndex := 50, attributes := #[] }, { accessFlags := 2, nameIndex := 56, descriptorIndex := 50, attributes := #[] }, { accessFlags := 2, nameIndex := 106, descriptorIndex := 50, attributes := #[] }, { accessFlags := 2, nameIndex := 135, descriptorIndex := 50, attributes := #[] }, { accessFlags := 2, nameIndex := 59, descriptorIndex := 60, attributes := #[] }, { accessFlags := 2, nameIndex := 109, descriptorIndex := 50, attributes := #[] }, { accessFlags := 2, nameIndex := 112, descriptorIndex := 50, attributes := #[] }, { accessFlags := 2, nameIndex := 115, descriptorIndex := 64, attributes := #[] }, { accessFlags := 2, nameIndex := 94, descriptorIndex := 121, attributes := #[] }, { accessFlags := 2, nameIndex := 102, descriptorIndex := 103, attributes := #[] }, { accessFlags := 2, nameIndex := 118, descriptorIndex := 103, attributes := #[] }])
  fields := #[{ name := "PADDING", type := .char, accessFlags := 26, slot := 0, constantValue := 0 }, { name := "KINDS", type := (.array .byte), accessFlags := 26, slot := 1, constantValue := 0 }, { name := "OTHER", type := .byte, accessFlags := 26, slot := 2, constantValue := 0 }, { name := "DIGIT", type := .byte, accessFlags := 26, slot := 3, constantValue := 0 }, { name := "BLANK", type := .byte, accessFlags := 26, slot := 4, constantValue := 0 }, { name := "BREAK", type := .byte, accessFlags := 26, slot := 5, constantValue := 0 }, { name := "VALUES", type := (.array .byte), accessFlags := 26, slot := 6, constantValue := 0 }, { name := "text", type := (.object "java/lang/String"), accessFlags := 18, slot := 0, constantValue := 0 }, { name := "from", type := .int, accessFlags := 18, slot := 1, constantValue := 0 }, { name := "at", type := .int, accessFlags := 2, slot := 2, constantValue := 0 }, { name := "before", type := (.object "com/example/pillbug/pillbug/core/Base64Runs$Wrapping"), accessFlags := 2, slot := 3, constantValue := 0 }, { name := "stretchEnd", type := .int, accessFlags := 2, slot := 4, constantValue := 0 }, { name := "prefixedBreak", type := .int, accessFlags := 2, slot := 5, constantValue := 0 }, { name := "nextFeed", type := .int, accessFlags := 2, slot := 6, constantValue := 0 }, { name := "nextEscapedBreak", type := .int, accessFlags := 2, slot := 7, constantValue := 0 }, { name := "start", type := .int, accessFlags := 2, slot := 8, constantValue := 0 }, { name := "end", type := .int, accessFlags := 2, slot := 9, constantValue := 0 }, { name := "lines", type := (.array .int), accessFlags := 2, slot := 10, constantValue := 0 }, { name := "lineCount", type := .int, accessFlags := 2, slot := 11, constantValue := 0 }, { name := "digitCount", type := .int, accessFlags := 2, slot := 12, constantValue := 0 }, { name := "digits", type := (.object "java/lang/String"), accessFlags := 2, slot := 13, constantValue := 0 }, { name := "frame", type := (.object "com/example/pillbug/pillbug/core/LineFrame"), accessFlags := 2, slot := 14, constantValue := 0 }, { name := "continues", type := .boolean, accessFlags := 2, slot := 15, constantValue := 0 }, { name := "goesOn", type := .boolean, accessFlags := 2, slot := 16, constantValue := 0 }]
  methods := #[k2m0]
  instanceTypes := #[(.object "java/lang/String"), .int, .int, (.object "com/example/pillbug/pillbug/core/Base64Runs$Wrapping"), .int, .int, .int, .int, .int, .int, (.array .int), .int, .int, (.object "java/lang/String"), (.object "com/example/pillbug/pillbug/core/LineFrame"), .boolean, .boolean]
  staticTypes := #[.char, (.array .byte), .byte, .byte, .byte, .byte, (.array .byte)]
  resolved := Array.replicate 318 none
  statics := some 0 }

def pool3 : Array CpInfo := pool [(1, u "java/lang/Cloneable"), (0, .class_ 1), (0, u "java/lang/Object"), (0, .class_ 3)] 3

/-- java/lang/Cloneable -/
def k3 : Class := { plain "java/lang/Cloneable" (some 0) with
  accessFlags := 1537
  interfaces := #[]
  cf := some (fileOf pool3 2 #[] #[] 1537 4 #[] #[])
  fields := #[]
  methods := #[]
  instanceTypes := #[]
  staticTypes := #[]
  resolved := Array.replicate 8 none
  statics := none }

def pool4 : Array CpInfo := pool [(1, u "java/io/Serializable"), (0, .class_ 1), (0, u "java/lang/Object"), (0, .class_ 3)] 3

/-- java/io/Serializable -/
def k4 : Class := { plain "java/io/Serializable" (some 0) with
  accessFlags := 1537
  interfaces := #[]
  cf := some (fileOf pool4 2 #[] #[] 1537 4 #[] #[])
  fields := #[]
  methods := #[]
  instanceTypes := #[]
  staticTypes := #[]
  resolved := Array.replicate 8 none
  statics := none }

/-- the primitive byte -/
def k5 : Class := { plain "byte" none with kind := .primitive 'B', accessFlags := 0x411 }
/-- [B -/
def k6 : Class := { plain "[B" (some 0) with kind := .array 5 .byte, interfaces := #[3, 4], accessFlags := 1041 }

/-- the primitive int -/
def k7 : Class := { plain "int" none with kind := .primitive 'I', accessFlags := 0x411 }
/-- [I -/
def k8 : Class := { plain "[I" (some 0) with kind := .array 7 .int, interfaces := #[3, 4], accessFlags := 1041 }

def heap : Heap := #[{ cls := 2, slots := #[.int 0, .ref 1, .int 0, .int 0, .int 0, .int 0, .null], vm := .statics 2 },
  { cls := 6, slots := #[.int 0, .int 0, .int 0, .int 0, .int 0, .int 0, .int 0, .int 0, .int 0, .int 2, .int 3, .int 0, .int 0, .int 3, .int 0, .int 0, .int 0, .int 0, .int 0, .int 0, .int 0, .int 0, .int 0, .int 0, .int 0, .int 0, .int 0, .int 0, .int 0, .int 0, .int 0, .int 0, .int 2, .int 0, .int 0, .int 0, .int 0, .int 0, .int 0, .int 0, .int 0, .int 0, .int 0, .int 1, .int 0, .int 1, .int 0, .int 1, .int 1, .int 1, .int 1, .int 1, .int 1, .int 1, .int 1, .int 1, .int 1, .int 1, .int 0, .int 0, .int 0, .int 0, .int 0, .int 0, .int 0, .int 1, .int 1, .int 1, .int 1, .int 1, .int 1, .int 1, .int 1, .int 1, .int 1, .int 1, .int 1, .int 1, .int 1, .int 1, .int 1, .int 1, .int 1, .int 1, .int 1, .int 1, .int 1, .int 1, .int 1, .int 1, .int 1, .int 0, .int 3, .int 0, .int 0, .int 1, .int 0, .int 1, .int 1, .int 1, .int 1, .int 1, .int 1, .int 1, .int 1, .int 1, .int 1, .int 1, .int 1, .int 1, .int 1, .int 1, .int 1, .int 1, .int 1, .int 1, .int 1, .int 1, .int 1, .int 1, .int 1, .int 1, .int 1, .int 0, .int 0, .int 0, .int 0, .int 0, .int 0, .int 0, .int 0, .int 0, .int 0, .int 0, .int 0, .int 0, .int 0, .int 0, .int 0, .int 0, .int 0, .int 0, .int 0, .int 0, .int 0, .int 0, .int 0, .int 0, .int 0, .int 0, .int 0, .int 0, .int 0, .int 0, .int 0, .int 0, .int 0, .int 0, .int 0, .int 0, .int 0, .int 0, .int 0, .int 0, .int 0, .int 0, .int 0, .int 0, .int 0, .int 0, .int 0, .int 0, .int 0, .int 0, .int 0, .int 0, .int 0, .int 0, .int 0, .int 0, .int 0, .int 0, .int 0, .int 0, .int 0, .int 0, .int 0, .int 0, .int 0, .int 0, .int 0, .int 0, .int 0, .int 0, .int 0, .int 0, .int 0, .int 0, .int 0, .int 0, .int 0, .int 0, .int 0, .int 0, .int 0, .int 0, .int 0, .int 0, .int 0, .int 0, .int 0, .int 0, .int 0, .int 0, .int 0, .int 0, .int 0, .int 0, .int 0, .int 0, .int 0, .int 0, .int 0, .int 0, .int 0, .int 0, .int 0, .int 0, .int 0, .int 0, .int 0, .int 0, .int 0, .int 0, .int 0, .int 0, .int 0, .int 0, .int 0, .int 0, .int 0, .int 0, .int 0, .int 0, .int 0, .int 0, .int 0, .int 0, .int 0, .int 0, .int 0, .int 0, .int 0, .int 0, .int 0, .int 0], vm := .none }]
def classes : Array Class := #[k0, k1, k2, k3, k4, k5, k6, k7, k8]
def interned : List (Array UInt16 × Addr) := []
def slotsUsed : Nat := 263
def theMethod : MethodId := ⟨1, 1⟩
def args0 : Array Value := #[.long 5, .int 7, .int 9]
def aboutOver (below : List Frame) : State where
  vm := { classes := classes, interned := interned.toArray }
  heap := heap
  slotsUsed := slotsUsed
  threads := #[{ frames := .invoking theMethod args0 :: below }]
def below0 : List Frame := [.native { method := ⟨0, 0⟩, args := #[] }]
def about1 : State := aboutOver below0
def p0 : Program := .bare "" "" ""
def e0 : Env := launch0.env 0 0 0
theorem w_frames : about1.frames = Frame.invoking theMethod args0 :: below0 := rfl
set_option maxRecDepth 65536 in
theorem w_args : argsFit about1.vm theMethod args0 = true := by decide +kernel
set_option maxRecDepth 65536 in
theorem w_heap : heapFits about1 = true := by decide +kernel
set_option maxRecDepth 65536 in
theorem w_runnable : about1.curStatus? = some .runnable := by decide +kernel
set_option maxRecDepth 65536 in
theorem w_alone : about1.alone = true := by decide +kernel
set_option maxRecDepth 65536 in
theorem w_named : about1.methodNamed? x = some theMethod := by decide +kernel
set_option maxRecDepth 65536 in
theorem w_hears : about1.hears theMethod below0 = true := by decide +kernel
set_option maxRecDepth 65536 in
theorem w_ripe : about1.ripe theMethod args0 below0 = true := by decide +kernel
theorem w_running : about1.status = .running := rfl
set_option maxRecDepth 65536 in
theorem w_room : about1.hasRoom e0.platform room_1 = true :=
  launch0.hasRoom_least _ room_1 (by decide +kernel) (by decide +kernel) (by decide +kernel) (by decide +kernel) (by decide +kernel) (by decide +kernel)
theorem allAtoms_all (ts : List Jvm.Cond) (a : Array Jvm.Value) (st : Jvm.State) : (allAtoms ts).before a st = ts.all (fun c => c.before a st) := by
  induction ts with
  | nil => rfl
  | cons c t ih =>
    show (Jvm.Cond.and c (allAtoms t)).before a st = _
    rw [Jvm.Cond.before_and, ih, List.all_cons]
def words1 : List Jvm.Cond := Jvm.Cond.code x code maxLocals ret :: tables_1
/-- a 'code' word, met by the world's own term for the bytes: nothing is compared byte by byte -/
theorem code_word {y : MethodName} {bytes : ByteArray} {mx : Nat} {rt : Option FieldType} {a : Array Value} {s : State} {m : MethodId} {meth : Method} {c : Code} (h1 : s.methodNamed? y = some m) (h2 : s.vm.method? m = some meth) (h3 : meth.code = some c) (h4 : c.code = bytes)
    (h5 : (c.maxLocals == mx && c.exceptionTable.isEmpty && decide (c.maxStack ≤ mostOperands) && decide (meth.sig.returnType = rt) && !meth.locks && decide (parseMethodDescriptor y.desc = some meth.sig)) = true) : (Jvm.Cond.code y bytes mx rt).before a s = true := by
  simp only [Bool.and_eq_true, beq_iff_eq, Bool.not_eq_true', decide_eq_true_eq] at h5
  obtain ⟨⟨⟨⟨⟨g1, g2⟩, g3⟩, g4⟩, g5⟩, g6⟩ := h5
  simp [Cond.before, Cond.holds, Cond.value, h1, h2, h3, h4, g1, g2, g3, g4, g5, g6]
def isCode : Jvm.Cond → Bool
  | .code _ _ _ _ => true
  | _ => false
theorem all_split {L : List Jvm.Cond} {P : Jvm.Cond → Bool} (h1 : L.all (fun c => isCode c || P c) = true) (h2 : ∀ c ∈ L.filter isCode, P c = true) : L.all P = true := by
  refine List.all_eq_true.mpr fun c hc => ?_
  have h := List.all_eq_true.mp h1 c hc
  rcases Bool.eq_false_or_eq_true (isCode c) with hi | hi
  · exact h2 c (List.mem_filter.mpr ⟨hc, hi⟩)
  · simpa [hi] using h
set_option maxRecDepth 65536 in
theorem w_c0 : (Jvm.Cond.code x code maxLocals ret).before args0 about1 = true := code_word (m := ⟨1, 1⟩) (meth := k1m1) (c := k1c1) (by decide +kernel) rfl rfl rfl (by decide +kernel)
set_option maxRecDepth 65536 in
theorem w_c1 : (Jvm.Cond.code ({ cls := "com/example/pillbug/pillbug/core/Base64RunsDigitsMayEndLineAlonePinLaw", name := "pick", desc := "(JII)B" } : Jvm.MethodName) method_3_code (6 : Nat) (Option.some Jvm.ClassFile.FieldType.byte)).before args0 about1 = true := code_word (m := ⟨1, 2⟩) (meth := k1m2) (c := k1c2) (by decide +kernel) rfl rfl rfl (by decide +kernel)
set_option maxRecDepth 65536 in
theorem w_c2 : (Jvm.Cond.code ({ cls := "com/example/pillbug/pillbug/core/Base64RunsDigitsMayEndLineAlonePinLaw", name := "adv", desc := "(I[BIII)I" } : Jvm.MethodName) method_6_code (6 : Nat) (Option.some Jvm.ClassFile.FieldType.int)).before args0 about1 = true := code_word (m := ⟨1, 5⟩) (meth := k1m5) (c := k1c5) (by decide +kernel) rfl rfl rfl (by decide +kernel)
set_option maxRecDepth 65536 in
theorem w_c3 : (Jvm.Cond.code ({ cls := "com/example/pillbug/pillbug/core/Base64RunsDigitsMayEndLineAlonePinLaw", name := "lastNb", desc := "(I[BIII)I" } : Jvm.MethodName) method_7_code (5 : Nat) (Option.some Jvm.ClassFile.FieldType.int)).before args0 about1 = true := code_word (m := ⟨1, 6⟩) (meth := k1m6) (c := k1c6) (by decide +kernel) rfl rfl rfl (by decide +kernel)
set_option maxRecDepth 65536 in
theorem w_c4 : (Jvm.Cond.code ({ cls := "com/example/pillbug/pillbug/core/Base64Runs", name := "digitsMayEndLineAlone", desc := "([BIII)Z" } : Jvm.MethodName) prog_7_method_34_code (8 : Nat) (Option.some Jvm.ClassFile.FieldType.boolean)).before args0 about1 = true := code_word (m := ⟨2, 0⟩) (meth := k2m0) (c := k2c0) (by decide +kernel) rfl rfl rfl (by decide +kernel)
set_option maxRecDepth 65536 in
theorem w_c5 : (Jvm.Cond.code ({ cls := "com/example/pillbug/pillbug/core/Base64RunsDigitsMayEndLineAlonePinLaw", name := "isBlank", desc := "(B)Z" } : Jvm.MethodName) method_4_code (1 : Nat) (Option.some Jvm.ClassFile.FieldType.boolean)).before args0 about1 = true := code_word (m := ⟨1, 3⟩) (meth := k1m3) (c := k1c3) (by decide +kernel) rfl rfl rfl (by decide +kernel)
set_option maxRecDepth 65536 in
theorem w_c6 : (Jvm.Cond.code ({ cls := "com/example/pillbug/pillbug/core/Base64RunsDigitsMayEndLineAlonePinLaw", name := "isDec", desc := "(B)Z" } : Jvm.MethodName) method_5_code (1 : Nat) (Option.some Jvm.ClassFile.FieldType.boolean)).before args0 about1 = true := code_word (m := ⟨1, 4⟩) (meth := k1m4) (c := k1c4) (by decide +kernel) rfl rfl rfl (by decide +kernel)
def codes1 : List Jvm.Cond := [Jvm.Cond.code x code maxLocals ret, Jvm.Cond.code ({ cls := "com/example/pillbug/pillbug/core/Base64RunsDigitsMayEndLineAlonePinLaw", name := "pick", desc := "(JII)B" } : Jvm.MethodName) method_3_code (6 : Nat) (Option.some Jvm.ClassFile.FieldType.byte), Jvm.Cond.code ({ cls := "com/example/pillbug/pillbug/core/Base64RunsDigitsMayEndLineAlonePinLaw", name := "adv", desc := "(I[BIII)I" } : Jvm.MethodName) method_6_code (6 : Nat) (Option.some Jvm.ClassFile.FieldType.int), Jvm.Cond.code ({ cls := "com/example/pillbug/pillbug/core/Base64RunsDigitsMayEndLineAlonePinLaw", name := "lastNb", desc := "(I[BIII)I" } : Jvm.MethodName) method_7_code (5 : Nat) (Option.some Jvm.ClassFile.FieldType.int), Jvm.Cond.code ({ cls := "com/example/pillbug/pillbug/core/Base64Runs", name := "digitsMayEndLineAlone", desc := "([BIII)Z" } : Jvm.MethodName) prog_7_method_34_code (8 : Nat) (Option.some Jvm.ClassFile.FieldType.boolean), Jvm.Cond.code ({ cls := "com/example/pillbug/pillbug/core/Base64RunsDigitsMayEndLineAlonePinLaw", name := "isBlank", desc := "(B)Z" } : Jvm.MethodName) method_4_code (1 : Nat) (Option.some Jvm.ClassFile.FieldType.boolean), Jvm.Cond.code ({ cls := "com/example/pillbug/pillbug/core/Base64RunsDigitsMayEndLineAlonePinLaw", name := "isDec", desc := "(B)Z" } : Jvm.MethodName) method_5_code (1 : Nat) (Option.some Jvm.ClassFile.FieldType.boolean)]
set_option maxRecDepth 65536 in
theorem codes_eq : words1.filter isCode = codes1 := rfl
theorem w_codes : ∀ c ∈ words1.filter isCode, c.before args0 about1 = true := by
  rw [codes_eq]
  intro c hc
  simp only [codes1, List.mem_cons, List.not_mem_nil, or_false] at hc
  rcases hc with rfl | rfl | rfl | rfl | rfl | rfl | rfl
  · exact w_c0
  · exact w_c1
  · exact w_c2
  · exact w_c3
  · exact w_c4
  · exact w_c5
  · exact w_c6
set_option maxRecDepth 65536 in
theorem w_t1 : (words1.take 24).all (fun c => isCode c || c.before args0 about1) = true := by decide +kernel
set_option maxRecDepth 65536 in
theorem w_t2 : (words1.drop 24).all (fun c => isCode c || c.before args0 about1) = true := by decide +kernel
theorem w_tables : (allAtoms (Jvm.Cond.code x code maxLocals ret :: tables_1)).before args0 about1 = true := by
  rw [allAtoms_all]
  show words1.all (fun c => c.before args0 about1) = true
  refine all_split ?_ w_codes
  rw [← List.take_append_drop 24 words1, List.all_append, w_t1, w_t2]
  rfl
set_option maxRecDepth 65536 in
theorem w_case : (Jvm.Cond.and given_1 narrow_1).before args0 about1 = true := by decide +kernel
theorem w_applies : (headSpec (Jvm.Cond.code x code maxLocals ret :: tables_1) room_1).applies x e0.platform about1 = true :=
  (Spec.applies_iff w_frames).mpr ⟨w_running, w_runnable, w_alone, w_named, w_hears, w_ripe, w_room, w_tables⟩
theorem atStart : AtStart classFile x code maxLocals ret World_1 tables_1 room_1 Calls_1 rest_1 Pre_1 launch0 p0 e0 about1 theMethod args0 below0 :=
  ⟨lists_1, trivial, launch0.admits_env _ _ _, launch0.least_env, fairChoices_fair.cas, fairChoices_fair.clock, w_frames, w_args, w_heap, w_applies, trivial, trivial, w_case⟩
end start1
theorem witness_1 : WitnessClaimed_1 := ⟨start1.p0, start1.e0, start1.about1, start1.theMethod, start1.args0, start1.below0, start1.atStart⟩
end Jvm.Pilot.@@N@@
