import JvmDerived
import JvmDerived.Pilot.@@N@@Statement
import JvmDerived.Pilot.@@N@@Code
set_option linter.unusedVariables false
set_option linter.unusedSimpArgs false
namespace Jvm.Pilot.@@N@@
open Jvm Jvm.ClassFile Sem Op Lib Jvm.Free Jvm.Stand Jvm.LawKit Jvm.RoadKit Bundle Jvm.Pilot.@@N@@.Jvm.D
section Own
variable {p : Program} {l : Launch} {e : Env} {R : Room} {s : State} {m : MethodId} {args : Array Value} {below : List Frame} {meth : Method} {c : Code} {T : State} {locs : List Loc} {cells slots : Nat} {k n : Nat} {Q : Option Value → Heap → List Loc → Prop} {pc q q' : Nat} {Ls l' : Array Slot} {st rest : List Value}
/-- from U the run comes to a return that Q allows, with at most k cells and n slots made -/
def own_Go (p : Program) (e : Env) (below : List Frame) (s : State) (k n : Nat) (Q : Option Value → Heap → List Loc → Prop) (U : State) : Prop :=
  ∃ s₂ o, Steps p.tables e below U s₂ ∧ s₂.status = .running ∧ Ended s₂ below o ∧ ∃ v L, o = .returned v ∧ Q v s₂.heap L ∧ FrameEnd s o s₂ L k n
theorem own_Go.via {U U' : State} (g : own_Go p e below s k n Q U') (h : ∀ t, Steps p.tables e below U' t → Steps p.tables e below U t) : own_Go p e below s k n Q U := by
  obtain ⟨s₂, o, h1, h2⟩ := g
  exact ⟨s₂, o, h _ h1, h2⟩
theorem own_retI (X : Stand p l e R s m args below meth c T locs cells slots) (hx : p.tables.exec = Jvm.exec) {z : Int32} (hret : meth.sig.returnType = some .int) (hlk : meth.locks = false) (hd : decode c.code pc = .ok (.ireturn, 1)) (hk : cells ≤ k) (hn : slots ≤ n) (hq : Q (some (.int z)) T.heap locs) :
    own_Go p e below s k n Q (T.setTop (mkF m pc Ls [.int z])) := by
  obtain ⟨fs, hr, hrun, hended, hW, hsame⟩ := X.leave (v := some (.int z)) (fun h => by rw [hret] at h; cases h) hlk
  exact ⟨_, _, X.ireturnOut hx hret rfl (Or.inl rfl) hd hr, hrun, hended, _, _, rfl, hq, ⟨_, rfl⟩, hW, hsame.mono hk hn⟩
theorem own_retN (X : Stand p l e R s m args below meth c T locs cells slots) (hx : p.tables.exec = Jvm.exec) {z w : Int32} {t : FieldType} (hret : meth.sig.returnType = some t) (hlk : meth.locks = false) (ht : t = .boolean ∨ t = .byte ∨ t = .char ∨ t = .short) (hd : decode c.code pc = .ok (.ireturn, 1)) (hk : cells ≤ k) (hn : slots ≤ n) (hz : nar t z = w) (hq : Q (some (.int w)) T.heap locs) :
    own_Go p e below s k n Q (T.setTop (mkF m pc Ls [.int z])) := by
  subst hz
  obtain ⟨fs, hr, hrun, hended, hW, hsame⟩ := X.leave (v := some (.int (nar t z))) (fun h => by rw [hret] at h; cases h) hlk
  exact ⟨_, _, retN X hx hret ht hd hr, hrun, hended, _, _, rfl, hq, ⟨_, rfl⟩, hW, hsame.mono hk hn⟩
theorem own_retL (X : Stand p l e R s m args below meth c T locs cells slots) (hx : p.tables.exec = Jvm.exec) {z : Int64} (hret : meth.sig.returnType = some .long) (hlk : meth.locks = false) (hd : decode c.code pc = .ok (.lreturn, 1)) (hk : cells ≤ k) (hn : slots ≤ n) (hq : Q (some (.long z)) T.heap locs) :
    own_Go p e below s k n Q (T.setTop (mkF m pc Ls [.long z])) := by
  obtain ⟨fs, hr, hrun, hended, hW, hsame⟩ := X.leave (v := some (.long z)) (fun h => by rw [hret] at h; cases h) hlk
  exact ⟨_, _, X.lreturnOut hx hret hd hr, hrun, hended, _, _, rfl, hq, ⟨_, rfl⟩, hW, hsame.mono hk hn⟩
theorem own_retV (X : Stand p l e R s m args below meth c T locs cells slots) (hx : p.tables.exec = Jvm.exec) (hret : meth.sig.returnType = none) (hlk : meth.locks = false) (hd : decode c.code pc = .ok (.return_, 1)) (hk : cells ≤ k) (hn : slots ≤ n) (hq : Q none T.heap locs) :
    own_Go p e below s k n Q (T.setTop (mkF m pc Ls [])) := by
  obtain ⟨fs, hr, hrun, hended, hW, hsame⟩ := X.leave (v := none) (fun _ => rfl) hlk
  exact ⟨_, _, X.returnOut hx hret hd hr, hrun, hended, _, _, rfl, hq, ⟨_, rfl⟩, hW, hsame.mono hk hn⟩
theorem own_body {y : MethodName} {bytes : ByteArray} {maxL : Nat} {ret : Option FieldType} {ws : List Jvm.Cond} {rm : Room} {as' : Array Value} {h0 : Heap} {Z : State} (hpn : plainName y.cls = true)
    (body : ∀ (p : Program) (e : Env) (s : State) (m : MethodId) (below : List Frame) (meth : Method) (c : Code) (s₁ : State), p.tables.exec = Jvm.exec → c.code = bytes → c.maxLocals = maxL → s.vm.findClass y.cls = some m.cls → meth.name = y.name → meth.sig.returnType = ret → meth.locks = false → Z.Warmed39 s.vm →
      Stand p l e rm s m as' below meth c s₁ [] 0 0 → s₁.heap = h0 → own_Go p e below s rm.cells rm.slots Q (s₁.setTop (entryFrame m as' maxL))) :
    MetFree l y (head1 (Jvm.Cond.code y bytes maxL ret :: ws) rm) (fun a U => a = as' ∧ Z.Warmed39 U.vm ∧ U.heap = h0) (fun _ _ _ _ _ => True) (fun _ U o U' => ∃ v L, o = .returned v ∧ Q v U'.heap L ∧ FrameEnd U o U' L rm.cells rm.slots) := by
  refine MetFree.of_bodySF (plainFor_of_name hpn) hisR ?_
  intro p e s m args below meth c s₁ Bd hml0 hP hK
  obtain ⟨rfl, hZ, hh⟩ := hP
  exact body p e s m below meth c s₁ Bd.exec Bd.bytes hml0 (findClass_of_methodNamed Bd.named) (name_of_methodNamed Bd.named Bd.method).1 Bd.returns Bd.notSynchronized hZ (Stand.of_body Bd) (by rw [← hh, Bd.state]; rfl)
/-- a static call by the callee's contract -/
theorem own_callS {Z : State} {a0 : Array Value} {h : Heap} (X : Stand p l e R s m args below meth c T locs cells slots) (hx : p.tables.exec = Jvm.exec) (hZ : Z.Warmed39 s.vm) {own : String} {index : Nat} {y : MethodName} {bytes : ByteArray} {maxL : Nat} {ret : Option FieldType}
    (hown : s.vm.findClass own = some m.cls) (w1 : (Jvm.Cond.methodLink own index y).before a0 Z = true) (w2 : (Jvm.Cond.static y).before a0 Z = true) (w3 : (Jvm.Cond.initialized y.cls).before a0 Z = true) (w4 : (Jvm.Cond.code y bytes maxL ret).before a0 Z = true)
    (hy : y.cls ≠ "java/lang/invoke/MethodHandle" ∧ y.cls ≠ "java/lang/invoke/VarHandle") {rm : Room} {as' : Array Value} {Q' : Option Value → Heap → List Loc → Prop} {W : Nat}
    (hM : MetFree l y (head1 [Jvm.Cond.code y bytes maxL ret] rm) (fun a U => a = as' ∧ Z.Warmed39 U.vm ∧ U.heap = h) (fun _ _ _ _ _ => True) (fun _ U o U' => ∃ v L, o = .returned v ∧ Q' v U'.heap L ∧ FrameEnd U o U' L rm.cells rm.slots))
    (hf : rm.frames + 1 ≤ R.frames) (hl : W + (maxL + 11) + rm.locals ≤ R.locals) (eT : T.heap = h) (hsize : Ls.size = c.maxLocals) {argsL : List Value}
    (hlen : ∀ sig, parseMethodDescriptor y.desc = some sig → argsL.length = sig.parameters.length) (hst : st = argsL.reverse ++ rest) (hW : (rest.map fun v => v.category).sum = W) (hd : decode c.code pc = .ok (.invokestatic index, 3)) (hq : pc + 3 = q) (has : argsL.toArray = as') (hc : cells + rm.cells ≤ R.cells) (hs : slots + rm.slots ≤ R.slots)
    (g : ∀ v T' L, Q' v T'.heap L → Stand p l e R s m args below meth c T' (locs ++ L) (cells + rm.cells) (slots + rm.slots) → own_Go p e below s k n Q (T'.setTop (mkF m q Ls (v.toList ++ rest)))) :
    own_Go p e below s k n Q (T.setTop (mkF m pc Ls st)) := by
  subst hq hst
  obtain ⟨v, _, ⟨T7, L7, k7, n7⟩, -, X7, ⟨Lc7, hQ7, l7, y7, z7⟩, st7⟩ := Jvm.LawKit.callS X hx hown (mvT hZ w1) (mvT hZ w2) (mvT hZ w3) (mvT hZ w4) hy (backOf (W := W) hM hZ w4 w3 hf hl) (g := mkF m pc Ls (argsL.reverse ++ rest)) rfl hsize hlen rfl (by show 2 * 0 + _ ≤ _; rw [hW]; omega) hd (fun _ _ => ⟨has, eT, hc, hs⟩)
  dsimp only [Pt.U, Pt.locs, Pt.cells, Pt.slots] at X7 l7 y7 z7 st7 hQ7
  subst l7 y7 z7
  exact (g v T7 Lc7 hQ7 X7).via fun t => st7 t
/-- a static call that leaves the heap as it was -/
theorem own_callSP {Z : State} {a0 : Array Value} {h : Heap} (X : Stand p l e R s m args below meth c T locs cells slots) (hx : p.tables.exec = Jvm.exec) (hZ : Z.Warmed39 s.vm) {own : String} {index : Nat} {y : MethodName} {bytes : ByteArray} {maxL : Nat} {ret : Option FieldType}
    (hown : s.vm.findClass own = some m.cls) (w1 : (Jvm.Cond.methodLink own index y).before a0 Z = true) (w2 : (Jvm.Cond.static y).before a0 Z = true) (w3 : (Jvm.Cond.initialized y.cls).before a0 Z = true) (w4 : (Jvm.Cond.code y bytes maxL ret).before a0 Z = true)
    (hy : y.cls ≠ "java/lang/invoke/MethodHandle" ∧ y.cls ≠ "java/lang/invoke/VarHandle") {rm : Room} {as' : Array Value} {P : Value → Prop} {W : Nat}
    (hM : MetFree l y (head1 [Jvm.Cond.code y bytes maxL ret] rm) (fun a U => a = as' ∧ Z.Warmed39 U.vm ∧ U.heap = h) (fun _ _ _ _ _ => True) (fun _ U o U' => ∃ v L, o = .returned v ∧ ((∃ w, v = some w ∧ P w) ∧ L = [] ∧ U'.heap = h) ∧ FrameEnd U o U' L rm.cells rm.slots))
    (hf : rm.frames + 1 ≤ R.frames) (hl : W + (maxL + 11) + rm.locals ≤ R.locals) (eT : T.heap = h) (hsize : Ls.size = c.maxLocals) {argsL : List Value}
    (hlen : ∀ sig, parseMethodDescriptor y.desc = some sig → argsL.length = sig.parameters.length) (hst : st = argsL.reverse ++ rest) (hW : (rest.map fun v => v.category).sum = W) (hd : decode c.code pc = .ok (.invokestatic index, 3)) (hq : pc + 3 = q) (has : argsL.toArray = as') (hc : rm.cells = 0) (hs : rm.slots = 0) (hcc : cells ≤ R.cells) (hss : slots ≤ R.slots)
    (g : ∀ w T', P w → Stand p l e R s m args below meth c T' locs cells slots → T'.heap = h → own_Go p e below s k n Q (T'.setTop (mkF m q Ls (w :: rest)))) :
    own_Go p e below s k n Q (T.setTop (mkF m pc Ls st)) := by
  refine own_callS (Q' := fun v U L => (∃ w, v = some w ∧ P w) ∧ L = [] ∧ U = h) X hx hZ hown w1 w2 w3 w4 hy hM hf hl eT hsize hlen hst hW hd hq has (by rw [hc]; exact hcc) (by rw [hs]; exact hss) ?_
  rintro v T' L ⟨⟨w, rfl, hP⟩, rfl, e'⟩ X'
  rw [List.append_nil, hc, hs] at X'
  exact g w T' hP X' e'
/-- a virtual call by the callee's contract; the receiver is exactly of class C -/
theorem own_callV {Z : State} {a0 : Array Value} {h : Heap} (X : Stand p l e R s m args below meth c T locs cells slots) (hx : p.tables.exec = Jvm.exec) (hZ : Z.Warmed39 s.vm) {own C : String} {index : Nat} {y : MethodName} {bytes : ByteArray} {maxL : Nat} {ret : Option FieldType}
    (hown : s.vm.findClass own = some m.cls) (w1 : (Jvm.Cond.methodLink own index y).before a0 Z = true) (w2 : (Jvm.Cond.declares y).before a0 Z = true) (w3 : (Jvm.Cond.selects C y y).before a0 Z = true) (w4 : (Jvm.Cond.instanceMethod y).before a0 Z = true) (w5 : (Jvm.Cond.code y bytes maxL ret).before a0 Z = true) (w6 : (Jvm.Cond.initialized y.cls).before a0 Z = true)
    (hy : y.cls ≠ "java/lang/invoke/MethodHandle" ∧ y.cls ≠ "java/lang/invoke/VarHandle") {rm : Room} {as' : Array Value} {Q' : Option Value → Heap → List Loc → Prop} {W : Nat}
    (hM : MetFree l y (head1 [Jvm.Cond.code y bytes maxL ret] rm) (fun a U => a = as' ∧ Z.Warmed39 U.vm ∧ U.heap = h) (fun _ _ _ _ _ => True) (fun _ U o U' => ∃ v L, o = .returned v ∧ Q' v U'.heap L ∧ FrameEnd U o U' L rm.cells rm.slots))
    {b : Addr} (E : Exa Z h b C)
    (hf : rm.frames + 1 ≤ R.frames) (hl : W + (maxL + 11) + rm.locals ≤ R.locals) (eT : T.heap = h) (hsize : Ls.size = c.maxLocals) {argsL : List Value}
    (hlen : ∀ sig, parseMethodDescriptor y.desc = some sig → argsL.length = sig.parameters.length) (hst : st = argsL.reverse ++ .ref b :: rest) (hW : (rest.map fun v => v.category).sum = W) (hd : decode c.code pc = .ok (.invokevirtual index, 3)) (hq : pc + 3 = q) (has : (.ref b :: argsL).toArray = as') (hc : cells + rm.cells ≤ R.cells) (hs : slots + rm.slots ≤ R.slots)
    (g : ∀ v T' L, Q' v T'.heap L → Stand p l e R s m args below meth c T' (locs ++ L) (cells + rm.cells) (slots + rm.slots) → own_Go p e below s k n Q (T'.setTop (mkF m q Ls (v.toList ++ rest)))) :
    own_Go p e below s k n Q (T.setTop (mkF m pc Ls st)) := by
  subst hq hst
  obtain ⟨cq, kq, qa, qb, qc⟩ := isOf hZ eT E
  obtain ⟨v, _, ⟨T7, L7, k7, n7⟩, -, X7, ⟨Lc7, hQ7, l7, y7, z7⟩, st7⟩ := X.virtualBack hx hown (mvT hZ w1) (mvT hZ w2) (notFace_of_selects (args := #[]) (mvT hZ w3)) (mvT hZ w3) (mvT hZ w4) hy (backOf (W := W) hM hZ w5 w6 hf hl) qa qc (g := mkF m pc Ls (argsL.reverse ++ .ref b :: rest)) rfl hsize (Steps.refl _) (argsL := argsL) (rest := rest) hlen rfl (by show 2 * 0 + _ ≤ _; rw [hW]; omega) hd (fun _ _ => ⟨has, eT, hc, hs⟩)
  dsimp only [Pt.U, Pt.locs, Pt.cells, Pt.slots] at X7 l7 y7 z7 st7 hQ7
  subst l7 y7 z7
  exact (g v T7 Lc7 hQ7 X7).via fun t hh => st7.trans hh
/-- a constructor's call by its contract -/
theorem own_callN {Z : State} {a0 : Array Value} {h : Heap} (X : Stand p l e R s m args below meth c T locs cells slots) (hx : p.tables.exec = Jvm.exec) (hZ : Z.Warmed39 s.vm) {own : String} {index : Nat} {y : MethodName} {bytes : ByteArray} {maxL : Nat}
    (hyn : y.name = "<init>") (hown : s.vm.findClass own = some m.cls) (w1 : (Jvm.Cond.methodLink own index y).before a0 Z = true) (w2 : (Jvm.Cond.instanceMethod y).before a0 Z = true) (w3 : (Jvm.Cond.initialized y.cls).before a0 Z = true) (w4 : (Jvm.Cond.code y bytes maxL none).before a0 Z = true)
    (hy : y.cls ≠ "java/lang/invoke/MethodHandle" ∧ y.cls ≠ "java/lang/invoke/VarHandle") {rm : Room} {as' : Array Value} {Q' : Option Value → Heap → List Loc → Prop} {W : Nat}
    (hM : MetFree l y (head1 [Jvm.Cond.code y bytes maxL none] rm) (fun a U => a = as' ∧ Z.Warmed39 U.vm ∧ U.heap = h) (fun _ _ _ _ _ => True) (fun _ U o U' => ∃ v L, o = .returned v ∧ Q' v U'.heap L ∧ FrameEnd U o U' L rm.cells rm.slots))
    {b : Addr} (hf : rm.frames + 1 ≤ R.frames) (hl : W + (maxL + 11) + rm.locals ≤ R.locals) (eT : T.heap = h) (hsize : Ls.size = c.maxLocals) {argsL : List Value}
    (hlen : ∀ sig, parseMethodDescriptor y.desc = some sig → argsL.length = sig.parameters.length) (hst : st = argsL.reverse ++ .ref b :: rest) (hW : (rest.map fun v => v.category).sum = W) (hd : decode c.code pc = .ok (.invokespecial index, 3)) (hq : pc + 3 = q) (has : (.ref b :: argsL).toArray = as') (hc : cells + rm.cells ≤ R.cells) (hs : slots + rm.slots ≤ R.slots)
    (g : ∀ v T' L, Q' v T'.heap L → Stand p l e R s m args below meth c T' (locs ++ L) (cells + rm.cells) (slots + rm.slots) → own_Go p e below s k n Q (T'.setTop (mkF m q Ls (v.toList ++ rest)))) :
    own_Go p e below s k n Q (T.setTop (mkF m pc Ls st)) := by
  subst hq hst
  obtain ⟨v, _, ⟨T7, L7, k7, n7⟩, -, X7, ⟨Lc7, hQ7, l7, y7, z7⟩, st7⟩ := X.specialBack hx hyn hown (mvT hZ w1) (mvT hZ w2) (mvT hZ w4) hy (backOf (W := W) hM hZ w4 w3 hf hl) (g := mkF m pc Ls (argsL.reverse ++ .ref b :: rest)) rfl hsize (Steps.refl _) (a := b) (argsL := argsL) (rest := rest) hlen rfl (by show 2 * 0 + _ ≤ _; rw [hW]; omega) hd (fun _ _ => ⟨has, eT, hc, hs⟩)
  dsimp only [Pt.U, Pt.locs, Pt.cells, Pt.slots] at X7 l7 y7 z7 st7 hQ7
  subst l7 y7 z7
  exact (g v T7 Lc7 hQ7 X7).via fun t hh => st7.trans hh
theorem own_ldcI {Z : State} {a0 : Array Value} (X : Stand p l e R s m args below meth c T locs cells slots) (hx : p.tables.exec = Jvm.exec) (hZ : Z.Warmed39 s.vm) {own : String} {index : Nat} {v : Int32} (hown : s.vm.findClass own = some m.cls) (w : (Jvm.Cond.constant own index v).before a0 Z = true) (hd : decode c.code pc = .ok (.ldc index, 2)) (hq : pc + 2 = q)
    (g : own_Go p e below s k n Q (T.setTop (mkF m q Ls (.int v :: st)))) : own_Go p e below s k n Q (T.setTop (mkF m pc Ls st)) := by
  subst hq; exact g.via fun t => X.ldcInt hx hown (mvT hZ w) (g := mkF m pc Ls st) rfl hd t
theorem own_ldcL {Z : State} {a0 : Array Value} (X : Stand p l e R s m args below meth c T locs cells slots) (hx : p.tables.exec = Jvm.exec) (hZ : Z.Warmed39 s.vm) {own : String} {index : Nat} {v : Int64} (hown : s.vm.findClass own = some m.cls) (w : (Jvm.Cond.constantLong own index v).before a0 Z = true) (hd : decode c.code pc = .ok (.ldc2_w index, 3)) (hq : pc + 3 = q)
    (g : own_Go p e below s k n Q (T.setTop (mkF m q Ls (.long v :: st)))) : own_Go p e below s k n Q (T.setTop (mkF m pc Ls st)) := by
  subst hq; exact g.via fun t => X.ldc2Long hx hown (mvT hZ w) (g := mkF m pc Ls st) rfl hd t
theorem own_iadd (X : Stand p l e R s m args below meth c T locs cells slots) (hx : p.tables.exec = Jvm.exec) {x y : Int32} (hd : decode c.code pc = .ok (.iadd, 1))  (hq : pc + 1 = q) (g : own_Go p e below s k n Q (T.setTop (mkF m q Ls (.int (x + y) :: rest)))) : own_Go p e below s k n Q (T.setTop (mkF m pc Ls (.int y :: .int x :: rest))) := by
  subst hq; exact g.via fun _ hr_ => XS.iadd (g := mkF m pc Ls (.int y :: .int x :: rest)) X.here hx rfl hd rfl hr_
theorem own_isub (X : Stand p l e R s m args below meth c T locs cells slots) (hx : p.tables.exec = Jvm.exec) {x y : Int32} (hd : decode c.code pc = .ok (.isub, 1))  (hq : pc + 1 = q) (g : own_Go p e below s k n Q (T.setTop (mkF m q Ls (.int (x - y) :: rest)))) : own_Go p e below s k n Q (T.setTop (mkF m pc Ls (.int y :: .int x :: rest))) := by
  subst hq; exact g.via fun _ hr_ => XS.isub (g := mkF m pc Ls (.int y :: .int x :: rest)) X.here hx rfl hd rfl hr_
theorem own_imul (X : Stand p l e R s m args below meth c T locs cells slots) (hx : p.tables.exec = Jvm.exec) {x y : Int32} (hd : decode c.code pc = .ok (.imul, 1))  (hq : pc + 1 = q) (g : own_Go p e below s k n Q (T.setTop (mkF m q Ls (.int (x * y) :: rest)))) : own_Go p e below s k n Q (T.setTop (mkF m pc Ls (.int y :: .int x :: rest))) := by
  subst hq; exact g.via fun _ hr_ => XS.imul (g := mkF m pc Ls (.int y :: .int x :: rest)) X.here hx rfl hd rfl hr_
theorem own_iand (X : Stand p l e R s m args below meth c T locs cells slots) (hx : p.tables.exec = Jvm.exec) {x y : Int32} (hd : decode c.code pc = .ok (.iand, 1))  (hq : pc + 1 = q) (g : own_Go p e below s k n Q (T.setTop (mkF m q Ls (.int (x &&& y) :: rest)))) : own_Go p e below s k n Q (T.setTop (mkF m pc Ls (.int y :: .int x :: rest))) := by
  subst hq; exact g.via fun _ hr_ => XS.iand (g := mkF m pc Ls (.int y :: .int x :: rest)) X.here hx rfl hd rfl hr_
theorem own_ixor (X : Stand p l e R s m args below meth c T locs cells slots) (hx : p.tables.exec = Jvm.exec) {x y : Int32} (hd : decode c.code pc = .ok (.ixor, 1))  (hq : pc + 1 = q) (g : own_Go p e below s k n Q (T.setTop (mkF m q Ls (.int (x ^^^ y) :: rest)))) : own_Go p e below s k n Q (T.setTop (mkF m pc Ls (.int y :: .int x :: rest))) := by
  subst hq; exact g.via fun _ hr_ => XT.ixor (g := mkF m pc Ls (.int y :: .int x :: rest)) X.here hx rfl hd rfl hr_
theorem own_ior (X : Stand p l e R s m args below meth c T locs cells slots) (hx : p.tables.exec = Jvm.exec) {x y : Int32} (hd : decode c.code pc = .ok (.ior, 1))  (hq : pc + 1 = q) (g : own_Go p e below s k n Q (T.setTop (mkF m q Ls (.int (x ||| y) :: rest)))) : own_Go p e below s k n Q (T.setTop (mkF m pc Ls (.int y :: .int x :: rest))) := by
  subst hq; exact g.via fun _ hr_ => XT.ior (g := mkF m pc Ls (.int y :: .int x :: rest)) X.here hx rfl hd rfl hr_
theorem own_ishl (X : Stand p l e R s m args below meth c T locs cells slots) (hx : p.tables.exec = Jvm.exec) {x y : Int32} (hd : decode c.code pc = .ok (.ishl, 1))  (hq : pc + 1 = q) (g : own_Go p e below s k n Q (T.setTop (mkF m q Ls (.int (x <<< (y &&& 31)) :: rest)))) : own_Go p e below s k n Q (T.setTop (mkF m pc Ls (.int y :: .int x :: rest))) := by
  subst hq; exact g.via fun _ hr_ => XT.ishl (g := mkF m pc Ls (.int y :: .int x :: rest)) X.here hx rfl hd rfl hr_
theorem own_ishr (X : Stand p l e R s m args below meth c T locs cells slots) (hx : p.tables.exec = Jvm.exec) {x y : Int32} (hd : decode c.code pc = .ok (.ishr, 1))  (hq : pc + 1 = q) (g : own_Go p e below s k n Q (T.setTop (mkF m q Ls (.int (x >>> (y &&& 31)) :: rest)))) : own_Go p e below s k n Q (T.setTop (mkF m pc Ls (.int y :: .int x :: rest))) := by
  subst hq; exact g.via fun _ hr_ => XT.ishr (g := mkF m pc Ls (.int y :: .int x :: rest)) X.here hx rfl hd rfl hr_
theorem own_iushr (X : Stand p l e R s m args below meth c T locs cells slots) (hx : p.tables.exec = Jvm.exec) {x y : Int32} (hd : decode c.code pc = .ok (.iushr, 1))  (hq : pc + 1 = q) (g : own_Go p e below s k n Q (T.setTop (mkF m q Ls (.int (XT.ushr x y) :: rest)))) : own_Go p e below s k n Q (T.setTop (mkF m pc Ls (.int y :: .int x :: rest))) := by
  subst hq; exact g.via fun _ hr_ => XT.iushr (g := mkF m pc Ls (.int y :: .int x :: rest)) X.here hx rfl hd rfl hr_
theorem own_idiv (X : Stand p l e R s m args below meth c T locs cells slots) (hx : p.tables.exec = Jvm.exec) {x y : Int32} (hd : decode c.code pc = .ok (.idiv, 1)) (hy : y ≠ 0) (hq : pc + 1 = q) (g : own_Go p e below s k n Q (T.setTop (mkF m q Ls (.int (x / y) :: rest)))) : own_Go p e below s k n Q (T.setTop (mkF m pc Ls (.int y :: .int x :: rest))) := by
  subst hq; exact g.via fun _ hr_ => XS.idiv (g := mkF m pc Ls (.int y :: .int x :: rest)) X.here hx rfl hd rfl hy hr_
theorem own_irem (X : Stand p l e R s m args below meth c T locs cells slots) (hx : p.tables.exec = Jvm.exec) {x y : Int32} (hd : decode c.code pc = .ok (.irem, 1)) (hy : y ≠ 0) (hq : pc + 1 = q) (g : own_Go p e below s k n Q (T.setTop (mkF m q Ls (.int (x - (x / y) * y) :: rest)))) : own_Go p e below s k n Q (T.setTop (mkF m pc Ls (.int y :: .int x :: rest))) := by
  subst hq; exact g.via fun _ hr_ => XS.irem (g := mkF m pc Ls (.int y :: .int x :: rest)) X.here hx rfl hd rfl hy hr_
theorem own_ladd (X : Stand p l e R s m args below meth c T locs cells slots) (hx : p.tables.exec = Jvm.exec) {x y : Int64} (hd : decode c.code pc = .ok (.ladd, 1))  (hq : pc + 1 = q) (g : own_Go p e below s k n Q (T.setTop (mkF m q Ls (.long (x + y) :: rest)))) : own_Go p e below s k n Q (T.setTop (mkF m pc Ls (.long y :: .long x :: rest))) := by
  subst hq; exact g.via fun _ hr_ => XT.ladd (g := mkF m pc Ls (.long y :: .long x :: rest)) X.here hx rfl hd rfl hr_
theorem own_lsub (X : Stand p l e R s m args below meth c T locs cells slots) (hx : p.tables.exec = Jvm.exec) {x y : Int64} (hd : decode c.code pc = .ok (.lsub, 1))  (hq : pc + 1 = q) (g : own_Go p e below s k n Q (T.setTop (mkF m q Ls (.long (x - y) :: rest)))) : own_Go p e below s k n Q (T.setTop (mkF m pc Ls (.long y :: .long x :: rest))) := by
  subst hq; exact g.via fun _ hr_ => XT.lsub (g := mkF m pc Ls (.long y :: .long x :: rest)) X.here hx rfl hd rfl hr_
theorem own_lmul (X : Stand p l e R s m args below meth c T locs cells slots) (hx : p.tables.exec = Jvm.exec) {x y : Int64} (hd : decode c.code pc = .ok (.lmul, 1))  (hq : pc + 1 = q) (g : own_Go p e below s k n Q (T.setTop (mkF m q Ls (.long (x * y) :: rest)))) : own_Go p e below s k n Q (T.setTop (mkF m pc Ls (.long y :: .long x :: rest))) := by
  subst hq; exact g.via fun _ hr_ => XT.lmul (g := mkF m pc Ls (.long y :: .long x :: rest)) X.here hx rfl hd rfl hr_
theorem own_land (X : Stand p l e R s m args below meth c T locs cells slots) (hx : p.tables.exec = Jvm.exec) {x y : Int64} (hd : decode c.code pc = .ok (.land, 1))  (hq : pc + 1 = q) (g : own_Go p e below s k n Q (T.setTop (mkF m q Ls (.long (x &&& y) :: rest)))) : own_Go p e below s k n Q (T.setTop (mkF m pc Ls (.long y :: .long x :: rest))) := by
  subst hq; exact g.via fun _ hr_ => XT.land (g := mkF m pc Ls (.long y :: .long x :: rest)) X.here hx rfl hd rfl hr_
theorem own_lor (X : Stand p l e R s m args below meth c T locs cells slots) (hx : p.tables.exec = Jvm.exec) {x y : Int64} (hd : decode c.code pc = .ok (.lor, 1))  (hq : pc + 1 = q) (g : own_Go p e below s k n Q (T.setTop (mkF m q Ls (.long (x ||| y) :: rest)))) : own_Go p e below s k n Q (T.setTop (mkF m pc Ls (.long y :: .long x :: rest))) := by
  subst hq; exact g.via fun _ hr_ => XT.lor (g := mkF m pc Ls (.long y :: .long x :: rest)) X.here hx rfl hd rfl hr_
theorem own_lxor (X : Stand p l e R s m args below meth c T locs cells slots) (hx : p.tables.exec = Jvm.exec) {x y : Int64} (hd : decode c.code pc = .ok (.lxor, 1))  (hq : pc + 1 = q) (g : own_Go p e below s k n Q (T.setTop (mkF m q Ls (.long (x ^^^ y) :: rest)))) : own_Go p e below s k n Q (T.setTop (mkF m pc Ls (.long y :: .long x :: rest))) := by
  subst hq; exact g.via fun _ hr_ => XT.lxor (g := mkF m pc Ls (.long y :: .long x :: rest)) X.here hx rfl hd rfl hr_
theorem own_ldiv (X : Stand p l e R s m args below meth c T locs cells slots) (hx : p.tables.exec = Jvm.exec) {x y : Int64} (hd : decode c.code pc = .ok (.ldiv, 1)) (hy : y ≠ 0) (hq : pc + 1 = q) (g : own_Go p e below s k n Q (T.setTop (mkF m q Ls (.long (x / y) :: rest)))) : own_Go p e below s k n Q (T.setTop (mkF m pc Ls (.long y :: .long x :: rest))) := by
  subst hq; exact g.via fun _ hr_ => XT.ldiv (g := mkF m pc Ls (.long y :: .long x :: rest)) X.here hx rfl hd rfl hy hr_
theorem own_lrem (X : Stand p l e R s m args below meth c T locs cells slots) (hx : p.tables.exec = Jvm.exec) {x y : Int64} (hd : decode c.code pc = .ok (.lrem, 1)) (hy : y ≠ 0) (hq : pc + 1 = q) (g : own_Go p e below s k n Q (T.setTop (mkF m q Ls (.long (x - (x / y) * y) :: rest)))) : own_Go p e below s k n Q (T.setTop (mkF m pc Ls (.long y :: .long x :: rest))) := by
  subst hq; exact g.via fun _ hr_ => XT.lrem (g := mkF m pc Ls (.long y :: .long x :: rest)) X.here hx rfl hd rfl hy hr_
theorem own_lcmp (X : Stand p l e R s m args below meth c T locs cells slots) (hx : p.tables.exec = Jvm.exec) {x y : Int64} (hd : decode c.code pc = .ok (.lcmp, 1))  (hq : pc + 1 = q) (g : own_Go p e below s k n Q (T.setTop (mkF m q Ls (.int (XT.cmpL x y) :: rest)))) : own_Go p e below s k n Q (T.setTop (mkF m pc Ls (.long y :: .long x :: rest))) := by
  subst hq; exact g.via fun _ hr_ => XT.lcmp (g := mkF m pc Ls (.long y :: .long x :: rest)) X.here hx rfl hd rfl hr_
theorem own_lshl (X : Stand p l e R s m args below meth c T locs cells slots) (hx : p.tables.exec = Jvm.exec) {x : Int64} {y : Int32} (hd : decode c.code pc = .ok (.lshl, 1))  (hq : pc + 1 = q) (g : own_Go p e below s k n Q (T.setTop (mkF m q Ls (.long (x <<< (y.toInt64 &&& 63)) :: rest)))) : own_Go p e below s k n Q (T.setTop (mkF m pc Ls (.int y :: .long x :: rest))) := by
  subst hq; exact g.via fun _ hr_ => XT.lshl (g := mkF m pc Ls (.int y :: .long x :: rest)) X.here hx rfl hd rfl hr_
theorem own_lshr (X : Stand p l e R s m args below meth c T locs cells slots) (hx : p.tables.exec = Jvm.exec) {x : Int64} {y : Int32} (hd : decode c.code pc = .ok (.lshr, 1))  (hq : pc + 1 = q) (g : own_Go p e below s k n Q (T.setTop (mkF m q Ls (.long (x >>> (y.toInt64 &&& 63)) :: rest)))) : own_Go p e below s k n Q (T.setTop (mkF m pc Ls (.int y :: .long x :: rest))) := by
  subst hq; exact g.via fun _ hr_ => XT.lshr (g := mkF m pc Ls (.int y :: .long x :: rest)) X.here hx rfl hd rfl hr_
theorem own_lushr (X : Stand p l e R s m args below meth c T locs cells slots) (hx : p.tables.exec = Jvm.exec) {x : Int64} {y : Int32} (hd : decode c.code pc = .ok (.lushr, 1))  (hq : pc + 1 = q) (g : own_Go p e below s k n Q (T.setTop (mkF m q Ls (.long (XT.ushrL x y) :: rest)))) : own_Go p e below s k n Q (T.setTop (mkF m pc Ls (.int y :: .long x :: rest))) := by
  subst hq; exact g.via fun _ hr_ => XT.lushr (g := mkF m pc Ls (.int y :: .long x :: rest)) X.here hx rfl hd rfl hr_
theorem own_ineg (X : Stand p l e R s m args below meth c T locs cells slots) (hx : p.tables.exec = Jvm.exec) {x : Int32} (hd : decode c.code pc = .ok (.ineg, 1))  (hq : pc + 1 = q) (g : own_Go p e below s k n Q (T.setTop (mkF m q Ls (.int (-x) :: rest)))) : own_Go p e below s k n Q (T.setTop (mkF m pc Ls (.int x :: rest))) := by
  subst hq; exact g.via fun _ hr_ => XS.ineg (g := mkF m pc Ls (.int x :: rest)) X.here hx rfl hd rfl hr_
theorem own_lneg (X : Stand p l e R s m args below meth c T locs cells slots) (hx : p.tables.exec = Jvm.exec) {x : Int64} (hd : decode c.code pc = .ok (.lneg, 1))  (hq : pc + 1 = q) (g : own_Go p e below s k n Q (T.setTop (mkF m q Ls (.long (-x) :: rest)))) : own_Go p e below s k n Q (T.setTop (mkF m pc Ls (.long x :: rest))) := by
  subst hq; exact g.via fun _ hr_ => XT.lneg (g := mkF m pc Ls (.long x :: rest)) X.here hx rfl hd rfl hr_
theorem own_i2l (X : Stand p l e R s m args below meth c T locs cells slots) (hx : p.tables.exec = Jvm.exec) {x : Int32} (hd : decode c.code pc = .ok (.i2l, 1))  (hq : pc + 1 = q) (g : own_Go p e below s k n Q (T.setTop (mkF m q Ls (.long (x.toInt64) :: rest)))) : own_Go p e below s k n Q (T.setTop (mkF m pc Ls (.int x :: rest))) := by
  subst hq; exact g.via fun _ hr_ => XT.i2l (g := mkF m pc Ls (.int x :: rest)) X.here hx rfl hd rfl hr_
theorem own_l2i (X : Stand p l e R s m args below meth c T locs cells slots) (hx : p.tables.exec = Jvm.exec) {x : Int64} (hd : decode c.code pc = .ok (.l2i, 1))  (hq : pc + 1 = q) (g : own_Go p e below s k n Q (T.setTop (mkF m q Ls (.int (x.toInt32) :: rest)))) : own_Go p e below s k n Q (T.setTop (mkF m pc Ls (.long x :: rest))) := by
  subst hq; exact g.via fun _ hr_ => XT.l2i (g := mkF m pc Ls (.long x :: rest)) X.here hx rfl hd rfl hr_
theorem own_i2b (X : Stand p l e R s m args below meth c T locs cells slots) (hx : p.tables.exec = Jvm.exec) {x : Int32} (hd : decode c.code pc = .ok (.i2b, 1))  (hq : pc + 1 = q) (g : own_Go p e below s k n Q (T.setTop (mkF m q Ls (.int (x.toInt8.toInt32) :: rest)))) : own_Go p e below s k n Q (T.setTop (mkF m pc Ls (.int x :: rest))) := by
  subst hq; exact g.via fun _ hr_ => XT.i2b (g := mkF m pc Ls (.int x :: rest)) X.here hx rfl hd rfl hr_
theorem own_i2c (X : Stand p l e R s m args below meth c T locs cells slots) (hx : p.tables.exec = Jvm.exec) {x : Int32} (hd : decode c.code pc = .ok (.i2c, 1))  (hq : pc + 1 = q) (g : own_Go p e below s k n Q (T.setTop (mkF m q Ls (.int (x.toUInt32.toUInt16.toUInt32.toInt32) :: rest)))) : own_Go p e below s k n Q (T.setTop (mkF m pc Ls (.int x :: rest))) := by
  subst hq; exact g.via fun _ hr_ => XT.i2c (g := mkF m pc Ls (.int x :: rest)) X.here hx rfl hd rfl hr_
theorem own_iconst (X : Stand p l e R s m args below meth c T locs cells slots) (hx : p.tables.exec = Jvm.exec) {i : Int} {v : Int32} (hd : decode c.code pc = .ok (.iconst i, 1)) (hv : Int32.ofInt i = v) (hq : pc + 1 = q) (g : own_Go p e below s k n Q (T.setTop (mkF m q Ls (.int v :: st)))) : own_Go p e below s k n Q (T.setTop (mkF m pc Ls (st))) := by
  subst hq; subst hv; exact g.via fun _ hr_ => XS.iconst (g := mkF m pc Ls (st)) X.here hx rfl hd  hr_
theorem own_bipush (X : Stand p l e R s m args below meth c T locs cells slots) (hx : p.tables.exec = Jvm.exec) {i : Int} {v : Int32} (hd : decode c.code pc = .ok (.bipush i, 2)) (hv : (Int8.ofInt i).toInt32 = v) (hq : pc + 2 = q) (g : own_Go p e below s k n Q (T.setTop (mkF m q Ls (.int v :: st)))) : own_Go p e below s k n Q (T.setTop (mkF m pc Ls (st))) := by
  subst hq; subst hv; exact g.via fun _ hr_ => XS.bipush (g := mkF m pc Ls (st)) X.here hx rfl hd  hr_
theorem own_sipush (X : Stand p l e R s m args below meth c T locs cells slots) (hx : p.tables.exec = Jvm.exec) {i : Int} {v : Int32} (hd : decode c.code pc = .ok (.sipush i, 3)) (hv : (Int16.ofInt i).toInt32 = v) (hq : pc + 3 = q) (g : own_Go p e below s k n Q (T.setTop (mkF m q Ls (.int v :: st)))) : own_Go p e below s k n Q (T.setTop (mkF m pc Ls (st))) := by
  subst hq; subst hv; exact g.via fun _ hr_ => XS.sipush (g := mkF m pc Ls (st)) X.here hx rfl hd  hr_
theorem own_lconst (X : Stand p l e R s m args below meth c T locs cells slots) (hx : p.tables.exec = Jvm.exec) {i : Fin 2} {v : Int64} (hd : decode c.code pc = .ok (.lconst i, 1)) (hv : Int64.ofNat i = v) (hq : pc + 1 = q) (g : own_Go p e below s k n Q (T.setTop (mkF m q Ls (.long v :: st)))) : own_Go p e below s k n Q (T.setTop (mkF m pc Ls (st))) := by
  subst hq; subst hv; exact g.via fun _ hr_ => XT.lconst (g := mkF m pc Ls (st)) X.here hx rfl hd  hr_
theorem own_aconst_null (X : Stand p l e R s m args below meth c T locs cells slots) (hx : p.tables.exec = Jvm.exec)  (hd : decode c.code pc = .ok (.aconst_null, 1))  (hq : pc + 1 = q) (g : own_Go p e below s k n Q (T.setTop (mkF m q Ls (.null :: st)))) : own_Go p e below s k n Q (T.setTop (mkF m pc Ls (st))) := by
  subst hq; exact g.via fun _ hr_ => XS.aconstNull (g := mkF m pc Ls (st)) X.here hx rfl hd  hr_
theorem own_iload_n (X : Stand p l e R s m args below meth c T locs cells slots) (hx : p.tables.exec = Jvm.exec) {i : Fin 4} {v : Int32} (hd : decode c.code pc = .ok (.iload_n i, 1)) (hl : Ls[i.val]? = some (.val (.int v))) (hq : pc + 1 = q) (g : own_Go p e below s k n Q (T.setTop (mkF m q Ls (.int v :: st)))) : own_Go p e below s k n Q (T.setTop (mkF m pc Ls (st))) := by
  subst hq; exact g.via fun _ hr_ => XS.iloadN (g := mkF m pc Ls (st)) X.here hx rfl hd hl hr_
theorem own_iload (X : Stand p l e R s m args below meth c T locs cells slots) (hx : p.tables.exec = Jvm.exec) {i : Nat} {v : Int32} (hd : decode c.code pc = .ok (.iload i, 2)) (hl : Ls[i]? = some (.val (.int v))) (hq : pc + 2 = q) (g : own_Go p e below s k n Q (T.setTop (mkF m q Ls (.int v :: st)))) : own_Go p e below s k n Q (T.setTop (mkF m pc Ls (st))) := by
  subst hq; exact g.via fun _ hr_ => XS.iload (g := mkF m pc Ls (st)) X.here hx rfl hd hl hr_
theorem own_lload_n (X : Stand p l e R s m args below meth c T locs cells slots) (hx : p.tables.exec = Jvm.exec) {i : Fin 4} {v : Int64} (hd : decode c.code pc = .ok (.lload_n i, 1)) (hl : Ls[i.val]? = some (.val (.long v))) (hq : pc + 1 = q) (g : own_Go p e below s k n Q (T.setTop (mkF m q Ls (.long v :: st)))) : own_Go p e below s k n Q (T.setTop (mkF m pc Ls (st))) := by
  subst hq; exact g.via fun _ hr_ => XT.lloadN (g := mkF m pc Ls (st)) X.here hx rfl hd hl hr_
theorem own_lload (X : Stand p l e R s m args below meth c T locs cells slots) (hx : p.tables.exec = Jvm.exec) {i : Nat} {v : Int64} (hd : decode c.code pc = .ok (.lload i, 2)) (hl : Ls[i]? = some (.val (.long v))) (hq : pc + 2 = q) (g : own_Go p e below s k n Q (T.setTop (mkF m q Ls (.long v :: st)))) : own_Go p e below s k n Q (T.setTop (mkF m pc Ls (st))) := by
  subst hq; exact g.via fun _ hr_ => XT.lload (g := mkF m pc Ls (st)) X.here hx rfl hd hl hr_
theorem own_aload_n (X : Stand p l e R s m args below meth c T locs cells slots) (hx : p.tables.exec = Jvm.exec) {i : Fin 4} {v : Value} (hd : decode c.code pc = .ok (.aload_n i, 1)) (hl : Ls[i.val]? = some (.val v)) (hr : v.isRef = true) (hq : pc + 1 = q) (g : own_Go p e below s k n Q (T.setTop (mkF m q Ls (v :: st)))) : own_Go p e below s k n Q (T.setTop (mkF m pc Ls (st))) := by
  subst hq; exact g.via fun _ hr_ => XS.aloadN (g := mkF m pc Ls (st)) X.here hx rfl hd hl hr hr_
theorem own_aload (X : Stand p l e R s m args below meth c T locs cells slots) (hx : p.tables.exec = Jvm.exec) {i : Nat} {v : Value} (hd : decode c.code pc = .ok (.aload i, 2)) (hl : Ls[i]? = some (.val v)) (hr : v.isRef = true) (hq : pc + 2 = q) (g : own_Go p e below s k n Q (T.setTop (mkF m q Ls (v :: st)))) : own_Go p e below s k n Q (T.setTop (mkF m pc Ls (st))) := by
  subst hq; exact g.via fun _ hr_ => XS.aload (g := mkF m pc Ls (st)) X.here hx rfl hd hl hr hr_
theorem own_istore_n (X : Stand p l e R s m args below meth c T locs cells slots) (hx : p.tables.exec = Jvm.exec) {i : Fin 4} {v : Int32} (hd : decode c.code pc = .ok (.istore_n i, 1)) (hl : storeLocals Ls i.val (.int v) = some l') (hq : pc + 1 = q) (g : own_Go p e below s k n Q (T.setTop (mkF m q l' (rest)))) : own_Go p e below s k n Q (T.setTop (mkF m pc Ls (.int v :: rest))) := by
  subst hq; exact g.via fun _ hr_ => XS.istoreN (g := mkF m pc Ls (.int v :: rest)) X.here hx rfl hd rfl hl hr_
theorem own_istore (X : Stand p l e R s m args below meth c T locs cells slots) (hx : p.tables.exec = Jvm.exec) {i : Nat} {v : Int32} (hd : decode c.code pc = .ok (.istore i, 2)) (hl : storeLocals Ls i (.int v) = some l') (hq : pc + 2 = q) (g : own_Go p e below s k n Q (T.setTop (mkF m q l' (rest)))) : own_Go p e below s k n Q (T.setTop (mkF m pc Ls (.int v :: rest))) := by
  subst hq; exact g.via fun _ hr_ => XS.istore (g := mkF m pc Ls (.int v :: rest)) X.here hx rfl hd rfl hl hr_
theorem own_lstore_n (X : Stand p l e R s m args below meth c T locs cells slots) (hx : p.tables.exec = Jvm.exec) {i : Fin 4} {v : Int64} (hd : decode c.code pc = .ok (.lstore_n i, 1)) (hl : storeLocals Ls i.val (.long v) = some l') (hq : pc + 1 = q) (g : own_Go p e below s k n Q (T.setTop (mkF m q l' (rest)))) : own_Go p e below s k n Q (T.setTop (mkF m pc Ls (.long v :: rest))) := by
  subst hq; exact g.via fun _ hr_ => XT.lstoreN (g := mkF m pc Ls (.long v :: rest)) X.here hx rfl hd rfl hl hr_
theorem own_lstore (X : Stand p l e R s m args below meth c T locs cells slots) (hx : p.tables.exec = Jvm.exec) {i : Nat} {v : Int64} (hd : decode c.code pc = .ok (.lstore i, 2)) (hl : storeLocals Ls i (.long v) = some l') (hq : pc + 2 = q) (g : own_Go p e below s k n Q (T.setTop (mkF m q l' (rest)))) : own_Go p e below s k n Q (T.setTop (mkF m pc Ls (.long v :: rest))) := by
  subst hq; exact g.via fun _ hr_ => XT.lstore (g := mkF m pc Ls (.long v :: rest)) X.here hx rfl hd rfl hl hr_
theorem own_astore_n (X : Stand p l e R s m args below meth c T locs cells slots) (hx : p.tables.exec = Jvm.exec) {i : Fin 4} {v : Value} (hd : decode c.code pc = .ok (.astore_n i, 1)) (hr : v.isRef = true) (hl : storeLocals Ls i.val v = some l') (hq : pc + 1 = q) (g : own_Go p e below s k n Q (T.setTop (mkF m q l' (rest)))) : own_Go p e below s k n Q (T.setTop (mkF m pc Ls (v :: rest))) := by
  subst hq; exact g.via fun _ hr_ => XS.astoreN (g := mkF m pc Ls (v :: rest)) X.here hx rfl hd rfl hr hl hr_
theorem own_astore (X : Stand p l e R s m args below meth c T locs cells slots) (hx : p.tables.exec = Jvm.exec) {i : Nat} {v : Value} (hd : decode c.code pc = .ok (.astore i, 2)) (hr : v.isRef = true) (hl : storeLocals Ls i v = some l') (hq : pc + 2 = q) (g : own_Go p e below s k n Q (T.setTop (mkF m q l' (rest)))) : own_Go p e below s k n Q (T.setTop (mkF m pc Ls (v :: rest))) := by
  subst hq; exact g.via fun _ hr_ => XS.astore (g := mkF m pc Ls (v :: rest)) X.here hx rfl hd rfl hr hl hr_
theorem own_iinc (X : Stand p l e R s m args below meth c T locs cells slots) (hx : p.tables.exec = Jvm.exec) {i : Nat} {cst : Int} {v w : Int32} (hd : decode c.code pc = .ok (.iinc i cst, 3)) (hl : Ls[i]? = some (.val (.int v))) (hv : v + Int32.ofInt cst = w) (hs : storeLocals Ls i (.int w) = some l') (hq : pc + 3 = q) (g : own_Go p e below s k n Q (T.setTop (mkF m q l' (st)))) : own_Go p e below s k n Q (T.setTop (mkF m pc Ls (st))) := by
  subst hq; subst hv; exact g.via fun _ hr_ => XS.iinc (g := mkF m pc Ls (st)) X.here hx rfl hd hl hs hr_
theorem own_dup (X : Stand p l e R s m args below meth c T locs cells slots) (hx : p.tables.exec = Jvm.exec) {v : Value} (hd : decode c.code pc = .ok (.dup, 1)) (hc : v.category = 1) (hq : pc + 1 = q) (g : own_Go p e below s k n Q (T.setTop (mkF m q Ls (v :: v :: rest)))) : own_Go p e below s k n Q (T.setTop (mkF m pc Ls (v :: rest))) := by
  subst hq; exact g.via fun _ hr_ => XS.dup (g := mkF m pc Ls (v :: rest)) X.here hx rfl hd rfl hc hr_
theorem own_pop (X : Stand p l e R s m args below meth c T locs cells slots) (hx : p.tables.exec = Jvm.exec) {v : Value} (hd : decode c.code pc = .ok (.pop, 1)) (hc : v.category = 1) (hq : pc + 1 = q) (g : own_Go p e below s k n Q (T.setTop (mkF m q Ls (rest)))) : own_Go p e below s k n Q (T.setTop (mkF m pc Ls (v :: rest))) := by
  subst hq; exact g.via fun _ hr_ => XT.pop (g := mkF m pc Ls (v :: rest)) X.here hx rfl hd rfl hc hr_
theorem own_dup2L (X : Stand p l e R s m args below meth c T locs cells slots) (hx : p.tables.exec = Jvm.exec) {x : Int64} (hd : decode c.code pc = .ok (.dup2, 1))  (hq : pc + 1 = q) (g : own_Go p e below s k n Q (T.setTop (mkF m q Ls (.long x :: .long x :: rest)))) : own_Go p e below s k n Q (T.setTop (mkF m pc Ls (.long x :: rest))) := by
  subst hq; exact g.via fun _ hr_ => XT.dup2L (g := mkF m pc Ls (.long x :: rest)) X.here hx rfl hd rfl hr_
theorem own_dup2 (X : Stand p l e R s m args below meth c T locs cells slots) (hx : p.tables.exec = Jvm.exec) {v w : Value} (hd : decode c.code pc = .ok (.dup2, 1)) (hc : v.category = 1) (hc' : w.category = 1) (hq : pc + 1 = q) (g : own_Go p e below s k n Q (T.setTop (mkF m q Ls (v :: w :: v :: w :: rest)))) : own_Go p e below s k n Q (T.setTop (mkF m pc Ls (v :: w :: rest))) := by
  subst hq; exact g.via fun _ hr_ => XT.dup2 (g := mkF m pc Ls (v :: w :: rest)) X.here hx rfl hd rfl hc hc' hr_
theorem own_dup_x1 (X : Stand p l e R s m args below meth c T locs cells slots) (hx : p.tables.exec = Jvm.exec) {v w : Value} (hd : decode c.code pc = .ok (.dup_x1, 1)) (hc : v.category = 1) (hc' : w.category = 1) (hq : pc + 1 = q) (g : own_Go p e below s k n Q (T.setTop (mkF m q Ls (v :: w :: v :: rest)))) : own_Go p e below s k n Q (T.setTop (mkF m pc Ls (v :: w :: rest))) := by
  subst hq; exact g.via fun _ hr_ => XT.dupX1 (g := mkF m pc Ls (v :: w :: rest)) X.here hx rfl hd rfl hc hc' hr_
theorem own_goto (X : Stand p l e R s m args below meth c T locs cells slots) (hx : p.tables.exec = Jvm.exec) {o : Int} (hd : decode c.code pc = .ok (.goto o, 3)) (ho : 0 ≤ (pc : Int) + o) (hp : ((pc : Int) + o).toNat = q) (g : own_Go p e below s k n Q (T.setTop (mkF m q Ls st))) : own_Go p e below s k n Q (T.setTop (mkF m pc Ls st)) :=
  g.via fun _ hr => XS.goto (g := mkF m pc Ls st) X.here hx rfl (pc0 := pc) rfl hd ho hp hr
theorem own_if (X : Stand p l e R s m args below meth c T locs cells slots) (hx : p.tables.exec = Jvm.exec) {cd : ClassFile.Cond} {x : Int32} {o : Int} {P : Prop} [Decidable P] (hd : decode c.code pc = .ok (.ifCond cd o, 3)) (ho : 0 ≤ (pc : Int) + o) (hp : ((pc : Int) + o).toNat = q) (hq : pc + 3 = q') (hP : ifCond.holds cd x = decide P) (gy : P → own_Go p e below s k n Q (T.setTop (mkF m q Ls rest))) (gn : ¬ P → own_Go p e below s k n Q (T.setTop (mkF m q' Ls rest))) : own_Go p e below s k n Q (T.setTop (mkF m pc Ls (.int x :: rest))) := by
  by_cases h : P
  · exact (gy h).via fun _ hr => XS.ifYes (g := mkF m pc Ls (.int x :: rest)) X.here hx rfl (pc0 := pc) rfl hd rfl (by rw [hP]; exact decide_eq_true h) ho hp hr
  · subst hq; exact (gn h).via fun _ hr => XS.ifNo (g := mkF m pc Ls (.int x :: rest)) X.here hx rfl hd rfl (by rw [hP]; exact decide_eq_false h) hr
theorem own_icmp (X : Stand p l e R s m args below meth c T locs cells slots) (hx : p.tables.exec = Jvm.exec) {cd : ClassFile.Cond} {x y : Int32} {o : Int} {P : Prop} [Decidable P] (hd : decode c.code pc = .ok (.if_icmp cd o, 3)) (ho : 0 ≤ (pc : Int) + o) (hp : ((pc : Int) + o).toNat = q) (hq : pc + 3 = q') (hP : if_icmp.holds cd x y = decide P) (gy : P → own_Go p e below s k n Q (T.setTop (mkF m q Ls rest))) (gn : ¬ P → own_Go p e below s k n Q (T.setTop (mkF m q' Ls rest))) : own_Go p e below s k n Q (T.setTop (mkF m pc Ls (.int y :: .int x :: rest))) := by
  by_cases h : P
  · exact (gy h).via fun _ hr => XS.icmpYes (g := mkF m pc Ls (.int y :: .int x :: rest)) X.here hx rfl (pc0 := pc) rfl hd rfl (by rw [hP]; exact decide_eq_true h) ho hp hr
  · subst hq; exact (gn h).via fun _ hr => XS.icmpNo (g := mkF m pc Ls (.int y :: .int x :: rest)) X.here hx rfl hd rfl (by rw [hP]; exact decide_eq_false h) hr
theorem own_h_eq (x y : Int32) : if_icmp.holds .eq x y = decide (x.toInt = y.toInt) := by
  by_cases h : x = y
  · rw [(teq h).1, h]; simp
  · rw [(feq h).1]; symm; exact decide_eq_false fun q => h (Int32.toInt_inj.mp q)
theorem own_h_ne (x y : Int32) : if_icmp.holds .ne x y = decide (x.toInt ≠ y.toInt) := by
  by_cases h : x = y
  · rw [(teq h).2, h]; simp
  · rw [(feq h).2]; symm; exact decide_eq_true fun q => h (Int32.toInt_inj.mp q)
theorem own_h_lt (x y : Int32) : if_icmp.holds .lt x y = decide (x.toInt < y.toInt) := by
  by_cases h : x < y
  · rw [(tlt h).1]; symm; exact decide_eq_true (Int32.lt_iff_toInt_lt.mp h)
  · rw [(flt h).1]; symm; exact decide_eq_false fun q => h (Int32.lt_iff_toInt_lt.mpr q)
theorem own_h_ge (x y : Int32) : if_icmp.holds .ge x y = decide (y.toInt ≤ x.toInt) := by
  by_cases h : x < y
  · rw [(tlt h).2.1]; symm; exact decide_eq_false fun q => absurd (Int32.lt_iff_toInt_lt.mp h) (by omega)
  · rw [(flt h).2.1]; symm; exact decide_eq_true (Int.not_lt.mp fun q => h (Int32.lt_iff_toInt_lt.mpr q))
theorem own_h_gt (x y : Int32) : if_icmp.holds .gt x y = decide (y.toInt < x.toInt) := by
  by_cases h : y < x
  · rw [(tlt h).2.2.1]; symm; exact decide_eq_true (Int32.lt_iff_toInt_lt.mp h)
  · rw [(flt h).2.2.1]; symm; exact decide_eq_false fun q => h (Int32.lt_iff_toInt_lt.mpr q)
theorem own_h_le (x y : Int32) : if_icmp.holds .le x y = decide (x.toInt ≤ y.toInt) := by
  by_cases h : y < x
  · rw [(tlt h).2.2.2]; symm; exact decide_eq_false fun q => absurd (Int32.lt_iff_toInt_lt.mp h) (by omega)
  · rw [(flt h).2.2.2]; symm; exact decide_eq_true (Int.not_lt.mp fun q => h (Int32.lt_iff_toInt_lt.mpr q))
theorem own_z_eq (x : Int32) : ifCond.holds .eq x = decide (x.toInt = 0) := (if0 _ _).trans (own_h_eq x 0)
theorem own_z_ne (x : Int32) : ifCond.holds .ne x = decide (x.toInt ≠ 0) := (if0 _ _).trans (own_h_ne x 0)
theorem own_z_lt (x : Int32) : ifCond.holds .lt x = decide (x.toInt < 0) := (if0 _ _).trans (own_h_lt x 0)
theorem own_z_ge (x : Int32) : ifCond.holds .ge x = decide (0 ≤ x.toInt) := (if0 _ _).trans (own_h_ge x 0)
theorem own_z_gt (x : Int32) : ifCond.holds .gt x = decide (0 < x.toInt) := (if0 _ _).trans (own_h_gt x 0)
theorem own_z_le (x : Int32) : ifCond.holds .le x = decide (x.toInt ≤ 0) := (if0 _ _).trans (own_h_le x 0)
theorem own_cmpL (x y : Int64) : (x.toInt < y.toInt ∧ (XT.cmpL x y).toInt = -1) ∨ (x.toInt = y.toInt ∧ (XT.cmpL x y).toInt = 0) ∨ (y.toInt < x.toInt ∧ (XT.cmpL x y).toInt = 1) := by
  unfold XT.cmpL
  by_cases h1 : y < x
  · rw [if_pos h1]; exact Or.inr (Or.inr ⟨Int64.lt_iff_toInt_lt.mp h1, rfl⟩)
  · rw [if_neg h1]
    by_cases h2 : x = y
    · rw [if_pos h2]; exact Or.inr (Or.inl ⟨by rw [h2], rfl⟩)
    · rw [if_neg h2]
      have h3 : ¬ y.toInt < x.toInt := fun q => h1 (Int64.lt_iff_toInt_lt.mpr q)
      have h4 : ¬ x.toInt = y.toInt := fun q => h2 (Int64.toInt_inj.mp q)
      exact Or.inl ⟨by omega, rfl⟩
theorem own_l_eq (x y : Int64) : ifCond.holds .eq (XT.cmpL x y) = decide (x.toInt = y.toInt) := by
  rw [own_z_eq]; rcases own_cmpL x y with ⟨h, q⟩ | ⟨h, q⟩ | ⟨h, q⟩ <;> rw [q] <;> simp <;> omega
theorem own_l_ne (x y : Int64) : ifCond.holds .ne (XT.cmpL x y) = decide (x.toInt ≠ y.toInt) := by
  rw [own_z_ne]; rcases own_cmpL x y with ⟨h, q⟩ | ⟨h, q⟩ | ⟨h, q⟩ <;> rw [q] <;> simp <;> omega
theorem own_l_lt (x y : Int64) : ifCond.holds .lt (XT.cmpL x y) = decide (x.toInt < y.toInt) := by
  rw [own_z_lt]; rcases own_cmpL x y with ⟨h, q⟩ | ⟨h, q⟩ | ⟨h, q⟩ <;> rw [q] <;> simp <;> omega
theorem own_l_ge (x y : Int64) : ifCond.holds .ge (XT.cmpL x y) = decide (y.toInt ≤ x.toInt) := by
  rw [own_z_ge]; rcases own_cmpL x y with ⟨h, q⟩ | ⟨h, q⟩ | ⟨h, q⟩ <;> rw [q] <;> simp <;> omega
theorem own_l_gt (x y : Int64) : ifCond.holds .gt (XT.cmpL x y) = decide (y.toInt < x.toInt) := by
  rw [own_z_gt]; rcases own_cmpL x y with ⟨h, q⟩ | ⟨h, q⟩ | ⟨h, q⟩ <;> rw [q] <;> simp <;> omega
theorem own_l_le (x y : Int64) : ifCond.holds .le (XT.cmpL x y) = decide (x.toInt ≤ y.toInt) := by
  rw [own_z_le]; rcases own_cmpL x y with ⟨h, q⟩ | ⟨h, q⟩ | ⟨h, q⟩ <;> rw [q] <;> simp <;> omega
theorem own_addI (x y : Int32) (h1 : -2147483648 ≤ x.toInt + y.toInt) (h2 : x.toInt + y.toInt < 2147483648) : (x + y).toInt = x.toInt + y.toInt := by
  have := c_iadd x y; have := rng32 (x + y); omega
theorem own_subI (x y : Int32) (h1 : -2147483648 ≤ x.toInt - y.toInt) (h2 : x.toInt - y.toInt < 2147483648) : (x - y).toInt = x.toInt - y.toInt := by
  have := c_isub x y; have := rng32 (x - y); omega
theorem own_mulI (x y : Int32) (h1 : -2147483648 ≤ x.toInt * y.toInt) (h2 : x.toInt * y.toInt < 2147483648) : (x * y).toInt = x.toInt * y.toInt := by
  have := c_imul x y; have := rng32 (x * y); omega
theorem own_rem (x y : Int32) (h0 : 0 ≤ x.toInt) (hy : 0 < y.toInt) : (x - (x / y) * y).toInt = x.toInt % y.toInt := by
  have hne : y ≠ -1 := fun q => by rw [q] at hy; exact absurd hy (by decide)
  have h1 := (c_idiv x y y.toInt rfl hne).1 h0
  have h2 := c_imul (x / y) y
  rw [h1] at h2
  have h3 := c_isub x ((x / y) * y)
  have h4 := rng32 (x - (x / y) * y)
  have h5 := Int.emod_def x.toInt y.toInt
  rw [Int.mul_comm] at h5
  have h6 := Int.emod_nonneg x.toInt (Int.ne_of_gt hy)
  have h7 := Int.emod_lt_of_pos x.toInt hy
  have h8 := rng32 y
  generalize x.toInt / y.toInt * y.toInt = P at *
  generalize x.toInt % y.toInt = M at *
  omega
end Own
section Own2
variable {p : Program} {l : Launch} {e : Env} {R : Room} {s : State} {m : MethodId} {args : Array Value} {below : List Frame} {meth : Method} {c : Code} {T : State} {locs : List Loc} {cells slots : Nat} {k n : Nat} {Q : Option Value → Heap → List Loc → Prop} {pc q q' : Nat} {Ls l' : Array Slot} {st rest : List Value}
variable {Z : State} {a0 : Array Value} {h h' : Heap} {a b : Addr} {ty : FieldType} {N i : Nat} {f : Nat → Value} {v : Value} {ws : List Addr} {sl n0 : Nat} {j x : Int32}
/-- an array of N places that hold f 0 .. f (N - 1) -/
def own_Arr (Z : State) (h : Heap) (a : Addr) (ty : FieldType) (N : Nat) (f : Nat → Value) : Prop := ∃ c : Cell, Arr Z h a c ty ∧ c.slots.size = N ∧ N < 2 ^ 31 ∧ ∀ i, i < N → c.slots[i]? = some (f i)
def own_upd (f : Nat → Value) (j : Nat) (v : Value) : Nat → Value := fun i => if i = j then v else f i
theorem own_upd_same (f : Nat → Value) (j : Nat) (v : Value) : own_upd f j v j = v := if_pos rfl
theorem own_upd_ne (f : Nat → Value) {i j : Nat} (v : Value) (q : i ≠ j) : own_upd f j v i = f i := if_neg q
def own_updI (f : Nat → Int32) (j : Nat) (v : Int32) : Nat → Int32 := fun i => if i = j then v else f i
def own_zero : Nat → Int32 := fun _ => 0
theorem own_updI_same (f : Nat → Int32) (j : Nat) (v : Int32) : own_updI f j v j = v := if_pos rfl
theorem own_updI_ne (f : Nat → Int32) {i j : Nat} (v : Int32) (q : i ≠ j) : own_updI f j v i = f i := if_neg q
theorem own_upd_I (f : Nat → Int32) (j : Nat) (v : Int32) : own_upd (fun i => .int (f i)) j (.int v) = fun i => .int (own_updI f j v i) := by
  funext i
  show (if i = j then Value.int v else Value.int (f i)) = Value.int (if i = j then v else f i)
  split <;> rfl
theorem own_Arr.ext (F : own_Arr Z h a ty N f) (E : Ext h h') : own_Arr Z h' a ty N f := by obtain ⟨c, A, r⟩ := F; exact ⟨c, A.ext E, r⟩
theorem own_Arr.keep (F : own_Arr Z h a ty N f) (K : Keep h h' ws) (q : a ∉ ws) : own_Arr Z h' a ty N f := by obtain ⟨c, A, r⟩ := F; exact ⟨c, ⟨K.2.1 a c A.1 q, A.2⟩, r⟩
theorem own_Arr.lt (F : own_Arr Z h a ty N f) : a < h.size := by obtain ⟨c, A, -⟩ := F; exact A.lt
theorem own_Arr.set (F : own_Arr Z h a ty N f) (W : Wr h h' a i v) : own_Arr Z h' a ty N (own_upd f i v) := by
  obtain ⟨c, A, S, hN, H⟩ := F
  refine ⟨_, Arr.same W A, by rw [sz_set]; exact S, hN, fun t ht => ?_⟩
  show (c.slots.setIfInBounds i v)[t]? = _
  rw [Array.getElem?_setIfInBounds]
  by_cases q : t = i
  · subst q; simp [own_upd, S, ht]
  · rw [if_neg (fun z => q z.symm), own_upd, if_neg q]; exact H t ht
theorem own_idx (hj : j.toInt = (i : Int)) (hi : i < N) : ¬ (j < 0 ∨ N ≤ j.toNatClampNeg) ∧ j.toNatClampNeg = i := by
  have h1 : j.toNatClampNeg = i := by show j.toInt.toNat = i; omega
  refine ⟨fun q => ?_, h1⟩
  rcases q with q | q
  · have := Int32.lt_iff_toInt_lt.mp q; have : (0 : Int32).toInt = 0 := rfl; omega
  · omega
theorem own_newP (X : Stand p l e R s m args below meth c T locs cells slots) (hx : p.tables.exec = Jvm.exec) (hZ : Z.Warmed39 s.vm) {aty : ArrayType} (w : (Jvm.Cond.arrayClass (newarray.typeOf aty)).before a0 Z = true) (eT : T.heap = h) (hd : decode c.code pc = .ok (.newarray aty, 2)) (hn : j.toInt = (N : Int)) {cap : Nat} (hcap : N ≤ cap) (hb : cap * 8 ≤ 536870912) (hc : cells + 1 ≤ R.cells) (hl : slots + cap ≤ R.slots) (hq : pc + 2 = q)
    (g : ∀ T' h' b, b = h.size → Stand p l e R s m args below meth c T' locs (cells + 1) (slots + cap) → T'.heap = h' → Ext h h' → own_Arr Z h' b (newarray.typeOf aty) N (fun _ => defaultValue (newarray.typeOf aty)) → own_Go p e below s k n Q (T'.setTop (mkF m q Ls (.ref b :: rest)))) :
    own_Go p e below s k n Q (T.setTop (mkF m pc Ls (.int j :: rest))) := by
  subst hq
  have hN : j.toNatClampNeg = N := by show j.toInt.toNat = N; omega
  have hn0 : ¬ j < 0 := fun q => by have := Int32.lt_iff_toInt_lt.mp q; have : (0 : Int32).toInt = 0 := rfl; omega
  obtain ⟨T', h', cA, X', e', E, A, st⟩ := newP X hx hZ w eT (g := mkF m pc Ls (.int j :: rest)) rfl hd rfl hn0 (cap := cap) (by rw [hN]; exact hcap) hb hc hl
  refine (g T' h' h.size rfl X' e' E ⟨_, A, by rw [sz_new]; exact hN, ?_, fun t ht => ?_⟩).via st
  · have := (back32 hn0).2; omega
  · show (Array.replicate j.toNatClampNeg _)[t]? = _
    rw [Array.getElem?_replicate, if_pos (by omega)]
theorem own_stB (X : Stand p l e R s m args below meth c T locs cells slots) (hx : p.tables.exec = Jvm.exec) (hZ : Z.Warmed39 s.vm) (eT : T.heap = h) {fi : Nat → Int32} (A : own_Arr Z h a .byte N (fun i => .int (fi i))) (hd : decode c.code pc = .ok (.bastore, 1)) (hj : j.toInt = (i : Int)) (hi : i < N) (Nf : Fr n0 locs) (ha : n0 ≤ a) (hq : pc + 1 = q)
    (g : ∀ T' h' L', Stand p l e R s m args below meth c T' L' cells slots → Fr n0 L' → T'.heap = h' → own_Arr Z h' a .byte N (fun t => .int (own_updI fi i (x.toInt8.toInt32) t)) → Keep h h' [a] → own_Go p e below s k n Q (T'.setTop (mkF m q Ls rest))) :
    own_Go p e below s k n Q (T.setTop (mkF m pc Ls (.int x :: .int j :: .ref a :: rest))) := by
  subst hq
  have A0 := A
  obtain ⟨cl, Ar, S, hN, H⟩ := A
  obtain ⟨h1, h2⟩ := own_idx (N := cl.slots.size) hj (by omega)
  obtain ⟨T', h', X', e', W, st⟩ := stB X hx hZ eT Ar (j := j) (x := x) h1 (g := mkF m pc Ls (.int x :: .int j :: .ref a :: rest)) rfl rfl hd
  have N' := Fr.snoc X' Nf ha
  rw [h2] at W
  have A1 := A0.set W
  rw [show (Value.int (nar .byte x)) = .int (x.toInt8.toInt32) from rfl, own_upd_I] at A1
  exact (g T' h' _ X' N' e' A1 (Keep.of_wr W)).via st
theorem own_baload (X : Stand p l e R s m args below meth c T locs cells slots) (hx : p.tables.exec = Jvm.exec) (hZ : Z.Warmed39 s.vm) (eT : T.heap = h) (A : own_Arr Z h a .byte N f) (hd : decode c.code pc = .ok (.baload, 1)) (hj : j.toInt = (i : Int)) (hi : i < N) (hv : f i = v) (hq : pc + 1 = q)
    (g : own_Go p e below s k n Q (T.setTop (mkF m q Ls (v :: rest)))) :
    own_Go p e below s k n Q (T.setTop (mkF m pc Ls (.int j :: .ref a :: rest))) := by
  subst hq
  obtain ⟨cl, Ar, S, hN, H⟩ := A
  obtain ⟨h1, h2⟩ := own_idx (N := cl.slots.size) hj (by omega)
  exact g.via fun t => X.baloadBytes hx (j := j) (v := v) (by rw [eT]; exact Ar.1) (State.isArrayOf_alike hZ.alike Ar.2.1) Ar.2.2 h1 (by rw [h2, ← hv]; exact H i hi) (g := mkF m pc Ls (.int j :: .ref a :: rest)) rfl rfl hd t
theorem own_zaload (X : Stand p l e R s m args below meth c T locs cells slots) (hx : p.tables.exec = Jvm.exec) (hZ : Z.Warmed39 s.vm) (eT : T.heap = h) (A : own_Arr Z h a .boolean N f) (hd : decode c.code pc = .ok (.baload, 1)) (hj : j.toInt = (i : Int)) (hi : i < N) (hv : f i = v) (hq : pc + 1 = q)
    (g : own_Go p e below s k n Q (T.setTop (mkF m q Ls (v :: rest)))) :
    own_Go p e below s k n Q (T.setTop (mkF m pc Ls (.int j :: .ref a :: rest))) := by
  subst hq
  obtain ⟨cl, Ar, S, hN, H⟩ := A
  obtain ⟨h1, h2⟩ := own_idx (N := cl.slots.size) hj (by omega)
  exact g.via fun t => X.baloadBooleans hx (j := j) (v := v) (by rw [eT]; exact Ar.1) (State.isArrayOf_alike hZ.alike Ar.2.1) Ar.2.2 h1 (by rw [h2, ← hv]; exact H i hi) (g := mkF m pc Ls (.int j :: .ref a :: rest)) rfl rfl hd t
theorem own_newO (X : Stand p l e R s m args below meth c T locs cells slots) (hx : p.tables.exec = Jvm.exec) (hZ : Z.Warmed39 s.vm) {own C : String} {index sz : Nat} (hown : s.vm.findClass own = some m.cls) (w : (Jvm.Cond.classLink own index C).before a0 Z = true) (wi : (Jvm.Cond.instantiable C sz).before a0 Z = true) (wz : (Jvm.Cond.initialized C).before a0 Z = true) (eT : T.heap = h) (hd : decode c.code pc = .ok (.new index, 3)) (hc : cells + 1 ≤ R.cells) (hl : slots + sz ≤ R.slots) (hq : pc + 3 = q)
    (g : ∀ T' h' b, b = h.size → Stand p l e R s m args below meth c T' locs (cells + 1) (slots + sz) → T'.heap = h' → Ext h h' → Exa Z h' b C → (∀ {O nm d : String} {ty : FieldType}, Laid Z a0 C O nm d → parseFieldDescriptor d = some ty → Fld Z h' b O nm d (defaultValue ty)) → own_Go p e below s k n Q (T'.setTop (mkF m q Ls (.ref b :: st)))) :
    own_Go p e below s k n Q (T.setTop (mkF m pc Ls st)) := by
  subst hq
  obtain ⟨T', h', X', e', E, A, D, -, stp⟩ := newO X hx hZ hown w wi wz eT (g := mkF m pc Ls st) rfl hd hc hl
  exact (g T' h' h.size rfl X' e' E A D).via stp
theorem own_initO (X : Stand p l e R s m args below meth c T locs cells slots) (hx : p.tables.exec = Jvm.exec) (hZ : Z.Warmed39 s.vm) {own : String} {idx : Nat} (hown : s.vm.findClass own = some m.cls) (w1 : (Jvm.Cond.methodLink own idx Lib.objectInit).before a0 Z = true) (w2 : (Jvm.Cond.instanceMethod Lib.objectInit).before a0 Z = true)
    (w3 : (Jvm.Cond.code Lib.objectInit ⟨#[0xb1]⟩ 1 none).before a0 Z = true) (eT : T.heap = h) (hsize : Ls.size = c.maxLocals) (hd : decode c.code pc = .ok (.invokespecial idx, 3)) (hf : 1 ≤ R.frames) {W : Nat} (hW : (rest.map fun v => v.category).sum = W) (hl : W + 12 ≤ R.locals) (hq : pc + 3 = q)
    (g : ∀ T', Stand p l e R s m args below meth c T' locs cells slots → T'.heap = h → own_Go p e below s k n Q (T'.setTop (mkF m q Ls rest))) :
    own_Go p e below s k n Q (T.setTop (mkF m pc Ls (.ref a :: rest))) := by
  subst hq
  obtain ⟨T', X', e', st⟩ := initO X hx hZ hown w1 w2 w3 eT (g := mkF m pc Ls (.ref a :: rest)) rfl hsize rfl hd hf (W := W) (by show 2 * 0 + _ ≤ _; rw [hW]; omega) hl
  exact (g T' X' e').via st
theorem own_putF (X : Stand p l e R s m args below meth c T locs cells slots) (hx : p.tables.exec = Jvm.exec) (hZ : Z.Warmed39 s.vm) {own O nm d C : String} {index kk : Nat} {ft : FieldType} (hown : s.vm.findClass own = some m.cls) (w : (Jvm.Cond.fieldLink own index O nm d).before a0 Z = true)
    (eT : T.heap = h) {old : Value} (F : Fld Z h a O nm d old) (E : Exa Z h a C) (L : (Jvm.Cond.lays C O nm d).before a0 Z = true ∨ ((Jvm.Cond.laysFinal C O nm d).before a0 Z = true ∧ own = O ∧ meth.name = "<init>")) (wi : (Jvm.Cond.instantiable C kk).before a0 Z = true)
    (hty : parseFieldDescriptor d = some ft) (hn : narrow ft v = v) (hf : fits ft v = true) (hd : decode c.code pc = .ok (.putfield index, 3)) (Nf : Fr n0 locs) (ha : n0 ≤ a) (hq : pc + 3 = q)
    (g : ∀ T' h' L', Stand p l e R s m args below meth c T' L' cells slots → Fr n0 L' → T'.heap = h' → Wr h h' a (Jvm.RoadKit.slotOf Z O nm d) v → own_Go p e below s k n Q (T'.setTop (mkF m q Ls rest))) :
    own_Go p e below s k n Q (T.setTop (mkF m pc Ls (v :: .ref a :: rest))) := by
  subst hq
  obtain ⟨T', h', X', e', W, st⟩ := putF X hx hZ hown (host := "") (Or.inl w) Via.refl eT F E L wi hty hn hf (g := mkF m pc Ls (v :: .ref a :: rest)) rfl rfl hd
  exact (g T' h' _ X' (Fr.snoc X' Nf ha) e' W).via st
theorem own_getF (X : Stand p l e R s m args below meth c T locs cells slots) (hx : p.tables.exec = Jvm.exec) (hZ : Z.Warmed39 s.vm) {own O nm d : String} {index : Nat} (hown : s.vm.findClass own = some m.cls) (w : (Jvm.Cond.fieldLink own index O nm d).before a0 Z = true)
    (eT : T.heap = h) (F : Fld Z h a O nm d v) (hd : decode c.code pc = .ok (.getfield index, 3)) (hq : pc + 3 = q)
    (g : ∀ T', Stand p l e R s m args below meth c T' locs cells slots → T'.heap = h → own_Go p e below s k n Q (T'.setTop (mkF m q Ls (v :: rest)))) :
    own_Go p e below s k n Q (T.setTop (mkF m pc Ls (.ref a :: rest))) := by
  subst hq
  obtain ⟨T', X', e', st⟩ := getF X hx hZ hown (host := "") (Or.inl w) Via.refl eT F (g := mkF m pc Ls (.ref a :: rest)) rfl rfl hd
  exact (g T' X' e').via st
theorem own_getS (X : Stand p l e R s m args below meth c T locs cells slots) (hx : p.tables.exec = Jvm.exec) (hZ : Z.Warmed39 s.vm) {own O nm d : String} {index : Nat} (hown : s.vm.findClass own = some m.cls) (w : (Jvm.Cond.fieldLink own index O nm d).before a0 Z = true)
    (eT : T.heap = h) (F : Sta Z h O nm d v) (hd : decode c.code pc = .ok (.getstatic index, 3)) (hq : pc + 3 = q)
    (g : ∀ T', Stand p l e R s m args below meth c T' locs cells slots → T'.heap = h → own_Go p e below s k n Q (T'.setTop (mkF m q Ls (v :: st)))) :
    own_Go p e below s k n Q (T.setTop (mkF m pc Ls st)) := by
  subst hq
  obtain ⟨T', X', e', stp⟩ := getS X hx hZ (host := "") hown w Via.refl eT F (g := mkF m pc Ls st) rfl hd
  exact (g T' X' e').via stp
theorem own_retA (X : Stand p l e R s m args below meth c T locs cells slots) (hx : p.tables.exec = Jvm.exec) {t : FieldType} (hv : v.isRef = true) (hret : meth.sig.returnType = some t) (ht : t.isReference = true) (hlk : meth.locks = false) (hd : decode c.code pc = .ok (.areturn, 1)) (hk : cells ≤ k) (hn : slots ≤ n) (hq : Q (some v) T.heap locs) :
    own_Go p e below s k n Q (T.setTop (mkF m pc Ls [v])) := by
  obtain ⟨fs, hr, hrun, hended, hW, hsame⟩ := X.leave (v := some v) (fun h => by rw [hret] at h; cases h) hlk
  exact ⟨_, _, X.areturnOut hx hv hret ht hd hr, hrun, hended, _, _, rfl, hq, ⟨_, rfl⟩, hW, hsame.mono hk hn⟩
theorem own_newR (X : Stand p l e R s m args below meth c T locs cells slots) (hx : p.tables.exec = Jvm.exec) (hZ : Z.Warmed39 s.vm) {own C : String} {index : Nat} (hown : s.vm.findClass own = some m.cls) (w1 : (Jvm.Cond.classLink own index C).before a0 Z = true) (w2 : (Jvm.Cond.arrayOver (.object C)).before a0 Z = true) (eT : T.heap = h) (hd : decode c.code pc = .ok (.anewarray index, 3)) (hn : j.toInt = (N : Int)) {cap : Nat} (hcap : N ≤ cap) (hb : cap * 8 ≤ 536870912) (hc : cells + 1 ≤ R.cells) (hl : slots + cap ≤ R.slots) (hq : pc + 3 = q)
    (g : ∀ T' h' b, b = h.size → Stand p l e R s m args below meth c T' locs (cells + 1) (slots + cap) → T'.heap = h' → Ext h h' → own_Arr Z h' b (.object C) N (fun _ => .null) → (∃ cl, Arr Z h' b cl (.object C) ∧ Ovr Z cl.cls C) → own_Go p e below s k n Q (T'.setTop (mkF m q Ls (.ref b :: rest)))) :
    own_Go p e below s k n Q (T.setTop (mkF m pc Ls (.int j :: rest))) := by
  subst hq
  have hN : j.toNatClampNeg = N := by show j.toInt.toNat = N; omega
  have hn0 : ¬ j < 0 := fun q => by have := Int32.lt_iff_toInt_lt.mp q; have : (0 : Int32).toInt = 0 := rfl; omega
  obtain ⟨T', h', cA, X', e', E, A, O, st⟩ := newR X hx hZ hown w1 w2 eT (g := mkF m pc Ls (.int j :: rest)) rfl hd rfl hn0 (cap := cap) (by rw [hN]; exact hcap) hb hc hl
  refine (g T' h' h.size rfl X' e' E ⟨_, A, by rw [sz_new]; exact hN, ?_, fun t ht => ?_⟩ ⟨_, A, O⟩).via st
  · have := (back32 hn0).2; omega
  · show (Array.replicate j.toNatClampNeg _)[t]? = _
    rw [Array.getElem?_replicate, if_pos (by omega)]; rfl
theorem own_ovr_keep {C : String} (F : ∃ cl : Cell, Arr Z h a cl (.object C) ∧ Ovr Z cl.cls C) (W : Wr h h' a i v) : ∃ cl : Cell, Arr Z h' a cl (.object C) ∧ Ovr Z cl.cls C := by
  obtain ⟨cl, A, O⟩ := F
  exact ⟨_, Arr.same W A, O⟩
theorem own_stR {C : String} (X : Stand p l e R s m args below meth c T locs cells slots) (hx : p.tables.exec = Jvm.exec) (hZ : Z.Warmed39 s.vm) (eT : T.heap = h) (A : own_Arr Z h a (.object C) N f) (O : ∃ cl : Cell, Arr Z h a cl (.object C) ∧ Ovr Z cl.cls C) (I : Ins Z h b C true) (hd : decode c.code pc = .ok (.aastore, 1)) (hj : j.toInt = (i : Int)) (hi : i < N) (Nf : Fr n0 locs) (ha : n0 ≤ a) (hq : pc + 1 = q)
    (g : ∀ T' h' L', Stand p l e R s m args below meth c T' L' cells slots → Fr n0 L' → T'.heap = h' → own_Arr Z h' a (.object C) N (own_upd f i (.ref b)) → (∃ cl : Cell, Arr Z h' a cl (.object C) ∧ Ovr Z cl.cls C) → Wr h h' a i (.ref b) → own_Go p e below s k n Q (T'.setTop (mkF m q Ls rest))) :
    own_Go p e below s k n Q (T.setTop (mkF m pc Ls (.ref b :: .int j :: .ref a :: rest))) := by
  subst hq
  have A0 := A
  have O0 := O
  obtain ⟨cl, Ar, S, hN, H⟩ := A
  obtain ⟨cl', Ar', Ov⟩ := O
  cases Ar.1.symm.trans Ar'.1
  obtain ⟨h1, h2⟩ := own_idx (N := cl.slots.size) hj (by omega)
  obtain ⟨T', h', X', e', W, st⟩ := stR X hx hZ eT Ar (j := j) (v := .ref b) h1 rfl (Sto.of Ar Ov I) (g := mkF m pc Ls (.ref b :: .int j :: .ref a :: rest)) rfl rfl hd
  have N' := Fr.snoc X' Nf ha
  rw [h2] at W
  exact (g T' h' _ X' N' e' (A0.set W) (own_ovr_keep O0 W) W).via st
theorem own_aaload {C : String} (X : Stand p l e R s m args below meth c T locs cells slots) (hx : p.tables.exec = Jvm.exec) (hZ : Z.Warmed39 s.vm) (eT : T.heap = h) (A : own_Arr Z h a (.object C) N f) (hd : decode c.code pc = .ok (.aaload, 1)) (hj : j.toInt = (i : Int)) (hi : i < N) (hv : f i = v) (hq : pc + 1 = q)
    (g : own_Go p e below s k n Q (T.setTop (mkF m q Ls (v :: rest)))) :
    own_Go p e below s k n Q (T.setTop (mkF m pc Ls (.int j :: .ref a :: rest))) := by
  subst hq
  obtain ⟨cl, Ar, S, hN, H⟩ := A
  obtain ⟨h1, h2⟩ := own_idx (N := cl.slots.size) hj (by omega)
  exact g.via fun t => X.aaload hx (j := j) (v := v) (by rw [eT]; exact Ar.1) (State.isArrayOf_alike hZ.alike Ar.2.1) rfl Ar.2.2 h1 (by rw [h2, ← hv]; exact H i hi) (g := mkF m pc Ls (.int j :: .ref a :: rest)) rfl rfl hd t
theorem own_acmp (X : Stand p l e R s m args below meth c T locs cells slots) (hx : p.tables.exec = Jvm.exec) {cd : ClassFile.ACond} {o : Int} {P : Prop} [Decidable P] {u v : Value} (hd : decode c.code pc = .ok (.if_acmp cd o, 3)) (ho : 0 ≤ (pc : Int) + o) (hp : ((pc : Int) + o).toNat = q) (hq : pc + 3 = q') (hu : u.isRef = true) (hv : v.isRef = true) (hP : XT.acmp cd u v = decide P) (gy : P → own_Go p e below s k n Q (T.setTop (mkF m q Ls rest))) (gn : ¬ P → own_Go p e below s k n Q (T.setTop (mkF m q' Ls rest))) : own_Go p e below s k n Q (T.setTop (mkF m pc Ls (v :: u :: rest))) := by
  by_cases h : P
  · exact (gy h).via fun _ hr => XT.acmpYes (g := mkF m pc Ls (v :: u :: rest)) X.here hx rfl (pc0 := pc) rfl hd rfl hu hv (by rw [hP]; exact decide_eq_true h) ho hp hr
  · subst hq; exact (gn h).via fun _ hr => XT.acmpNo (g := mkF m pc Ls (v :: u :: rest)) X.here hx rfl hd rfl hu hv (by rw [hP]; exact decide_eq_false h) hr
theorem own_callVP {C own : String} {index : Nat} {y : MethodName} {bytes : ByteArray} {maxL : Nat} {ret : Option FieldType} (X : Stand p l e R s m args below meth c T locs cells slots) (hx : p.tables.exec = Jvm.exec) (hZ : Z.Warmed39 s.vm)
    (hown : s.vm.findClass own = some m.cls) (w1 : (Jvm.Cond.methodLink own index y).before a0 Z = true) (w2 : (Jvm.Cond.declares y).before a0 Z = true) (w3 : (Jvm.Cond.selects C y y).before a0 Z = true) (w4 : (Jvm.Cond.instanceMethod y).before a0 Z = true) (w5 : (Jvm.Cond.code y bytes maxL ret).before a0 Z = true) (w6 : (Jvm.Cond.initialized y.cls).before a0 Z = true)
    (hy : y.cls ≠ "java/lang/invoke/MethodHandle" ∧ y.cls ≠ "java/lang/invoke/VarHandle") {rm : Room} {as' : Array Value} {P : Value → Prop} {W : Nat}
    (hM : MetFree l y (head1 [Jvm.Cond.code y bytes maxL ret] rm) (fun a U => a = as' ∧ Z.Warmed39 U.vm ∧ U.heap = h) (fun _ _ _ _ _ => True) (fun _ U o U' => ∃ v L, o = .returned v ∧ ((∃ w, v = some w ∧ P w) ∧ L = [] ∧ U'.heap = h) ∧ FrameEnd U o U' L rm.cells rm.slots))
    (E : Exa Z h b C) (hf : rm.frames + 1 ≤ R.frames) (hl : W + (maxL + 11) + rm.locals ≤ R.locals) (eT : T.heap = h) (hsize : Ls.size = c.maxLocals) {argsL : List Value}
    (hlen : ∀ sig, parseMethodDescriptor y.desc = some sig → argsL.length = sig.parameters.length) (hst : st = argsL.reverse ++ .ref b :: rest) (hW : (rest.map fun v => v.category).sum = W) (hd : decode c.code pc = .ok (.invokevirtual index, 3)) (hq : pc + 3 = q) (has : (.ref b :: argsL).toArray = as') (hc : rm.cells = 0) (hs : rm.slots = 0) (hcc : cells ≤ R.cells) (hss : slots ≤ R.slots)
    (g : ∀ w T', P w → Stand p l e R s m args below meth c T' locs cells slots → T'.heap = h → own_Go p e below s k n Q (T'.setTop (mkF m q Ls (w :: rest)))) :
    own_Go p e below s k n Q (T.setTop (mkF m pc Ls st)) := by
  refine own_callV (Q' := fun v U L => (∃ w, v = some w ∧ P w) ∧ L = [] ∧ U = h) X hx hZ hown w1 w2 w3 w4 w5 w6 hy hM E hf hl eT hsize hlen hst hW hd hq has (by rw [hc]; exact hcc) (by rw [hs]; exact hss) ?_
  rintro v T' L ⟨⟨w, rfl, hP⟩, rfl, e'⟩ X'
  rw [List.append_nil, hc, hs] at X'
  exact g w T' hP X' e'
/-- a private method by invokevirtual, the heap left as it was -/
theorem own_callPP {C own : String} {index kk : Nat} {y : MethodName} {bytes : ByteArray} {maxL : Nat} {ret : Option FieldType} (X : Stand p l e R s m args below meth c T locs cells slots) (hx : p.tables.exec = Jvm.exec) (hZ : Z.Warmed39 s.vm)
    (hown : s.vm.findClass own = some m.cls) (w1 : (Jvm.Cond.methodLink own index y).before a0 Z = true) (w2 : (Jvm.Cond.privateMethod y).before a0 Z = true) (w3 : (Jvm.Cond.instantiable y.cls kk).before a0 Z = true) (w4 : (Jvm.Cond.instanceMethod y).before a0 Z = true) (w5 : (Jvm.Cond.code y bytes maxL ret).before a0 Z = true) (w6 : (Jvm.Cond.initialized y.cls).before a0 Z = true)
    (hy : y.cls ≠ "java/lang/invoke/MethodHandle" ∧ y.cls ≠ "java/lang/invoke/VarHandle") {rm : Room} {as' : Array Value} {P : Value → Prop} {W : Nat}
    (hM : MetFree l y (head1 [Jvm.Cond.code y bytes maxL ret] rm) (fun a U => a = as' ∧ Z.Warmed39 U.vm ∧ U.heap = h) (fun _ _ _ _ _ => True) (fun _ U o U' => ∃ v L, o = .returned v ∧ ((∃ w, v = some w ∧ P w) ∧ L = [] ∧ U'.heap = h) ∧ FrameEnd U o U' L rm.cells rm.slots))
    (E : Exa Z h b C) (hf : rm.frames + 1 ≤ R.frames) (hl : W + (maxL + 11) + rm.locals ≤ R.locals) (eT : T.heap = h) (hsize : Ls.size = c.maxLocals) {argsL : List Value}
    (hlen : ∀ sig, parseMethodDescriptor y.desc = some sig → argsL.length = sig.parameters.length) (hst : st = argsL.reverse ++ .ref b :: rest) (hW : (rest.map fun v => v.category).sum = W) (hd : decode c.code pc = .ok (.invokevirtual index, 3)) (hq : pc + 3 = q) (has : (.ref b :: argsL).toArray = as') (hc : rm.cells = 0) (hs : rm.slots = 0) (hcc : cells ≤ R.cells) (hss : slots ≤ R.slots)
    (g : ∀ w T', P w → Stand p l e R s m args below meth c T' locs cells slots → T'.heap = h → own_Go p e below s k n Q (T'.setTop (mkF m q Ls (w :: rest)))) :
    own_Go p e below s k n Q (T.setTop (mkF m pc Ls st)) := by
  subst hq hst
  obtain ⟨cq, q1, q2⟩ := E.cell
  have hi := mvT (args := args) hZ w4
  have hp := Cond.privateMethod_at (mvP (args := #[]) hZ w2)
  obtain ⟨ci, ki, f1, f2, -, f3, -⟩ := Cond.instantiable_spec (mvT (args := args) hZ w3)
  have hsel := selects_self_of_private f1 f2 (Bool.or_eq_false_iff.mp f3).1 hp hi hy
  obtain ⟨v, _, ⟨T7, L7, k7, n7⟩, -, X7, ⟨Lc7, hQ7, l7, y7, z7⟩, st7⟩ := X.privateBack hx hown (mvT hZ w1) hi hsel hp (mvT hZ w5) hy (backOf (W := W) (Q := fun v U L => (∃ w, v = some w ∧ P w) ∧ L = [] ∧ U = h) hM hZ w5 w6 hf hl) (g := mkF m pc Ls (argsL.reverse ++ .ref b :: rest)) rfl hsize (Steps.refl _) (a := b) (by rw [eT]; exact q1) q2 (argsL := argsL) (rest := rest) hlen rfl (by show 2 * 0 + _ ≤ _; rw [hW]; omega) hd (fun _ _ => ⟨has, eT, by rw [hc]; exact hcc, by rw [hs]; exact hss⟩)
  dsimp only [Pt.U, Pt.locs, Pt.cells, Pt.slots] at X7 l7 y7 z7 st7 hQ7
  obtain ⟨⟨w, rfl, hP⟩, rfl, e'⟩ := hQ7
  rw [List.append_nil] at l7
  rw [hc] at y7
  rw [hs] at z7
  subst l7 y7 z7
  exact (g w T7 hP X7 e').via fun t hh => st7.trans hh
/-- a constructor that leaves the heap as it was (Record's, say) -/
theorem own_callNP {own : String} {index : Nat} {y : MethodName} {bytes : ByteArray} {maxL : Nat} (X : Stand p l e R s m args below meth c T locs cells slots) (hx : p.tables.exec = Jvm.exec) (hZ : Z.Warmed39 s.vm)
    (hyn : y.name = "<init>") (hown : s.vm.findClass own = some m.cls) (w1 : (Jvm.Cond.methodLink own index y).before a0 Z = true) (w2 : (Jvm.Cond.instanceMethod y).before a0 Z = true) (w3 : (Jvm.Cond.initialized y.cls).before a0 Z = true) (w4 : (Jvm.Cond.code y bytes maxL none).before a0 Z = true)
    (hy : y.cls ≠ "java/lang/invoke/MethodHandle" ∧ y.cls ≠ "java/lang/invoke/VarHandle") {rm : Room} {as' : Array Value} {W : Nat}
    (hM : MetFree l y (head1 [Jvm.Cond.code y bytes maxL none] rm) (fun a U => a = as' ∧ Z.Warmed39 U.vm ∧ U.heap = h) (fun _ _ _ _ _ => True) (fun _ U o U' => ∃ v L, o = .returned v ∧ (v = none ∧ L = [] ∧ U'.heap = h) ∧ FrameEnd U o U' L rm.cells rm.slots))
    (hf : rm.frames + 1 ≤ R.frames) (hl : W + (maxL + 11) + rm.locals ≤ R.locals) (eT : T.heap = h) (hsize : Ls.size = c.maxLocals) {argsL : List Value}
    (hlen : ∀ sig, parseMethodDescriptor y.desc = some sig → argsL.length = sig.parameters.length) (hst : st = argsL.reverse ++ .ref b :: rest) (hW : (rest.map fun v => v.category).sum = W) (hd : decode c.code pc = .ok (.invokespecial index, 3)) (hq : pc + 3 = q) (has : (.ref b :: argsL).toArray = as') (hc : rm.cells = 0) (hs : rm.slots = 0) (hcc : cells ≤ R.cells) (hss : slots ≤ R.slots)
    (g : ∀ T', Stand p l e R s m args below meth c T' locs cells slots → T'.heap = h → own_Go p e below s k n Q (T'.setTop (mkF m q Ls rest))) :
    own_Go p e below s k n Q (T.setTop (mkF m pc Ls st)) := by
  refine own_callN (Q' := fun v U L => v = none ∧ L = [] ∧ U = h) (b := b) X hx hZ hyn hown w1 w2 w3 w4 hy hM hf hl eT hsize hlen hst hW hd hq has (by rw [hc]; exact hcc) (by rw [hs]; exact hss) ?_
  rintro v T' L ⟨rfl, rfl, e'⟩ X'
  rw [List.append_nil, hc, hs] at X'
  exact g T' X' e'
theorem own_addL (x y : Int64) (h1 : -9223372036854775808 ≤ x.toInt + y.toInt) (h2 : x.toInt + y.toInt < 9223372036854775808) : (x + y).toInt = x.toInt + y.toInt := by
  have := c_ladd x y; have := rng64 (x + y); omega
theorem own_subL (x y : Int64) (h1 : -9223372036854775808 ≤ x.toInt - y.toInt) (h2 : x.toInt - y.toInt < 9223372036854775808) : (x - y).toInt = x.toInt - y.toInt := by
  have := c_lsub x y; have := rng64 (x - y); omega
theorem own_mulL (x y : Int64) (h1 : -9223372036854775808 ≤ x.toInt * y.toInt) (h2 : x.toInt * y.toInt < 9223372036854775808) : (x * y).toInt = x.toInt * y.toInt := by
  have := c_lmul x y; have := rng64 (x * y); omega
end Own2
theorem own_pd0 : parseMethodDescriptor "(B)Z" = some ⟨[.byte], (some .boolean)⟩ := by decide +kernel
theorem own_pd1 : parseMethodDescriptor "(I)Z" = some ⟨[.int], (some .boolean)⟩ := by decide +kernel
section OwnT
variable {args : Array Value} {s : State} {t : Term} {a : Addr} {cl : Cell} {F : Nat → Int32} {v : Int32}
theorem own_fold (g : Option Bool → Nat → Option Bool) (f : Nat → Option Bool) (h1 : ∀ i, g (some true) i = f i) (h2 : ∀ x i, x ≠ some true → g x i = x) (n : Nat) (h : (List.range n).foldl g (some true) = some true) : ∀ i, i < n → f i = some true := by
  induction n with
  | zero => intro i hi; exact absurd hi (Nat.not_lt_zero _)
  | succ n ih =>
    rw [List.range_succ, List.foldl_append, List.foldl_cons, List.foldl_nil] at h
    by_cases hp : (List.range n).foldl g (some true) = some true
    · rw [hp, h1] at h
      intro i hi
      by_cases q : i = n
      · subst q; exact h
      · exact ih hp i (by omega)
    · rw [h2 _ _ hp] at h; exact absurd h hp
theorem own_all {c : Jvm.Cond} (ht : t.eval args s none [] s = some (.ref a)) (ha : s.arrayAt? a = some cl) (h : (Jvm.Cond.all t c).value args s none s [] = some true) : ∀ j, j < cl.slots.size → c.value args s none s [j] = some true := by
  intro j hj
  simp only [Cond.value, ht, ha] at h
  exact own_fold _ (fun i => c.value args s none s [i]) (fun _ => rfl) (fun x _ hx => by
    cases x with
    | none => rfl
    | some b => cases b <;> first | rfl | exact absurd rfl hx) cl.slots.size h j hj
theorem own_idxv {j : Nat} (hj : j < 2 ^ 31) : (j.toInt32).toInt = (j : Int) ∧ ¬ j.toInt32 < 0 ∧ j.toInt32.toNatClampNeg = j := by
  have h1 : (j.toInt32).toInt = (j : Int) := len_toInt hj
  refine ⟨h1, fun q => ?_, by show (j.toInt32).toInt.toNat = j; omega⟩
  have := Int32.lt_iff_toInt_lt.mp q; have : (0 : Int32).toInt = 0 := rfl; omega
theorem own_t_at {j : Nat} {u : Term} {k : Int32} {idx : List Nat} (ev : ∀ idx, t.eval args s none idx s = some (.ref a)) (ha : s.arrayAt? a = some cl) (hF : ∀ i, i < cl.slots.size → cl.slots[i]? = some (.int (F i))) (hu : u.eval args s none idx s = some (.int k)) (hk : k.toInt = (j : Int)) (hj : j < cl.slots.size) : (Term.elem t u).eval args s none idx s = some (.int (F j)) := by
  obtain ⟨h1, h2⟩ := own_idx (N := cl.slots.size) hk hj
  rw [elem_f (ev idx) hu ha (fun q => h1 (Or.inl q)), h2]; exact hF j hj
theorem own_tE {k : Int32} {i : Nat} (ev : ∀ idx, t.eval args s none idx s = some (.ref a)) (ha : s.arrayAt? a = some cl) (hF : ∀ i, i < cl.slots.size → cl.slots[i]? = some (.int (F i))) (h : (Jvm.Cond.eq (.elem t (.int k)) (.int v)).value args s none s [] = some true) (hk : k.toInt = (i : Int)) (hi : i < cl.slots.size) : ∀ j, j ≠ i ∨ F j = v := by
  intro j
  by_cases q : j = i
  · subst q; exact Or.inr (gotT (Cond.eq_ints (own_t_at ev ha hF rfl hk hi) rfl) h)
  · exact Or.inl q
theorem own_tA {x : Int32} (ev : ∀ idx, t.eval args s none idx s = some (.ref a)) (ha : s.arrayAt? a = some cl) (hsz : cl.slots.size < 2 ^ 31) (hF : ∀ i, i < cl.slots.size → cl.slots[i]? = some (.int (F i))) (h : (Jvm.Cond.all t (.or (.le (.int x) (.index 0)) (.eq (.elem t (.index 0)) (.int v)))).value args s none s [] = some true) : ∀ j, j < cl.slots.size → x.toInt ≤ (j : Int) ∨ F j = v := by
  intro j hj
  obtain ⟨q1, q2, q3⟩ := own_idxv (Nat.lt_trans hj hsz)
  have e1 : (Term.index 0).eval args s none [j] s = some (.int j.toInt32) := rfl
  rcases or_e2 (Cond.le_ints (s := s) rfl e1) (Cond.eq_ints (own_t_at ev ha hF e1 q1 hj) rfl) (own_all (ev []) ha h j hj) with q | q
  · have := Int32.le_iff_toInt_le.mp q; rw [q1] at this; exact Or.inl this
  · exact Or.inr q
theorem own_tC {x : Int32} (ev : ∀ idx, t.eval args s none idx s = some (.ref a)) (ha : s.arrayAt? a = some cl) (hsz : cl.slots.size < 2 ^ 31) (hF : ∀ i, i < cl.slots.size → cl.slots[i]? = some (.int (F i))) (h : (Jvm.Cond.all t (.or (.lt (.index 0) (.int x)) (.eq (.elem t (.index 0)) (.int v)))).value args s none s [] = some true) : ∀ j, j < cl.slots.size → (j : Int) < x.toInt ∨ F j = v := by
  intro j hj
  obtain ⟨q1, q2, q3⟩ := own_idxv (Nat.lt_trans hj hsz)
  have e1 : (Term.index 0).eval args s none [j] s = some (.int j.toInt32) := rfl
  rcases or_e2 (Cond.lt_ints (s := s) e1 rfl) (Cond.eq_ints (own_t_at ev ha hF e1 q1 hj) rfl) (own_all (ev []) ha h j hj) with q | q
  · have := Int32.lt_iff_toInt_lt.mp q; rw [q1] at this; exact Or.inl this
  · exact Or.inr q
theorem own_or2 {P R : Prop} [Decidable P] [Decidable R] {c d : Jvm.Cond} {idx : List Nat} (h1 : c.value args s none s idx = some (decide P)) (h2 : d.value args s none s idx = some (decide R)) : (Jvm.Cond.or c d).value args s none s idx = some (decide (P ∨ R)) := by
  by_cases p : P <;> by_cases r : R <;> simp [Cond.value, h1, h2, p, r]
theorem own_tB {x y : Int32} (ev : ∀ idx, t.eval args s none idx s = some (.ref a)) (ha : s.arrayAt? a = some cl) (hsz : cl.slots.size < 2 ^ 31) (hF : ∀ i, i < cl.slots.size → cl.slots[i]? = some (.int (F i))) (h : (Jvm.Cond.all t (.or (.lt (.index 0) (.int x)) (.or (.le (.int y) (.index 0)) (.eq (.elem t (.index 0)) (.int v))))).value args s none s [] = some true) : ∀ j, j < cl.slots.size → (j : Int) < x.toInt ∨ y.toInt ≤ (j : Int) ∨ F j = v := by
  intro j hj
  obtain ⟨q1, q2, q3⟩ := own_idxv (Nat.lt_trans hj hsz)
  have e1 : (Term.index 0).eval args s none [j] s = some (.int j.toInt32) := rfl
  rcases gotT (own_or2 (Cond.lt_ints (s := s) e1 rfl) (own_or2 (Cond.le_ints (s := s) rfl e1) (Cond.eq_ints (own_t_at ev ha hF e1 q1 hj) rfl))) (own_all (ev []) ha h j hj) with q | q | q
  · have := Int32.lt_iff_toInt_lt.mp q; rw [q1] at this; exact Or.inl this
  · have := Int32.le_iff_toInt_le.mp q; rw [q1] at this; exact Or.inr (Or.inl this)
  · exact Or.inr (Or.inr q)
theorem own_t_len {z : Int32} {n : Nat} (ht : t.eval args s none [] s = some (.ref a)) (ha : s.arrayAt? a = some cl) (h : (Jvm.Cond.eq (.length t) (.int z)).value args s none s [] = some true) (hz : z.toInt = (n : Int)) : cl.slots.size = n ∧ cl.slots.size < 2 ^ 31 := by
  by_cases hl : cl.slots.size < 2 ^ 31
  · have h1 := gotT (Cond.eq_ints (len_f ht ha hl) rfl) h
    have h2 := len_toInt hl
    rw [h1, hz] at h2
    exact ⟨by omega, hl⟩
  · have h3 : (Term.length t).eval args s none [] s = none := by simp [Term.eval, ht, ha, hl]
    simp [Cond.value, h3] at h
def own_atF (cl : Cell) (i : Nat) : Int32 := match cl.slots[i]? with | some (.int x) => x | _ => 0
theorem own_t_F {ty : FieldType} (hfit : Fit s) (A : Arr s s.heap a cl ty) (hty : ty = .int ∨ ty = .boolean ∨ ty = .byte ∨ ty = .char ∨ ty = .short) (hsz : cl.slots.size < 2 ^ 31) : ∀ i, i < cl.slots.size → cl.slots[i]? = some (.int (own_atF cl i)) := by
  intro i hi
  obtain ⟨q1, q2, q3⟩ := own_idxv (Nat.lt_trans hi hsz)
  obtain ⟨h1, h2⟩ := own_idx (N := cl.slots.size) q1 hi
  obtain ⟨w, hw, hf⟩ := elem_fit hfit A h1
  obtain ⟨x, rfl⟩ := fit_I hf hty
  rw [h2] at hw
  rw [hw, own_atF, hw]
end OwnT
theorem d1_0 : decode method_2_code 0 = .ok (.iload_n 0, 1) := by decide +kernel
theorem d1_1 : decode method_2_code 1 = .ok (.bipush 48, 2) := by decide +kernel
theorem d1_3 : decode method_2_code 3 = .ok (.if_icmp .lt 11, 3) := by decide +kernel
theorem d1_6 : decode method_2_code 6 = .ok (.iload_n 0, 1) := by decide +kernel
theorem d1_7 : decode method_2_code 7 = .ok (.bipush 57, 2) := by decide +kernel
theorem d1_9 : decode method_2_code 9 = .ok (.if_icmp .gt 5, 3) := by decide +kernel
theorem d1_12 : decode method_2_code 12 = .ok (.iconst 1, 1) := by decide +kernel
theorem d1_13 : decode method_2_code 13 = .ok (.ireturn, 1) := by decide +kernel
theorem d1_14 : decode method_2_code 14 = .ok (.iload_n 0, 1) := by decide +kernel
theorem d1_15 : decode method_2_code 15 = .ok (.bipush 65, 2) := by decide +kernel
theorem d1_17 : decode method_2_code 17 = .ok (.if_icmp .lt 11, 3) := by decide +kernel
theorem d1_20 : decode method_2_code 20 = .ok (.iload_n 0, 1) := by decide +kernel
theorem d1_21 : decode method_2_code 21 = .ok (.bipush 90, 2) := by decide +kernel
theorem d1_23 : decode method_2_code 23 = .ok (.if_icmp .gt 5, 3) := by decide +kernel
theorem d1_26 : decode method_2_code 26 = .ok (.iconst 1, 1) := by decide +kernel
theorem d1_27 : decode method_2_code 27 = .ok (.ireturn, 1) := by decide +kernel
theorem d1_28 : decode method_2_code 28 = .ok (.iload_n 0, 1) := by decide +kernel
theorem d1_29 : decode method_2_code 29 = .ok (.bipush 97, 2) := by decide +kernel
theorem d1_31 : decode method_2_code 31 = .ok (.if_icmp .lt 11, 3) := by decide +kernel
theorem d1_34 : decode method_2_code 34 = .ok (.iload_n 0, 1) := by decide +kernel
theorem d1_35 : decode method_2_code 35 = .ok (.bipush 122, 2) := by decide +kernel
theorem d1_37 : decode method_2_code 37 = .ok (.if_icmp .gt 5, 3) := by decide +kernel
theorem d1_40 : decode method_2_code 40 = .ok (.iconst 1, 1) := by decide +kernel
theorem d1_41 : decode method_2_code 41 = .ok (.ireturn, 1) := by decide +kernel
theorem d1_42 : decode method_2_code 42 = .ok (.iload_n 0, 1) := by decide +kernel
theorem d1_43 : decode method_2_code 43 = .ok (.bipush 33, 2) := by decide +kernel
theorem d1_45 : decode method_2_code 45 = .ok (.if_icmp .eq 87, 3) := by decide +kernel
theorem d1_48 : decode method_2_code 48 = .ok (.iload_n 0, 1) := by decide +kernel
theorem d1_49 : decode method_2_code 49 = .ok (.bipush 35, 2) := by decide +kernel
theorem d1_51 : decode method_2_code 51 = .ok (.if_icmp .eq 81, 3) := by decide +kernel
theorem d1_54 : decode method_2_code 54 = .ok (.iload_n 0, 1) := by decide +kernel
theorem d1_55 : decode method_2_code 55 = .ok (.bipush 36, 2) := by decide +kernel
theorem d1_57 : decode method_2_code 57 = .ok (.if_icmp .eq 75, 3) := by decide +kernel
theorem d1_60 : decode method_2_code 60 = .ok (.iload_n 0, 1) := by decide +kernel
theorem d1_61 : decode method_2_code 61 = .ok (.bipush 37, 2) := by decide +kernel
theorem d1_63 : decode method_2_code 63 = .ok (.if_icmp .eq 69, 3) := by decide +kernel
theorem d1_66 : decode method_2_code 66 = .ok (.iload_n 0, 1) := by decide +kernel
theorem d1_67 : decode method_2_code 67 = .ok (.bipush 38, 2) := by decide +kernel
theorem d1_69 : decode method_2_code 69 = .ok (.if_icmp .eq 63, 3) := by decide +kernel
theorem d1_72 : decode method_2_code 72 = .ok (.iload_n 0, 1) := by decide +kernel
theorem d1_73 : decode method_2_code 73 = .ok (.bipush 39, 2) := by decide +kernel
theorem d1_75 : decode method_2_code 75 = .ok (.if_icmp .eq 57, 3) := by decide +kernel
theorem d1_78 : decode method_2_code 78 = .ok (.iload_n 0, 1) := by decide +kernel
theorem d1_79 : decode method_2_code 79 = .ok (.bipush 42, 2) := by decide +kernel
theorem d1_81 : decode method_2_code 81 = .ok (.if_icmp .eq 51, 3) := by decide +kernel
theorem d1_84 : decode method_2_code 84 = .ok (.iload_n 0, 1) := by decide +kernel
theorem d1_85 : decode method_2_code 85 = .ok (.bipush 43, 2) := by decide +kernel
theorem d1_87 : decode method_2_code 87 = .ok (.if_icmp .eq 45, 3) := by decide +kernel
theorem d1_90 : decode method_2_code 90 = .ok (.iload_n 0, 1) := by decide +kernel
theorem d1_91 : decode method_2_code 91 = .ok (.bipush 45, 2) := by decide +kernel
theorem d1_93 : decode method_2_code 93 = .ok (.if_icmp .eq 39, 3) := by decide +kernel
theorem d1_96 : decode method_2_code 96 = .ok (.iload_n 0, 1) := by decide +kernel
theorem d1_97 : decode method_2_code 97 = .ok (.bipush 46, 2) := by decide +kernel
theorem d1_99 : decode method_2_code 99 = .ok (.if_icmp .eq 33, 3) := by decide +kernel
theorem d1_102 : decode method_2_code 102 = .ok (.iload_n 0, 1) := by decide +kernel
theorem d1_103 : decode method_2_code 103 = .ok (.bipush 94, 2) := by decide +kernel
theorem d1_105 : decode method_2_code 105 = .ok (.if_icmp .eq 27, 3) := by decide +kernel
theorem d1_108 : decode method_2_code 108 = .ok (.iload_n 0, 1) := by decide +kernel
theorem d1_109 : decode method_2_code 109 = .ok (.bipush 95, 2) := by decide +kernel
theorem d1_111 : decode method_2_code 111 = .ok (.if_icmp .eq 21, 3) := by decide +kernel
theorem d1_114 : decode method_2_code 114 = .ok (.iload_n 0, 1) := by decide +kernel
theorem d1_115 : decode method_2_code 115 = .ok (.bipush 96, 2) := by decide +kernel
theorem d1_117 : decode method_2_code 117 = .ok (.if_icmp .eq 15, 3) := by decide +kernel
theorem d1_120 : decode method_2_code 120 = .ok (.iload_n 0, 1) := by decide +kernel
theorem d1_121 : decode method_2_code 121 = .ok (.bipush 124, 2) := by decide +kernel
theorem d1_123 : decode method_2_code 123 = .ok (.if_icmp .eq 9, 3) := by decide +kernel
theorem d1_126 : decode method_2_code 126 = .ok (.iload_n 0, 1) := by decide +kernel
theorem d1_127 : decode method_2_code 127 = .ok (.bipush 126, 2) := by decide +kernel
theorem d1_129 : decode method_2_code 129 = .ok (.if_icmp .ne 7, 3) := by decide +kernel
theorem d1_132 : decode method_2_code 132 = .ok (.iconst 1, 1) := by decide +kernel
theorem d1_133 : decode method_2_code 133 = .ok (.goto 4, 3) := by decide +kernel
theorem d1_136 : decode method_2_code 136 = .ok (.iconst 0, 1) := by decide +kernel
theorem d1_137 : decode method_2_code 137 = .ok (.ireturn, 1) := by decide +kernel
theorem own_pn1 : plainName "com/example/treaty2/treaty2/io/datapath/HttpHeadIsTokenBytePinLaw" = true := by first | (simp [plainName, overriddenIn]; done) | decide +kernel
theorem own_ef1 (m : MethodId) (p1 : Int32) : entryFrame m #[(.int p1)] 1 = mkF m 0 #[.val (.int p1)] [] := by first | (simp [entryFrame, mkF, argsToLocals, Value.category, maxLocals]; done) | rfl
set_option maxRecDepth 65536 in
set_option maxHeartbeats 40000000 in
theorem own_rm1 (l : Launch) (Z : State) (a0 : Array Value) (hw : ∀ d ∈ tables_1, d.before a0 Z = true) (ws : List Jvm.Cond) (p1 : Int32)  (h0 : Heap)  :
    MetFree l (⟨"com/example/treaty2/treaty2/io/datapath/HttpHeadIsTokenBytePinLaw", "tchar", "(I)Z"⟩ : MethodName) (head1 (Jvm.Cond.code (⟨"com/example/treaty2/treaty2/io/datapath/HttpHeadIsTokenBytePinLaw", "tchar", "(I)Z"⟩ : MethodName) method_2_code 1 (some .boolean) :: ws) ({ frames := 0, cells := 0, slots := 0, locals := 0 } : Room)) (fun a U => a = #[(.int p1)] ∧ Z.Warmed39 U.vm ∧ U.heap = h0) (fun _ _ _ _ _ => True) (fun _ U o U' => ∃ v L, o = .returned v ∧ (fun v h L => (∃ w, v = some w ∧ (fun w => ∃ z : Int32, w = .int z ∧ ((((p1.toInt = 33 ∨ (35 ≤ p1.toInt ∧ p1.toInt ≤ 39) ∨ p1.toInt = 42 ∨ p1.toInt = 43 ∨ p1.toInt = 45 ∨ p1.toInt = 46 ∨ (48 ≤ p1.toInt ∧ p1.toInt ≤ 57) ∨ (65 ≤ p1.toInt ∧ p1.toInt ≤ 90) ∨ (94 ≤ p1.toInt ∧ p1.toInt ≤ 122) ∨ p1.toInt = 124 ∨ p1.toInt = 126)) ∧ z.toInt = 1) ∨ (¬ ((p1.toInt = 33 ∨ (35 ≤ p1.toInt ∧ p1.toInt ≤ 39) ∨ p1.toInt = 42 ∨ p1.toInt = 43 ∨ p1.toInt = 45 ∨ p1.toInt = 46 ∨ (48 ≤ p1.toInt ∧ p1.toInt ≤ 57) ∨ (65 ≤ p1.toInt ∧ p1.toInt ≤ 90) ∨ (94 ≤ p1.toInt ∧ p1.toInt ≤ 122) ∨ p1.toInt = 124 ∨ p1.toInt = 126)) ∧ z.toInt = 0))) w) ∧ L = [] ∧ h = h0) v U'.heap L ∧ FrameEnd U o U' L ({ frames := 0, cells := 0, slots := 0, locals := 0 } : Room).cells ({ frames := 0, cells := 0, slots := 0, locals := 0 } : Room).slots) := by
  refine own_body (y := (⟨"com/example/treaty2/treaty2/io/datapath/HttpHeadIsTokenBytePinLaw", "tchar", "(I)Z"⟩ : MethodName)) (Q := fun v h L => (∃ w, v = some w ∧ (fun w => ∃ z : Int32, w = .int z ∧ ((((p1.toInt = 33 ∨ (35 ≤ p1.toInt ∧ p1.toInt ≤ 39) ∨ p1.toInt = 42 ∨ p1.toInt = 43 ∨ p1.toInt = 45 ∨ p1.toInt = 46 ∨ (48 ≤ p1.toInt ∧ p1.toInt ≤ 57) ∨ (65 ≤ p1.toInt ∧ p1.toInt ≤ 90) ∨ (94 ≤ p1.toInt ∧ p1.toInt ≤ 122) ∨ p1.toInt = 124 ∨ p1.toInt = 126)) ∧ z.toInt = 1) ∨ (¬ ((p1.toInt = 33 ∨ (35 ≤ p1.toInt ∧ p1.toInt ≤ 39) ∨ p1.toInt = 42 ∨ p1.toInt = 43 ∨ p1.toInt = 45 ∨ p1.toInt = 46 ∨ (48 ≤ p1.toInt ∧ p1.toInt ≤ 57) ∨ (65 ≤ p1.toInt ∧ p1.toInt ≤ 90) ∨ (94 ≤ p1.toInt ∧ p1.toInt ≤ 122) ∨ p1.toInt = 124 ∨ p1.toInt = 126)) ∧ z.toInt = 0))) w) ∧ L = [] ∧ h = h0) (rm := ({ frames := 0, cells := 0, slots := 0, locals := 0 } : Room)) (as' := #[(.int p1)]) (h0 := h0) (Z := Z) own_pn1 ?_
  intro p e s m below meth c s₁ hx hby hml hown hnm hret hlk hZ X0 e0
  have hown : s.vm.findClass "com/example/treaty2/treaty2/io/datapath/HttpHeadIsTokenBytePinLaw" = some m.cls := hown
  rw [own_ef1]
  refine own_iload_n X0 hx (hb hby d1_0) rfl (q := 1) rfl ?_
  refine own_bipush X0 hx (hb hby d1_1) (v := (48 : Int32)) rfl (q := 3) rfl ?_
  refine own_icmp X0 hx (hb hby d1_3) (by decide) (q := 14) rfl (q' := 6) rfl (own_h_lt _ _) (fun h3 => ?_) (fun h3 => ?_)
  · replace h3 : p1.toInt < 48 := h3
    refine own_iload_n X0 hx (hb hby d1_14) rfl (q := 15) rfl ?_
    refine own_bipush X0 hx (hb hby d1_15) (v := (65 : Int32)) rfl (q := 17) rfl ?_
    refine own_icmp X0 hx (hb hby d1_17) (by decide) (q := 28) rfl (q' := 20) rfl (own_h_lt _ _) (fun h17 => ?_) (fun h17 => ?_)
    · replace h17 : p1.toInt < 65 := h17
      refine own_iload_n X0 hx (hb hby d1_28) rfl (q := 29) rfl ?_
      refine own_bipush X0 hx (hb hby d1_29) (v := (97 : Int32)) rfl (q := 31) rfl ?_
      refine own_icmp X0 hx (hb hby d1_31) (by decide) (q := 42) rfl (q' := 34) rfl (own_h_lt _ _) (fun h31 => ?_) (fun h31 => ?_)
      · replace h31 : p1.toInt < 97 := h31
        refine own_iload_n X0 hx (hb hby d1_42) rfl (q := 43) rfl ?_
        refine own_bipush X0 hx (hb hby d1_43) (v := (33 : Int32)) rfl (q := 45) rfl ?_
        refine own_icmp X0 hx (hb hby d1_45) (by decide) (q := 132) rfl (q' := 48) rfl (own_h_eq _ _) (fun h45 => ?_) (fun h45 => ?_)
        · replace h45 : p1.toInt = 33 := h45
          refine own_iconst X0 hx (hb hby d1_132) (v := (1 : Int32)) rfl (q := 133) rfl ?_
          refine own_goto X0 hx (hb hby d1_133) (by decide) (q := 137) rfl ?_
          exact own_retN X0 hx (t := .boolean) hret hlk (by simp) (hb hby d1_137) (by decide) (by decide) (w := (1 : Int32)) rfl ⟨⟨_, rfl, ⟨_, rfl, by have hc_ : (1 : Int32).toInt = 1 := rfl; omega⟩⟩, rfl, e0⟩
        · replace h45 : ¬ (p1.toInt = 33) := h45
          refine own_iload_n X0 hx (hb hby d1_48) rfl (q := 49) rfl ?_
          refine own_bipush X0 hx (hb hby d1_49) (v := (35 : Int32)) rfl (q := 51) rfl ?_
          refine own_icmp X0 hx (hb hby d1_51) (by decide) (q := 132) rfl (q' := 54) rfl (own_h_eq _ _) (fun h51 => ?_) (fun h51 => ?_)
          · replace h51 : p1.toInt = 35 := h51
            refine own_iconst X0 hx (hb hby d1_132) (v := (1 : Int32)) rfl (q := 133) rfl ?_
            refine own_goto X0 hx (hb hby d1_133) (by decide) (q := 137) rfl ?_
            exact own_retN X0 hx (t := .boolean) hret hlk (by simp) (hb hby d1_137) (by decide) (by decide) (w := (1 : Int32)) rfl ⟨⟨_, rfl, ⟨_, rfl, by have hc_ : (1 : Int32).toInt = 1 := rfl; omega⟩⟩, rfl, e0⟩
          · replace h51 : ¬ (p1.toInt = 35) := h51
            refine own_iload_n X0 hx (hb hby d1_54) rfl (q := 55) rfl ?_
            refine own_bipush X0 hx (hb hby d1_55) (v := (36 : Int32)) rfl (q := 57) rfl ?_
            refine own_icmp X0 hx (hb hby d1_57) (by decide) (q := 132) rfl (q' := 60) rfl (own_h_eq _ _) (fun h57 => ?_) (fun h57 => ?_)
            · replace h57 : p1.toInt = 36 := h57
              refine own_iconst X0 hx (hb hby d1_132) (v := (1 : Int32)) rfl (q := 133) rfl ?_
              refine own_goto X0 hx (hb hby d1_133) (by decide) (q := 137) rfl ?_
              exact own_retN X0 hx (t := .boolean) hret hlk (by simp) (hb hby d1_137) (by decide) (by decide) (w := (1 : Int32)) rfl ⟨⟨_, rfl, ⟨_, rfl, by have hc_ : (1 : Int32).toInt = 1 := rfl; omega⟩⟩, rfl, e0⟩
            · replace h57 : ¬ (p1.toInt = 36) := h57
              refine own_iload_n X0 hx (hb hby d1_60) rfl (q := 61) rfl ?_
              refine own_bipush X0 hx (hb hby d1_61) (v := (37 : Int32)) rfl (q := 63) rfl ?_
              refine own_icmp X0 hx (hb hby d1_63) (by decide) (q := 132) rfl (q' := 66) rfl (own_h_eq _ _) (fun h63 => ?_) (fun h63 => ?_)
              · replace h63 : p1.toInt = 37 := h63
                refine own_iconst X0 hx (hb hby d1_132) (v := (1 : Int32)) rfl (q := 133) rfl ?_
                refine own_goto X0 hx (hb hby d1_133) (by decide) (q := 137) rfl ?_
                exact own_retN X0 hx (t := .boolean) hret hlk (by simp) (hb hby d1_137) (by decide) (by decide) (w := (1 : Int32)) rfl ⟨⟨_, rfl, ⟨_, rfl, by have hc_ : (1 : Int32).toInt = 1 := rfl; omega⟩⟩, rfl, e0⟩
              · replace h63 : ¬ (p1.toInt = 37) := h63
                refine own_iload_n X0 hx (hb hby d1_66) rfl (q := 67) rfl ?_
                refine own_bipush X0 hx (hb hby d1_67) (v := (38 : Int32)) rfl (q := 69) rfl ?_
                refine own_icmp X0 hx (hb hby d1_69) (by decide) (q := 132) rfl (q' := 72) rfl (own_h_eq _ _) (fun h69 => ?_) (fun h69 => ?_)
                · replace h69 : p1.toInt = 38 := h69
                  refine own_iconst X0 hx (hb hby d1_132) (v := (1 : Int32)) rfl (q := 133) rfl ?_
                  refine own_goto X0 hx (hb hby d1_133) (by decide) (q := 137) rfl ?_
                  exact own_retN X0 hx (t := .boolean) hret hlk (by simp) (hb hby d1_137) (by decide) (by decide) (w := (1 : Int32)) rfl ⟨⟨_, rfl, ⟨_, rfl, by have hc_ : (1 : Int32).toInt = 1 := rfl; omega⟩⟩, rfl, e0⟩
                · replace h69 : ¬ (p1.toInt = 38) := h69
                  refine own_iload_n X0 hx (hb hby d1_72) rfl (q := 73) rfl ?_
                  refine own_bipush X0 hx (hb hby d1_73) (v := (39 : Int32)) rfl (q := 75) rfl ?_
                  refine own_icmp X0 hx (hb hby d1_75) (by decide) (q := 132) rfl (q' := 78) rfl (own_h_eq _ _) (fun h75 => ?_) (fun h75 => ?_)
                  · replace h75 : p1.toInt = 39 := h75
                    refine own_iconst X0 hx (hb hby d1_132) (v := (1 : Int32)) rfl (q := 133) rfl ?_
                    refine own_goto X0 hx (hb hby d1_133) (by decide) (q := 137) rfl ?_
                    exact own_retN X0 hx (t := .boolean) hret hlk (by simp) (hb hby d1_137) (by decide) (by decide) (w := (1 : Int32)) rfl ⟨⟨_, rfl, ⟨_, rfl, by have hc_ : (1 : Int32).toInt = 1 := rfl; omega⟩⟩, rfl, e0⟩
                  · replace h75 : ¬ (p1.toInt = 39) := h75
                    refine own_iload_n X0 hx (hb hby d1_78) rfl (q := 79) rfl ?_
                    refine own_bipush X0 hx (hb hby d1_79) (v := (42 : Int32)) rfl (q := 81) rfl ?_
                    refine own_icmp X0 hx (hb hby d1_81) (by decide) (q := 132) rfl (q' := 84) rfl (own_h_eq _ _) (fun h81 => ?_) (fun h81 => ?_)
                    · replace h81 : p1.toInt = 42 := h81
                      refine own_iconst X0 hx (hb hby d1_132) (v := (1 : Int32)) rfl (q := 133) rfl ?_
                      refine own_goto X0 hx (hb hby d1_133) (by decide) (q := 137) rfl ?_
                      exact own_retN X0 hx (t := .boolean) hret hlk (by simp) (hb hby d1_137) (by decide) (by decide) (w := (1 : Int32)) rfl ⟨⟨_, rfl, ⟨_, rfl, by have hc_ : (1 : Int32).toInt = 1 := rfl; omega⟩⟩, rfl, e0⟩
                    · replace h81 : ¬ (p1.toInt = 42) := h81
                      refine own_iload_n X0 hx (hb hby d1_84) rfl (q := 85) rfl ?_
                      refine own_bipush X0 hx (hb hby d1_85) (v := (43 : Int32)) rfl (q := 87) rfl ?_
                      refine own_icmp X0 hx (hb hby d1_87) (by decide) (q := 132) rfl (q' := 90) rfl (own_h_eq _ _) (fun h87 => ?_) (fun h87 => ?_)
                      · replace h87 : p1.toInt = 43 := h87
                        refine own_iconst X0 hx (hb hby d1_132) (v := (1 : Int32)) rfl (q := 133) rfl ?_
                        refine own_goto X0 hx (hb hby d1_133) (by decide) (q := 137) rfl ?_
                        exact own_retN X0 hx (t := .boolean) hret hlk (by simp) (hb hby d1_137) (by decide) (by decide) (w := (1 : Int32)) rfl ⟨⟨_, rfl, ⟨_, rfl, by have hc_ : (1 : Int32).toInt = 1 := rfl; omega⟩⟩, rfl, e0⟩
                      · replace h87 : ¬ (p1.toInt = 43) := h87
                        refine own_iload_n X0 hx (hb hby d1_90) rfl (q := 91) rfl ?_
                        refine own_bipush X0 hx (hb hby d1_91) (v := (45 : Int32)) rfl (q := 93) rfl ?_
                        refine own_icmp X0 hx (hb hby d1_93) (by decide) (q := 132) rfl (q' := 96) rfl (own_h_eq _ _) (fun h93 => ?_) (fun h93 => ?_)
                        · replace h93 : p1.toInt = 45 := h93
                          refine own_iconst X0 hx (hb hby d1_132) (v := (1 : Int32)) rfl (q := 133) rfl ?_
                          refine own_goto X0 hx (hb hby d1_133) (by decide) (q := 137) rfl ?_
                          exact own_retN X0 hx (t := .boolean) hret hlk (by simp) (hb hby d1_137) (by decide) (by decide) (w := (1 : Int32)) rfl ⟨⟨_, rfl, ⟨_, rfl, by have hc_ : (1 : Int32).toInt = 1 := rfl; omega⟩⟩, rfl, e0⟩
                        · replace h93 : ¬ (p1.toInt = 45) := h93
                          refine own_iload_n X0 hx (hb hby d1_96) rfl (q := 97) rfl ?_
                          refine own_bipush X0 hx (hb hby d1_97) (v := (46 : Int32)) rfl (q := 99) rfl ?_
                          refine own_icmp X0 hx (hb hby d1_99) (by decide) (q := 132) rfl (q' := 102) rfl (own_h_eq _ _) (fun h99 => ?_) (fun h99 => ?_)
                          · replace h99 : p1.toInt = 46 := h99
                            refine own_iconst X0 hx (hb hby d1_132) (v := (1 : Int32)) rfl (q := 133) rfl ?_
                            refine own_goto X0 hx (hb hby d1_133) (by decide) (q := 137) rfl ?_
                            exact own_retN X0 hx (t := .boolean) hret hlk (by simp) (hb hby d1_137) (by decide) (by decide) (w := (1 : Int32)) rfl ⟨⟨_, rfl, ⟨_, rfl, by have hc_ : (1 : Int32).toInt = 1 := rfl; omega⟩⟩, rfl, e0⟩
                          · replace h99 : ¬ (p1.toInt = 46) := h99
                            refine own_iload_n X0 hx (hb hby d1_102) rfl (q := 103) rfl ?_
                            refine own_bipush X0 hx (hb hby d1_103) (v := (94 : Int32)) rfl (q := 105) rfl ?_
                            refine own_icmp X0 hx (hb hby d1_105) (by decide) (q := 132) rfl (q' := 108) rfl (own_h_eq _ _) (fun h105 => ?_) (fun h105 => ?_)
                            · replace h105 : p1.toInt = 94 := h105
                              refine own_iconst X0 hx (hb hby d1_132) (v := (1 : Int32)) rfl (q := 133) rfl ?_
                              refine own_goto X0 hx (hb hby d1_133) (by decide) (q := 137) rfl ?_
                              exact own_retN X0 hx (t := .boolean) hret hlk (by simp) (hb hby d1_137) (by decide) (by decide) (w := (1 : Int32)) rfl ⟨⟨_, rfl, ⟨_, rfl, by have hc_ : (1 : Int32).toInt = 1 := rfl; omega⟩⟩, rfl, e0⟩
                            · replace h105 : ¬ (p1.toInt = 94) := h105
                              refine own_iload_n X0 hx (hb hby d1_108) rfl (q := 109) rfl ?_
                              refine own_bipush X0 hx (hb hby d1_109) (v := (95 : Int32)) rfl (q := 111) rfl ?_
                              refine own_icmp X0 hx (hb hby d1_111) (by decide) (q := 132) rfl (q' := 114) rfl (own_h_eq _ _) (fun h111 => ?_) (fun h111 => ?_)
                              · replace h111 : p1.toInt = 95 := h111
                                refine own_iconst X0 hx (hb hby d1_132) (v := (1 : Int32)) rfl (q := 133) rfl ?_
                                refine own_goto X0 hx (hb hby d1_133) (by decide) (q := 137) rfl ?_
                                exact own_retN X0 hx (t := .boolean) hret hlk (by simp) (hb hby d1_137) (by decide) (by decide) (w := (1 : Int32)) rfl ⟨⟨_, rfl, ⟨_, rfl, by have hc_ : (1 : Int32).toInt = 1 := rfl; omega⟩⟩, rfl, e0⟩
                              · replace h111 : ¬ (p1.toInt = 95) := h111
                                refine own_iload_n X0 hx (hb hby d1_114) rfl (q := 115) rfl ?_
                                refine own_bipush X0 hx (hb hby d1_115) (v := (96 : Int32)) rfl (q := 117) rfl ?_
                                refine own_icmp X0 hx (hb hby d1_117) (by decide) (q := 132) rfl (q' := 120) rfl (own_h_eq _ _) (fun h117 => ?_) (fun h117 => ?_)
                                · replace h117 : p1.toInt = 96 := h117
                                  refine own_iconst X0 hx (hb hby d1_132) (v := (1 : Int32)) rfl (q := 133) rfl ?_
                                  refine own_goto X0 hx (hb hby d1_133) (by decide) (q := 137) rfl ?_
                                  exact own_retN X0 hx (t := .boolean) hret hlk (by simp) (hb hby d1_137) (by decide) (by decide) (w := (1 : Int32)) rfl ⟨⟨_, rfl, ⟨_, rfl, by have hc_ : (1 : Int32).toInt = 1 := rfl; omega⟩⟩, rfl, e0⟩
                                · replace h117 : ¬ (p1.toInt = 96) := h117
                                  refine own_iload_n X0 hx (hb hby d1_120) rfl (q := 121) rfl ?_
                                  refine own_bipush X0 hx (hb hby d1_121) (v := (124 : Int32)) rfl (q := 123) rfl ?_
                                  refine own_icmp X0 hx (hb hby d1_123) (by decide) (q := 132) rfl (q' := 126) rfl (own_h_eq _ _) (fun h123 => ?_) (fun h123 => ?_)
                                  · replace h123 : p1.toInt = 124 := h123
                                    refine own_iconst X0 hx (hb hby d1_132) (v := (1 : Int32)) rfl (q := 133) rfl ?_
                                    refine own_goto X0 hx (hb hby d1_133) (by decide) (q := 137) rfl ?_
                                    exact own_retN X0 hx (t := .boolean) hret hlk (by simp) (hb hby d1_137) (by decide) (by decide) (w := (1 : Int32)) rfl ⟨⟨_, rfl, ⟨_, rfl, by have hc_ : (1 : Int32).toInt = 1 := rfl; omega⟩⟩, rfl, e0⟩
                                  · replace h123 : ¬ (p1.toInt = 124) := h123
                                    refine own_iload_n X0 hx (hb hby d1_126) rfl (q := 127) rfl ?_
                                    refine own_bipush X0 hx (hb hby d1_127) (v := (126 : Int32)) rfl (q := 129) rfl ?_
                                    refine own_icmp X0 hx (hb hby d1_129) (by decide) (q := 136) rfl (q' := 132) rfl (own_h_ne _ _) (fun h129 => ?_) (fun h129 => ?_)
                                    · replace h129 : p1.toInt ≠ 126 := h129
                                      refine own_iconst X0 hx (hb hby d1_136) (v := (0 : Int32)) rfl (q := 137) rfl ?_
                                      exact own_retN X0 hx (t := .boolean) hret hlk (by simp) (hb hby d1_137) (by decide) (by decide) (w := (0 : Int32)) rfl ⟨⟨_, rfl, ⟨_, rfl, by have hc_ : (0 : Int32).toInt = 0 := rfl; omega⟩⟩, rfl, e0⟩
                                    · replace h129 : ¬ (p1.toInt ≠ 126) := h129
                                      refine own_iconst X0 hx (hb hby d1_132) (v := (1 : Int32)) rfl (q := 133) rfl ?_
                                      refine own_goto X0 hx (hb hby d1_133) (by decide) (q := 137) rfl ?_
                                      exact own_retN X0 hx (t := .boolean) hret hlk (by simp) (hb hby d1_137) (by decide) (by decide) (w := (1 : Int32)) rfl ⟨⟨_, rfl, ⟨_, rfl, by have hc_ : (1 : Int32).toInt = 1 := rfl; omega⟩⟩, rfl, e0⟩
      · replace h31 : ¬ (p1.toInt < 97) := h31
        refine own_iload_n X0 hx (hb hby d1_34) rfl (q := 35) rfl ?_
        refine own_bipush X0 hx (hb hby d1_35) (v := (122 : Int32)) rfl (q := 37) rfl ?_
        refine own_icmp X0 hx (hb hby d1_37) (by decide) (q := 42) rfl (q' := 40) rfl (own_h_gt _ _) (fun h37 => ?_) (fun h37 => ?_)
        · replace h37 : 122 < p1.toInt := h37
          refine own_iload_n X0 hx (hb hby d1_42) rfl (q := 43) rfl ?_
          refine own_bipush X0 hx (hb hby d1_43) (v := (33 : Int32)) rfl (q := 45) rfl ?_
          refine own_icmp X0 hx (hb hby d1_45) (by decide) (q := 132) rfl (q' := 48) rfl (own_h_eq _ _) (fun h45 => ?_) (fun h45 => ?_)
          · replace h45 : p1.toInt = 33 := h45
            refine own_iconst X0 hx (hb hby d1_132) (v := (1 : Int32)) rfl (q := 133) rfl ?_
            refine own_goto X0 hx (hb hby d1_133) (by decide) (q := 137) rfl ?_
            exact own_retN X0 hx (t := .boolean) hret hlk (by simp) (hb hby d1_137) (by decide) (by decide) (w := (1 : Int32)) rfl ⟨⟨_, rfl, ⟨_, rfl, by have hc_ : (1 : Int32).toInt = 1 := rfl; omega⟩⟩, rfl, e0⟩
          · replace h45 : ¬ (p1.toInt = 33) := h45
            refine own_iload_n X0 hx (hb hby d1_48) rfl (q := 49) rfl ?_
            refine own_bipush X0 hx (hb hby d1_49) (v := (35 : Int32)) rfl (q := 51) rfl ?_
            refine own_icmp X0 hx (hb hby d1_51) (by decide) (q := 132) rfl (q' := 54) rfl (own_h_eq _ _) (fun h51 => ?_) (fun h51 => ?_)
            · replace h51 : p1.toInt = 35 := h51
              refine own_iconst X0 hx (hb hby d1_132) (v := (1 : Int32)) rfl (q := 133) rfl ?_
              refine own_goto X0 hx (hb hby d1_133) (by decide) (q := 137) rfl ?_
              exact own_retN X0 hx (t := .boolean) hret hlk (by simp) (hb hby d1_137) (by decide) (by decide) (w := (1 : Int32)) rfl ⟨⟨_, rfl, ⟨_, rfl, by have hc_ : (1 : Int32).toInt = 1 := rfl; omega⟩⟩, rfl, e0⟩
            · replace h51 : ¬ (p1.toInt = 35) := h51
              refine own_iload_n X0 hx (hb hby d1_54) rfl (q := 55) rfl ?_
              refine own_bipush X0 hx (hb hby d1_55) (v := (36 : Int32)) rfl (q := 57) rfl ?_
              refine own_icmp X0 hx (hb hby d1_57) (by decide) (q := 132) rfl (q' := 60) rfl (own_h_eq _ _) (fun h57 => ?_) (fun h57 => ?_)
              · replace h57 : p1.toInt = 36 := h57
                refine own_iconst X0 hx (hb hby d1_132) (v := (1 : Int32)) rfl (q := 133) rfl ?_
                refine own_goto X0 hx (hb hby d1_133) (by decide) (q := 137) rfl ?_
                exact own_retN X0 hx (t := .boolean) hret hlk (by simp) (hb hby d1_137) (by decide) (by decide) (w := (1 : Int32)) rfl ⟨⟨_, rfl, ⟨_, rfl, by have hc_ : (1 : Int32).toInt = 1 := rfl; omega⟩⟩, rfl, e0⟩
              · replace h57 : ¬ (p1.toInt = 36) := h57
                refine own_iload_n X0 hx (hb hby d1_60) rfl (q := 61) rfl ?_
                refine own_bipush X0 hx (hb hby d1_61) (v := (37 : Int32)) rfl (q := 63) rfl ?_
                refine own_icmp X0 hx (hb hby d1_63) (by decide) (q := 132) rfl (q' := 66) rfl (own_h_eq _ _) (fun h63 => ?_) (fun h63 => ?_)
                · replace h63 : p1.toInt = 37 := h63
                  refine own_iconst X0 hx (hb hby d1_132) (v := (1 : Int32)) rfl (q := 133) rfl ?_
                  refine own_goto X0 hx (hb hby d1_133) (by decide) (q := 137) rfl ?_
                  exact own_retN X0 hx (t := .boolean) hret hlk (by simp) (hb hby d1_137) (by decide) (by decide) (w := (1 : Int32)) rfl ⟨⟨_, rfl, ⟨_, rfl, by have hc_ : (1 : Int32).toInt = 1 := rfl; omega⟩⟩, rfl, e0⟩
                · replace h63 : ¬ (p1.toInt = 37) := h63
                  refine own_iload_n X0 hx (hb hby d1_66) rfl (q := 67) rfl ?_
                  refine own_bipush X0 hx (hb hby d1_67) (v := (38 : Int32)) rfl (q := 69) rfl ?_
                  refine own_icmp X0 hx (hb hby d1_69) (by decide) (q := 132) rfl (q' := 72) rfl (own_h_eq _ _) (fun h69 => ?_) (fun h69 => ?_)
                  · replace h69 : p1.toInt = 38 := h69
                    refine own_iconst X0 hx (hb hby d1_132) (v := (1 : Int32)) rfl (q := 133) rfl ?_
                    refine own_goto X0 hx (hb hby d1_133) (by decide) (q := 137) rfl ?_
                    exact own_retN X0 hx (t := .boolean) hret hlk (by simp) (hb hby d1_137) (by decide) (by decide) (w := (1 : Int32)) rfl ⟨⟨_, rfl, ⟨_, rfl, by have hc_ : (1 : Int32).toInt = 1 := rfl; omega⟩⟩, rfl, e0⟩
                  · replace h69 : ¬ (p1.toInt = 38) := h69
                    refine own_iload_n X0 hx (hb hby d1_72) rfl (q := 73) rfl ?_
                    refine own_bipush X0 hx (hb hby d1_73) (v := (39 : Int32)) rfl (q := 75) rfl ?_
                    refine own_icmp X0 hx (hb hby d1_75) (by decide) (q := 132) rfl (q' := 78) rfl (own_h_eq _ _) (fun h75 => ?_) (fun h75 => ?_)
                    · replace h75 : p1.toInt = 39 := h75
                      refine own_iconst X0 hx (hb hby d1_132) (v := (1 : Int32)) rfl (q := 133) rfl ?_
                      refine own_goto X0 hx (hb hby d1_133) (by decide) (q := 137) rfl ?_
                      exact own_retN X0 hx (t := .boolean) hret hlk (by simp) (hb hby d1_137) (by decide) (by decide) (w := (1 : Int32)) rfl ⟨⟨_, rfl, ⟨_, rfl, by have hc_ : (1 : Int32).toInt = 1 := rfl; omega⟩⟩, rfl, e0⟩
                    · replace h75 : ¬ (p1.toInt = 39) := h75
                      refine own_iload_n X0 hx (hb hby d1_78) rfl (q := 79) rfl ?_
                      refine own_bipush X0 hx (hb hby d1_79) (v := (42 : Int32)) rfl (q := 81) rfl ?_
                      refine own_icmp X0 hx (hb hby d1_81) (by decide) (q := 132) rfl (q' := 84) rfl (own_h_eq _ _) (fun h81 => ?_) (fun h81 => ?_)
                      · replace h81 : p1.toInt = 42 := h81
                        refine own_iconst X0 hx (hb hby d1_132) (v := (1 : Int32)) rfl (q := 133) rfl ?_
                        refine own_goto X0 hx (hb hby d1_133) (by decide) (q := 137) rfl ?_
                        exact own_retN X0 hx (t := .boolean) hret hlk (by simp) (hb hby d1_137) (by decide) (by decide) (w := (1 : Int32)) rfl ⟨⟨_, rfl, ⟨_, rfl, by have hc_ : (1 : Int32).toInt = 1 := rfl; omega⟩⟩, rfl, e0⟩
                      · replace h81 : ¬ (p1.toInt = 42) := h81
                        refine own_iload_n X0 hx (hb hby d1_84) rfl (q := 85) rfl ?_
                        refine own_bipush X0 hx (hb hby d1_85) (v := (43 : Int32)) rfl (q := 87) rfl ?_
                        refine own_icmp X0 hx (hb hby d1_87) (by decide) (q := 132) rfl (q' := 90) rfl (own_h_eq _ _) (fun h87 => ?_) (fun h87 => ?_)
                        · replace h87 : p1.toInt = 43 := h87
                          refine own_iconst X0 hx (hb hby d1_132) (v := (1 : Int32)) rfl (q := 133) rfl ?_
                          refine own_goto X0 hx (hb hby d1_133) (by decide) (q := 137) rfl ?_
                          exact own_retN X0 hx (t := .boolean) hret hlk (by simp) (hb hby d1_137) (by decide) (by decide) (w := (1 : Int32)) rfl ⟨⟨_, rfl, ⟨_, rfl, by have hc_ : (1 : Int32).toInt = 1 := rfl; omega⟩⟩, rfl, e0⟩
                        · replace h87 : ¬ (p1.toInt = 43) := h87
                          refine own_iload_n X0 hx (hb hby d1_90) rfl (q := 91) rfl ?_
                          refine own_bipush X0 hx (hb hby d1_91) (v := (45 : Int32)) rfl (q := 93) rfl ?_
                          refine own_icmp X0 hx (hb hby d1_93) (by decide) (q := 132) rfl (q' := 96) rfl (own_h_eq _ _) (fun h93 => ?_) (fun h93 => ?_)
                          · replace h93 : p1.toInt = 45 := h93
                            refine own_iconst X0 hx (hb hby d1_132) (v := (1 : Int32)) rfl (q := 133) rfl ?_
                            refine own_goto X0 hx (hb hby d1_133) (by decide) (q := 137) rfl ?_
                            exact own_retN X0 hx (t := .boolean) hret hlk (by simp) (hb hby d1_137) (by decide) (by decide) (w := (1 : Int32)) rfl ⟨⟨_, rfl, ⟨_, rfl, by have hc_ : (1 : Int32).toInt = 1 := rfl; omega⟩⟩, rfl, e0⟩
                          · replace h93 : ¬ (p1.toInt = 45) := h93
                            refine own_iload_n X0 hx (hb hby d1_96) rfl (q := 97) rfl ?_
                            refine own_bipush X0 hx (hb hby d1_97) (v := (46 : Int32)) rfl (q := 99) rfl ?_
                            refine own_icmp X0 hx (hb hby d1_99) (by decide) (q := 132) rfl (q' := 102) rfl (own_h_eq _ _) (fun h99 => ?_) (fun h99 => ?_)
                            · replace h99 : p1.toInt = 46 := h99
                              refine own_iconst X0 hx (hb hby d1_132) (v := (1 : Int32)) rfl (q := 133) rfl ?_
                              refine own_goto X0 hx (hb hby d1_133) (by decide) (q := 137) rfl ?_
                              exact own_retN X0 hx (t := .boolean) hret hlk (by simp) (hb hby d1_137) (by decide) (by decide) (w := (1 : Int32)) rfl ⟨⟨_, rfl, ⟨_, rfl, by have hc_ : (1 : Int32).toInt = 1 := rfl; omega⟩⟩, rfl, e0⟩
                            · replace h99 : ¬ (p1.toInt = 46) := h99
                              refine own_iload_n X0 hx (hb hby d1_102) rfl (q := 103) rfl ?_
                              refine own_bipush X0 hx (hb hby d1_103) (v := (94 : Int32)) rfl (q := 105) rfl ?_
                              refine own_icmp X0 hx (hb hby d1_105) (by decide) (q := 132) rfl (q' := 108) rfl (own_h_eq _ _) (fun h105 => ?_) (fun h105 => ?_)
                              · replace h105 : p1.toInt = 94 := h105
                                refine own_iconst X0 hx (hb hby d1_132) (v := (1 : Int32)) rfl (q := 133) rfl ?_
                                refine own_goto X0 hx (hb hby d1_133) (by decide) (q := 137) rfl ?_
                                exact own_retN X0 hx (t := .boolean) hret hlk (by simp) (hb hby d1_137) (by decide) (by decide) (w := (1 : Int32)) rfl ⟨⟨_, rfl, ⟨_, rfl, by have hc_ : (1 : Int32).toInt = 1 := rfl; omega⟩⟩, rfl, e0⟩
                              · replace h105 : ¬ (p1.toInt = 94) := h105
                                refine own_iload_n X0 hx (hb hby d1_108) rfl (q := 109) rfl ?_
                                refine own_bipush X0 hx (hb hby d1_109) (v := (95 : Int32)) rfl (q := 111) rfl ?_
                                refine own_icmp X0 hx (hb hby d1_111) (by decide) (q := 132) rfl (q' := 114) rfl (own_h_eq _ _) (fun h111 => ?_) (fun h111 => ?_)
                                · replace h111 : p1.toInt = 95 := h111
                                  refine own_iconst X0 hx (hb hby d1_132) (v := (1 : Int32)) rfl (q := 133) rfl ?_
                                  refine own_goto X0 hx (hb hby d1_133) (by decide) (q := 137) rfl ?_
                                  exact own_retN X0 hx (t := .boolean) hret hlk (by simp) (hb hby d1_137) (by decide) (by decide) (w := (1 : Int32)) rfl ⟨⟨_, rfl, ⟨_, rfl, by have hc_ : (1 : Int32).toInt = 1 := rfl; omega⟩⟩, rfl, e0⟩
                                · replace h111 : ¬ (p1.toInt = 95) := h111
                                  refine own_iload_n X0 hx (hb hby d1_114) rfl (q := 115) rfl ?_
                                  refine own_bipush X0 hx (hb hby d1_115) (v := (96 : Int32)) rfl (q := 117) rfl ?_
                                  refine own_icmp X0 hx (hb hby d1_117) (by decide) (q := 132) rfl (q' := 120) rfl (own_h_eq _ _) (fun h117 => ?_) (fun h117 => ?_)
                                  · replace h117 : p1.toInt = 96 := h117
                                    refine own_iconst X0 hx (hb hby d1_132) (v := (1 : Int32)) rfl (q := 133) rfl ?_
                                    refine own_goto X0 hx (hb hby d1_133) (by decide) (q := 137) rfl ?_
                                    exact own_retN X0 hx (t := .boolean) hret hlk (by simp) (hb hby d1_137) (by decide) (by decide) (w := (1 : Int32)) rfl ⟨⟨_, rfl, ⟨_, rfl, by have hc_ : (1 : Int32).toInt = 1 := rfl; omega⟩⟩, rfl, e0⟩
                                  · replace h117 : ¬ (p1.toInt = 96) := h117
                                    refine own_iload_n X0 hx (hb hby d1_120) rfl (q := 121) rfl ?_
                                    refine own_bipush X0 hx (hb hby d1_121) (v := (124 : Int32)) rfl (q := 123) rfl ?_
                                    refine own_icmp X0 hx (hb hby d1_123) (by decide) (q := 132) rfl (q' := 126) rfl (own_h_eq _ _) (fun h123 => ?_) (fun h123 => ?_)
                                    · replace h123 : p1.toInt = 124 := h123
                                      refine own_iconst X0 hx (hb hby d1_132) (v := (1 : Int32)) rfl (q := 133) rfl ?_
                                      refine own_goto X0 hx (hb hby d1_133) (by decide) (q := 137) rfl ?_
                                      exact own_retN X0 hx (t := .boolean) hret hlk (by simp) (hb hby d1_137) (by decide) (by decide) (w := (1 : Int32)) rfl ⟨⟨_, rfl, ⟨_, rfl, by have hc_ : (1 : Int32).toInt = 1 := rfl; omega⟩⟩, rfl, e0⟩
                                    · replace h123 : ¬ (p1.toInt = 124) := h123
                                      refine own_iload_n X0 hx (hb hby d1_126) rfl (q := 127) rfl ?_
                                      refine own_bipush X0 hx (hb hby d1_127) (v := (126 : Int32)) rfl (q := 129) rfl ?_
                                      refine own_icmp X0 hx (hb hby d1_129) (by decide) (q := 136) rfl (q' := 132) rfl (own_h_ne _ _) (fun h129 => ?_) (fun h129 => ?_)
                                      · replace h129 : p1.toInt ≠ 126 := h129
                                        refine own_iconst X0 hx (hb hby d1_136) (v := (0 : Int32)) rfl (q := 137) rfl ?_
                                        exact own_retN X0 hx (t := .boolean) hret hlk (by simp) (hb hby d1_137) (by decide) (by decide) (w := (0 : Int32)) rfl ⟨⟨_, rfl, ⟨_, rfl, by have hc_ : (0 : Int32).toInt = 0 := rfl; omega⟩⟩, rfl, e0⟩
                                      · replace h129 : ¬ (p1.toInt ≠ 126) := h129
                                        refine own_iconst X0 hx (hb hby d1_132) (v := (1 : Int32)) rfl (q := 133) rfl ?_
                                        refine own_goto X0 hx (hb hby d1_133) (by decide) (q := 137) rfl ?_
                                        exact own_retN X0 hx (t := .boolean) hret hlk (by simp) (hb hby d1_137) (by decide) (by decide) (w := (1 : Int32)) rfl ⟨⟨_, rfl, ⟨_, rfl, by have hc_ : (1 : Int32).toInt = 1 := rfl; omega⟩⟩, rfl, e0⟩
        · replace h37 : ¬ (122 < p1.toInt) := h37
          refine own_iconst X0 hx (hb hby d1_40) (v := (1 : Int32)) rfl (q := 41) rfl ?_
          exact own_retN X0 hx (t := .boolean) hret hlk (by simp) (hb hby d1_41) (by decide) (by decide) (w := (1 : Int32)) rfl ⟨⟨_, rfl, ⟨_, rfl, by have hc_ : (1 : Int32).toInt = 1 := rfl; omega⟩⟩, rfl, e0⟩
    · replace h17 : ¬ (p1.toInt < 65) := h17
      refine own_iload_n X0 hx (hb hby d1_20) rfl (q := 21) rfl ?_
      refine own_bipush X0 hx (hb hby d1_21) (v := (90 : Int32)) rfl (q := 23) rfl ?_
      refine own_icmp X0 hx (hb hby d1_23) (by decide) (q := 28) rfl (q' := 26) rfl (own_h_gt _ _) (fun h23 => ?_) (fun h23 => ?_)
      · replace h23 : 90 < p1.toInt := h23
        refine own_iload_n X0 hx (hb hby d1_28) rfl (q := 29) rfl ?_
        refine own_bipush X0 hx (hb hby d1_29) (v := (97 : Int32)) rfl (q := 31) rfl ?_
        refine own_icmp X0 hx (hb hby d1_31) (by decide) (q := 42) rfl (q' := 34) rfl (own_h_lt _ _) (fun h31 => ?_) (fun h31 => ?_)
        · replace h31 : p1.toInt < 97 := h31
          refine own_iload_n X0 hx (hb hby d1_42) rfl (q := 43) rfl ?_
          refine own_bipush X0 hx (hb hby d1_43) (v := (33 : Int32)) rfl (q := 45) rfl ?_
          refine own_icmp X0 hx (hb hby d1_45) (by decide) (q := 132) rfl (q' := 48) rfl (own_h_eq _ _) (fun h45 => ?_) (fun h45 => ?_)
          · replace h45 : p1.toInt = 33 := h45
            refine own_iconst X0 hx (hb hby d1_132) (v := (1 : Int32)) rfl (q := 133) rfl ?_
            refine own_goto X0 hx (hb hby d1_133) (by decide) (q := 137) rfl ?_
            exact own_retN X0 hx (t := .boolean) hret hlk (by simp) (hb hby d1_137) (by decide) (by decide) (w := (1 : Int32)) rfl ⟨⟨_, rfl, ⟨_, rfl, by have hc_ : (1 : Int32).toInt = 1 := rfl; omega⟩⟩, rfl, e0⟩
          · replace h45 : ¬ (p1.toInt = 33) := h45
            refine own_iload_n X0 hx (hb hby d1_48) rfl (q := 49) rfl ?_
            refine own_bipush X0 hx (hb hby d1_49) (v := (35 : Int32)) rfl (q := 51) rfl ?_
            refine own_icmp X0 hx (hb hby d1_51) (by decide) (q := 132) rfl (q' := 54) rfl (own_h_eq _ _) (fun h51 => ?_) (fun h51 => ?_)
            · replace h51 : p1.toInt = 35 := h51
              refine own_iconst X0 hx (hb hby d1_132) (v := (1 : Int32)) rfl (q := 133) rfl ?_
              refine own_goto X0 hx (hb hby d1_133) (by decide) (q := 137) rfl ?_
              exact own_retN X0 hx (t := .boolean) hret hlk (by simp) (hb hby d1_137) (by decide) (by decide) (w := (1 : Int32)) rfl ⟨⟨_, rfl, ⟨_, rfl, by have hc_ : (1 : Int32).toInt = 1 := rfl; omega⟩⟩, rfl, e0⟩
            · replace h51 : ¬ (p1.toInt = 35) := h51
              refine own_iload_n X0 hx (hb hby d1_54) rfl (q := 55) rfl ?_
              refine own_bipush X0 hx (hb hby d1_55) (v := (36 : Int32)) rfl (q := 57) rfl ?_
              refine own_icmp X0 hx (hb hby d1_57) (by decide) (q := 132) rfl (q' := 60) rfl (own_h_eq _ _) (fun h57 => ?_) (fun h57 => ?_)
              · replace h57 : p1.toInt = 36 := h57
                refine own_iconst X0 hx (hb hby d1_132) (v := (1 : Int32)) rfl (q := 133) rfl ?_
                refine own_goto X0 hx (hb hby d1_133) (by decide) (q := 137) rfl ?_
                exact own_retN X0 hx (t := .boolean) hret hlk (by simp) (hb hby d1_137) (by decide) (by decide) (w := (1 : Int32)) rfl ⟨⟨_, rfl, ⟨_, rfl, by have hc_ : (1 : Int32).toInt = 1 := rfl; omega⟩⟩, rfl, e0⟩
              · replace h57 : ¬ (p1.toInt = 36) := h57
                refine own_iload_n X0 hx (hb hby d1_60) rfl (q := 61) rfl ?_
                refine own_bipush X0 hx (hb hby d1_61) (v := (37 : Int32)) rfl (q := 63) rfl ?_
                refine own_icmp X0 hx (hb hby d1_63) (by decide) (q := 132) rfl (q' := 66) rfl (own_h_eq _ _) (fun h63 => ?_) (fun h63 => ?_)
                · replace h63 : p1.toInt = 37 := h63
                  refine own_iconst X0 hx (hb hby d1_132) (v := (1 : Int32)) rfl (q := 133) rfl ?_
                  refine own_goto X0 hx (hb hby d1_133) (by decide) (q := 137) rfl ?_
                  exact own_retN X0 hx (t := .boolean) hret hlk (by simp) (hb hby d1_137) (by decide) (by decide) (w := (1 : Int32)) rfl ⟨⟨_, rfl, ⟨_, rfl, by have hc_ : (1 : Int32).toInt = 1 := rfl; omega⟩⟩, rfl, e0⟩
                · replace h63 : ¬ (p1.toInt = 37) := h63
                  refine own_iload_n X0 hx (hb hby d1_66) rfl (q := 67) rfl ?_
                  refine own_bipush X0 hx (hb hby d1_67) (v := (38 : Int32)) rfl (q := 69) rfl ?_
                  refine own_icmp X0 hx (hb hby d1_69) (by decide) (q := 132) rfl (q' := 72) rfl (own_h_eq _ _) (fun h69 => ?_) (fun h69 => ?_)
                  · replace h69 : p1.toInt = 38 := h69
                    refine own_iconst X0 hx (hb hby d1_132) (v := (1 : Int32)) rfl (q := 133) rfl ?_
                    refine own_goto X0 hx (hb hby d1_133) (by decide) (q := 137) rfl ?_
                    exact own_retN X0 hx (t := .boolean) hret hlk (by simp) (hb hby d1_137) (by decide) (by decide) (w := (1 : Int32)) rfl ⟨⟨_, rfl, ⟨_, rfl, by have hc_ : (1 : Int32).toInt = 1 := rfl; omega⟩⟩, rfl, e0⟩
                  · replace h69 : ¬ (p1.toInt = 38) := h69
                    refine own_iload_n X0 hx (hb hby d1_72) rfl (q := 73) rfl ?_
                    refine own_bipush X0 hx (hb hby d1_73) (v := (39 : Int32)) rfl (q := 75) rfl ?_
                    refine own_icmp X0 hx (hb hby d1_75) (by decide) (q := 132) rfl (q' := 78) rfl (own_h_eq _ _) (fun h75 => ?_) (fun h75 => ?_)
                    · replace h75 : p1.toInt = 39 := h75
                      refine own_iconst X0 hx (hb hby d1_132) (v := (1 : Int32)) rfl (q := 133) rfl ?_
                      refine own_goto X0 hx (hb hby d1_133) (by decide) (q := 137) rfl ?_
                      exact own_retN X0 hx (t := .boolean) hret hlk (by simp) (hb hby d1_137) (by decide) (by decide) (w := (1 : Int32)) rfl ⟨⟨_, rfl, ⟨_, rfl, by have hc_ : (1 : Int32).toInt = 1 := rfl; omega⟩⟩, rfl, e0⟩
                    · replace h75 : ¬ (p1.toInt = 39) := h75
                      refine own_iload_n X0 hx (hb hby d1_78) rfl (q := 79) rfl ?_
                      refine own_bipush X0 hx (hb hby d1_79) (v := (42 : Int32)) rfl (q := 81) rfl ?_
                      refine own_icmp X0 hx (hb hby d1_81) (by decide) (q := 132) rfl (q' := 84) rfl (own_h_eq _ _) (fun h81 => ?_) (fun h81 => ?_)
                      · replace h81 : p1.toInt = 42 := h81
                        refine own_iconst X0 hx (hb hby d1_132) (v := (1 : Int32)) rfl (q := 133) rfl ?_
                        refine own_goto X0 hx (hb hby d1_133) (by decide) (q := 137) rfl ?_
                        exact own_retN X0 hx (t := .boolean) hret hlk (by simp) (hb hby d1_137) (by decide) (by decide) (w := (1 : Int32)) rfl ⟨⟨_, rfl, ⟨_, rfl, by have hc_ : (1 : Int32).toInt = 1 := rfl; omega⟩⟩, rfl, e0⟩
                      · replace h81 : ¬ (p1.toInt = 42) := h81
                        refine own_iload_n X0 hx (hb hby d1_84) rfl (q := 85) rfl ?_
                        refine own_bipush X0 hx (hb hby d1_85) (v := (43 : Int32)) rfl (q := 87) rfl ?_
                        refine own_icmp X0 hx (hb hby d1_87) (by decide) (q := 132) rfl (q' := 90) rfl (own_h_eq _ _) (fun h87 => ?_) (fun h87 => ?_)
                        · replace h87 : p1.toInt = 43 := h87
                          refine own_iconst X0 hx (hb hby d1_132) (v := (1 : Int32)) rfl (q := 133) rfl ?_
                          refine own_goto X0 hx (hb hby d1_133) (by decide) (q := 137) rfl ?_
                          exact own_retN X0 hx (t := .boolean) hret hlk (by simp) (hb hby d1_137) (by decide) (by decide) (w := (1 : Int32)) rfl ⟨⟨_, rfl, ⟨_, rfl, by have hc_ : (1 : Int32).toInt = 1 := rfl; omega⟩⟩, rfl, e0⟩
                        · replace h87 : ¬ (p1.toInt = 43) := h87
                          refine own_iload_n X0 hx (hb hby d1_90) rfl (q := 91) rfl ?_
                          refine own_bipush X0 hx (hb hby d1_91) (v := (45 : Int32)) rfl (q := 93) rfl ?_
                          refine own_icmp X0 hx (hb hby d1_93) (by decide) (q := 132) rfl (q' := 96) rfl (own_h_eq _ _) (fun h93 => ?_) (fun h93 => ?_)
                          · replace h93 : p1.toInt = 45 := h93
                            refine own_iconst X0 hx (hb hby d1_132) (v := (1 : Int32)) rfl (q := 133) rfl ?_
                            refine own_goto X0 hx (hb hby d1_133) (by decide) (q := 137) rfl ?_
                            exact own_retN X0 hx (t := .boolean) hret hlk (by simp) (hb hby d1_137) (by decide) (by decide) (w := (1 : Int32)) rfl ⟨⟨_, rfl, ⟨_, rfl, by have hc_ : (1 : Int32).toInt = 1 := rfl; omega⟩⟩, rfl, e0⟩
                          · replace h93 : ¬ (p1.toInt = 45) := h93
                            refine own_iload_n X0 hx (hb hby d1_96) rfl (q := 97) rfl ?_
                            refine own_bipush X0 hx (hb hby d1_97) (v := (46 : Int32)) rfl (q := 99) rfl ?_
                            refine own_icmp X0 hx (hb hby d1_99) (by decide) (q := 132) rfl (q' := 102) rfl (own_h_eq _ _) (fun h99 => ?_) (fun h99 => ?_)
                            · replace h99 : p1.toInt = 46 := h99
                              refine own_iconst X0 hx (hb hby d1_132) (v := (1 : Int32)) rfl (q := 133) rfl ?_
                              refine own_goto X0 hx (hb hby d1_133) (by decide) (q := 137) rfl ?_
                              exact own_retN X0 hx (t := .boolean) hret hlk (by simp) (hb hby d1_137) (by decide) (by decide) (w := (1 : Int32)) rfl ⟨⟨_, rfl, ⟨_, rfl, by have hc_ : (1 : Int32).toInt = 1 := rfl; omega⟩⟩, rfl, e0⟩
                            · replace h99 : ¬ (p1.toInt = 46) := h99
                              refine own_iload_n X0 hx (hb hby d1_102) rfl (q := 103) rfl ?_
                              refine own_bipush X0 hx (hb hby d1_103) (v := (94 : Int32)) rfl (q := 105) rfl ?_
                              refine own_icmp X0 hx (hb hby d1_105) (by decide) (q := 132) rfl (q' := 108) rfl (own_h_eq _ _) (fun h105 => ?_) (fun h105 => ?_)
                              · replace h105 : p1.toInt = 94 := h105
                                refine own_iconst X0 hx (hb hby d1_132) (v := (1 : Int32)) rfl (q := 133) rfl ?_
                                refine own_goto X0 hx (hb hby d1_133) (by decide) (q := 137) rfl ?_
                                exact own_retN X0 hx (t := .boolean) hret hlk (by simp) (hb hby d1_137) (by decide) (by decide) (w := (1 : Int32)) rfl ⟨⟨_, rfl, ⟨_, rfl, by have hc_ : (1 : Int32).toInt = 1 := rfl; omega⟩⟩, rfl, e0⟩
                              · replace h105 : ¬ (p1.toInt = 94) := h105
                                refine own_iload_n X0 hx (hb hby d1_108) rfl (q := 109) rfl ?_
                                refine own_bipush X0 hx (hb hby d1_109) (v := (95 : Int32)) rfl (q := 111) rfl ?_
                                refine own_icmp X0 hx (hb hby d1_111) (by decide) (q := 132) rfl (q' := 114) rfl (own_h_eq _ _) (fun h111 => ?_) (fun h111 => ?_)
                                · replace h111 : p1.toInt = 95 := h111
                                  refine own_iconst X0 hx (hb hby d1_132) (v := (1 : Int32)) rfl (q := 133) rfl ?_
                                  refine own_goto X0 hx (hb hby d1_133) (by decide) (q := 137) rfl ?_
                                  exact own_retN X0 hx (t := .boolean) hret hlk (by simp) (hb hby d1_137) (by decide) (by decide) (w := (1 : Int32)) rfl ⟨⟨_, rfl, ⟨_, rfl, by have hc_ : (1 : Int32).toInt = 1 := rfl; omega⟩⟩, rfl, e0⟩
                                · replace h111 : ¬ (p1.toInt = 95) := h111
                                  refine own_iload_n X0 hx (hb hby d1_114) rfl (q := 115) rfl ?_
                                  refine own_bipush X0 hx (hb hby d1_115) (v := (96 : Int32)) rfl (q := 117) rfl ?_
                                  refine own_icmp X0 hx (hb hby d1_117) (by decide) (q := 132) rfl (q' := 120) rfl (own_h_eq _ _) (fun h117 => ?_) (fun h117 => ?_)
                                  · replace h117 : p1.toInt = 96 := h117
                                    refine own_iconst X0 hx (hb hby d1_132) (v := (1 : Int32)) rfl (q := 133) rfl ?_
                                    refine own_goto X0 hx (hb hby d1_133) (by decide) (q := 137) rfl ?_
                                    exact own_retN X0 hx (t := .boolean) hret hlk (by simp) (hb hby d1_137) (by decide) (by decide) (w := (1 : Int32)) rfl ⟨⟨_, rfl, ⟨_, rfl, by have hc_ : (1 : Int32).toInt = 1 := rfl; omega⟩⟩, rfl, e0⟩
                                  · replace h117 : ¬ (p1.toInt = 96) := h117
                                    refine own_iload_n X0 hx (hb hby d1_120) rfl (q := 121) rfl ?_
                                    refine own_bipush X0 hx (hb hby d1_121) (v := (124 : Int32)) rfl (q := 123) rfl ?_
                                    refine own_icmp X0 hx (hb hby d1_123) (by decide) (q := 132) rfl (q' := 126) rfl (own_h_eq _ _) (fun h123 => ?_) (fun h123 => ?_)
                                    · replace h123 : p1.toInt = 124 := h123
                                      refine own_iconst X0 hx (hb hby d1_132) (v := (1 : Int32)) rfl (q := 133) rfl ?_
                                      refine own_goto X0 hx (hb hby d1_133) (by decide) (q := 137) rfl ?_
                                      exact own_retN X0 hx (t := .boolean) hret hlk (by simp) (hb hby d1_137) (by decide) (by decide) (w := (1 : Int32)) rfl ⟨⟨_, rfl, ⟨_, rfl, by have hc_ : (1 : Int32).toInt = 1 := rfl; omega⟩⟩, rfl, e0⟩
                                    · replace h123 : ¬ (p1.toInt = 124) := h123
                                      refine own_iload_n X0 hx (hb hby d1_126) rfl (q := 127) rfl ?_
                                      refine own_bipush X0 hx (hb hby d1_127) (v := (126 : Int32)) rfl (q := 129) rfl ?_
                                      refine own_icmp X0 hx (hb hby d1_129) (by decide) (q := 136) rfl (q' := 132) rfl (own_h_ne _ _) (fun h129 => ?_) (fun h129 => ?_)
                                      · replace h129 : p1.toInt ≠ 126 := h129
                                        refine own_iconst X0 hx (hb hby d1_136) (v := (0 : Int32)) rfl (q := 137) rfl ?_
                                        exact own_retN X0 hx (t := .boolean) hret hlk (by simp) (hb hby d1_137) (by decide) (by decide) (w := (0 : Int32)) rfl ⟨⟨_, rfl, ⟨_, rfl, by have hc_ : (0 : Int32).toInt = 0 := rfl; omega⟩⟩, rfl, e0⟩
                                      · replace h129 : ¬ (p1.toInt ≠ 126) := h129
                                        refine own_iconst X0 hx (hb hby d1_132) (v := (1 : Int32)) rfl (q := 133) rfl ?_
                                        refine own_goto X0 hx (hb hby d1_133) (by decide) (q := 137) rfl ?_
                                        exact own_retN X0 hx (t := .boolean) hret hlk (by simp) (hb hby d1_137) (by decide) (by decide) (w := (1 : Int32)) rfl ⟨⟨_, rfl, ⟨_, rfl, by have hc_ : (1 : Int32).toInt = 1 := rfl; omega⟩⟩, rfl, e0⟩
        · replace h31 : ¬ (p1.toInt < 97) := h31
          refine own_iload_n X0 hx (hb hby d1_34) rfl (q := 35) rfl ?_
          refine own_bipush X0 hx (hb hby d1_35) (v := (122 : Int32)) rfl (q := 37) rfl ?_
          refine own_icmp X0 hx (hb hby d1_37) (by decide) (q := 42) rfl (q' := 40) rfl (own_h_gt _ _) (fun h37 => ?_) (fun h37 => ?_)
          · replace h37 : 122 < p1.toInt := h37
            refine own_iload_n X0 hx (hb hby d1_42) rfl (q := 43) rfl ?_
            refine own_bipush X0 hx (hb hby d1_43) (v := (33 : Int32)) rfl (q := 45) rfl ?_
            refine own_icmp X0 hx (hb hby d1_45) (by decide) (q := 132) rfl (q' := 48) rfl (own_h_eq _ _) (fun h45 => ?_) (fun h45 => ?_)
            · replace h45 : p1.toInt = 33 := h45
              refine own_iconst X0 hx (hb hby d1_132) (v := (1 : Int32)) rfl (q := 133) rfl ?_
              refine own_goto X0 hx (hb hby d1_133) (by decide) (q := 137) rfl ?_
              exact own_retN X0 hx (t := .boolean) hret hlk (by simp) (hb hby d1_137) (by decide) (by decide) (w := (1 : Int32)) rfl ⟨⟨_, rfl, ⟨_, rfl, by have hc_ : (1 : Int32).toInt = 1 := rfl; omega⟩⟩, rfl, e0⟩
            · replace h45 : ¬ (p1.toInt = 33) := h45
              refine own_iload_n X0 hx (hb hby d1_48) rfl (q := 49) rfl ?_
              refine own_bipush X0 hx (hb hby d1_49) (v := (35 : Int32)) rfl (q := 51) rfl ?_
              refine own_icmp X0 hx (hb hby d1_51) (by decide) (q := 132) rfl (q' := 54) rfl (own_h_eq _ _) (fun h51 => ?_) (fun h51 => ?_)
              · replace h51 : p1.toInt = 35 := h51
                refine own_iconst X0 hx (hb hby d1_132) (v := (1 : Int32)) rfl (q := 133) rfl ?_
                refine own_goto X0 hx (hb hby d1_133) (by decide) (q := 137) rfl ?_
                exact own_retN X0 hx (t := .boolean) hret hlk (by simp) (hb hby d1_137) (by decide) (by decide) (w := (1 : Int32)) rfl ⟨⟨_, rfl, ⟨_, rfl, by have hc_ : (1 : Int32).toInt = 1 := rfl; omega⟩⟩, rfl, e0⟩
              · replace h51 : ¬ (p1.toInt = 35) := h51
                refine own_iload_n X0 hx (hb hby d1_54) rfl (q := 55) rfl ?_
                refine own_bipush X0 hx (hb hby d1_55) (v := (36 : Int32)) rfl (q := 57) rfl ?_
                refine own_icmp X0 hx (hb hby d1_57) (by decide) (q := 132) rfl (q' := 60) rfl (own_h_eq _ _) (fun h57 => ?_) (fun h57 => ?_)
                · replace h57 : p1.toInt = 36 := h57
                  refine own_iconst X0 hx (hb hby d1_132) (v := (1 : Int32)) rfl (q := 133) rfl ?_
                  refine own_goto X0 hx (hb hby d1_133) (by decide) (q := 137) rfl ?_
                  exact own_retN X0 hx (t := .boolean) hret hlk (by simp) (hb hby d1_137) (by decide) (by decide) (w := (1 : Int32)) rfl ⟨⟨_, rfl, ⟨_, rfl, by have hc_ : (1 : Int32).toInt = 1 := rfl; omega⟩⟩, rfl, e0⟩
                · replace h57 : ¬ (p1.toInt = 36) := h57
                  refine own_iload_n X0 hx (hb hby d1_60) rfl (q := 61) rfl ?_
                  refine own_bipush X0 hx (hb hby d1_61) (v := (37 : Int32)) rfl (q := 63) rfl ?_
                  refine own_icmp X0 hx (hb hby d1_63) (by decide) (q := 132) rfl (q' := 66) rfl (own_h_eq _ _) (fun h63 => ?_) (fun h63 => ?_)
                  · replace h63 : p1.toInt = 37 := h63
                    refine own_iconst X0 hx (hb hby d1_132) (v := (1 : Int32)) rfl (q := 133) rfl ?_
                    refine own_goto X0 hx (hb hby d1_133) (by decide) (q := 137) rfl ?_
                    exact own_retN X0 hx (t := .boolean) hret hlk (by simp) (hb hby d1_137) (by decide) (by decide) (w := (1 : Int32)) rfl ⟨⟨_, rfl, ⟨_, rfl, by have hc_ : (1 : Int32).toInt = 1 := rfl; omega⟩⟩, rfl, e0⟩
                  · replace h63 : ¬ (p1.toInt = 37) := h63
                    refine own_iload_n X0 hx (hb hby d1_66) rfl (q := 67) rfl ?_
                    refine own_bipush X0 hx (hb hby d1_67) (v := (38 : Int32)) rfl (q := 69) rfl ?_
                    refine own_icmp X0 hx (hb hby d1_69) (by decide) (q := 132) rfl (q' := 72) rfl (own_h_eq _ _) (fun h69 => ?_) (fun h69 => ?_)
                    · replace h69 : p1.toInt = 38 := h69
                      refine own_iconst X0 hx (hb hby d1_132) (v := (1 : Int32)) rfl (q := 133) rfl ?_
                      refine own_goto X0 hx (hb hby d1_133) (by decide) (q := 137) rfl ?_
                      exact own_retN X0 hx (t := .boolean) hret hlk (by simp) (hb hby d1_137) (by decide) (by decide) (w := (1 : Int32)) rfl ⟨⟨_, rfl, ⟨_, rfl, by have hc_ : (1 : Int32).toInt = 1 := rfl; omega⟩⟩, rfl, e0⟩
                    · replace h69 : ¬ (p1.toInt = 38) := h69
                      refine own_iload_n X0 hx (hb hby d1_72) rfl (q := 73) rfl ?_
                      refine own_bipush X0 hx (hb hby d1_73) (v := (39 : Int32)) rfl (q := 75) rfl ?_
                      refine own_icmp X0 hx (hb hby d1_75) (by decide) (q := 132) rfl (q' := 78) rfl (own_h_eq _ _) (fun h75 => ?_) (fun h75 => ?_)
                      · replace h75 : p1.toInt = 39 := h75
                        refine own_iconst X0 hx (hb hby d1_132) (v := (1 : Int32)) rfl (q := 133) rfl ?_
                        refine own_goto X0 hx (hb hby d1_133) (by decide) (q := 137) rfl ?_
                        exact own_retN X0 hx (t := .boolean) hret hlk (by simp) (hb hby d1_137) (by decide) (by decide) (w := (1 : Int32)) rfl ⟨⟨_, rfl, ⟨_, rfl, by have hc_ : (1 : Int32).toInt = 1 := rfl; omega⟩⟩, rfl, e0⟩
                      · replace h75 : ¬ (p1.toInt = 39) := h75
                        refine own_iload_n X0 hx (hb hby d1_78) rfl (q := 79) rfl ?_
                        refine own_bipush X0 hx (hb hby d1_79) (v := (42 : Int32)) rfl (q := 81) rfl ?_
                        refine own_icmp X0 hx (hb hby d1_81) (by decide) (q := 132) rfl (q' := 84) rfl (own_h_eq _ _) (fun h81 => ?_) (fun h81 => ?_)
                        · replace h81 : p1.toInt = 42 := h81
                          refine own_iconst X0 hx (hb hby d1_132) (v := (1 : Int32)) rfl (q := 133) rfl ?_
                          refine own_goto X0 hx (hb hby d1_133) (by decide) (q := 137) rfl ?_
                          exact own_retN X0 hx (t := .boolean) hret hlk (by simp) (hb hby d1_137) (by decide) (by decide) (w := (1 : Int32)) rfl ⟨⟨_, rfl, ⟨_, rfl, by have hc_ : (1 : Int32).toInt = 1 := rfl; omega⟩⟩, rfl, e0⟩
                        · replace h81 : ¬ (p1.toInt = 42) := h81
                          refine own_iload_n X0 hx (hb hby d1_84) rfl (q := 85) rfl ?_
                          refine own_bipush X0 hx (hb hby d1_85) (v := (43 : Int32)) rfl (q := 87) rfl ?_
                          refine own_icmp X0 hx (hb hby d1_87) (by decide) (q := 132) rfl (q' := 90) rfl (own_h_eq _ _) (fun h87 => ?_) (fun h87 => ?_)
                          · replace h87 : p1.toInt = 43 := h87
                            refine own_iconst X0 hx (hb hby d1_132) (v := (1 : Int32)) rfl (q := 133) rfl ?_
                            refine own_goto X0 hx (hb hby d1_133) (by decide) (q := 137) rfl ?_
                            exact own_retN X0 hx (t := .boolean) hret hlk (by simp) (hb hby d1_137) (by decide) (by decide) (w := (1 : Int32)) rfl ⟨⟨_, rfl, ⟨_, rfl, by have hc_ : (1 : Int32).toInt = 1 := rfl; omega⟩⟩, rfl, e0⟩
                          · replace h87 : ¬ (p1.toInt = 43) := h87
                            refine own_iload_n X0 hx (hb hby d1_90) rfl (q := 91) rfl ?_
                            refine own_bipush X0 hx (hb hby d1_91) (v := (45 : Int32)) rfl (q := 93) rfl ?_
                            refine own_icmp X0 hx (hb hby d1_93) (by decide) (q := 132) rfl (q' := 96) rfl (own_h_eq _ _) (fun h93 => ?_) (fun h93 => ?_)
                            · replace h93 : p1.toInt = 45 := h93
                              refine own_iconst X0 hx (hb hby d1_132) (v := (1 : Int32)) rfl (q := 133) rfl ?_
                              refine own_goto X0 hx (hb hby d1_133) (by decide) (q := 137) rfl ?_
                              exact own_retN X0 hx (t := .boolean) hret hlk (by simp) (hb hby d1_137) (by decide) (by decide) (w := (1 : Int32)) rfl ⟨⟨_, rfl, ⟨_, rfl, by have hc_ : (1 : Int32).toInt = 1 := rfl; omega⟩⟩, rfl, e0⟩
                            · replace h93 : ¬ (p1.toInt = 45) := h93
                              refine own_iload_n X0 hx (hb hby d1_96) rfl (q := 97) rfl ?_
                              refine own_bipush X0 hx (hb hby d1_97) (v := (46 : Int32)) rfl (q := 99) rfl ?_
                              refine own_icmp X0 hx (hb hby d1_99) (by decide) (q := 132) rfl (q' := 102) rfl (own_h_eq _ _) (fun h99 => ?_) (fun h99 => ?_)
                              · replace h99 : p1.toInt = 46 := h99
                                refine own_iconst X0 hx (hb hby d1_132) (v := (1 : Int32)) rfl (q := 133) rfl ?_
                                refine own_goto X0 hx (hb hby d1_133) (by decide) (q := 137) rfl ?_
                                exact own_retN X0 hx (t := .boolean) hret hlk (by simp) (hb hby d1_137) (by decide) (by decide) (w := (1 : Int32)) rfl ⟨⟨_, rfl, ⟨_, rfl, by have hc_ : (1 : Int32).toInt = 1 := rfl; omega⟩⟩, rfl, e0⟩
                              · replace h99 : ¬ (p1.toInt = 46) := h99
                                refine own_iload_n X0 hx (hb hby d1_102) rfl (q := 103) rfl ?_
                                refine own_bipush X0 hx (hb hby d1_103) (v := (94 : Int32)) rfl (q := 105) rfl ?_
                                refine own_icmp X0 hx (hb hby d1_105) (by decide) (q := 132) rfl (q' := 108) rfl (own_h_eq _ _) (fun h105 => ?_) (fun h105 => ?_)
                                · replace h105 : p1.toInt = 94 := h105
                                  refine own_iconst X0 hx (hb hby d1_132) (v := (1 : Int32)) rfl (q := 133) rfl ?_
                                  refine own_goto X0 hx (hb hby d1_133) (by decide) (q := 137) rfl ?_
                                  exact own_retN X0 hx (t := .boolean) hret hlk (by simp) (hb hby d1_137) (by decide) (by decide) (w := (1 : Int32)) rfl ⟨⟨_, rfl, ⟨_, rfl, by have hc_ : (1 : Int32).toInt = 1 := rfl; omega⟩⟩, rfl, e0⟩
                                · replace h105 : ¬ (p1.toInt = 94) := h105
                                  refine own_iload_n X0 hx (hb hby d1_108) rfl (q := 109) rfl ?_
                                  refine own_bipush X0 hx (hb hby d1_109) (v := (95 : Int32)) rfl (q := 111) rfl ?_
                                  refine own_icmp X0 hx (hb hby d1_111) (by decide) (q := 132) rfl (q' := 114) rfl (own_h_eq _ _) (fun h111 => ?_) (fun h111 => ?_)
                                  · replace h111 : p1.toInt = 95 := h111
                                    refine own_iconst X0 hx (hb hby d1_132) (v := (1 : Int32)) rfl (q := 133) rfl ?_
                                    refine own_goto X0 hx (hb hby d1_133) (by decide) (q := 137) rfl ?_
                                    exact own_retN X0 hx (t := .boolean) hret hlk (by simp) (hb hby d1_137) (by decide) (by decide) (w := (1 : Int32)) rfl ⟨⟨_, rfl, ⟨_, rfl, by have hc_ : (1 : Int32).toInt = 1 := rfl; omega⟩⟩, rfl, e0⟩
                                  · replace h111 : ¬ (p1.toInt = 95) := h111
                                    refine own_iload_n X0 hx (hb hby d1_114) rfl (q := 115) rfl ?_
                                    refine own_bipush X0 hx (hb hby d1_115) (v := (96 : Int32)) rfl (q := 117) rfl ?_
                                    refine own_icmp X0 hx (hb hby d1_117) (by decide) (q := 132) rfl (q' := 120) rfl (own_h_eq _ _) (fun h117 => ?_) (fun h117 => ?_)
                                    · replace h117 : p1.toInt = 96 := h117
                                      refine own_iconst X0 hx (hb hby d1_132) (v := (1 : Int32)) rfl (q := 133) rfl ?_
                                      refine own_goto X0 hx (hb hby d1_133) (by decide) (q := 137) rfl ?_
                                      exact own_retN X0 hx (t := .boolean) hret hlk (by simp) (hb hby d1_137) (by decide) (by decide) (w := (1 : Int32)) rfl ⟨⟨_, rfl, ⟨_, rfl, by have hc_ : (1 : Int32).toInt = 1 := rfl; omega⟩⟩, rfl, e0⟩
                                    · replace h117 : ¬ (p1.toInt = 96) := h117
                                      refine own_iload_n X0 hx (hb hby d1_120) rfl (q := 121) rfl ?_
                                      refine own_bipush X0 hx (hb hby d1_121) (v := (124 : Int32)) rfl (q := 123) rfl ?_
                                      refine own_icmp X0 hx (hb hby d1_123) (by decide) (q := 132) rfl (q' := 126) rfl (own_h_eq _ _) (fun h123 => ?_) (fun h123 => ?_)
                                      · replace h123 : p1.toInt = 124 := h123
                                        refine own_iconst X0 hx (hb hby d1_132) (v := (1 : Int32)) rfl (q := 133) rfl ?_
                                        refine own_goto X0 hx (hb hby d1_133) (by decide) (q := 137) rfl ?_
                                        exact own_retN X0 hx (t := .boolean) hret hlk (by simp) (hb hby d1_137) (by decide) (by decide) (w := (1 : Int32)) rfl ⟨⟨_, rfl, ⟨_, rfl, by have hc_ : (1 : Int32).toInt = 1 := rfl; omega⟩⟩, rfl, e0⟩
                                      · replace h123 : ¬ (p1.toInt = 124) := h123
                                        refine own_iload_n X0 hx (hb hby d1_126) rfl (q := 127) rfl ?_
                                        refine own_bipush X0 hx (hb hby d1_127) (v := (126 : Int32)) rfl (q := 129) rfl ?_
                                        refine own_icmp X0 hx (hb hby d1_129) (by decide) (q := 136) rfl (q' := 132) rfl (own_h_ne _ _) (fun h129 => ?_) (fun h129 => ?_)
                                        · replace h129 : p1.toInt ≠ 126 := h129
                                          refine own_iconst X0 hx (hb hby d1_136) (v := (0 : Int32)) rfl (q := 137) rfl ?_
                                          exact own_retN X0 hx (t := .boolean) hret hlk (by simp) (hb hby d1_137) (by decide) (by decide) (w := (0 : Int32)) rfl ⟨⟨_, rfl, ⟨_, rfl, by have hc_ : (0 : Int32).toInt = 0 := rfl; omega⟩⟩, rfl, e0⟩
                                        · replace h129 : ¬ (p1.toInt ≠ 126) := h129
                                          refine own_iconst X0 hx (hb hby d1_132) (v := (1 : Int32)) rfl (q := 133) rfl ?_
                                          refine own_goto X0 hx (hb hby d1_133) (by decide) (q := 137) rfl ?_
                                          exact own_retN X0 hx (t := .boolean) hret hlk (by simp) (hb hby d1_137) (by decide) (by decide) (w := (1 : Int32)) rfl ⟨⟨_, rfl, ⟨_, rfl, by have hc_ : (1 : Int32).toInt = 1 := rfl; omega⟩⟩, rfl, e0⟩
          · replace h37 : ¬ (122 < p1.toInt) := h37
            refine own_iconst X0 hx (hb hby d1_40) (v := (1 : Int32)) rfl (q := 41) rfl ?_
            exact own_retN X0 hx (t := .boolean) hret hlk (by simp) (hb hby d1_41) (by decide) (by decide) (w := (1 : Int32)) rfl ⟨⟨_, rfl, ⟨_, rfl, by have hc_ : (1 : Int32).toInt = 1 := rfl; omega⟩⟩, rfl, e0⟩
      · replace h23 : ¬ (90 < p1.toInt) := h23
        refine own_iconst X0 hx (hb hby d1_26) (v := (1 : Int32)) rfl (q := 27) rfl ?_
        exact own_retN X0 hx (t := .boolean) hret hlk (by simp) (hb hby d1_27) (by decide) (by decide) (w := (1 : Int32)) rfl ⟨⟨_, rfl, ⟨_, rfl, by have hc_ : (1 : Int32).toInt = 1 := rfl; omega⟩⟩, rfl, e0⟩
  · replace h3 : ¬ (p1.toInt < 48) := h3
    refine own_iload_n X0 hx (hb hby d1_6) rfl (q := 7) rfl ?_
    refine own_bipush X0 hx (hb hby d1_7) (v := (57 : Int32)) rfl (q := 9) rfl ?_
    refine own_icmp X0 hx (hb hby d1_9) (by decide) (q := 14) rfl (q' := 12) rfl (own_h_gt _ _) (fun h9 => ?_) (fun h9 => ?_)
    · replace h9 : 57 < p1.toInt := h9
      refine own_iload_n X0 hx (hb hby d1_14) rfl (q := 15) rfl ?_
      refine own_bipush X0 hx (hb hby d1_15) (v := (65 : Int32)) rfl (q := 17) rfl ?_
      refine own_icmp X0 hx (hb hby d1_17) (by decide) (q := 28) rfl (q' := 20) rfl (own_h_lt _ _) (fun h17 => ?_) (fun h17 => ?_)
      · replace h17 : p1.toInt < 65 := h17
        refine own_iload_n X0 hx (hb hby d1_28) rfl (q := 29) rfl ?_
        refine own_bipush X0 hx (hb hby d1_29) (v := (97 : Int32)) rfl (q := 31) rfl ?_
        refine own_icmp X0 hx (hb hby d1_31) (by decide) (q := 42) rfl (q' := 34) rfl (own_h_lt _ _) (fun h31 => ?_) (fun h31 => ?_)
        · replace h31 : p1.toInt < 97 := h31
          refine own_iload_n X0 hx (hb hby d1_42) rfl (q := 43) rfl ?_
          refine own_bipush X0 hx (hb hby d1_43) (v := (33 : Int32)) rfl (q := 45) rfl ?_
          refine own_icmp X0 hx (hb hby d1_45) (by decide) (q := 132) rfl (q' := 48) rfl (own_h_eq _ _) (fun h45 => ?_) (fun h45 => ?_)
          · replace h45 : p1.toInt = 33 := h45
            refine own_iconst X0 hx (hb hby d1_132) (v := (1 : Int32)) rfl (q := 133) rfl ?_
            refine own_goto X0 hx (hb hby d1_133) (by decide) (q := 137) rfl ?_
            exact own_retN X0 hx (t := .boolean) hret hlk (by simp) (hb hby d1_137) (by decide) (by decide) (w := (1 : Int32)) rfl ⟨⟨_, rfl, ⟨_, rfl, by have hc_ : (1 : Int32).toInt = 1 := rfl; omega⟩⟩, rfl, e0⟩
          · replace h45 : ¬ (p1.toInt = 33) := h45
            refine own_iload_n X0 hx (hb hby d1_48) rfl (q := 49) rfl ?_
            refine own_bipush X0 hx (hb hby d1_49) (v := (35 : Int32)) rfl (q := 51) rfl ?_
            refine own_icmp X0 hx (hb hby d1_51) (by decide) (q := 132) rfl (q' := 54) rfl (own_h_eq _ _) (fun h51 => ?_) (fun h51 => ?_)
            · replace h51 : p1.toInt = 35 := h51
              refine own_iconst X0 hx (hb hby d1_132) (v := (1 : Int32)) rfl (q := 133) rfl ?_
              refine own_goto X0 hx (hb hby d1_133) (by decide) (q := 137) rfl ?_
              exact own_retN X0 hx (t := .boolean) hret hlk (by simp) (hb hby d1_137) (by decide) (by decide) (w := (1 : Int32)) rfl ⟨⟨_, rfl, ⟨_, rfl, by have hc_ : (1 : Int32).toInt = 1 := rfl; omega⟩⟩, rfl, e0⟩
            · replace h51 : ¬ (p1.toInt = 35) := h51
              refine own_iload_n X0 hx (hb hby d1_54) rfl (q := 55) rfl ?_
              refine own_bipush X0 hx (hb hby d1_55) (v := (36 : Int32)) rfl (q := 57) rfl ?_
              refine own_icmp X0 hx (hb hby d1_57) (by decide) (q := 132) rfl (q' := 60) rfl (own_h_eq _ _) (fun h57 => ?_) (fun h57 => ?_)
              · replace h57 : p1.toInt = 36 := h57
                refine own_iconst X0 hx (hb hby d1_132) (v := (1 : Int32)) rfl (q := 133) rfl ?_
                refine own_goto X0 hx (hb hby d1_133) (by decide) (q := 137) rfl ?_
                exact own_retN X0 hx (t := .boolean) hret hlk (by simp) (hb hby d1_137) (by decide) (by decide) (w := (1 : Int32)) rfl ⟨⟨_, rfl, ⟨_, rfl, by have hc_ : (1 : Int32).toInt = 1 := rfl; omega⟩⟩, rfl, e0⟩
              · replace h57 : ¬ (p1.toInt = 36) := h57
                refine own_iload_n X0 hx (hb hby d1_60) rfl (q := 61) rfl ?_
                refine own_bipush X0 hx (hb hby d1_61) (v := (37 : Int32)) rfl (q := 63) rfl ?_
                refine own_icmp X0 hx (hb hby d1_63) (by decide) (q := 132) rfl (q' := 66) rfl (own_h_eq _ _) (fun h63 => ?_) (fun h63 => ?_)
                · replace h63 : p1.toInt = 37 := h63
                  refine own_iconst X0 hx (hb hby d1_132) (v := (1 : Int32)) rfl (q := 133) rfl ?_
                  refine own_goto X0 hx (hb hby d1_133) (by decide) (q := 137) rfl ?_
                  exact own_retN X0 hx (t := .boolean) hret hlk (by simp) (hb hby d1_137) (by decide) (by decide) (w := (1 : Int32)) rfl ⟨⟨_, rfl, ⟨_, rfl, by have hc_ : (1 : Int32).toInt = 1 := rfl; omega⟩⟩, rfl, e0⟩
                · replace h63 : ¬ (p1.toInt = 37) := h63
                  refine own_iload_n X0 hx (hb hby d1_66) rfl (q := 67) rfl ?_
                  refine own_bipush X0 hx (hb hby d1_67) (v := (38 : Int32)) rfl (q := 69) rfl ?_
                  refine own_icmp X0 hx (hb hby d1_69) (by decide) (q := 132) rfl (q' := 72) rfl (own_h_eq _ _) (fun h69 => ?_) (fun h69 => ?_)
                  · replace h69 : p1.toInt = 38 := h69
                    refine own_iconst X0 hx (hb hby d1_132) (v := (1 : Int32)) rfl (q := 133) rfl ?_
                    refine own_goto X0 hx (hb hby d1_133) (by decide) (q := 137) rfl ?_
                    exact own_retN X0 hx (t := .boolean) hret hlk (by simp) (hb hby d1_137) (by decide) (by decide) (w := (1 : Int32)) rfl ⟨⟨_, rfl, ⟨_, rfl, by have hc_ : (1 : Int32).toInt = 1 := rfl; omega⟩⟩, rfl, e0⟩
                  · replace h69 : ¬ (p1.toInt = 38) := h69
                    refine own_iload_n X0 hx (hb hby d1_72) rfl (q := 73) rfl ?_
                    refine own_bipush X0 hx (hb hby d1_73) (v := (39 : Int32)) rfl (q := 75) rfl ?_
                    refine own_icmp X0 hx (hb hby d1_75) (by decide) (q := 132) rfl (q' := 78) rfl (own_h_eq _ _) (fun h75 => ?_) (fun h75 => ?_)
                    · replace h75 : p1.toInt = 39 := h75
                      refine own_iconst X0 hx (hb hby d1_132) (v := (1 : Int32)) rfl (q := 133) rfl ?_
                      refine own_goto X0 hx (hb hby d1_133) (by decide) (q := 137) rfl ?_
                      exact own_retN X0 hx (t := .boolean) hret hlk (by simp) (hb hby d1_137) (by decide) (by decide) (w := (1 : Int32)) rfl ⟨⟨_, rfl, ⟨_, rfl, by have hc_ : (1 : Int32).toInt = 1 := rfl; omega⟩⟩, rfl, e0⟩
                    · replace h75 : ¬ (p1.toInt = 39) := h75
                      refine own_iload_n X0 hx (hb hby d1_78) rfl (q := 79) rfl ?_
                      refine own_bipush X0 hx (hb hby d1_79) (v := (42 : Int32)) rfl (q := 81) rfl ?_
                      refine own_icmp X0 hx (hb hby d1_81) (by decide) (q := 132) rfl (q' := 84) rfl (own_h_eq _ _) (fun h81 => ?_) (fun h81 => ?_)
                      · replace h81 : p1.toInt = 42 := h81
                        refine own_iconst X0 hx (hb hby d1_132) (v := (1 : Int32)) rfl (q := 133) rfl ?_
                        refine own_goto X0 hx (hb hby d1_133) (by decide) (q := 137) rfl ?_
                        exact own_retN X0 hx (t := .boolean) hret hlk (by simp) (hb hby d1_137) (by decide) (by decide) (w := (1 : Int32)) rfl ⟨⟨_, rfl, ⟨_, rfl, by have hc_ : (1 : Int32).toInt = 1 := rfl; omega⟩⟩, rfl, e0⟩
                      · replace h81 : ¬ (p1.toInt = 42) := h81
                        refine own_iload_n X0 hx (hb hby d1_84) rfl (q := 85) rfl ?_
                        refine own_bipush X0 hx (hb hby d1_85) (v := (43 : Int32)) rfl (q := 87) rfl ?_
                        refine own_icmp X0 hx (hb hby d1_87) (by decide) (q := 132) rfl (q' := 90) rfl (own_h_eq _ _) (fun h87 => ?_) (fun h87 => ?_)
                        · replace h87 : p1.toInt = 43 := h87
                          refine own_iconst X0 hx (hb hby d1_132) (v := (1 : Int32)) rfl (q := 133) rfl ?_
                          refine own_goto X0 hx (hb hby d1_133) (by decide) (q := 137) rfl ?_
                          exact own_retN X0 hx (t := .boolean) hret hlk (by simp) (hb hby d1_137) (by decide) (by decide) (w := (1 : Int32)) rfl ⟨⟨_, rfl, ⟨_, rfl, by have hc_ : (1 : Int32).toInt = 1 := rfl; omega⟩⟩, rfl, e0⟩
                        · replace h87 : ¬ (p1.toInt = 43) := h87
                          refine own_iload_n X0 hx (hb hby d1_90) rfl (q := 91) rfl ?_
                          refine own_bipush X0 hx (hb hby d1_91) (v := (45 : Int32)) rfl (q := 93) rfl ?_
                          refine own_icmp X0 hx (hb hby d1_93) (by decide) (q := 132) rfl (q' := 96) rfl (own_h_eq _ _) (fun h93 => ?_) (fun h93 => ?_)
                          · replace h93 : p1.toInt = 45 := h93
                            refine own_iconst X0 hx (hb hby d1_132) (v := (1 : Int32)) rfl (q := 133) rfl ?_
                            refine own_goto X0 hx (hb hby d1_133) (by decide) (q := 137) rfl ?_
                            exact own_retN X0 hx (t := .boolean) hret hlk (by simp) (hb hby d1_137) (by decide) (by decide) (w := (1 : Int32)) rfl ⟨⟨_, rfl, ⟨_, rfl, by have hc_ : (1 : Int32).toInt = 1 := rfl; omega⟩⟩, rfl, e0⟩
                          · replace h93 : ¬ (p1.toInt = 45) := h93
                            refine own_iload_n X0 hx (hb hby d1_96) rfl (q := 97) rfl ?_
                            refine own_bipush X0 hx (hb hby d1_97) (v := (46 : Int32)) rfl (q := 99) rfl ?_
                            refine own_icmp X0 hx (hb hby d1_99) (by decide) (q := 132) rfl (q' := 102) rfl (own_h_eq _ _) (fun h99 => ?_) (fun h99 => ?_)
                            · replace h99 : p1.toInt = 46 := h99
                              refine own_iconst X0 hx (hb hby d1_132) (v := (1 : Int32)) rfl (q := 133) rfl ?_
                              refine own_goto X0 hx (hb hby d1_133) (by decide) (q := 137) rfl ?_
                              exact own_retN X0 hx (t := .boolean) hret hlk (by simp) (hb hby d1_137) (by decide) (by decide) (w := (1 : Int32)) rfl ⟨⟨_, rfl, ⟨_, rfl, by have hc_ : (1 : Int32).toInt = 1 := rfl; omega⟩⟩, rfl, e0⟩
                            · replace h99 : ¬ (p1.toInt = 46) := h99
                              refine own_iload_n X0 hx (hb hby d1_102) rfl (q := 103) rfl ?_
                              refine own_bipush X0 hx (hb hby d1_103) (v := (94 : Int32)) rfl (q := 105) rfl ?_
                              refine own_icmp X0 hx (hb hby d1_105) (by decide) (q := 132) rfl (q' := 108) rfl (own_h_eq _ _) (fun h105 => ?_) (fun h105 => ?_)
                              · replace h105 : p1.toInt = 94 := h105
                                refine own_iconst X0 hx (hb hby d1_132) (v := (1 : Int32)) rfl (q := 133) rfl ?_
                                refine own_goto X0 hx (hb hby d1_133) (by decide) (q := 137) rfl ?_
                                exact own_retN X0 hx (t := .boolean) hret hlk (by simp) (hb hby d1_137) (by decide) (by decide) (w := (1 : Int32)) rfl ⟨⟨_, rfl, ⟨_, rfl, by have hc_ : (1 : Int32).toInt = 1 := rfl; omega⟩⟩, rfl, e0⟩
                              · replace h105 : ¬ (p1.toInt = 94) := h105
                                refine own_iload_n X0 hx (hb hby d1_108) rfl (q := 109) rfl ?_
                                refine own_bipush X0 hx (hb hby d1_109) (v := (95 : Int32)) rfl (q := 111) rfl ?_
                                refine own_icmp X0 hx (hb hby d1_111) (by decide) (q := 132) rfl (q' := 114) rfl (own_h_eq _ _) (fun h111 => ?_) (fun h111 => ?_)
                                · replace h111 : p1.toInt = 95 := h111
                                  refine own_iconst X0 hx (hb hby d1_132) (v := (1 : Int32)) rfl (q := 133) rfl ?_
                                  refine own_goto X0 hx (hb hby d1_133) (by decide) (q := 137) rfl ?_
                                  exact own_retN X0 hx (t := .boolean) hret hlk (by simp) (hb hby d1_137) (by decide) (by decide) (w := (1 : Int32)) rfl ⟨⟨_, rfl, ⟨_, rfl, by have hc_ : (1 : Int32).toInt = 1 := rfl; omega⟩⟩, rfl, e0⟩
                                · replace h111 : ¬ (p1.toInt = 95) := h111
                                  refine own_iload_n X0 hx (hb hby d1_114) rfl (q := 115) rfl ?_
                                  refine own_bipush X0 hx (hb hby d1_115) (v := (96 : Int32)) rfl (q := 117) rfl ?_
                                  refine own_icmp X0 hx (hb hby d1_117) (by decide) (q := 132) rfl (q' := 120) rfl (own_h_eq _ _) (fun h117 => ?_) (fun h117 => ?_)
                                  · replace h117 : p1.toInt = 96 := h117
                                    refine own_iconst X0 hx (hb hby d1_132) (v := (1 : Int32)) rfl (q := 133) rfl ?_
                                    refine own_goto X0 hx (hb hby d1_133) (by decide) (q := 137) rfl ?_
                                    exact own_retN X0 hx (t := .boolean) hret hlk (by simp) (hb hby d1_137) (by decide) (by decide) (w := (1 : Int32)) rfl ⟨⟨_, rfl, ⟨_, rfl, by have hc_ : (1 : Int32).toInt = 1 := rfl; omega⟩⟩, rfl, e0⟩
                                  · replace h117 : ¬ (p1.toInt = 96) := h117
                                    refine own_iload_n X0 hx (hb hby d1_120) rfl (q := 121) rfl ?_
                                    refine own_bipush X0 hx (hb hby d1_121) (v := (124 : Int32)) rfl (q := 123) rfl ?_
                                    refine own_icmp X0 hx (hb hby d1_123) (by decide) (q := 132) rfl (q' := 126) rfl (own_h_eq _ _) (fun h123 => ?_) (fun h123 => ?_)
                                    · replace h123 : p1.toInt = 124 := h123
                                      refine own_iconst X0 hx (hb hby d1_132) (v := (1 : Int32)) rfl (q := 133) rfl ?_
                                      refine own_goto X0 hx (hb hby d1_133) (by decide) (q := 137) rfl ?_
                                      exact own_retN X0 hx (t := .boolean) hret hlk (by simp) (hb hby d1_137) (by decide) (by decide) (w := (1 : Int32)) rfl ⟨⟨_, rfl, ⟨_, rfl, by have hc_ : (1 : Int32).toInt = 1 := rfl; omega⟩⟩, rfl, e0⟩
                                    · replace h123 : ¬ (p1.toInt = 124) := h123
                                      refine own_iload_n X0 hx (hb hby d1_126) rfl (q := 127) rfl ?_
                                      refine own_bipush X0 hx (hb hby d1_127) (v := (126 : Int32)) rfl (q := 129) rfl ?_
                                      refine own_icmp X0 hx (hb hby d1_129) (by decide) (q := 136) rfl (q' := 132) rfl (own_h_ne _ _) (fun h129 => ?_) (fun h129 => ?_)
                                      · replace h129 : p1.toInt ≠ 126 := h129
                                        refine own_iconst X0 hx (hb hby d1_136) (v := (0 : Int32)) rfl (q := 137) rfl ?_
                                        exact own_retN X0 hx (t := .boolean) hret hlk (by simp) (hb hby d1_137) (by decide) (by decide) (w := (0 : Int32)) rfl ⟨⟨_, rfl, ⟨_, rfl, by have hc_ : (0 : Int32).toInt = 0 := rfl; omega⟩⟩, rfl, e0⟩
                                      · replace h129 : ¬ (p1.toInt ≠ 126) := h129
                                        refine own_iconst X0 hx (hb hby d1_132) (v := (1 : Int32)) rfl (q := 133) rfl ?_
                                        refine own_goto X0 hx (hb hby d1_133) (by decide) (q := 137) rfl ?_
                                        exact own_retN X0 hx (t := .boolean) hret hlk (by simp) (hb hby d1_137) (by decide) (by decide) (w := (1 : Int32)) rfl ⟨⟨_, rfl, ⟨_, rfl, by have hc_ : (1 : Int32).toInt = 1 := rfl; omega⟩⟩, rfl, e0⟩
        · replace h31 : ¬ (p1.toInt < 97) := h31
          refine own_iload_n X0 hx (hb hby d1_34) rfl (q := 35) rfl ?_
          refine own_bipush X0 hx (hb hby d1_35) (v := (122 : Int32)) rfl (q := 37) rfl ?_
          refine own_icmp X0 hx (hb hby d1_37) (by decide) (q := 42) rfl (q' := 40) rfl (own_h_gt _ _) (fun h37 => ?_) (fun h37 => ?_)
          · replace h37 : 122 < p1.toInt := h37
            refine own_iload_n X0 hx (hb hby d1_42) rfl (q := 43) rfl ?_
            refine own_bipush X0 hx (hb hby d1_43) (v := (33 : Int32)) rfl (q := 45) rfl ?_
            refine own_icmp X0 hx (hb hby d1_45) (by decide) (q := 132) rfl (q' := 48) rfl (own_h_eq _ _) (fun h45 => ?_) (fun h45 => ?_)
            · replace h45 : p1.toInt = 33 := h45
              refine own_iconst X0 hx (hb hby d1_132) (v := (1 : Int32)) rfl (q := 133) rfl ?_
              refine own_goto X0 hx (hb hby d1_133) (by decide) (q := 137) rfl ?_
              exact own_retN X0 hx (t := .boolean) hret hlk (by simp) (hb hby d1_137) (by decide) (by decide) (w := (1 : Int32)) rfl ⟨⟨_, rfl, ⟨_, rfl, by have hc_ : (1 : Int32).toInt = 1 := rfl; omega⟩⟩, rfl, e0⟩
            · replace h45 : ¬ (p1.toInt = 33) := h45
              refine own_iload_n X0 hx (hb hby d1_48) rfl (q := 49) rfl ?_
              refine own_bipush X0 hx (hb hby d1_49) (v := (35 : Int32)) rfl (q := 51) rfl ?_
              refine own_icmp X0 hx (hb hby d1_51) (by decide) (q := 132) rfl (q' := 54) rfl (own_h_eq _ _) (fun h51 => ?_) (fun h51 => ?_)
              · replace h51 : p1.toInt = 35 := h51
                refine own_iconst X0 hx (hb hby d1_132) (v := (1 : Int32)) rfl (q := 133) rfl ?_
                refine own_goto X0 hx (hb hby d1_133) (by decide) (q := 137) rfl ?_
                exact own_retN X0 hx (t := .boolean) hret hlk (by simp) (hb hby d1_137) (by decide) (by decide) (w := (1 : Int32)) rfl ⟨⟨_, rfl, ⟨_, rfl, by have hc_ : (1 : Int32).toInt = 1 := rfl; omega⟩⟩, rfl, e0⟩
              · replace h51 : ¬ (p1.toInt = 35) := h51
                refine own_iload_n X0 hx (hb hby d1_54) rfl (q := 55) rfl ?_
                refine own_bipush X0 hx (hb hby d1_55) (v := (36 : Int32)) rfl (q := 57) rfl ?_
                refine own_icmp X0 hx (hb hby d1_57) (by decide) (q := 132) rfl (q' := 60) rfl (own_h_eq _ _) (fun h57 => ?_) (fun h57 => ?_)
                · replace h57 : p1.toInt = 36 := h57
                  refine own_iconst X0 hx (hb hby d1_132) (v := (1 : Int32)) rfl (q := 133) rfl ?_
                  refine own_goto X0 hx (hb hby d1_133) (by decide) (q := 137) rfl ?_
                  exact own_retN X0 hx (t := .boolean) hret hlk (by simp) (hb hby d1_137) (by decide) (by decide) (w := (1 : Int32)) rfl ⟨⟨_, rfl, ⟨_, rfl, by have hc_ : (1 : Int32).toInt = 1 := rfl; omega⟩⟩, rfl, e0⟩
                · replace h57 : ¬ (p1.toInt = 36) := h57
                  refine own_iload_n X0 hx (hb hby d1_60) rfl (q := 61) rfl ?_
                  refine own_bipush X0 hx (hb hby d1_61) (v := (37 : Int32)) rfl (q := 63) rfl ?_
                  refine own_icmp X0 hx (hb hby d1_63) (by decide) (q := 132) rfl (q' := 66) rfl (own_h_eq _ _) (fun h63 => ?_) (fun h63 => ?_)
                  · replace h63 : p1.toInt = 37 := h63
                    refine own_iconst X0 hx (hb hby d1_132) (v := (1 : Int32)) rfl (q := 133) rfl ?_
                    refine own_goto X0 hx (hb hby d1_133) (by decide) (q := 137) rfl ?_
                    exact own_retN X0 hx (t := .boolean) hret hlk (by simp) (hb hby d1_137) (by decide) (by decide) (w := (1 : Int32)) rfl ⟨⟨_, rfl, ⟨_, rfl, by have hc_ : (1 : Int32).toInt = 1 := rfl; omega⟩⟩, rfl, e0⟩
                  · replace h63 : ¬ (p1.toInt = 37) := h63
                    refine own_iload_n X0 hx (hb hby d1_66) rfl (q := 67) rfl ?_
                    refine own_bipush X0 hx (hb hby d1_67) (v := (38 : Int32)) rfl (q := 69) rfl ?_
                    refine own_icmp X0 hx (hb hby d1_69) (by decide) (q := 132) rfl (q' := 72) rfl (own_h_eq _ _) (fun h69 => ?_) (fun h69 => ?_)
                    · replace h69 : p1.toInt = 38 := h69
                      refine own_iconst X0 hx (hb hby d1_132) (v := (1 : Int32)) rfl (q := 133) rfl ?_
                      refine own_goto X0 hx (hb hby d1_133) (by decide) (q := 137) rfl ?_
                      exact own_retN X0 hx (t := .boolean) hret hlk (by simp) (hb hby d1_137) (by decide) (by decide) (w := (1 : Int32)) rfl ⟨⟨_, rfl, ⟨_, rfl, by have hc_ : (1 : Int32).toInt = 1 := rfl; omega⟩⟩, rfl, e0⟩
                    · replace h69 : ¬ (p1.toInt = 38) := h69
                      refine own_iload_n X0 hx (hb hby d1_72) rfl (q := 73) rfl ?_
                      refine own_bipush X0 hx (hb hby d1_73) (v := (39 : Int32)) rfl (q := 75) rfl ?_
                      refine own_icmp X0 hx (hb hby d1_75) (by decide) (q := 132) rfl (q' := 78) rfl (own_h_eq _ _) (fun h75 => ?_) (fun h75 => ?_)
                      · replace h75 : p1.toInt = 39 := h75
                        refine own_iconst X0 hx (hb hby d1_132) (v := (1 : Int32)) rfl (q := 133) rfl ?_
                        refine own_goto X0 hx (hb hby d1_133) (by decide) (q := 137) rfl ?_
                        exact own_retN X0 hx (t := .boolean) hret hlk (by simp) (hb hby d1_137) (by decide) (by decide) (w := (1 : Int32)) rfl ⟨⟨_, rfl, ⟨_, rfl, by have hc_ : (1 : Int32).toInt = 1 := rfl; omega⟩⟩, rfl, e0⟩
                      · replace h75 : ¬ (p1.toInt = 39) := h75
                        refine own_iload_n X0 hx (hb hby d1_78) rfl (q := 79) rfl ?_
                        refine own_bipush X0 hx (hb hby d1_79) (v := (42 : Int32)) rfl (q := 81) rfl ?_
                        refine own_icmp X0 hx (hb hby d1_81) (by decide) (q := 132) rfl (q' := 84) rfl (own_h_eq _ _) (fun h81 => ?_) (fun h81 => ?_)
                        · replace h81 : p1.toInt = 42 := h81
                          refine own_iconst X0 hx (hb hby d1_132) (v := (1 : Int32)) rfl (q := 133) rfl ?_
                          refine own_goto X0 hx (hb hby d1_133) (by decide) (q := 137) rfl ?_
                          exact own_retN X0 hx (t := .boolean) hret hlk (by simp) (hb hby d1_137) (by decide) (by decide) (w := (1 : Int32)) rfl ⟨⟨_, rfl, ⟨_, rfl, by have hc_ : (1 : Int32).toInt = 1 := rfl; omega⟩⟩, rfl, e0⟩
                        · replace h81 : ¬ (p1.toInt = 42) := h81
                          refine own_iload_n X0 hx (hb hby d1_84) rfl (q := 85) rfl ?_
                          refine own_bipush X0 hx (hb hby d1_85) (v := (43 : Int32)) rfl (q := 87) rfl ?_
                          refine own_icmp X0 hx (hb hby d1_87) (by decide) (q := 132) rfl (q' := 90) rfl (own_h_eq _ _) (fun h87 => ?_) (fun h87 => ?_)
                          · replace h87 : p1.toInt = 43 := h87
                            refine own_iconst X0 hx (hb hby d1_132) (v := (1 : Int32)) rfl (q := 133) rfl ?_
                            refine own_goto X0 hx (hb hby d1_133) (by decide) (q := 137) rfl ?_
                            exact own_retN X0 hx (t := .boolean) hret hlk (by simp) (hb hby d1_137) (by decide) (by decide) (w := (1 : Int32)) rfl ⟨⟨_, rfl, ⟨_, rfl, by have hc_ : (1 : Int32).toInt = 1 := rfl; omega⟩⟩, rfl, e0⟩
                          · replace h87 : ¬ (p1.toInt = 43) := h87
                            refine own_iload_n X0 hx (hb hby d1_90) rfl (q := 91) rfl ?_
                            refine own_bipush X0 hx (hb hby d1_91) (v := (45 : Int32)) rfl (q := 93) rfl ?_
                            refine own_icmp X0 hx (hb hby d1_93) (by decide) (q := 132) rfl (q' := 96) rfl (own_h_eq _ _) (fun h93 => ?_) (fun h93 => ?_)
                            · replace h93 : p1.toInt = 45 := h93
                              refine own_iconst X0 hx (hb hby d1_132) (v := (1 : Int32)) rfl (q := 133) rfl ?_
                              refine own_goto X0 hx (hb hby d1_133) (by decide) (q := 137) rfl ?_
                              exact own_retN X0 hx (t := .boolean) hret hlk (by simp) (hb hby d1_137) (by decide) (by decide) (w := (1 : Int32)) rfl ⟨⟨_, rfl, ⟨_, rfl, by have hc_ : (1 : Int32).toInt = 1 := rfl; omega⟩⟩, rfl, e0⟩
                            · replace h93 : ¬ (p1.toInt = 45) := h93
                              refine own_iload_n X0 hx (hb hby d1_96) rfl (q := 97) rfl ?_
                              refine own_bipush X0 hx (hb hby d1_97) (v := (46 : Int32)) rfl (q := 99) rfl ?_
                              refine own_icmp X0 hx (hb hby d1_99) (by decide) (q := 132) rfl (q' := 102) rfl (own_h_eq _ _) (fun h99 => ?_) (fun h99 => ?_)
                              · replace h99 : p1.toInt = 46 := h99
                                refine own_iconst X0 hx (hb hby d1_132) (v := (1 : Int32)) rfl (q := 133) rfl ?_
                                refine own_goto X0 hx (hb hby d1_133) (by decide) (q := 137) rfl ?_
                                exact own_retN X0 hx (t := .boolean) hret hlk (by simp) (hb hby d1_137) (by decide) (by decide) (w := (1 : Int32)) rfl ⟨⟨_, rfl, ⟨_, rfl, by have hc_ : (1 : Int32).toInt = 1 := rfl; omega⟩⟩, rfl, e0⟩
                              · replace h99 : ¬ (p1.toInt = 46) := h99
                                refine own_iload_n X0 hx (hb hby d1_102) rfl (q := 103) rfl ?_
                                refine own_bipush X0 hx (hb hby d1_103) (v := (94 : Int32)) rfl (q := 105) rfl ?_
                                refine own_icmp X0 hx (hb hby d1_105) (by decide) (q := 132) rfl (q' := 108) rfl (own_h_eq _ _) (fun h105 => ?_) (fun h105 => ?_)
                                · replace h105 : p1.toInt = 94 := h105
                                  refine own_iconst X0 hx (hb hby d1_132) (v := (1 : Int32)) rfl (q := 133) rfl ?_
                                  refine own_goto X0 hx (hb hby d1_133) (by decide) (q := 137) rfl ?_
                                  exact own_retN X0 hx (t := .boolean) hret hlk (by simp) (hb hby d1_137) (by decide) (by decide) (w := (1 : Int32)) rfl ⟨⟨_, rfl, ⟨_, rfl, by have hc_ : (1 : Int32).toInt = 1 := rfl; omega⟩⟩, rfl, e0⟩
                                · replace h105 : ¬ (p1.toInt = 94) := h105
                                  refine own_iload_n X0 hx (hb hby d1_108) rfl (q := 109) rfl ?_
                                  refine own_bipush X0 hx (hb hby d1_109) (v := (95 : Int32)) rfl (q := 111) rfl ?_
                                  refine own_icmp X0 hx (hb hby d1_111) (by decide) (q := 132) rfl (q' := 114) rfl (own_h_eq _ _) (fun h111 => ?_) (fun h111 => ?_)
                                  · replace h111 : p1.toInt = 95 := h111
                                    refine own_iconst X0 hx (hb hby d1_132) (v := (1 : Int32)) rfl (q := 133) rfl ?_
                                    refine own_goto X0 hx (hb hby d1_133) (by decide) (q := 137) rfl ?_
                                    exact own_retN X0 hx (t := .boolean) hret hlk (by simp) (hb hby d1_137) (by decide) (by decide) (w := (1 : Int32)) rfl ⟨⟨_, rfl, ⟨_, rfl, by have hc_ : (1 : Int32).toInt = 1 := rfl; omega⟩⟩, rfl, e0⟩
                                  · replace h111 : ¬ (p1.toInt = 95) := h111
                                    refine own_iload_n X0 hx (hb hby d1_114) rfl (q := 115) rfl ?_
                                    refine own_bipush X0 hx (hb hby d1_115) (v := (96 : Int32)) rfl (q := 117) rfl ?_
                                    refine own_icmp X0 hx (hb hby d1_117) (by decide) (q := 132) rfl (q' := 120) rfl (own_h_eq _ _) (fun h117 => ?_) (fun h117 => ?_)
                                    · replace h117 : p1.toInt = 96 := h117
                                      refine own_iconst X0 hx (hb hby d1_132) (v := (1 : Int32)) rfl (q := 133) rfl ?_
                                      refine own_goto X0 hx (hb hby d1_133) (by decide) (q := 137) rfl ?_
                                      exact own_retN X0 hx (t := .boolean) hret hlk (by simp) (hb hby d1_137) (by decide) (by decide) (w := (1 : Int32)) rfl ⟨⟨_, rfl, ⟨_, rfl, by have hc_ : (1 : Int32).toInt = 1 := rfl; omega⟩⟩, rfl, e0⟩
                                    · replace h117 : ¬ (p1.toInt = 96) := h117
                                      refine own_iload_n X0 hx (hb hby d1_120) rfl (q := 121) rfl ?_
                                      refine own_bipush X0 hx (hb hby d1_121) (v := (124 : Int32)) rfl (q := 123) rfl ?_
                                      refine own_icmp X0 hx (hb hby d1_123) (by decide) (q := 132) rfl (q' := 126) rfl (own_h_eq _ _) (fun h123 => ?_) (fun h123 => ?_)
                                      · replace h123 : p1.toInt = 124 := h123
                                        refine own_iconst X0 hx (hb hby d1_132) (v := (1 : Int32)) rfl (q := 133) rfl ?_
                                        refine own_goto X0 hx (hb hby d1_133) (by decide) (q := 137) rfl ?_
                                        exact own_retN X0 hx (t := .boolean) hret hlk (by simp) (hb hby d1_137) (by decide) (by decide) (w := (1 : Int32)) rfl ⟨⟨_, rfl, ⟨_, rfl, by have hc_ : (1 : Int32).toInt = 1 := rfl; omega⟩⟩, rfl, e0⟩
                                      · replace h123 : ¬ (p1.toInt = 124) := h123
                                        refine own_iload_n X0 hx (hb hby d1_126) rfl (q := 127) rfl ?_
                                        refine own_bipush X0 hx (hb hby d1_127) (v := (126 : Int32)) rfl (q := 129) rfl ?_
                                        refine own_icmp X0 hx (hb hby d1_129) (by decide) (q := 136) rfl (q' := 132) rfl (own_h_ne _ _) (fun h129 => ?_) (fun h129 => ?_)
                                        · replace h129 : p1.toInt ≠ 126 := h129
                                          refine own_iconst X0 hx (hb hby d1_136) (v := (0 : Int32)) rfl (q := 137) rfl ?_
                                          exact own_retN X0 hx (t := .boolean) hret hlk (by simp) (hb hby d1_137) (by decide) (by decide) (w := (0 : Int32)) rfl ⟨⟨_, rfl, ⟨_, rfl, by have hc_ : (0 : Int32).toInt = 0 := rfl; omega⟩⟩, rfl, e0⟩
                                        · replace h129 : ¬ (p1.toInt ≠ 126) := h129
                                          refine own_iconst X0 hx (hb hby d1_132) (v := (1 : Int32)) rfl (q := 133) rfl ?_
                                          refine own_goto X0 hx (hb hby d1_133) (by decide) (q := 137) rfl ?_
                                          exact own_retN X0 hx (t := .boolean) hret hlk (by simp) (hb hby d1_137) (by decide) (by decide) (w := (1 : Int32)) rfl ⟨⟨_, rfl, ⟨_, rfl, by have hc_ : (1 : Int32).toInt = 1 := rfl; omega⟩⟩, rfl, e0⟩
          · replace h37 : ¬ (122 < p1.toInt) := h37
            refine own_iconst X0 hx (hb hby d1_40) (v := (1 : Int32)) rfl (q := 41) rfl ?_
            exact own_retN X0 hx (t := .boolean) hret hlk (by simp) (hb hby d1_41) (by decide) (by decide) (w := (1 : Int32)) rfl ⟨⟨_, rfl, ⟨_, rfl, by have hc_ : (1 : Int32).toInt = 1 := rfl; omega⟩⟩, rfl, e0⟩
      · replace h17 : ¬ (p1.toInt < 65) := h17
        refine own_iload_n X0 hx (hb hby d1_20) rfl (q := 21) rfl ?_
        refine own_bipush X0 hx (hb hby d1_21) (v := (90 : Int32)) rfl (q := 23) rfl ?_
        refine own_icmp X0 hx (hb hby d1_23) (by decide) (q := 28) rfl (q' := 26) rfl (own_h_gt _ _) (fun h23 => ?_) (fun h23 => ?_)
        · replace h23 : 90 < p1.toInt := h23
          refine own_iload_n X0 hx (hb hby d1_28) rfl (q := 29) rfl ?_
          refine own_bipush X0 hx (hb hby d1_29) (v := (97 : Int32)) rfl (q := 31) rfl ?_
          refine own_icmp X0 hx (hb hby d1_31) (by decide) (q := 42) rfl (q' := 34) rfl (own_h_lt _ _) (fun h31 => ?_) (fun h31 => ?_)
          · replace h31 : p1.toInt < 97 := h31
            refine own_iload_n X0 hx (hb hby d1_42) rfl (q := 43) rfl ?_
            refine own_bipush X0 hx (hb hby d1_43) (v := (33 : Int32)) rfl (q := 45) rfl ?_
            refine own_icmp X0 hx (hb hby d1_45) (by decide) (q := 132) rfl (q' := 48) rfl (own_h_eq _ _) (fun h45 => ?_) (fun h45 => ?_)
            · replace h45 : p1.toInt = 33 := h45
              refine own_iconst X0 hx (hb hby d1_132) (v := (1 : Int32)) rfl (q := 133) rfl ?_
              refine own_goto X0 hx (hb hby d1_133) (by decide) (q := 137) rfl ?_
              exact own_retN X0 hx (t := .boolean) hret hlk (by simp) (hb hby d1_137) (by decide) (by decide) (w := (1 : Int32)) rfl ⟨⟨_, rfl, ⟨_, rfl, by have hc_ : (1 : Int32).toInt = 1 := rfl; omega⟩⟩, rfl, e0⟩
            · replace h45 : ¬ (p1.toInt = 33) := h45
              refine own_iload_n X0 hx (hb hby d1_48) rfl (q := 49) rfl ?_
              refine own_bipush X0 hx (hb hby d1_49) (v := (35 : Int32)) rfl (q := 51) rfl ?_
              refine own_icmp X0 hx (hb hby d1_51) (by decide) (q := 132) rfl (q' := 54) rfl (own_h_eq _ _) (fun h51 => ?_) (fun h51 => ?_)
              · replace h51 : p1.toInt = 35 := h51
                refine own_iconst X0 hx (hb hby d1_132) (v := (1 : Int32)) rfl (q := 133) rfl ?_
                refine own_goto X0 hx (hb hby d1_133) (by decide) (q := 137) rfl ?_
                exact own_retN X0 hx (t := .boolean) hret hlk (by simp) (hb hby d1_137) (by decide) (by decide) (w := (1 : Int32)) rfl ⟨⟨_, rfl, ⟨_, rfl, by have hc_ : (1 : Int32).toInt = 1 := rfl; omega⟩⟩, rfl, e0⟩
              · replace h51 : ¬ (p1.toInt = 35) := h51
                refine own_iload_n X0 hx (hb hby d1_54) rfl (q := 55) rfl ?_
                refine own_bipush X0 hx (hb hby d1_55) (v := (36 : Int32)) rfl (q := 57) rfl ?_
                refine own_icmp X0 hx (hb hby d1_57) (by decide) (q := 132) rfl (q' := 60) rfl (own_h_eq _ _) (fun h57 => ?_) (fun h57 => ?_)
                · replace h57 : p1.toInt = 36 := h57
                  refine own_iconst X0 hx (hb hby d1_132) (v := (1 : Int32)) rfl (q := 133) rfl ?_
                  refine own_goto X0 hx (hb hby d1_133) (by decide) (q := 137) rfl ?_
                  exact own_retN X0 hx (t := .boolean) hret hlk (by simp) (hb hby d1_137) (by decide) (by decide) (w := (1 : Int32)) rfl ⟨⟨_, rfl, ⟨_, rfl, by have hc_ : (1 : Int32).toInt = 1 := rfl; omega⟩⟩, rfl, e0⟩
                · replace h57 : ¬ (p1.toInt = 36) := h57
                  refine own_iload_n X0 hx (hb hby d1_60) rfl (q := 61) rfl ?_
                  refine own_bipush X0 hx (hb hby d1_61) (v := (37 : Int32)) rfl (q := 63) rfl ?_
                  refine own_icmp X0 hx (hb hby d1_63) (by decide) (q := 132) rfl (q' := 66) rfl (own_h_eq _ _) (fun h63 => ?_) (fun h63 => ?_)
                  · replace h63 : p1.toInt = 37 := h63
                    refine own_iconst X0 hx (hb hby d1_132) (v := (1 : Int32)) rfl (q := 133) rfl ?_
                    refine own_goto X0 hx (hb hby d1_133) (by decide) (q := 137) rfl ?_
                    exact own_retN X0 hx (t := .boolean) hret hlk (by simp) (hb hby d1_137) (by decide) (by decide) (w := (1 : Int32)) rfl ⟨⟨_, rfl, ⟨_, rfl, by have hc_ : (1 : Int32).toInt = 1 := rfl; omega⟩⟩, rfl, e0⟩
                  · replace h63 : ¬ (p1.toInt = 37) := h63
                    refine own_iload_n X0 hx (hb hby d1_66) rfl (q := 67) rfl ?_
                    refine own_bipush X0 hx (hb hby d1_67) (v := (38 : Int32)) rfl (q := 69) rfl ?_
                    refine own_icmp X0 hx (hb hby d1_69) (by decide) (q := 132) rfl (q' := 72) rfl (own_h_eq _ _) (fun h69 => ?_) (fun h69 => ?_)
                    · replace h69 : p1.toInt = 38 := h69
                      refine own_iconst X0 hx (hb hby d1_132) (v := (1 : Int32)) rfl (q := 133) rfl ?_
                      refine own_goto X0 hx (hb hby d1_133) (by decide) (q := 137) rfl ?_
                      exact own_retN X0 hx (t := .boolean) hret hlk (by simp) (hb hby d1_137) (by decide) (by decide) (w := (1 : Int32)) rfl ⟨⟨_, rfl, ⟨_, rfl, by have hc_ : (1 : Int32).toInt = 1 := rfl; omega⟩⟩, rfl, e0⟩
                    · replace h69 : ¬ (p1.toInt = 38) := h69
                      refine own_iload_n X0 hx (hb hby d1_72) rfl (q := 73) rfl ?_
                      refine own_bipush X0 hx (hb hby d1_73) (v := (39 : Int32)) rfl (q := 75) rfl ?_
                      refine own_icmp X0 hx (hb hby d1_75) (by decide) (q := 132) rfl (q' := 78) rfl (own_h_eq _ _) (fun h75 => ?_) (fun h75 => ?_)
                      · replace h75 : p1.toInt = 39 := h75
                        refine own_iconst X0 hx (hb hby d1_132) (v := (1 : Int32)) rfl (q := 133) rfl ?_
                        refine own_goto X0 hx (hb hby d1_133) (by decide) (q := 137) rfl ?_
                        exact own_retN X0 hx (t := .boolean) hret hlk (by simp) (hb hby d1_137) (by decide) (by decide) (w := (1 : Int32)) rfl ⟨⟨_, rfl, ⟨_, rfl, by have hc_ : (1 : Int32).toInt = 1 := rfl; omega⟩⟩, rfl, e0⟩
                      · replace h75 : ¬ (p1.toInt = 39) := h75
                        refine own_iload_n X0 hx (hb hby d1_78) rfl (q := 79) rfl ?_
                        refine own_bipush X0 hx (hb hby d1_79) (v := (42 : Int32)) rfl (q := 81) rfl ?_
                        refine own_icmp X0 hx (hb hby d1_81) (by decide) (q := 132) rfl (q' := 84) rfl (own_h_eq _ _) (fun h81 => ?_) (fun h81 => ?_)
                        · replace h81 : p1.toInt = 42 := h81
                          refine own_iconst X0 hx (hb hby d1_132) (v := (1 : Int32)) rfl (q := 133) rfl ?_
                          refine own_goto X0 hx (hb hby d1_133) (by decide) (q := 137) rfl ?_
                          exact own_retN X0 hx (t := .boolean) hret hlk (by simp) (hb hby d1_137) (by decide) (by decide) (w := (1 : Int32)) rfl ⟨⟨_, rfl, ⟨_, rfl, by have hc_ : (1 : Int32).toInt = 1 := rfl; omega⟩⟩, rfl, e0⟩
                        · replace h81 : ¬ (p1.toInt = 42) := h81
                          refine own_iload_n X0 hx (hb hby d1_84) rfl (q := 85) rfl ?_
                          refine own_bipush X0 hx (hb hby d1_85) (v := (43 : Int32)) rfl (q := 87) rfl ?_
                          refine own_icmp X0 hx (hb hby d1_87) (by decide) (q := 132) rfl (q' := 90) rfl (own_h_eq _ _) (fun h87 => ?_) (fun h87 => ?_)
                          · replace h87 : p1.toInt = 43 := h87
                            refine own_iconst X0 hx (hb hby d1_132) (v := (1 : Int32)) rfl (q := 133) rfl ?_
                            refine own_goto X0 hx (hb hby d1_133) (by decide) (q := 137) rfl ?_
                            exact own_retN X0 hx (t := .boolean) hret hlk (by simp) (hb hby d1_137) (by decide) (by decide) (w := (1 : Int32)) rfl ⟨⟨_, rfl, ⟨_, rfl, by have hc_ : (1 : Int32).toInt = 1 := rfl; omega⟩⟩, rfl, e0⟩
                          · replace h87 : ¬ (p1.toInt = 43) := h87
                            refine own_iload_n X0 hx (hb hby d1_90) rfl (q := 91) rfl ?_
                            refine own_bipush X0 hx (hb hby d1_91) (v := (45 : Int32)) rfl (q := 93) rfl ?_
                            refine own_icmp X0 hx (hb hby d1_93) (by decide) (q := 132) rfl (q' := 96) rfl (own_h_eq _ _) (fun h93 => ?_) (fun h93 => ?_)
                            · replace h93 : p1.toInt = 45 := h93
                              refine own_iconst X0 hx (hb hby d1_132) (v := (1 : Int32)) rfl (q := 133) rfl ?_
                              refine own_goto X0 hx (hb hby d1_133) (by decide) (q := 137) rfl ?_
                              exact own_retN X0 hx (t := .boolean) hret hlk (by simp) (hb hby d1_137) (by decide) (by decide) (w := (1 : Int32)) rfl ⟨⟨_, rfl, ⟨_, rfl, by have hc_ : (1 : Int32).toInt = 1 := rfl; omega⟩⟩, rfl, e0⟩
                            · replace h93 : ¬ (p1.toInt = 45) := h93
                              refine own_iload_n X0 hx (hb hby d1_96) rfl (q := 97) rfl ?_
                              refine own_bipush X0 hx (hb hby d1_97) (v := (46 : Int32)) rfl (q := 99) rfl ?_
                              refine own_icmp X0 hx (hb hby d1_99) (by decide) (q := 132) rfl (q' := 102) rfl (own_h_eq _ _) (fun h99 => ?_) (fun h99 => ?_)
                              · replace h99 : p1.toInt = 46 := h99
                                refine own_iconst X0 hx (hb hby d1_132) (v := (1 : Int32)) rfl (q := 133) rfl ?_
                                refine own_goto X0 hx (hb hby d1_133) (by decide) (q := 137) rfl ?_
                                exact own_retN X0 hx (t := .boolean) hret hlk (by simp) (hb hby d1_137) (by decide) (by decide) (w := (1 : Int32)) rfl ⟨⟨_, rfl, ⟨_, rfl, by have hc_ : (1 : Int32).toInt = 1 := rfl; omega⟩⟩, rfl, e0⟩
                              · replace h99 : ¬ (p1.toInt = 46) := h99
                                refine own_iload_n X0 hx (hb hby d1_102) rfl (q := 103) rfl ?_
                                refine own_bipush X0 hx (hb hby d1_103) (v := (94 : Int32)) rfl (q := 105) rfl ?_
                                refine own_icmp X0 hx (hb hby d1_105) (by decide) (q := 132) rfl (q' := 108) rfl (own_h_eq _ _) (fun h105 => ?_) (fun h105 => ?_)
                                · replace h105 : p1.toInt = 94 := h105
                                  refine own_iconst X0 hx (hb hby d1_132) (v := (1 : Int32)) rfl (q := 133) rfl ?_
                                  refine own_goto X0 hx (hb hby d1_133) (by decide) (q := 137) rfl ?_
                                  exact own_retN X0 hx (t := .boolean) hret hlk (by simp) (hb hby d1_137) (by decide) (by decide) (w := (1 : Int32)) rfl ⟨⟨_, rfl, ⟨_, rfl, by have hc_ : (1 : Int32).toInt = 1 := rfl; omega⟩⟩, rfl, e0⟩
                                · replace h105 : ¬ (p1.toInt = 94) := h105
                                  refine own_iload_n X0 hx (hb hby d1_108) rfl (q := 109) rfl ?_
                                  refine own_bipush X0 hx (hb hby d1_109) (v := (95 : Int32)) rfl (q := 111) rfl ?_
                                  refine own_icmp X0 hx (hb hby d1_111) (by decide) (q := 132) rfl (q' := 114) rfl (own_h_eq _ _) (fun h111 => ?_) (fun h111 => ?_)
                                  · replace h111 : p1.toInt = 95 := h111
                                    refine own_iconst X0 hx (hb hby d1_132) (v := (1 : Int32)) rfl (q := 133) rfl ?_
                                    refine own_goto X0 hx (hb hby d1_133) (by decide) (q := 137) rfl ?_
                                    exact own_retN X0 hx (t := .boolean) hret hlk (by simp) (hb hby d1_137) (by decide) (by decide) (w := (1 : Int32)) rfl ⟨⟨_, rfl, ⟨_, rfl, by have hc_ : (1 : Int32).toInt = 1 := rfl; omega⟩⟩, rfl, e0⟩
                                  · replace h111 : ¬ (p1.toInt = 95) := h111
                                    refine own_iload_n X0 hx (hb hby d1_114) rfl (q := 115) rfl ?_
                                    refine own_bipush X0 hx (hb hby d1_115) (v := (96 : Int32)) rfl (q := 117) rfl ?_
                                    refine own_icmp X0 hx (hb hby d1_117) (by decide) (q := 132) rfl (q' := 120) rfl (own_h_eq _ _) (fun h117 => ?_) (fun h117 => ?_)
                                    · replace h117 : p1.toInt = 96 := h117
                                      refine own_iconst X0 hx (hb hby d1_132) (v := (1 : Int32)) rfl (q := 133) rfl ?_
                                      refine own_goto X0 hx (hb hby d1_133) (by decide) (q := 137) rfl ?_
                                      exact own_retN X0 hx (t := .boolean) hret hlk (by simp) (hb hby d1_137) (by decide) (by decide) (w := (1 : Int32)) rfl ⟨⟨_, rfl, ⟨_, rfl, by have hc_ : (1 : Int32).toInt = 1 := rfl; omega⟩⟩, rfl, e0⟩
                                    · replace h117 : ¬ (p1.toInt = 96) := h117
                                      refine own_iload_n X0 hx (hb hby d1_120) rfl (q := 121) rfl ?_
                                      refine own_bipush X0 hx (hb hby d1_121) (v := (124 : Int32)) rfl (q := 123) rfl ?_
                                      refine own_icmp X0 hx (hb hby d1_123) (by decide) (q := 132) rfl (q' := 126) rfl (own_h_eq _ _) (fun h123 => ?_) (fun h123 => ?_)
                                      · replace h123 : p1.toInt = 124 := h123
                                        refine own_iconst X0 hx (hb hby d1_132) (v := (1 : Int32)) rfl (q := 133) rfl ?_
                                        refine own_goto X0 hx (hb hby d1_133) (by decide) (q := 137) rfl ?_
                                        exact own_retN X0 hx (t := .boolean) hret hlk (by simp) (hb hby d1_137) (by decide) (by decide) (w := (1 : Int32)) rfl ⟨⟨_, rfl, ⟨_, rfl, by have hc_ : (1 : Int32).toInt = 1 := rfl; omega⟩⟩, rfl, e0⟩
                                      · replace h123 : ¬ (p1.toInt = 124) := h123
                                        refine own_iload_n X0 hx (hb hby d1_126) rfl (q := 127) rfl ?_
                                        refine own_bipush X0 hx (hb hby d1_127) (v := (126 : Int32)) rfl (q := 129) rfl ?_
                                        refine own_icmp X0 hx (hb hby d1_129) (by decide) (q := 136) rfl (q' := 132) rfl (own_h_ne _ _) (fun h129 => ?_) (fun h129 => ?_)
                                        · replace h129 : p1.toInt ≠ 126 := h129
                                          refine own_iconst X0 hx (hb hby d1_136) (v := (0 : Int32)) rfl (q := 137) rfl ?_
                                          exact own_retN X0 hx (t := .boolean) hret hlk (by simp) (hb hby d1_137) (by decide) (by decide) (w := (0 : Int32)) rfl ⟨⟨_, rfl, ⟨_, rfl, by have hc_ : (0 : Int32).toInt = 0 := rfl; omega⟩⟩, rfl, e0⟩
                                        · replace h129 : ¬ (p1.toInt ≠ 126) := h129
                                          refine own_iconst X0 hx (hb hby d1_132) (v := (1 : Int32)) rfl (q := 133) rfl ?_
                                          refine own_goto X0 hx (hb hby d1_133) (by decide) (q := 137) rfl ?_
                                          exact own_retN X0 hx (t := .boolean) hret hlk (by simp) (hb hby d1_137) (by decide) (by decide) (w := (1 : Int32)) rfl ⟨⟨_, rfl, ⟨_, rfl, by have hc_ : (1 : Int32).toInt = 1 := rfl; omega⟩⟩, rfl, e0⟩
          · replace h31 : ¬ (p1.toInt < 97) := h31
            refine own_iload_n X0 hx (hb hby d1_34) rfl (q := 35) rfl ?_
            refine own_bipush X0 hx (hb hby d1_35) (v := (122 : Int32)) rfl (q := 37) rfl ?_
            refine own_icmp X0 hx (hb hby d1_37) (by decide) (q := 42) rfl (q' := 40) rfl (own_h_gt _ _) (fun h37 => ?_) (fun h37 => ?_)
            · replace h37 : 122 < p1.toInt := h37
              refine own_iload_n X0 hx (hb hby d1_42) rfl (q := 43) rfl ?_
              refine own_bipush X0 hx (hb hby d1_43) (v := (33 : Int32)) rfl (q := 45) rfl ?_
              refine own_icmp X0 hx (hb hby d1_45) (by decide) (q := 132) rfl (q' := 48) rfl (own_h_eq _ _) (fun h45 => ?_) (fun h45 => ?_)
              · replace h45 : p1.toInt = 33 := h45
                refine own_iconst X0 hx (hb hby d1_132) (v := (1 : Int32)) rfl (q := 133) rfl ?_
                refine own_goto X0 hx (hb hby d1_133) (by decide) (q := 137) rfl ?_
                exact own_retN X0 hx (t := .boolean) hret hlk (by simp) (hb hby d1_137) (by decide) (by decide) (w := (1 : Int32)) rfl ⟨⟨_, rfl, ⟨_, rfl, by have hc_ : (1 : Int32).toInt = 1 := rfl; omega⟩⟩, rfl, e0⟩
              · replace h45 : ¬ (p1.toInt = 33) := h45
                refine own_iload_n X0 hx (hb hby d1_48) rfl (q := 49) rfl ?_
                refine own_bipush X0 hx (hb hby d1_49) (v := (35 : Int32)) rfl (q := 51) rfl ?_
                refine own_icmp X0 hx (hb hby d1_51) (by decide) (q := 132) rfl (q' := 54) rfl (own_h_eq _ _) (fun h51 => ?_) (fun h51 => ?_)
                · replace h51 : p1.toInt = 35 := h51
                  refine own_iconst X0 hx (hb hby d1_132) (v := (1 : Int32)) rfl (q := 133) rfl ?_
                  refine own_goto X0 hx (hb hby d1_133) (by decide) (q := 137) rfl ?_
                  exact own_retN X0 hx (t := .boolean) hret hlk (by simp) (hb hby d1_137) (by decide) (by decide) (w := (1 : Int32)) rfl ⟨⟨_, rfl, ⟨_, rfl, by have hc_ : (1 : Int32).toInt = 1 := rfl; omega⟩⟩, rfl, e0⟩
                · replace h51 : ¬ (p1.toInt = 35) := h51
                  refine own_iload_n X0 hx (hb hby d1_54) rfl (q := 55) rfl ?_
                  refine own_bipush X0 hx (hb hby d1_55) (v := (36 : Int32)) rfl (q := 57) rfl ?_
                  refine own_icmp X0 hx (hb hby d1_57) (by decide) (q := 132) rfl (q' := 60) rfl (own_h_eq _ _) (fun h57 => ?_) (fun h57 => ?_)
                  · replace h57 : p1.toInt = 36 := h57
                    refine own_iconst X0 hx (hb hby d1_132) (v := (1 : Int32)) rfl (q := 133) rfl ?_
                    refine own_goto X0 hx (hb hby d1_133) (by decide) (q := 137) rfl ?_
                    exact own_retN X0 hx (t := .boolean) hret hlk (by simp) (hb hby d1_137) (by decide) (by decide) (w := (1 : Int32)) rfl ⟨⟨_, rfl, ⟨_, rfl, by have hc_ : (1 : Int32).toInt = 1 := rfl; omega⟩⟩, rfl, e0⟩
                  · replace h57 : ¬ (p1.toInt = 36) := h57
                    refine own_iload_n X0 hx (hb hby d1_60) rfl (q := 61) rfl ?_
                    refine own_bipush X0 hx (hb hby d1_61) (v := (37 : Int32)) rfl (q := 63) rfl ?_
                    refine own_icmp X0 hx (hb hby d1_63) (by decide) (q := 132) rfl (q' := 66) rfl (own_h_eq _ _) (fun h63 => ?_) (fun h63 => ?_)
                    · replace h63 : p1.toInt = 37 := h63
                      refine own_iconst X0 hx (hb hby d1_132) (v := (1 : Int32)) rfl (q := 133) rfl ?_
                      refine own_goto X0 hx (hb hby d1_133) (by decide) (q := 137) rfl ?_
                      exact own_retN X0 hx (t := .boolean) hret hlk (by simp) (hb hby d1_137) (by decide) (by decide) (w := (1 : Int32)) rfl ⟨⟨_, rfl, ⟨_, rfl, by have hc_ : (1 : Int32).toInt = 1 := rfl; omega⟩⟩, rfl, e0⟩
                    · replace h63 : ¬ (p1.toInt = 37) := h63
                      refine own_iload_n X0 hx (hb hby d1_66) rfl (q := 67) rfl ?_
                      refine own_bipush X0 hx (hb hby d1_67) (v := (38 : Int32)) rfl (q := 69) rfl ?_
                      refine own_icmp X0 hx (hb hby d1_69) (by decide) (q := 132) rfl (q' := 72) rfl (own_h_eq _ _) (fun h69 => ?_) (fun h69 => ?_)
                      · replace h69 : p1.toInt = 38 := h69
                        refine own_iconst X0 hx (hb hby d1_132) (v := (1 : Int32)) rfl (q := 133) rfl ?_
                        refine own_goto X0 hx (hb hby d1_133) (by decide) (q := 137) rfl ?_
                        exact own_retN X0 hx (t := .boolean) hret hlk (by simp) (hb hby d1_137) (by decide) (by decide) (w := (1 : Int32)) rfl ⟨⟨_, rfl, ⟨_, rfl, by have hc_ : (1 : Int32).toInt = 1 := rfl; omega⟩⟩, rfl, e0⟩
                      · replace h69 : ¬ (p1.toInt = 38) := h69
                        refine own_iload_n X0 hx (hb hby d1_72) rfl (q := 73) rfl ?_
                        refine own_bipush X0 hx (hb hby d1_73) (v := (39 : Int32)) rfl (q := 75) rfl ?_
                        refine own_icmp X0 hx (hb hby d1_75) (by decide) (q := 132) rfl (q' := 78) rfl (own_h_eq _ _) (fun h75 => ?_) (fun h75 => ?_)
                        · replace h75 : p1.toInt = 39 := h75
                          refine own_iconst X0 hx (hb hby d1_132) (v := (1 : Int32)) rfl (q := 133) rfl ?_
                          refine own_goto X0 hx (hb hby d1_133) (by decide) (q := 137) rfl ?_
                          exact own_retN X0 hx (t := .boolean) hret hlk (by simp) (hb hby d1_137) (by decide) (by decide) (w := (1 : Int32)) rfl ⟨⟨_, rfl, ⟨_, rfl, by have hc_ : (1 : Int32).toInt = 1 := rfl; omega⟩⟩, rfl, e0⟩
                        · replace h75 : ¬ (p1.toInt = 39) := h75
                          refine own_iload_n X0 hx (hb hby d1_78) rfl (q := 79) rfl ?_
                          refine own_bipush X0 hx (hb hby d1_79) (v := (42 : Int32)) rfl (q := 81) rfl ?_
                          refine own_icmp X0 hx (hb hby d1_81) (by decide) (q := 132) rfl (q' := 84) rfl (own_h_eq _ _) (fun h81 => ?_) (fun h81 => ?_)
                          · replace h81 : p1.toInt = 42 := h81
                            refine own_iconst X0 hx (hb hby d1_132) (v := (1 : Int32)) rfl (q := 133) rfl ?_
                            refine own_goto X0 hx (hb hby d1_133) (by decide) (q := 137) rfl ?_
                            exact own_retN X0 hx (t := .boolean) hret hlk (by simp) (hb hby d1_137) (by decide) (by decide) (w := (1 : Int32)) rfl ⟨⟨_, rfl, ⟨_, rfl, by have hc_ : (1 : Int32).toInt = 1 := rfl; omega⟩⟩, rfl, e0⟩
                          · replace h81 : ¬ (p1.toInt = 42) := h81
                            refine own_iload_n X0 hx (hb hby d1_84) rfl (q := 85) rfl ?_
                            refine own_bipush X0 hx (hb hby d1_85) (v := (43 : Int32)) rfl (q := 87) rfl ?_
                            refine own_icmp X0 hx (hb hby d1_87) (by decide) (q := 132) rfl (q' := 90) rfl (own_h_eq _ _) (fun h87 => ?_) (fun h87 => ?_)
                            · replace h87 : p1.toInt = 43 := h87
                              refine own_iconst X0 hx (hb hby d1_132) (v := (1 : Int32)) rfl (q := 133) rfl ?_
                              refine own_goto X0 hx (hb hby d1_133) (by decide) (q := 137) rfl ?_
                              exact own_retN X0 hx (t := .boolean) hret hlk (by simp) (hb hby d1_137) (by decide) (by decide) (w := (1 : Int32)) rfl ⟨⟨_, rfl, ⟨_, rfl, by have hc_ : (1 : Int32).toInt = 1 := rfl; omega⟩⟩, rfl, e0⟩
                            · replace h87 : ¬ (p1.toInt = 43) := h87
                              refine own_iload_n X0 hx (hb hby d1_90) rfl (q := 91) rfl ?_
                              refine own_bipush X0 hx (hb hby d1_91) (v := (45 : Int32)) rfl (q := 93) rfl ?_
                              refine own_icmp X0 hx (hb hby d1_93) (by decide) (q := 132) rfl (q' := 96) rfl (own_h_eq _ _) (fun h93 => ?_) (fun h93 => ?_)
                              · replace h93 : p1.toInt = 45 := h93
                                refine own_iconst X0 hx (hb hby d1_132) (v := (1 : Int32)) rfl (q := 133) rfl ?_
                                refine own_goto X0 hx (hb hby d1_133) (by decide) (q := 137) rfl ?_
                                exact own_retN X0 hx (t := .boolean) hret hlk (by simp) (hb hby d1_137) (by decide) (by decide) (w := (1 : Int32)) rfl ⟨⟨_, rfl, ⟨_, rfl, by have hc_ : (1 : Int32).toInt = 1 := rfl; omega⟩⟩, rfl, e0⟩
                              · replace h93 : ¬ (p1.toInt = 45) := h93
                                refine own_iload_n X0 hx (hb hby d1_96) rfl (q := 97) rfl ?_
                                refine own_bipush X0 hx (hb hby d1_97) (v := (46 : Int32)) rfl (q := 99) rfl ?_
                                refine own_icmp X0 hx (hb hby d1_99) (by decide) (q := 132) rfl (q' := 102) rfl (own_h_eq _ _) (fun h99 => ?_) (fun h99 => ?_)
                                · replace h99 : p1.toInt = 46 := h99
                                  refine own_iconst X0 hx (hb hby d1_132) (v := (1 : Int32)) rfl (q := 133) rfl ?_
                                  refine own_goto X0 hx (hb hby d1_133) (by decide) (q := 137) rfl ?_
                                  exact own_retN X0 hx (t := .boolean) hret hlk (by simp) (hb hby d1_137) (by decide) (by decide) (w := (1 : Int32)) rfl ⟨⟨_, rfl, ⟨_, rfl, by have hc_ : (1 : Int32).toInt = 1 := rfl; omega⟩⟩, rfl, e0⟩
                                · replace h99 : ¬ (p1.toInt = 46) := h99
                                  refine own_iload_n X0 hx (hb hby d1_102) rfl (q := 103) rfl ?_
                                  refine own_bipush X0 hx (hb hby d1_103) (v := (94 : Int32)) rfl (q := 105) rfl ?_
                                  refine own_icmp X0 hx (hb hby d1_105) (by decide) (q := 132) rfl (q' := 108) rfl (own_h_eq _ _) (fun h105 => ?_) (fun h105 => ?_)
                                  · replace h105 : p1.toInt = 94 := h105
                                    refine own_iconst X0 hx (hb hby d1_132) (v := (1 : Int32)) rfl (q := 133) rfl ?_
                                    refine own_goto X0 hx (hb hby d1_133) (by decide) (q := 137) rfl ?_
                                    exact own_retN X0 hx (t := .boolean) hret hlk (by simp) (hb hby d1_137) (by decide) (by decide) (w := (1 : Int32)) rfl ⟨⟨_, rfl, ⟨_, rfl, by have hc_ : (1 : Int32).toInt = 1 := rfl; omega⟩⟩, rfl, e0⟩
                                  · replace h105 : ¬ (p1.toInt = 94) := h105
                                    refine own_iload_n X0 hx (hb hby d1_108) rfl (q := 109) rfl ?_
                                    refine own_bipush X0 hx (hb hby d1_109) (v := (95 : Int32)) rfl (q := 111) rfl ?_
                                    refine own_icmp X0 hx (hb hby d1_111) (by decide) (q := 132) rfl (q' := 114) rfl (own_h_eq _ _) (fun h111 => ?_) (fun h111 => ?_)
                                    · replace h111 : p1.toInt = 95 := h111
                                      refine own_iconst X0 hx (hb hby d1_132) (v := (1 : Int32)) rfl (q := 133) rfl ?_
                                      refine own_goto X0 hx (hb hby d1_133) (by decide) (q := 137) rfl ?_
                                      exact own_retN X0 hx (t := .boolean) hret hlk (by simp) (hb hby d1_137) (by decide) (by decide) (w := (1 : Int32)) rfl ⟨⟨_, rfl, ⟨_, rfl, by have hc_ : (1 : Int32).toInt = 1 := rfl; omega⟩⟩, rfl, e0⟩
                                    · replace h111 : ¬ (p1.toInt = 95) := h111
                                      refine own_iload_n X0 hx (hb hby d1_114) rfl (q := 115) rfl ?_
                                      refine own_bipush X0 hx (hb hby d1_115) (v := (96 : Int32)) rfl (q := 117) rfl ?_
                                      refine own_icmp X0 hx (hb hby d1_117) (by decide) (q := 132) rfl (q' := 120) rfl (own_h_eq _ _) (fun h117 => ?_) (fun h117 => ?_)
                                      · replace h117 : p1.toInt = 96 := h117
                                        refine own_iconst X0 hx (hb hby d1_132) (v := (1 : Int32)) rfl (q := 133) rfl ?_
                                        refine own_goto X0 hx (hb hby d1_133) (by decide) (q := 137) rfl ?_
                                        exact own_retN X0 hx (t := .boolean) hret hlk (by simp) (hb hby d1_137) (by decide) (by decide) (w := (1 : Int32)) rfl ⟨⟨_, rfl, ⟨_, rfl, by have hc_ : (1 : Int32).toInt = 1 := rfl; omega⟩⟩, rfl, e0⟩
                                      · replace h117 : ¬ (p1.toInt = 96) := h117
                                        refine own_iload_n X0 hx (hb hby d1_120) rfl (q := 121) rfl ?_
                                        refine own_bipush X0 hx (hb hby d1_121) (v := (124 : Int32)) rfl (q := 123) rfl ?_
                                        refine own_icmp X0 hx (hb hby d1_123) (by decide) (q := 132) rfl (q' := 126) rfl (own_h_eq _ _) (fun h123 => ?_) (fun h123 => ?_)
                                        · replace h123 : p1.toInt = 124 := h123
                                          refine own_iconst X0 hx (hb hby d1_132) (v := (1 : Int32)) rfl (q := 133) rfl ?_
                                          refine own_goto X0 hx (hb hby d1_133) (by decide) (q := 137) rfl ?_
                                          exact own_retN X0 hx (t := .boolean) hret hlk (by simp) (hb hby d1_137) (by decide) (by decide) (w := (1 : Int32)) rfl ⟨⟨_, rfl, ⟨_, rfl, by have hc_ : (1 : Int32).toInt = 1 := rfl; omega⟩⟩, rfl, e0⟩
                                        · replace h123 : ¬ (p1.toInt = 124) := h123
                                          refine own_iload_n X0 hx (hb hby d1_126) rfl (q := 127) rfl ?_
                                          refine own_bipush X0 hx (hb hby d1_127) (v := (126 : Int32)) rfl (q := 129) rfl ?_
                                          refine own_icmp X0 hx (hb hby d1_129) (by decide) (q := 136) rfl (q' := 132) rfl (own_h_ne _ _) (fun h129 => ?_) (fun h129 => ?_)
                                          · replace h129 : p1.toInt ≠ 126 := h129
                                            refine own_iconst X0 hx (hb hby d1_136) (v := (0 : Int32)) rfl (q := 137) rfl ?_
                                            exact own_retN X0 hx (t := .boolean) hret hlk (by simp) (hb hby d1_137) (by decide) (by decide) (w := (0 : Int32)) rfl ⟨⟨_, rfl, ⟨_, rfl, by have hc_ : (0 : Int32).toInt = 0 := rfl; omega⟩⟩, rfl, e0⟩
                                          · replace h129 : ¬ (p1.toInt ≠ 126) := h129
                                            refine own_iconst X0 hx (hb hby d1_132) (v := (1 : Int32)) rfl (q := 133) rfl ?_
                                            refine own_goto X0 hx (hb hby d1_133) (by decide) (q := 137) rfl ?_
                                            exact own_retN X0 hx (t := .boolean) hret hlk (by simp) (hb hby d1_137) (by decide) (by decide) (w := (1 : Int32)) rfl ⟨⟨_, rfl, ⟨_, rfl, by have hc_ : (1 : Int32).toInt = 1 := rfl; omega⟩⟩, rfl, e0⟩
            · replace h37 : ¬ (122 < p1.toInt) := h37
              refine own_iconst X0 hx (hb hby d1_40) (v := (1 : Int32)) rfl (q := 41) rfl ?_
              exact own_retN X0 hx (t := .boolean) hret hlk (by simp) (hb hby d1_41) (by decide) (by decide) (w := (1 : Int32)) rfl ⟨⟨_, rfl, ⟨_, rfl, by have hc_ : (1 : Int32).toInt = 1 := rfl; omega⟩⟩, rfl, e0⟩
        · replace h23 : ¬ (90 < p1.toInt) := h23
          refine own_iconst X0 hx (hb hby d1_26) (v := (1 : Int32)) rfl (q := 27) rfl ?_
          exact own_retN X0 hx (t := .boolean) hret hlk (by simp) (hb hby d1_27) (by decide) (by decide) (w := (1 : Int32)) rfl ⟨⟨_, rfl, ⟨_, rfl, by have hc_ : (1 : Int32).toInt = 1 := rfl; omega⟩⟩, rfl, e0⟩
    · replace h9 : ¬ (57 < p1.toInt) := h9
      refine own_iconst X0 hx (hb hby d1_12) (v := (1 : Int32)) rfl (q := 13) rfl ?_
      exact own_retN X0 hx (t := .boolean) hret hlk (by simp) (hb hby d1_13) (by decide) (by decide) (w := (1 : Int32)) rfl ⟨⟨_, rfl, ⟨_, rfl, by have hc_ : (1 : Int32).toInt = 1 := rfl; omega⟩⟩, rfl, e0⟩
theorem d2_0 : decode prog_35_method_32_code 0 = .ok (.iload_n 0, 1) := by decide +kernel
theorem d2_1 : decode prog_35_method_32_code 1 = .ok (.ifCond .le 15, 3) := by decide +kernel
theorem d2_4 : decode prog_35_method_32_code 4 = .ok (.getstatic 323, 3) := by decide +kernel
theorem d2_7 : decode prog_35_method_32_code 7 = .ok (.iload_n 0, 1) := by decide +kernel
theorem d2_8 : decode prog_35_method_32_code 8 = .ok (.baload, 1) := by decide +kernel
theorem d2_9 : decode prog_35_method_32_code 9 = .ok (.ifCond .eq 7, 3) := by decide +kernel
theorem d2_12 : decode prog_35_method_32_code 12 = .ok (.iconst 1, 1) := by decide +kernel
theorem d2_13 : decode prog_35_method_32_code 13 = .ok (.goto 4, 3) := by decide +kernel
theorem d2_16 : decode prog_35_method_32_code 16 = .ok (.iconst 0, 1) := by decide +kernel
theorem d2_17 : decode prog_35_method_32_code 17 = .ok (.ireturn, 1) := by decide +kernel
theorem own_pn2 : plainName "com/example/treaty2/treaty2/io/datapath/HttpHead" = true := by first | (simp [plainName, overriddenIn]; done) | decide +kernel
theorem own_ef2 (m : MethodId) (p1 : Int32) : entryFrame m #[(.int p1)] 1 = mkF m 0 #[.val (.int p1)] [] := by first | (simp [entryFrame, mkF, argsToLocals, Value.category, maxLocals]; done) | rfl
set_option maxRecDepth 65536 in
set_option maxHeartbeats 40000000 in
theorem own_rm2 (l : Launch) (Z : State) (a0 : Array Value) (hw : ∀ d ∈ tables_1, d.before a0 Z = true) (ws : List Jvm.Cond) (p1 : Int32) (aT : Addr) (f : Nat → Int32) (h0 : Heap) (ST : Sta Z h0 "com/example/treaty2/treaty2/io/datapath/HttpHead" "TOKEN_BYTES" "[Z" (.ref aT)) (AT : own_Arr Z h0 aT .boolean 128 (fun i => .int (f i))) (hT : ∀ i : Nat, i < 128 → ((((i = 33 ∨ (35 ≤ i ∧ i ≤ 39) ∨ i = 42 ∨ i = 43 ∨ i = 45 ∨ i = 46 ∨ (48 ≤ i ∧ i ≤ 57) ∨ (65 ≤ i ∧ i ≤ 90) ∨ (94 ≤ i ∧ i ≤ 122) ∨ i = 124 ∨ i = 126)) ∧ (f i).toInt = 1) ∨ (¬ ((i = 33 ∨ (35 ≤ i ∧ i ≤ 39) ∨ i = 42 ∨ i = 43 ∨ i = 45 ∨ i = 46 ∨ (48 ≤ i ∧ i ≤ 57) ∨ (65 ≤ i ∧ i ≤ 90) ∨ (94 ≤ i ∧ i ≤ 122) ∨ i = 124 ∨ i = 126)) ∧ (f i).toInt = 0))) (hb1 : -128 ≤ p1.toInt) (hb2 : p1.toInt < 128) :
    MetFree l (⟨"com/example/treaty2/treaty2/io/datapath/HttpHead", "isTokenByte", "(B)Z"⟩ : MethodName) (head1 (Jvm.Cond.code (⟨"com/example/treaty2/treaty2/io/datapath/HttpHead", "isTokenByte", "(B)Z"⟩ : MethodName) prog_35_method_32_code 1 (some .boolean) :: ws) ({ frames := 0, cells := 0, slots := 0, locals := 0 } : Room)) (fun a U => a = #[(.int p1)] ∧ Z.Warmed39 U.vm ∧ U.heap = h0) (fun _ _ _ _ _ => True) (fun _ U o U' => ∃ v L, o = .returned v ∧ (fun v h L => (∃ w, v = some w ∧ (fun w => ∃ z : Int32, w = .int z ∧ (((0 < p1.toInt ∧ (p1.toInt = 33 ∨ (35 ≤ p1.toInt ∧ p1.toInt ≤ 39) ∨ p1.toInt = 42 ∨ p1.toInt = 43 ∨ p1.toInt = 45 ∨ p1.toInt = 46 ∨ (48 ≤ p1.toInt ∧ p1.toInt ≤ 57) ∨ (65 ≤ p1.toInt ∧ p1.toInt ≤ 90) ∨ (94 ≤ p1.toInt ∧ p1.toInt ≤ 122) ∨ p1.toInt = 124 ∨ p1.toInt = 126)) ∧ z.toInt = 1) ∨ (¬ (0 < p1.toInt ∧ (p1.toInt = 33 ∨ (35 ≤ p1.toInt ∧ p1.toInt ≤ 39) ∨ p1.toInt = 42 ∨ p1.toInt = 43 ∨ p1.toInt = 45 ∨ p1.toInt = 46 ∨ (48 ≤ p1.toInt ∧ p1.toInt ≤ 57) ∨ (65 ≤ p1.toInt ∧ p1.toInt ≤ 90) ∨ (94 ≤ p1.toInt ∧ p1.toInt ≤ 122) ∨ p1.toInt = 124 ∨ p1.toInt = 126)) ∧ z.toInt = 0))) w) ∧ L = [] ∧ h = h0) v U'.heap L ∧ FrameEnd U o U' L ({ frames := 0, cells := 0, slots := 0, locals := 0 } : Room).cells ({ frames := 0, cells := 0, slots := 0, locals := 0 } : Room).slots) := by
  refine own_body (y := (⟨"com/example/treaty2/treaty2/io/datapath/HttpHead", "isTokenByte", "(B)Z"⟩ : MethodName)) (Q := fun v h L => (∃ w, v = some w ∧ (fun w => ∃ z : Int32, w = .int z ∧ (((0 < p1.toInt ∧ (p1.toInt = 33 ∨ (35 ≤ p1.toInt ∧ p1.toInt ≤ 39) ∨ p1.toInt = 42 ∨ p1.toInt = 43 ∨ p1.toInt = 45 ∨ p1.toInt = 46 ∨ (48 ≤ p1.toInt ∧ p1.toInt ≤ 57) ∨ (65 ≤ p1.toInt ∧ p1.toInt ≤ 90) ∨ (94 ≤ p1.toInt ∧ p1.toInt ≤ 122) ∨ p1.toInt = 124 ∨ p1.toInt = 126)) ∧ z.toInt = 1) ∨ (¬ (0 < p1.toInt ∧ (p1.toInt = 33 ∨ (35 ≤ p1.toInt ∧ p1.toInt ≤ 39) ∨ p1.toInt = 42 ∨ p1.toInt = 43 ∨ p1.toInt = 45 ∨ p1.toInt = 46 ∨ (48 ≤ p1.toInt ∧ p1.toInt ≤ 57) ∨ (65 ≤ p1.toInt ∧ p1.toInt ≤ 90) ∨ (94 ≤ p1.toInt ∧ p1.toInt ≤ 122) ∨ p1.toInt = 124 ∨ p1.toInt = 126)) ∧ z.toInt = 0))) w) ∧ L = [] ∧ h = h0) (rm := ({ frames := 0, cells := 0, slots := 0, locals := 0 } : Room)) (as' := #[(.int p1)]) (h0 := h0) (Z := Z) own_pn2 ?_
  intro p e s m below meth c s₁ hx hby hml hown hnm hret hlk hZ X0 e0
  have hown : s.vm.findClass "com/example/treaty2/treaty2/io/datapath/HttpHead" = some m.cls := hown
  rw [own_ef2]
  refine own_iload_n X0 hx (hb hby d2_0) rfl (q := 1) rfl ?_
  refine own_if X0 hx (hb hby d2_1) (by decide) (q := 16) rfl (q' := 4) rfl (own_z_le _) (fun h1 => ?_) (fun h1 => ?_)
  · replace h1 : p1.toInt ≤ 0 := h1
    refine own_iconst X0 hx (hb hby d2_16) (v := (0 : Int32)) rfl (q := 17) rfl ?_
    exact own_retN X0 hx (t := .boolean) hret hlk (by simp) (hb hby d2_17) (by decide) (by decide) (w := (0 : Int32)) rfl ⟨⟨_, rfl, ⟨_, rfl, by have hc_ : (0 : Int32).toInt = 0 := rfl; omega⟩⟩, rfl, e0⟩
  · replace h1 : ¬ (p1.toInt ≤ 0) := h1
    refine own_getS X0 hx hZ hown (hw _ (List.mem_of_getElem? (i := 8) rfl)) e0 ST (hb hby d2_4) (q := 7) rfl ?_
    intro T1 X1 e1
    refine own_iload_n X1 hx (hb hby d2_7) rfl (q := 8) rfl ?_
    obtain ⟨n, hn⟩ : ∃ n : Nat, p1.toInt = (n : Int) := ⟨p1.toInt.toNat, by omega⟩
    have hTn := hT n (by omega)
    refine own_zaload X1 hx hZ e1 AT (hb hby d2_8) (i := n) hn (by omega) (v := .int (f n)) rfl (q := 9) rfl ?_
    refine own_if X1 hx (hb hby d2_9) (by decide) (q := 16) rfl (q' := 12) rfl (own_z_eq _) (fun h9 => ?_) (fun h9 => ?_)
    · replace h9 : (f n).toInt = 0 := h9
      refine own_iconst X1 hx (hb hby d2_16) (v := (0 : Int32)) rfl (q := 17) rfl ?_
      exact own_retN X1 hx (t := .boolean) hret hlk (by simp) (hb hby d2_17) (by decide) (by decide) (w := (0 : Int32)) rfl ⟨⟨_, rfl, ⟨_, rfl, by have hc_ : (0 : Int32).toInt = 0 := rfl; omega⟩⟩, rfl, e1⟩
    · replace h9 : ¬ ((f n).toInt = 0) := h9
      refine own_iconst X1 hx (hb hby d2_12) (v := (1 : Int32)) rfl (q := 13) rfl ?_
      refine own_goto X1 hx (hb hby d2_13) (by decide) (q := 17) rfl ?_
      exact own_retN X1 hx (t := .boolean) hret hlk (by simp) (hb hby d2_17) (by decide) (by decide) (w := (1 : Int32)) rfl ⟨⟨_, rfl, ⟨_, rfl, by have hc_ : (1 : Int32).toInt = 1 := rfl; omega⟩⟩, rfl, e1⟩
theorem own_pn0 : plainName "com/example/treaty2/treaty2/io/datapath/HttpHeadIsTokenBytePinLaw" = true := by first | (simp [plainName, overriddenIn]; done) | decide +kernel
theorem own_ef0 (m : MethodId) (p1 : Int32) : entryFrame m #[(.int p1)] maxLocals = mkF m 0 #[.val (.int p1), .unset, .unset, .unset] [] := by first | (simp [entryFrame, mkF, argsToLocals, Value.category, maxLocals]; done) | rfl
set_option maxRecDepth 65536 in
set_option maxHeartbeats 40000000 in
theorem own_rm0 (l : Launch) (Z : State) (a0 : Array Value) (hw : ∀ d ∈ tables_1, d.before a0 Z = true) (ws : List Jvm.Cond) (p1 : Int32) (aT : Addr) (f : Nat → Int32) (h0 : Heap) (ST : Sta Z h0 "com/example/treaty2/treaty2/io/datapath/HttpHead" "TOKEN_BYTES" "[Z" (.ref aT)) (AT : own_Arr Z h0 aT .boolean 128 (fun i => .int (f i))) (hT : ∀ i : Nat, i < 128 → ((((i = 33 ∨ (35 ≤ i ∧ i ≤ 39) ∨ i = 42 ∨ i = 43 ∨ i = 45 ∨ i = 46 ∨ (48 ≤ i ∧ i ≤ 57) ∨ (65 ≤ i ∧ i ≤ 90) ∨ (94 ≤ i ∧ i ≤ 122) ∨ i = 124 ∨ i = 126)) ∧ (f i).toInt = 1) ∨ (¬ ((i = 33 ∨ (35 ≤ i ∧ i ≤ 39) ∨ i = 42 ∨ i = 43 ∨ i = 45 ∨ i = 46 ∨ (48 ≤ i ∧ i ≤ 57) ∨ (65 ≤ i ∧ i ≤ 90) ∨ (94 ≤ i ∧ i ≤ 122) ∨ i = 124 ∨ i = 126)) ∧ (f i).toInt = 0))) :
    MetFree l x (head1 (Jvm.Cond.code x code maxLocals ret :: ws) room_1) (fun a U => a = #[(.int p1)] ∧ Z.Warmed39 U.vm ∧ U.heap = h0) (fun _ _ _ _ _ => True) (fun _ U o U' => ∃ v L, o = .returned v ∧ (fun v h L => v = some (.int 1) ∧ Fr h0.size L) v U'.heap L ∧ FrameEnd U o U' L room_1.cells room_1.slots) := by
  refine own_body (y := x) (Q := fun v h L => v = some (.int 1) ∧ Fr h0.size L) (rm := room_1) (as' := #[(.int p1)]) (h0 := h0) (Z := Z) own_pn0 ?_
  intro p e s m below meth c s₁ hx hby hml hown hnm hret hlk hZ X0 e0
  have hown : s.vm.findClass "com/example/treaty2/treaty2/io/datapath/HttpHeadIsTokenBytePinLaw" = some m.cls := hown
  rw [own_ef0]
  refine own_iload_n X0 hx (hb hby at_0) rfl (q := 1) rfl ?_
  refine own_i2b X0 hx (hb hby at_1) (q := 2) rfl ?_
  refine own_istore_n X0 hx (hb hby at_2) (l' := #[.val (.int p1), .val (.int (p1.toInt8.toInt32)), .unset, .unset]) rfl (q := 3) rfl ?_
  refine own_iload_n X0 hx (hb hby at_3) rfl (q := 4) rfl ?_
  refine own_sipush X0 hx (hb hby at_4) (v := (255 : Int32)) rfl (q := 7) rfl ?_
  refine own_iand X0 hx (hb hby at_7) (q := 8) rfl ?_
  refine own_istore_n X0 hx (hb hby at_8) (l' := #[.val (.int p1), .val (.int (p1.toInt8.toInt32)), .val (.int ((p1.toInt8.toInt32) &&& (255 : Int32))), .unset]) rfl (q := 9) rfl ?_
  have f1 := c_i2b p1
  obtain ⟨b, hbb⟩ : ∃ z, z = (p1.toInt8.toInt32) := ⟨_, rfl⟩
  have f2 : ((p1.toInt8.toInt32) &&& (255 : Int32)).toInt = (p1.toInt8.toInt32).toInt % 256 := c_mask _ 255 8 (by decide) (by decide)
  rw [← hbb] at f1 f2 ⊢
  refine own_iload_n X0 hx (hb hby at_9) rfl (q := 10) rfl ?_
  refine own_sipush X0 hx (hb hby at_10) (v := (128 : Int32)) rfl (q := 13) rfl ?_
  have J28_1 : ∀ (T2 : State) (X2 : Stand p l e room_1 s m #[(.int p1)] below meth c T2 [] (0) (0)) (e2 : T2.heap = h0) (ex : Int32) (g28_0 : ((((b &&& (255 : Int32)).toInt < 128 ∧ ((b &&& (255 : Int32)).toInt = 33 ∨ (35 ≤ (b &&& (255 : Int32)).toInt ∧ (b &&& (255 : Int32)).toInt ≤ 39) ∨ (b &&& (255 : Int32)).toInt = 42 ∨ (b &&& (255 : Int32)).toInt = 43 ∨ (b &&& (255 : Int32)).toInt = 45 ∨ (b &&& (255 : Int32)).toInt = 46 ∨ (48 ≤ (b &&& (255 : Int32)).toInt ∧ (b &&& (255 : Int32)).toInt ≤ 57) ∨ (65 ≤ (b &&& (255 : Int32)).toInt ∧ (b &&& (255 : Int32)).toInt ≤ 90) ∨ (94 ≤ (b &&& (255 : Int32)).toInt ∧ (b &&& (255 : Int32)).toInt ≤ 122) ∨ (b &&& (255 : Int32)).toInt = 124 ∨ (b &&& (255 : Int32)).toInt = 126)) ∧ ex.toInt = 1) ∨ (¬ ((b &&& (255 : Int32)).toInt < 128 ∧ ((b &&& (255 : Int32)).toInt = 33 ∨ (35 ≤ (b &&& (255 : Int32)).toInt ∧ (b &&& (255 : Int32)).toInt ≤ 39) ∨ (b &&& (255 : Int32)).toInt = 42 ∨ (b &&& (255 : Int32)).toInt = 43 ∨ (b &&& (255 : Int32)).toInt = 45 ∨ (b &&& (255 : Int32)).toInt = 46 ∨ (48 ≤ (b &&& (255 : Int32)).toInt ∧ (b &&& (255 : Int32)).toInt ≤ 57) ∨ (65 ≤ (b &&& (255 : Int32)).toInt ∧ (b &&& (255 : Int32)).toInt ≤ 90) ∨ (94 ≤ (b &&& (255 : Int32)).toInt ∧ (b &&& (255 : Int32)).toInt ≤ 122) ∨ (b &&& (255 : Int32)).toInt = 124 ∨ (b &&& (255 : Int32)).toInt = 126)) ∧ ex.toInt = 0))), own_Go p e below s room_1.cells room_1.slots (fun v h L => v = some (.int 1) ∧ Fr h0.size L) (T2.setTop (mkF m 28 #[.val (.int p1), .val (.int b), .val (.int (b &&& (255 : Int32))), .unset] [(.int ex)])) := by
    intro T2 X2 e2 ex g28_0
    refine own_istore_n X2 hx (hb hby at_28) (l' := #[.val (.int p1), .val (.int b), .val (.int (b &&& (255 : Int32))), .val (.int ex)]) rfl (q := 29) rfl ?_
    refine own_iload_n X2 hx (hb hby at_29) rfl (q := 30) rfl ?_
    refine own_callSP X2 hx hZ hown (hw _ (List.mem_of_getElem? (i := 4) rfl)) (hw _ (List.mem_of_getElem? (i := 5) rfl)) (hw _ (List.mem_of_getElem? (i := 6) rfl)) (hw _ (List.mem_of_getElem? (i := 7) rfl)) (by decide) (own_rm2 l Z a0 hw [] b aT f h0 ST AT hT (by omega) (by omega)) (by decide) (by decide) e2 (by rw [hml]; rfl) (argsL := [(.int b)]) (rest := []) (lenOf own_pd0 rfl) rfl (W := 0) rfl (hb hby at_30) (q := 33) rfl rfl rfl rfl (by decide) (by decide) ?_
    rintro _ T3 ⟨z3, rfl, hz3⟩ X3 e3
    refine own_iload_n X3 hx (hb hby at_33) rfl (q := 34) rfl ?_
    refine own_icmp X3 hx (hb hby at_34) (by decide) (q := 41) rfl (q' := 37) rfl (own_h_ne _ _) (fun h34 => ?_) (fun h34 => ?_)
    · replace h34 : z3.toInt ≠ ex.toInt := h34
      exfalso; omega
    · replace h34 : ¬ (z3.toInt ≠ ex.toInt) := h34
      refine own_iconst X3 hx (hb hby at_37) (v := (1 : Int32)) rfl (q := 38) rfl ?_
      refine own_goto X3 hx (hb hby at_38) (by decide) (q := 42) rfl ?_
      exact own_retN X3 hx (t := .boolean) hret hlk (by simp) (hb hby at_42) (by decide) (by decide) (w := 1) rfl ⟨rfl, (Fr.nil _)⟩
  refine own_icmp X0 hx (hb hby at_13) (by decide) (q := 27) rfl (q' := 16) rfl (own_h_ge _ _) (fun h13 => ?_) (fun h13 => ?_)
  · replace h13 : 128 ≤ (b &&& (255 : Int32)).toInt := h13
    refine own_iconst X0 hx (hb hby at_27) (v := (0 : Int32)) rfl (q := 28) rfl ?_
    exact J28_1 s₁ X0 e0 (0 : Int32) (by have hc_0 : (0 : Int32).toInt = 0 := rfl; omega)
  · replace h13 : ¬ (128 ≤ (b &&& (255 : Int32)).toInt) := h13
    refine own_iload_n X0 hx (hb hby at_16) rfl (q := 17) rfl ?_
    refine own_callSP X0 hx hZ hown (hw _ (List.mem_of_getElem? (i := 0) rfl)) (hw _ (List.mem_of_getElem? (i := 1) rfl)) (hw _ (List.mem_of_getElem? (i := 2) rfl)) (hw _ (List.mem_of_getElem? (i := 3) rfl)) (by decide) (own_rm1 l Z a0 hw [] (b &&& (255 : Int32))  h0 ) (by decide) (by decide) e0 (by rw [hml]; rfl) (argsL := [(.int (b &&& (255 : Int32)))]) (rest := []) (lenOf own_pd1 rfl) rfl (W := 0) rfl (hb hby at_17) (q := 20) rfl rfl rfl rfl (by decide) (by decide) ?_
    rintro _ T4 ⟨z4, rfl, hz4⟩ X4 e4
    refine own_if X4 hx (hb hby at_20) (by decide) (q := 27) rfl (q' := 23) rfl (own_z_eq _) (fun h20 => ?_) (fun h20 => ?_)
    · replace h20 : z4.toInt = 0 := h20
      refine own_iconst X4 hx (hb hby at_27) (v := (0 : Int32)) rfl (q := 28) rfl ?_
      exact J28_1 T4 X4 e4 (0 : Int32) (by have hc_0 : (0 : Int32).toInt = 0 := rfl; omega)
    · replace h20 : ¬ (z4.toInt = 0) := h20
      refine own_iconst X4 hx (hb hby at_23) (v := (1 : Int32)) rfl (q := 24) rfl ?_
      refine own_goto X4 hx (hb hby at_24) (by decide) (q := 28) rfl ?_
      exact J28_1 T4 X4 e4 (1 : Int32) (by have hc_0 : (1 : Int32).toInt = 1 := rfl; omega)
set_option maxRecDepth 65536 in
set_option maxHeartbeats 40000000 in
theorem own_comes {Post : Tables → Env → Array Value → State → Outcome → State → Prop} (hpost : ∀ tb e args s v u, (limb_1_1.after args s (.returned v) u = true ∧ limb_1_2.after args s (.returned v) u = true ∧ True) → FrameEnd s (.returned v) u (Jvm.fieldLocs frame_1_writes args s ++ Jvm.arrayLocs frame_1_arrays args s ++ Jvm.staticLocs frame_1_statics s) 0 0 → Post tb e args s (.returned v) u) :
    ArmFor flags0 classFile x code maxLocals ret World_1 tables_1 room_1 Calls_1 rest_1 Pre_1 Post := by
  intro l hfl _ _ p e ha hc hk s m args below hf hA hF happ hP
  obtain ⟨hcalls, hrest, hpre⟩ := hP
  obtain ⟨-, -, -, hnamed, -, -, -, hat⟩ := (Spec.applies_iff hf).mp happ
  obtain ⟨hg, hn⟩ := and_e (Cond.before_iff.mp (show (Jvm.Cond.and given_1 narrow_1).before args s = true from hpre))
  obtain ⟨hcount, k0⟩ := and_e hg
  obtain ⟨w0, rfl⟩ : ∃ w0 : Value, args = #[w0] := by
    have hs : args.size = 1 := by simpa [Cond.value, given_1] using hcount
    obtain ⟨L⟩ := args
    match L, hs with
    | [w0], _ => exact ⟨w0, rfl⟩
  have hw := fun d (hd : d ∈ tables_1) => atoms_spec (ws := Jvm.Cond.code x code maxLocals ret :: tables_1) hat d (List.mem_cons_of_mem _ hd)
  have hfit : Fit s := fun {y c} hc i hi => by
    obtain ⟨ha, rfl⟩ := Array.getElem?_eq_some_iff.mp hc
    have q := List.all_eq_true.mp ((Array.all_eq_true_iff_forall_mem.mp hF) _ (Array.getElem_mem ha)) i (List.mem_range.mpr hi)
    simpa [Array.getElem?_eq_getElem hi] using q
  have j0 := k0
  obtain ⟨i0, e0⟩ := is_v j0
  obtain rfl : w0 = (.int i0) := Option.some.inj e0
  obtain ⟨t0_, u0_⟩ := and_e hn
  obtain ⟨t1_, u1_⟩ := and_e u0_
  obtain ⟨q0_, r0_⟩ := and_e u1_
  obtain ⟨q1_, r1_⟩ := and_e r0_
  obtain ⟨q2_, r2_⟩ := and_e r1_
  obtain ⟨q3_, r3_⟩ := and_e r2_
  obtain ⟨q4_, r4_⟩ := and_e r3_
  obtain ⟨q5_, r5_⟩ := and_e r4_
  obtain ⟨q6_, r6_⟩ := and_e r5_
  obtain ⟨q7_, r7_⟩ := and_e r6_
  obtain ⟨q8_, r8_⟩ := and_e r7_
  obtain ⟨q9_, r9_⟩ := and_e r8_
  obtain ⟨q10_, r10_⟩ := and_e r9_
  obtain ⟨q11_, r11_⟩ := and_e r10_
  obtain ⟨q12_, r12_⟩ := and_e r11_
  obtain ⟨q13_, r13_⟩ := and_e r12_
  obtain ⟨q14_, r14_⟩ := and_e r13_
  obtain ⟨q15_, r15_⟩ := and_e r14_
  obtain ⟨q16_, r16_⟩ := and_e r15_
  obtain ⟨q17_, r17_⟩ := and_e r16_
  obtain ⟨q18_, r18_⟩ := and_e r17_
  obtain ⟨q19_, r19_⟩ := and_e r18_
  obtain ⟨q20_, r20_⟩ := and_e r19_
  obtain ⟨q21_, r21_⟩ := and_e r20_
  obtain ⟨q22_, r22_⟩ := and_e r21_
  have q23_ := r22_
  obtain ⟨aT, evT⟩ := arr_v t0_
  obtain ⟨clT, ArT⟩ := Arr.start evT t0_
  have evA : ∀ idx, (Term.static "com/example/treaty2/treaty2/io/datapath/HttpHead" "TOKEN_BYTES" "[Z").eval #[(.int i0)] s none idx s = some (.ref aT) := fun _ => evT
  have haT := Arr.fin (Vm.Alike.refl _) ArT
  obtain ⟨szT, ltT⟩ := own_t_len evT haT t1_ (n := 128) rfl
  have FT := own_t_F hfit ArT (by simp) ltT
  have ST := Sta.start evT (Or.inr ⟨(hw _ (List.mem_of_getElem? (i := 6) rfl)), (hw _ (List.mem_of_getElem? (i := 9) rfl))⟩)
  have AT : own_Arr s s.heap aT .boolean 128 (fun i => .int (own_atF clT i)) := ⟨clT, ArT, szT, by decide, fun i hi => FT i (by omega)⟩
  have y0_ := own_tA evA haT ltT FT q0_
  have y1_ := own_tE evA haT FT q1_ (i := 33) rfl (by omega)
  have y2_ := own_tE evA haT FT q2_ (i := 34) rfl (by omega)
  have y3_ := own_tB evA haT ltT FT q3_
  have y4_ := own_tE evA haT FT q4_ (i := 40) rfl (by omega)
  have y5_ := own_tE evA haT FT q5_ (i := 41) rfl (by omega)
  have y6_ := own_tE evA haT FT q6_ (i := 42) rfl (by omega)
  have y7_ := own_tE evA haT FT q7_ (i := 43) rfl (by omega)
  have y8_ := own_tE evA haT FT q8_ (i := 44) rfl (by omega)
  have y9_ := own_tE evA haT FT q9_ (i := 45) rfl (by omega)
  have y10_ := own_tE evA haT FT q10_ (i := 46) rfl (by omega)
  have y11_ := own_tE evA haT FT q11_ (i := 47) rfl (by omega)
  have y12_ := own_tB evA haT ltT FT q12_
  have y13_ := own_tB evA haT ltT FT q13_
  have y14_ := own_tB evA haT ltT FT q14_
  have y15_ := own_tE evA haT FT q15_ (i := 91) rfl (by omega)
  have y16_ := own_tE evA haT FT q16_ (i := 92) rfl (by omega)
  have y17_ := own_tE evA haT FT q17_ (i := 93) rfl (by omega)
  have y18_ := own_tB evA haT ltT FT q18_
  have y19_ := own_tE evA haT FT q19_ (i := 123) rfl (by omega)
  have y20_ := own_tE evA haT FT q20_ (i := 124) rfl (by omega)
  have y21_ := own_tE evA haT FT q21_ (i := 125) rfl (by omega)
  have y22_ := own_tE evA haT FT q22_ (i := 126) rfl (by omega)
  have y23_ := own_tE evA haT FT q23_ (i := 127) rfl (by omega)
  have hT : ∀ i, i < 128 → ((((i = 33 ∨ (35 ≤ i ∧ i ≤ 39) ∨ i = 42 ∨ i = 43 ∨ i = 45 ∨ i = 46 ∨ (48 ≤ i ∧ i ≤ 57) ∨ (65 ≤ i ∧ i ≤ 90) ∨ (94 ≤ i ∧ i ≤ 122) ∨ i = 124 ∨ i = 126)) ∧ (own_atF clT i).toInt = 1) ∨ (¬ ((i = 33 ∨ (35 ≤ i ∧ i ≤ 39) ∨ i = 42 ∨ i = 43 ∨ i = 45 ∨ i = 46 ∨ (48 ≤ i ∧ i ≤ 57) ∨ (65 ≤ i ∧ i ≤ 90) ∨ (94 ≤ i ∧ i ≤ 122) ∨ i = 124 ∨ i = 126)) ∧ (own_atF clT i).toInt = 0)) := by
    intro i hi
    have z0_ : (33 : Int) ≤ i ∨ (own_atF clT i).toInt = 0 := (y0_ i (by omega)).imp id (fun q => by rw [q]; rfl)
    have z1_ : i ≠ 33 ∨ (own_atF clT i).toInt = 1 := (y1_ i).imp id (fun q => by rw [q]; rfl)
    have z2_ : i ≠ 34 ∨ (own_atF clT i).toInt = 0 := (y2_ i).imp id (fun q => by rw [q]; rfl)
    have z3_ : (i : Int) < 35 ∨ (40 : Int) ≤ i ∨ (own_atF clT i).toInt = 1 := (y3_ i (by omega)).imp id (Or.imp id (fun q => by rw [q]; rfl))
    have z4_ : i ≠ 40 ∨ (own_atF clT i).toInt = 0 := (y4_ i).imp id (fun q => by rw [q]; rfl)
    have z5_ : i ≠ 41 ∨ (own_atF clT i).toInt = 0 := (y5_ i).imp id (fun q => by rw [q]; rfl)
    have z6_ : i ≠ 42 ∨ (own_atF clT i).toInt = 1 := (y6_ i).imp id (fun q => by rw [q]; rfl)
    have z7_ : i ≠ 43 ∨ (own_atF clT i).toInt = 1 := (y7_ i).imp id (fun q => by rw [q]; rfl)
    have z8_ : i ≠ 44 ∨ (own_atF clT i).toInt = 0 := (y8_ i).imp id (fun q => by rw [q]; rfl)
    have z9_ : i ≠ 45 ∨ (own_atF clT i).toInt = 1 := (y9_ i).imp id (fun q => by rw [q]; rfl)
    have z10_ : i ≠ 46 ∨ (own_atF clT i).toInt = 1 := (y10_ i).imp id (fun q => by rw [q]; rfl)
    have z11_ : i ≠ 47 ∨ (own_atF clT i).toInt = 0 := (y11_ i).imp id (fun q => by rw [q]; rfl)
    have z12_ : (i : Int) < 48 ∨ (58 : Int) ≤ i ∨ (own_atF clT i).toInt = 1 := (y12_ i (by omega)).imp id (Or.imp id (fun q => by rw [q]; rfl))
    have z13_ : (i : Int) < 58 ∨ (65 : Int) ≤ i ∨ (own_atF clT i).toInt = 0 := (y13_ i (by omega)).imp id (Or.imp id (fun q => by rw [q]; rfl))
    have z14_ : (i : Int) < 65 ∨ (91 : Int) ≤ i ∨ (own_atF clT i).toInt = 1 := (y14_ i (by omega)).imp id (Or.imp id (fun q => by rw [q]; rfl))
    have z15_ : i ≠ 91 ∨ (own_atF clT i).toInt = 0 := (y15_ i).imp id (fun q => by rw [q]; rfl)
    have z16_ : i ≠ 92 ∨ (own_atF clT i).toInt = 0 := (y16_ i).imp id (fun q => by rw [q]; rfl)
    have z17_ : i ≠ 93 ∨ (own_atF clT i).toInt = 0 := (y17_ i).imp id (fun q => by rw [q]; rfl)
    have z18_ : (i : Int) < 94 ∨ (123 : Int) ≤ i ∨ (own_atF clT i).toInt = 1 := (y18_ i (by omega)).imp id (Or.imp id (fun q => by rw [q]; rfl))
    have z19_ : i ≠ 123 ∨ (own_atF clT i).toInt = 0 := (y19_ i).imp id (fun q => by rw [q]; rfl)
    have z20_ : i ≠ 124 ∨ (own_atF clT i).toInt = 1 := (y20_ i).imp id (fun q => by rw [q]; rfl)
    have z21_ : i ≠ 125 ∨ (own_atF clT i).toInt = 0 := (y21_ i).imp id (fun q => by rw [q]; rfl)
    have z22_ : i ≠ 126 ∨ (own_atF clT i).toInt = 1 := (y22_ i).imp id (fun q => by rw [q]; rfl)
    have z23_ : i ≠ 127 ∨ (own_atF clT i).toInt = 0 := (y23_ i).imp id (fun q => by rw [q]; rfl)
    clear y0_ y1_ y2_ y3_ y4_ y5_ y6_ y7_ y8_ y9_ y10_ y11_ y12_ y13_ y14_ y15_ y16_ y17_ y18_ y19_ y20_ y21_ y22_ y23_
    omega
  obtain ⟨n, o, h1, h2, h3, _, L, rfl, ⟨rfl, N⟩, hq⟩ := own_rm0 l s _ hw tables_1 i0 aT (own_atF clT) s.heap ST AT hT p e ha hc hk s m _ below hf ((Spec.applies_iff_loose hf).mp happ).1 ⟨rfl, State.Warmed39.refl s, rfl⟩ trivial
  refine ⟨n, _, h1, h2, h3, hpost _ _ _ _ _ _ ⟨Cond.after_iff.mpr rfl, Cond.after_iff.mpr (eq_i res_at (Term.int_eval (1)) rfl), trivial⟩ ⟨hq.1, hq.2.1, (hq.2.2.sift fun y hy => Or.inr (N y hy)).mono (by decide) (by decide)⟩⟩
theorem main_1_1 : Claimed_1_1 := own_comes fun _ _ _ _ _ _ h hF => ⟨h.1, hF⟩
theorem main_1_2 : Claimed_1_2 := own_comes fun _ _ _ _ _ _ h hF => ⟨h.2.1, hF⟩
end Jvm.Pilot.@@N@@
namespace Jvm.Pilot.@@N@@
open Jvm Jvm.ClassFile Sem Op Lib Jvm.Free Jvm.Stand Jvm.Pilot.@@N@@.Jvm.D
/-! MADE BY PROGRAM (witnessworld.py) out of the Statement's table words and the real class files: 11 classes; the members and pool entries that the words name. The judged class is class 1, her method 2. -/
namespace start1
open Jvm.ClassFile
def u (s : String) : CpInfo := .utf8 (stringToUtf16 s)
/-- a pool by its gaps: so many unusable entries, then the entry; so many at the end -/
def gap : Nat → List CpInfo → List CpInfo
  | 0, r => r
  | n + 1, r => .unusable :: gap n r
def poolList (es : List (Nat × CpInfo)) (last : Nat) : List CpInfo := es.foldr (fun e r => gap e.1 (e.2 :: r)) (gap last [])
def pool (es : List (Nat × CpInfo)) (last : Nat) : Array CpInfo := ⟨poolList es last⟩
def fileOf (pool : Array CpInfo) (this : Nat) (attrs : Array Attribute := #[]) (ms : Array MethodInfo := #[]) (fl : Nat := 33) (sup : Nat := 0) (ifs : Array Nat := #[]) (fds : Array FieldInfo := #[]) : ClassFile where
  minorVersion := 0
  majorVersion := 65
  constantPool := pool
  accessFlags := fl
  thisClass := this
  superClass := sup
  interfaces := ifs
  fields := fds
  methods := ms
  attributes := attrs
def plain (name : String) (sup : Option ClassId) : Class where
  name := name
  kind := .ordinary
  loader := none
  accessFlags := 33
  super := sup
  interfaces := #[]
  cf := none
  fields := #[]
  methods := #[]
  instanceTypes := #[]
  staticTypes := #[]
  resolved := #[]
  callSites := []
  init := .initialized
  statics := none
  mirror := none

def pool0 : Array CpInfo := pool [(5, u "<init>"), (0, u "()V"), (1, .class_ 10), (1, u "java/lang/Object")] 113

def k0m0 : Method := { name := "<init>", desc := "()V", sig := { parameters := [], returnType := none }, accessFlags := 1, code := none }
/-- java/lang/Object -/
def k0 : Class := { plain "java/lang/Object" none with
  accessFlags := 33
  interfaces := #[]
  cf := some (fileOf pool0 8 #[] #[{ accessFlags := 1, nameIndex := 5, descriptorIndex := 6, attributes := #[] }] 33 0 #[] #[])
  fields := #[]
  methods := #[k0m0]
  instanceTypes := #[]
  staticTypes := #[]
  resolved := Array.replicate 124 none
  statics := none }

def pool1 : Array CpInfo := pool [(2, .class_ 4), (1, u "java/lang/Object"), (0, u "<init>"), (0, u "()V"), (0, .methodref 8 9), (0, .class_ 10), (0, .nameAndType 11 12), (0, u "com/example/treaty2/treaty2/io/datapath/HttpHeadIsTokenBytePinLaw"), (0, u "tchar"), (0, u "(I)Z"), (0, .methodref 14 15), (0, .class_ 16), (0, .nameAndType 17 18), (0, u "com/example/treaty2/treaty2/io/datapath/HttpHead"), (0, u "isTokenByte"), (0, u "(B)Z"), (3, u "law")] 2

def k1m0 : Method := { name := "<init>", desc := "()V", sig := { parameters := [], returnType := none }, accessFlags := 1, code := none }
def k1c1 : Code := { maxStack := 2, maxLocals := 1, code := method_2_code, exceptionTable := #[], attributes := #[] }
def k1m1 : Method := { name := "tchar", desc := "(I)Z", sig := { parameters := [.int], returnType := some .boolean }, accessFlags := 10, code := some k1c1 }
def k1c2 : Code := { maxStack := 2, maxLocals := 4, code := code, exceptionTable := #[], attributes := #[] }
def k1m2 : Method := { name := "law", desc := "(I)Z", sig := { parameters := [.int], returnType := some .boolean }, accessFlags := 9, code := some k1c2 }
/-- com/example/treaty2/treaty2/io/datapath/HttpHeadIsTokenBytePinLaw -/
def k1 : Class := { plain "com/example/treaty2/treaty2/io/datapath/HttpHeadIsTokenBytePinLaw" (some 0) with
  accessFlags := 49
  interfaces := #[]
  cf := some (fileOf pool1 8 #[] #[{ accessFlags := 1, nameIndex := 5, descriptorIndex := 6, attributes := #[] }, { accessFlags := 10, nameIndex := 11, descriptorIndex := 12, attributes := #[] }, { accessFlags := 9, nameIndex := 22, descriptorIndex := 12, attributes := #[] }] 49 2 #[] #[])
  fields := #[]
  methods := #[k1m0, k1m1, k1m2]
  instanceTypes := #[]
  staticTypes := #[]
  resolved := Array.replicate 25 none
  statics := none }

def pool2 : Array CpInfo := pool [(2, .class_ 4), (1, u "java/lang/Object"), (2, .class_ 8), (0, u "com/example/treaty2/treaty2/io/datapath/HttpHead"), (4, u "sources"), (0, u "[[B"), (2, u "spans"), (0, u "[I"), (2, u "first"), (0, u "Ljava/lang/String;"), (2, u "second"), (2, u "third"), (123, u "isTokenByte"), (0, u "(B)Z"), (15, u "IDEMPOTENT"), (0, u "Ljava/util/Set;"), (18, u "count"), (0, u "I"), (92, u "HOP_BY_HOP"), (0, u "[Ljava/lang/String;"), (2, u "NEVER_HOP_BY_HOP"), (35, .fieldref 7 324), (0, .nameAndType 325 326), (0, u "TOKEN_BYTES"), (0, u "[Z"), (44, u "MAX_LENGTH"), (2, u "TRANSFER_ENCODING"), (2, u "SPAN"), (1, u "NAME"), (1, u "VALUE"), (1, u "FIELDS")] 46

def k2c0 : Code := { maxStack := 2, maxLocals := 1, code := prog_35_method_32_code, exceptionTable := #[], attributes := #[] }
def k2m0 : Method := { name := "isTokenByte", desc := "(B)Z", sig := { parameters := [.byte], returnType := some .boolean }, accessFlags := 8, code := some k2c0 }
/-- com/example/treaty2/treaty2/io/datapath/HttpHead -/
def k2 : Class := { plain "com/example/treaty2/treaty2/io/datapath/HttpHead" (some 0) with
  accessFlags := 48
  interfaces := #[]
  cf := some (fileOf pool2 7 #[] #[{ accessFlags := 8, nameIndex := 152, descriptorIndex := 153, attributes := #[] }] 48 2 #[] #[{ accessFlags := 24, nameIndex := 371, descriptorIndex := 190, attributes := #[] }, { accessFlags := 24, nameIndex := 374, descriptorIndex := 22, attributes := #[] }, { accessFlags := 26, nameIndex := 283, descriptorIndex := 284, attributes := #[] }, { accessFlags := 26, nameIndex := 287, descriptorIndex := 170, attributes := #[] }, { accessFlags := 26, nameIndex := 169, descriptorIndex := 170, attributes := #[] }, { accessFlags := 26, nameIndex := 325, descriptorIndex := 326, attributes := #[] }, { accessFlags := 26, nameIndex := 377, descriptorIndex := 190, attributes := #[] }, { accessFlags := 26, nameIndex := 379, descriptorIndex := 190, attributes := #[] }, { accessFlags := 26, nameIndex := 381, descriptorIndex := 190, attributes := #[] }, { accessFlags := 26, nameIndex := 383, descriptorIndex := 190, attributes := #[] }, { accessFlags := 18, nameIndex := 21, descriptorIndex := 22, attributes := #[] }, { accessFlags := 18, nameIndex := 25, descriptorIndex := 22, attributes := #[] }, { accessFlags := 18, nameIndex := 28, descriptorIndex := 22, attributes := #[] }, { accessFlags := 2, nameIndex := 13, descriptorIndex := 14, attributes := #[] }, { accessFlags := 2, nameIndex := 17, descriptorIndex := 18, attributes := #[] }, { accessFlags := 2, nameIndex := 189, descriptorIndex := 190, attributes := #[] }])
  fields := #[{ name := "MAX_LENGTH", type := .int, accessFlags := 24, slot := 0, constantValue := 0 }, { name := "TRANSFER_ENCODING", type := (.object "java/lang/String"), accessFlags := 24, slot := 1, constantValue := 0 }, { name := "HOP_BY_HOP", type := (.array (.object "java/lang/String")), accessFlags := 26, slot := 2, constantValue := 0 }, { name := "NEVER_HOP_BY_HOP", type := (.object "java/util/Set"), accessFlags := 26, slot := 3, constantValue := 0 }, { name := "IDEMPOTENT", type := (.object "java/util/Set"), accessFlags := 26, slot := 4, constantValue := 0 }, { name := "TOKEN_BYTES", type := (.array .boolean), accessFlags := 26, slot := 5, constantValue := 0 }, { name := "SPAN", type := .int, accessFlags := 26, slot := 6, constantValue := 0 }, { name := "NAME", type := .int, accessFlags := 26, slot := 7, constantValue := 0 }, { name := "VALUE", type := .int, accessFlags := 26, slot := 8, constantValue := 0 }, { name := "FIELDS", type := .int, accessFlags := 26, slot := 9, constantValue := 0 }, { name := "first", type := (.object "java/lang/String"), accessFlags := 18, slot := 0, constantValue := 0 }, { name := "second", type := (.object "java/lang/String"), accessFlags := 18, slot := 1, constantValue := 0 }, { name := "third", type := (.object "java/lang/String"), accessFlags := 18, slot := 2, constantValue := 0 }, { name := "sources", type := (.array (.array .byte)), accessFlags := 2, slot := 3, constantValue := 0 }, { name := "spans", type := (.array .int), accessFlags := 2, slot := 4, constantValue := 0 }, { name := "count", type := .int, accessFlags := 2, slot := 5, constantValue := 0 }]
  methods := #[k2m0]
  instanceTypes := #[(.object "java/lang/String"), (.object "java/lang/String"), (.object "java/lang/String"), (.array (.array .byte)), (.array .int), .int]
  staticTypes := #[.int, (.object "java/lang/String"), (.array (.object "java/lang/String")), (.object "java/util/Set"), (.object "java/util/Set"), (.array .boolean), .int, .int, .int, .int]
  resolved := Array.replicate 430 none
  statics := some 0 }

def pool3 : Array CpInfo := pool [(1, u "java/lang/Cloneable"), (0, .class_ 1), (0, u "java/lang/Object"), (0, .class_ 3)] 3

/-- java/lang/Cloneable -/
def k3 : Class := { plain "java/lang/Cloneable" (some 0) with
  accessFlags := 1537
  interfaces := #[]
  cf := some (fileOf pool3 2 #[] #[] 1537 4 #[] #[])
  fields := #[]
  methods := #[]
  instanceTypes := #[]
  staticTypes := #[]
  resolved := Array.replicate 8 none
  statics := none }

def pool4 : Array CpInfo := pool [(1, u "java/io/Serializable"), (0, .class_ 1), (0, u "java/lang/Object"), (0, .class_ 3)] 3

/-- java/io/Serializable -/
def k4 : Class := { plain "java/io/Serializable" (some 0) with
  accessFlags := 1537
  interfaces := #[]
  cf := some (fileOf pool4 2 #[] #[] 1537 4 #[] #[])
  fields := #[]
  methods := #[]
  instanceTypes := #[]
  staticTypes := #[]
  resolved := Array.replicate 8 none
  statics := none }

/-- the primitive boolean -/
def k5 : Class := { plain "boolean" none with kind := .primitive 'Z', accessFlags := 0x411 }
/-- [Z -/
def k6 : Class := { plain "[Z" (some 0) with kind := .array 5 .boolean, interfaces := #[3, 4], accessFlags := 1041 }

/-- the primitive byte -/
def k7 : Class := { plain "byte" none with kind := .primitive 'B', accessFlags := 0x411 }
/-- [B -/
def k8 : Class := { plain "[B" (some 0) with kind := .array 7 .byte, interfaces := #[3, 4], accessFlags := 1041 }

/-- the primitive int -/
def k9 : Class := { plain "int" none with kind := .primitive 'I', accessFlags := 0x411 }
/-- [I -/
def k10 : Class := { plain "[I" (some 0) with kind := .array 9 .int, interfaces := #[3, 4], accessFlags := 1041 }

def heap : Heap := #[{ cls := 2, slots := #[.int 0, .null, .null, .null, .null, .ref 1, .int 0, .int 0, .int 0, .int 0], vm := .statics 2 },
  { cls := 6, slots := #[.int 0, .int 0, .int 0, .int 0, .int 0, .int 0, .int 0, .int 0, .int 0, .int 0, .int 0, .int 0, .int 0, .int 0, .int 0, .int 0, .int 0, .int 0, .int 0, .int 0, .int 0, .int 0, .int 0, .int 0, .int 0, .int 0, .int 0, .int 0, .int 0, .int 0, .int 0, .int 0, .int 0, .int 1, .int 0, .int 1, .int 1, .int 1, .int 1, .int 1, .int 0, .int 0, .int 1, .int 1, .int 0, .int 1, .int 1, .int 0, .int 1, .int 1, .int 1, .int 1, .int 1, .int 1, .int 1, .int 1, .int 1, .int 1, .int 0, .int 0, .int 0, .int 0, .int 0, .int 0, .int 0, .int 1, .int 1, .int 1, .int 1, .int 1, .int 1, .int 1, .int 1, .int 1, .int 1, .int 1, .int 1, .int 1, .int 1, .int 1, .int 1, .int 1, .int 1, .int 1, .int 1, .int 1, .int 1, .int 1, .int 1, .int 1, .int 1, .int 0, .int 0, .int 0, .int 1, .int 1, .int 1, .int 1, .int 1, .int 1, .int 1, .int 1, .int 1, .int 1, .int 1, .int 1, .int 1, .int 1, .int 1, .int 1, .int 1, .int 1, .int 1, .int 1, .int 1, .int 1, .int 1, .int 1, .int 1, .int 1, .int 1, .int 1, .int 1, .int 0, .int 1, .int 0, .int 1, .int 0], vm := .none }]
def classes : Array Class := #[k0, k1, k2, k3, k4, k5, k6, k7, k8, k9, k10]
def interned : List (Array UInt16 × Addr) := []
def slotsUsed : Nat := 138
def theMethod : MethodId := ⟨1, 2⟩
def args0 : Array Value := #[.int 5]
def aboutOver (below : List Frame) : State where
  vm := { classes := classes, interned := interned.toArray }
  heap := heap
  slotsUsed := slotsUsed
  threads := #[{ frames := .invoking theMethod args0 :: below }]
def below0 : List Frame := [.native { method := ⟨0, 0⟩, args := #[] }]
def about1 : State := aboutOver below0
def p0 : Program := .bare "" "" ""
def e0 : Env := launch0.env 0 0 0
theorem w_frames : about1.frames = Frame.invoking theMethod args0 :: below0 := rfl
set_option maxRecDepth 65536 in
theorem w_args : argsFit about1.vm theMethod args0 = true := by decide +kernel
set_option maxRecDepth 65536 in
theorem w_heap : heapFits about1 = true := by decide +kernel
set_option maxRecDepth 65536 in
theorem w_runnable : about1.curStatus? = some .runnable := by decide +kernel
set_option maxRecDepth 65536 in
theorem w_alone : about1.alone = true := by decide +kernel
set_option maxRecDepth 65536 in
theorem w_named : about1.methodNamed? x = some theMethod := by decide +kernel
set_option maxRecDepth 65536 in
theorem w_hears : about1.hears theMethod below0 = true := by decide +kernel
set_option maxRecDepth 65536 in
theorem w_ripe : about1.ripe theMethod args0 below0 = true := by decide +kernel
theorem w_running : about1.status = .running := rfl
set_option maxRecDepth 65536 in
theorem w_room : about1.hasRoom e0.platform room_1 = true :=
  launch0.hasRoom_least _ room_1 (by decide +kernel) (by decide +kernel) (by decide +kernel) (by decide +kernel) (by decide +kernel) (by decide +kernel)
theorem allAtoms_all (ts : List Jvm.Cond) (a : Array Jvm.Value) (st : Jvm.State) : (allAtoms ts).before a st = ts.all (fun c => c.before a st) := by
  induction ts with
  | nil => rfl
  | cons c t ih =>
    show (Jvm.Cond.and c (allAtoms t)).before a st = _
    rw [Jvm.Cond.before_and, ih, List.all_cons]
def words1 : List Jvm.Cond := Jvm.Cond.code x code maxLocals ret :: tables_1
/-- a 'code' word, met by the world's own term for the bytes: nothing is compared byte by byte -/
theorem code_word {y : MethodName} {bytes : ByteArray} {mx : Nat} {rt : Option FieldType} {a : Array Value} {s : State} {m : MethodId} {meth : Method} {c : Code} (h1 : s.methodNamed? y = some m) (h2 : s.vm.method? m = some meth) (h3 : meth.code = some c) (h4 : c.code = bytes)
    (h5 : (c.maxLocals == mx && c.exceptionTable.isEmpty && decide (c.maxStack ≤ mostOperands) && decide (meth.sig.returnType = rt) && !meth.locks && decide (parseMethodDescriptor y.desc = some meth.sig)) = true) : (Jvm.Cond.code y bytes mx rt).before a s = true := by
  simp only [Bool.and_eq_true, beq_iff_eq, Bool.not_eq_true', decide_eq_true_eq] at h5
  obtain ⟨⟨⟨⟨⟨g1, g2⟩, g3⟩, g4⟩, g5⟩, g6⟩ := h5
  simp [Cond.before, Cond.holds, Cond.value, h1, h2, h3, h4, g1, g2, g3, g4, g5, g6]
def isCode : Jvm.Cond → Bool
  | .code _ _ _ _ => true
  | _ => false
theorem all_split {L : List Jvm.Cond} {P : Jvm.Cond → Bool} (h1 : L.all (fun c => isCode c || P c) = true) (h2 : ∀ c ∈ L.filter isCode, P c = true) : L.all P = true := by
  refine List.all_eq_true.mpr fun c hc => ?_
  have h := List.all_eq_true.mp h1 c hc
  rcases Bool.eq_false_or_eq_true (isCode c) with hi | hi
  · exact h2 c (List.mem_filter.mpr ⟨hc, hi⟩)
  · simpa [hi] using h
set_option maxRecDepth 65536 in
theorem w_c0 : (Jvm.Cond.code x code maxLocals ret).before args0 about1 = true := code_word (m := ⟨1, 2⟩) (meth := k1m2) (c := k1c2) (by decide +kernel) rfl rfl rfl (by decide +kernel)
set_option maxRecDepth 65536 in
theorem w_c1 : (Jvm.Cond.code ({ cls := "com/example/treaty2/treaty2/io/datapath/HttpHeadIsTokenBytePinLaw", name := "tchar", desc := "(I)Z" } : Jvm.MethodName) method_2_code (1 : Nat) (Option.some Jvm.ClassFile.FieldType.boolean)).before args0 about1 = true := code_word (m := ⟨1, 1⟩) (meth := k1m1) (c := k1c1) (by decide +kernel) rfl rfl rfl (by decide +kernel)
set_option maxRecDepth 65536 in
theorem w_c2 : (Jvm.Cond.code ({ cls := "com/example/treaty2/treaty2/io/datapath/HttpHead", name := "isTokenByte", desc := "(B)Z" } : Jvm.MethodName) prog_35_method_32_code (1 : Nat) (Option.some Jvm.ClassFile.FieldType.boolean)).before args0 about1 = true := code_word (m := ⟨2, 0⟩) (meth := k2m0) (c := k2c0) (by decide +kernel) rfl rfl rfl (by decide +kernel)
def codes1 : List Jvm.Cond := [Jvm.Cond.code x code maxLocals ret, Jvm.Cond.code ({ cls := "com/example/treaty2/treaty2/io/datapath/HttpHeadIsTokenBytePinLaw", name := "tchar", desc := "(I)Z" } : Jvm.MethodName) method_2_code (1 : Nat) (Option.some Jvm.ClassFile.FieldType.boolean), Jvm.Cond.code ({ cls := "com/example/treaty2/treaty2/io/datapath/HttpHead", name := "isTokenByte", desc := "(B)Z" } : Jvm.MethodName) prog_35_method_32_code (1 : Nat) (Option.some Jvm.ClassFile.FieldType.boolean)]
set_option maxRecDepth 65536 in
theorem codes_eq : words1.filter isCode = codes1 := rfl
theorem w_codes : ∀ c ∈ words1.filter isCode, c.before args0 about1 = true := by
  rw [codes_eq]
  intro c hc
  simp only [codes1, List.mem_cons, List.not_mem_nil, or_false] at hc
  rcases hc with rfl | rfl | rfl
  · exact w_c0
  · exact w_c1
  · exact w_c2
set_option maxRecDepth 65536 in
theorem w_t1 : words1.all (fun c => isCode c || c.before args0 about1) = true := by decide +kernel
theorem w_tables : (allAtoms (Jvm.Cond.code x code maxLocals ret :: tables_1)).before args0 about1 = true := by
  rw [allAtoms_all]
  show words1.all (fun c => c.before args0 about1) = true
  refine all_split ?_ w_codes
  rw [w_t1]
set_option maxRecDepth 65536 in
theorem w_case : (Jvm.Cond.and given_1 narrow_1).before args0 about1 = true := by decide +kernel
theorem w_applies : (headSpec (Jvm.Cond.code x code maxLocals ret :: tables_1) room_1).applies x e0.platform about1 = true :=
  (Spec.applies_iff w_frames).mpr ⟨w_running, w_runnable, w_alone, w_named, w_hears, w_ripe, w_room, w_tables⟩
theorem atStart : AtStart classFile x code maxLocals ret World_1 tables_1 room_1 Calls_1 rest_1 Pre_1 launch0 p0 e0 about1 theMethod args0 below0 :=
  ⟨lists_1, trivial, launch0.admits_env _ _ _, launch0.least_env, fairChoices_fair.cas, fairChoices_fair.clock, w_frames, w_args, w_heap, w_applies, trivial, trivial, w_case⟩
end start1
theorem witness_1 : WitnessClaimed_1 := ⟨start1.p0, start1.e0, start1.about1, start1.theMethod, start1.args0, start1.below0, start1.atStart⟩
end Jvm.Pilot.@@N@@
