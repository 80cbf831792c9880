import JvmDerived
import JvmDerived.Pilot.@@N@@Statement
import JvmDerived.Pilot.@@N@@Code
set_option linter.unusedVariables false
set_option linter.unusedSimpArgs false
namespace Jvm.Pilot.@@N@@
open Jvm Jvm.ClassFile Sem Op Lib Jvm.Free Jvm.Stand Jvm.LawKit Jvm.RoadKit Bundle Jvm.Pilot.@@N@@.Jvm.D
section Own
variable {p : Program} {l : Launch} {e : Env} {R : Room} {s : State} {m : MethodId} {args : Array Value} {below : List Frame} {meth : Method} {c : Code} {T : State} {locs : List Loc} {cells slots : Nat} {k n : Nat} {Q : Option Value → Heap → List Loc → Prop} {pc q q' : Nat} {Ls l' : Array Slot} {st rest : List Value}
/-- from U the run comes to a return that Q allows, with at most k cells and n slots made -/
def own_Go (p : Program) (e : Env) (below : List Frame) (s : State) (k n : Nat) (Q : Option Value → Heap → List Loc → Prop) (U : State) : Prop :=
  ∃ s₂ o, Steps p.tables e below U s₂ ∧ s₂.status = .running ∧ Ended s₂ below o ∧ ∃ v L, o = .returned v ∧ Q v s₂.heap L ∧ FrameEnd s o s₂ L k n
theorem own_Go.via {U U' : State} (g : own_Go p e below s k n Q U') (h : ∀ t, Steps p.tables e below U' t → Steps p.tables e below U t) : own_Go p e below s k n Q U := by
  obtain ⟨s₂, o, h1, h2⟩ := g
  exact ⟨s₂, o, h _ h1, h2⟩
theorem own_retI (X : Stand p l e R s m args below meth c T locs cells slots) (hx : p.tables.exec = Jvm.exec) {z : Int32} (hret : meth.sig.returnType = some .int) (hlk : meth.locks = false) (hd : decode c.code pc = .ok (.ireturn, 1)) (hk : cells ≤ k) (hn : slots ≤ n) (hq : Q (some (.int z)) T.heap locs) :
    own_Go p e below s k n Q (T.setTop (mkF m pc Ls [.int z])) := by
  obtain ⟨fs, hr, hrun, hended, hW, hsame⟩ := X.leave (v := some (.int z)) (fun h => by rw [hret] at h; cases h) hlk
  exact ⟨_, _, X.ireturnOut hx hret rfl (Or.inl rfl) hd hr, hrun, hended, _, _, rfl, hq, ⟨_, rfl⟩, hW, hsame.mono hk hn⟩
theorem own_retN (X : Stand p l e R s m args below meth c T locs cells slots) (hx : p.tables.exec = Jvm.exec) {z w : Int32} {t : FieldType} (hret : meth.sig.returnType = some t) (hlk : meth.locks = false) (ht : t = .boolean ∨ t = .byte ∨ t = .char ∨ t = .short) (hd : decode c.code pc = .ok (.ireturn, 1)) (hk : cells ≤ k) (hn : slots ≤ n) (hz : nar t z = w) (hq : Q (some (.int w)) T.heap locs) :
    own_Go p e below s k n Q (T.setTop (mkF m pc Ls [.int z])) := by
  subst hz
  obtain ⟨fs, hr, hrun, hended, hW, hsame⟩ := X.leave (v := some (.int (nar t z))) (fun h => by rw [hret] at h; cases h) hlk
  exact ⟨_, _, retN X hx hret ht hd hr, hrun, hended, _, _, rfl, hq, ⟨_, rfl⟩, hW, hsame.mono hk hn⟩
theorem own_retL (X : Stand p l e R s m args below meth c T locs cells slots) (hx : p.tables.exec = Jvm.exec) {z : Int64} (hret : meth.sig.returnType = some .long) (hlk : meth.locks = false) (hd : decode c.code pc = .ok (.lreturn, 1)) (hk : cells ≤ k) (hn : slots ≤ n) (hq : Q (some (.long z)) T.heap locs) :
    own_Go p e below s k n Q (T.setTop (mkF m pc Ls [.long z])) := by
  obtain ⟨fs, hr, hrun, hended, hW, hsame⟩ := X.leave (v := some (.long z)) (fun h => by rw [hret] at h; cases h) hlk
  exact ⟨_, _, X.lreturnOut hx hret hd hr, hrun, hended, _, _, rfl, hq, ⟨_, rfl⟩, hW, hsame.mono hk hn⟩
theorem own_retV (X : Stand p l e R s m args below meth c T locs cells slots) (hx : p.tables.exec = Jvm.exec) (hret : meth.sig.returnType = none) (hlk : meth.locks = false) (hd : decode c.code pc = .ok (.return_, 1)) (hk : cells ≤ k) (hn : slots ≤ n) (hq : Q none T.heap locs) :
    own_Go p e below s k n Q (T.setTop (mkF m pc Ls [])) := by
  obtain ⟨fs, hr, hrun, hended, hW, hsame⟩ := X.leave (v := none) (fun _ => rfl) hlk
  exact ⟨_, _, X.returnOut hx hret hd hr, hrun, hended, _, _, rfl, hq, ⟨_, rfl⟩, hW, hsame.mono hk hn⟩
theorem own_body {y : MethodName} {bytes : ByteArray} {maxL : Nat} {ret : Option FieldType} {ws : List Jvm.Cond} {rm : Room} {as' : Array Value} {h0 : Heap} {Z : State} (hpn : plainName y.cls = true)
    (body : ∀ (p : Program) (e : Env) (s : State) (m : MethodId) (below : List Frame) (meth : Method) (c : Code) (s₁ : State), p.tables.exec = Jvm.exec → c.code = bytes → c.maxLocals = maxL → s.vm.findClass y.cls = some m.cls → meth.name = y.name → meth.sig.returnType = ret → meth.locks = false → Z.Warmed39 s.vm →
      Stand p l e rm s m as' below meth c s₁ [] 0 0 → s₁.heap = h0 → own_Go p e below s rm.cells rm.slots Q (s₁.setTop (entryFrame m as' maxL))) :
    MetFree l y (head1 (Jvm.Cond.code y bytes maxL ret :: ws) rm) (fun a U => a = as' ∧ Z.Warmed39 U.vm ∧ U.heap = h0) (fun _ _ _ _ _ => True) (fun _ U o U' => ∃ v L, o = .returned v ∧ Q v U'.heap L ∧ FrameEnd U o U' L rm.cells rm.slots) := by
  refine MetFree.of_bodySF (plainFor_of_name hpn) hisR ?_
  intro p e s m args below meth c s₁ Bd hml0 hP hK
  obtain ⟨rfl, hZ, hh⟩ := hP
  exact body p e s m below meth c s₁ Bd.exec Bd.bytes hml0 (findClass_of_methodNamed Bd.named) (name_of_methodNamed Bd.named Bd.method).1 Bd.returns Bd.notSynchronized hZ (Stand.of_body Bd) (by rw [← hh, Bd.state]; rfl)
/-- a static call by the callee's contract -/
theorem own_callS {Z : State} {a0 : Array Value} {h : Heap} (X : Stand p l e R s m args below meth c T locs cells slots) (hx : p.tables.exec = Jvm.exec) (hZ : Z.Warmed39 s.vm) {own : String} {index : Nat} {y : MethodName} {bytes : ByteArray} {maxL : Nat} {ret : Option FieldType}
    (hown : s.vm.findClass own = some m.cls) (w1 : (Jvm.Cond.methodLink own index y).before a0 Z = true) (w2 : (Jvm.Cond.static y).before a0 Z = true) (w3 : (Jvm.Cond.initialized y.cls).before a0 Z = true) (w4 : (Jvm.Cond.code y bytes maxL ret).before a0 Z = true)
    (hy : y.cls ≠ "java/lang/invoke/MethodHandle" ∧ y.cls ≠ "java/lang/invoke/VarHandle") {rm : Room} {as' : Array Value} {Q' : Option Value → Heap → List Loc → Prop} {W : Nat}
    (hM : MetFree l y (head1 [Jvm.Cond.code y bytes maxL ret] rm) (fun a U => a = as' ∧ Z.Warmed39 U.vm ∧ U.heap = h) (fun _ _ _ _ _ => True) (fun _ U o U' => ∃ v L, o = .returned v ∧ Q' v U'.heap L ∧ FrameEnd U o U' L rm.cells rm.slots))
    (hf : rm.frames + 1 ≤ R.frames) (hl : W + (maxL + 11) + rm.locals ≤ R.locals) (eT : T.heap = h) (hsize : Ls.size = c.maxLocals) {argsL : List Value}
    (hlen : ∀ sig, parseMethodDescriptor y.desc = some sig → argsL.length = sig.parameters.length) (hst : st = argsL.reverse ++ rest) (hW : (rest.map fun v => v.category).sum = W) (hd : decode c.code pc = .ok (.invokestatic index, 3)) (hq : pc + 3 = q) (has : argsL.toArray = as') (hc : cells + rm.cells ≤ R.cells) (hs : slots + rm.slots ≤ R.slots)
    (g : ∀ v T' L, Q' v T'.heap L → Stand p l e R s m args below meth c T' (locs ++ L) (cells + rm.cells) (slots + rm.slots) → own_Go p e below s k n Q (T'.setTop (mkF m q Ls (v.toList ++ rest)))) :
    own_Go p e below s k n Q (T.setTop (mkF m pc Ls st)) := by
  subst hq hst
  obtain ⟨v, _, ⟨T7, L7, k7, n7⟩, -, X7, ⟨Lc7, hQ7, l7, y7, z7⟩, st7⟩ := Jvm.LawKit.callS X hx hown (mvT hZ w1) (mvT hZ w2) (mvT hZ w3) (mvT hZ w4) hy (backOf (W := W) hM hZ w4 w3 hf hl) (g := mkF m pc Ls (argsL.reverse ++ rest)) rfl hsize hlen rfl (by show 2 * 0 + _ ≤ _; rw [hW]; omega) hd (fun _ _ => ⟨has, eT, hc, hs⟩)
  dsimp only [Pt.U, Pt.locs, Pt.cells, Pt.slots] at X7 l7 y7 z7 st7 hQ7
  subst l7 y7 z7
  exact (g v T7 Lc7 hQ7 X7).via fun t => st7 t
/-- a static call that leaves the heap as it was -/
theorem own_callSP {Z : State} {a0 : Array Value} {h : Heap} (X : Stand p l e R s m args below meth c T locs cells slots) (hx : p.tables.exec = Jvm.exec) (hZ : Z.Warmed39 s.vm) {own : String} {index : Nat} {y : MethodName} {bytes : ByteArray} {maxL : Nat} {ret : Option FieldType}
    (hown : s.vm.findClass own = some m.cls) (w1 : (Jvm.Cond.methodLink own index y).before a0 Z = true) (w2 : (Jvm.Cond.static y).before a0 Z = true) (w3 : (Jvm.Cond.initialized y.cls).before a0 Z = true) (w4 : (Jvm.Cond.code y bytes maxL ret).before a0 Z = true)
    (hy : y.cls ≠ "java/lang/invoke/MethodHandle" ∧ y.cls ≠ "java/lang/invoke/VarHandle") {rm : Room} {as' : Array Value} {P : Value → Prop} {W : Nat}
    (hM : MetFree l y (head1 [Jvm.Cond.code y bytes maxL ret] rm) (fun a U => a = as' ∧ Z.Warmed39 U.vm ∧ U.heap = h) (fun _ _ _ _ _ => True) (fun _ U o U' => ∃ v L, o = .returned v ∧ ((∃ w, v = some w ∧ P w) ∧ L = [] ∧ U'.heap = h) ∧ FrameEnd U o U' L rm.cells rm.slots))
    (hf : rm.frames + 1 ≤ R.frames) (hl : W + (maxL + 11) + rm.locals ≤ R.locals) (eT : T.heap = h) (hsize : Ls.size = c.maxLocals) {argsL : List Value}
    (hlen : ∀ sig, parseMethodDescriptor y.desc = some sig → argsL.length = sig.parameters.length) (hst : st = argsL.reverse ++ rest) (hW : (rest.map fun v => v.category).sum = W) (hd : decode c.code pc = .ok (.invokestatic index, 3)) (hq : pc + 3 = q) (has : argsL.toArray = as') (hc : rm.cells = 0) (hs : rm.slots = 0) (hcc : cells ≤ R.cells) (hss : slots ≤ R.slots)
    (g : ∀ w T', P w → Stand p l e R s m args below meth c T' locs cells slots → T'.heap = h → own_Go p e below s k n Q (T'.setTop (mkF m q Ls (w :: rest)))) :
    own_Go p e below s k n Q (T.setTop (mkF m pc Ls st)) := by
  refine own_callS (Q' := fun v U L => (∃ w, v = some w ∧ P w) ∧ L = [] ∧ U = h) X hx hZ hown w1 w2 w3 w4 hy hM hf hl eT hsize hlen hst hW hd hq has (by rw [hc]; exact hcc) (by rw [hs]; exact hss) ?_
  rintro v T' L ⟨⟨w, rfl, hP⟩, rfl, e'⟩ X'
  rw [List.append_nil, hc, hs] at X'
  exact g w T' hP X' e'
/-- a virtual call by the callee's contract; the receiver is exactly of class C -/
theorem own_callV {Z : State} {a0 : Array Value} {h : Heap} (X : Stand p l e R s m args below meth c T locs cells slots) (hx : p.tables.exec = Jvm.exec) (hZ : Z.Warmed39 s.vm) {own C : String} {index : Nat} {y : MethodName} {bytes : ByteArray} {maxL : Nat} {ret : Option FieldType}
    (hown : s.vm.findClass own = some m.cls) (w1 : (Jvm.Cond.methodLink own index y).before a0 Z = true) (w2 : (Jvm.Cond.declares y).before a0 Z = true) (w3 : (Jvm.Cond.selects C y y).before a0 Z = true) (w4 : (Jvm.Cond.instanceMethod y).before a0 Z = true) (w5 : (Jvm.Cond.code y bytes maxL ret).before a0 Z = true) (w6 : (Jvm.Cond.initialized y.cls).before a0 Z = true)
    (hy : y.cls ≠ "java/lang/invoke/MethodHandle" ∧ y.cls ≠ "java/lang/invoke/VarHandle") {rm : Room} {as' : Array Value} {Q' : Option Value → Heap → List Loc → Prop} {W : Nat}
    (hM : MetFree l y (head1 [Jvm.Cond.code y bytes maxL ret] rm) (fun a U => a = as' ∧ Z.Warmed39 U.vm ∧ U.heap = h) (fun _ _ _ _ _ => True) (fun _ U o U' => ∃ v L, o = .returned v ∧ Q' v U'.heap L ∧ FrameEnd U o U' L rm.cells rm.slots))
    {b : Addr} (E : Exa Z h b C)
    (hf : rm.frames + 1 ≤ R.frames) (hl : W + (maxL + 11) + rm.locals ≤ R.locals) (eT : T.heap = h) (hsize : Ls.size = c.maxLocals) {argsL : List Value}
    (hlen : ∀ sig, parseMethodDescriptor y.desc = some sig → argsL.length = sig.parameters.length) (hst : st = argsL.reverse ++ .ref b :: rest) (hW : (rest.map fun v => v.category).sum = W) (hd : decode c.code pc = .ok (.invokevirtual index, 3)) (hq : pc + 3 = q) (has : (.ref b :: argsL).toArray = as') (hc : cells + rm.cells ≤ R.cells) (hs : slots + rm.slots ≤ R.slots)
    (g : ∀ v T' L, Q' v T'.heap L → Stand p l e R s m args below meth c T' (locs ++ L) (cells + rm.cells) (slots + rm.slots) → own_Go p e below s k n Q (T'.setTop (mkF m q Ls (v.toList ++ rest)))) :
    own_Go p e below s k n Q (T.setTop (mkF m pc Ls st)) := by
  subst hq hst
  obtain ⟨cq, kq, qa, qb, qc⟩ := isOf hZ eT E
  obtain ⟨v, _, ⟨T7, L7, k7, n7⟩, -, X7, ⟨Lc7, hQ7, l7, y7, z7⟩, st7⟩ := X.virtualBack hx hown (mvT hZ w1) (mvT hZ w2) (notFace_of_selects (args := #[]) (mvT hZ w3)) (mvT hZ w3) (mvT hZ w4) hy (backOf (W := W) hM hZ w5 w6 hf hl) qa qc (g := mkF m pc Ls (argsL.reverse ++ .ref b :: rest)) rfl hsize (Steps.refl _) (argsL := argsL) (rest := rest) hlen rfl (by show 2 * 0 + _ ≤ _; rw [hW]; omega) hd (fun _ _ => ⟨has, eT, hc, hs⟩)
  dsimp only [Pt.U, Pt.locs, Pt.cells, Pt.slots] at X7 l7 y7 z7 st7 hQ7
  subst l7 y7 z7
  exact (g v T7 Lc7 hQ7 X7).via fun t hh => st7.trans hh
/-- a constructor's call by its contract -/
theorem own_callN {Z : State} {a0 : Array Value} {h : Heap} (X : Stand p l e R s m args below meth c T locs cells slots) (hx : p.tables.exec = Jvm.exec) (hZ : Z.Warmed39 s.vm) {own : String} {index : Nat} {y : MethodName} {bytes : ByteArray} {maxL : Nat}
    (hyn : y.name = "<init>") (hown : s.vm.findClass own = some m.cls) (w1 : (Jvm.Cond.methodLink own index y).before a0 Z = true) (w2 : (Jvm.Cond.instanceMethod y).before a0 Z = true) (w3 : (Jvm.Cond.initialized y.cls).before a0 Z = true) (w4 : (Jvm.Cond.code y bytes maxL none).before a0 Z = true)
    (hy : y.cls ≠ "java/lang/invoke/MethodHandle" ∧ y.cls ≠ "java/lang/invoke/VarHandle") {rm : Room} {as' : Array Value} {Q' : Option Value → Heap → List Loc → Prop} {W : Nat}
    (hM : MetFree l y (head1 [Jvm.Cond.code y bytes maxL none] rm) (fun a U => a = as' ∧ Z.Warmed39 U.vm ∧ U.heap = h) (fun _ _ _ _ _ => True) (fun _ U o U' => ∃ v L, o = .returned v ∧ Q' v U'.heap L ∧ FrameEnd U o U' L rm.cells rm.slots))
    {b : Addr} (hf : rm.frames + 1 ≤ R.frames) (hl : W + (maxL + 11) + rm.locals ≤ R.locals) (eT : T.heap = h) (hsize : Ls.size = c.maxLocals) {argsL : List Value}
    (hlen : ∀ sig, parseMethodDescriptor y.desc = some sig → argsL.length = sig.parameters.length) (hst : st = argsL.reverse ++ .ref b :: rest) (hW : (rest.map fun v => v.category).sum = W) (hd : decode c.code pc = .ok (.invokespecial index, 3)) (hq : pc + 3 = q) (has : (.ref b :: argsL).toArray = as') (hc : cells + rm.cells ≤ R.cells) (hs : slots + rm.slots ≤ R.slots)
    (g : ∀ v T' L, Q' v T'.heap L → Stand p l e R s m args below meth c T' (locs ++ L) (cells + rm.cells) (slots + rm.slots) → own_Go p e below s k n Q (T'.setTop (mkF m q Ls (v.toList ++ rest)))) :
    own_Go p e below s k n Q (T.setTop (mkF m pc Ls st)) := by
  subst hq hst
  obtain ⟨v, _, ⟨T7, L7, k7, n7⟩, -, X7, ⟨Lc7, hQ7, l7, y7, z7⟩, st7⟩ := X.specialBack hx hyn hown (mvT hZ w1) (mvT hZ w2) (mvT hZ w4) hy (backOf (W := W) hM hZ w4 w3 hf hl) (g := mkF m pc Ls (argsL.reverse ++ .ref b :: rest)) rfl hsize (Steps.refl _) (a := b) (argsL := argsL) (rest := rest) hlen rfl (by show 2 * 0 + _ ≤ _; rw [hW]; omega) hd (fun _ _ => ⟨has, eT, hc, hs⟩)
  dsimp only [Pt.U, Pt.locs, Pt.cells, Pt.slots] at X7 l7 y7 z7 st7 hQ7
  subst l7 y7 z7
  exact (g v T7 Lc7 hQ7 X7).via fun t hh => st7.trans hh
theorem own_ldcI {Z : State} {a0 : Array Value} (X : Stand p l e R s m args below meth c T locs cells slots) (hx : p.tables.exec = Jvm.exec) (hZ : Z.Warmed39 s.vm) {own : String} {index : Nat} {v : Int32} (hown : s.vm.findClass own = some m.cls) (w : (Jvm.Cond.constant own index v).before a0 Z = true) (hd : decode c.code pc = .ok (.ldc index, 2)) (hq : pc + 2 = q)
    (g : own_Go p e below s k n Q (T.setTop (mkF m q Ls (.int v :: st)))) : own_Go p e below s k n Q (T.setTop (mkF m pc Ls st)) := by
  subst hq; exact g.via fun t => X.ldcInt hx hown (mvT hZ w) (g := mkF m pc Ls st) rfl hd t
theorem own_ldcL {Z : State} {a0 : Array Value} (X : Stand p l e R s m args below meth c T locs cells slots) (hx : p.tables.exec = Jvm.exec) (hZ : Z.Warmed39 s.vm) {own : String} {index : Nat} {v : Int64} (hown : s.vm.findClass own = some m.cls) (w : (Jvm.Cond.constantLong own index v).before a0 Z = true) (hd : decode c.code pc = .ok (.ldc2_w index, 3)) (hq : pc + 3 = q)
    (g : own_Go p e below s k n Q (T.setTop (mkF m q Ls (.long v :: st)))) : own_Go p e below s k n Q (T.setTop (mkF m pc Ls st)) := by
  subst hq; exact g.via fun t => X.ldc2Long hx hown (mvT hZ w) (g := mkF m pc Ls st) rfl hd t
theorem own_iadd (X : Stand p l e R s m args below meth c T locs cells slots) (hx : p.tables.exec = Jvm.exec) {x y : Int32} (hd : decode c.code pc = .ok (.iadd, 1))  (hq : pc + 1 = q) (g : own_Go p e below s k n Q (T.setTop (mkF m q Ls (.int (x + y) :: rest)))) : own_Go p e below s k n Q (T.setTop (mkF m pc Ls (.int y :: .int x :: rest))) := by
  subst hq; exact g.via fun _ hr_ => XS.iadd (g := mkF m pc Ls (.int y :: .int x :: rest)) X.here hx rfl hd rfl hr_
theorem own_isub (X : Stand p l e R s m args below meth c T locs cells slots) (hx : p.tables.exec = Jvm.exec) {x y : Int32} (hd : decode c.code pc = .ok (.isub, 1))  (hq : pc + 1 = q) (g : own_Go p e below s k n Q (T.setTop (mkF m q Ls (.int (x - y) :: rest)))) : own_Go p e below s k n Q (T.setTop (mkF m pc Ls (.int y :: .int x :: rest))) := by
  subst hq; exact g.via fun _ hr_ => XS.isub (g := mkF m pc Ls (.int y :: .int x :: rest)) X.here hx rfl hd rfl hr_
theorem own_imul (X : Stand p l e R s m args below meth c T locs cells slots) (hx : p.tables.exec = Jvm.exec) {x y : Int32} (hd : decode c.code pc = .ok (.imul, 1))  (hq : pc + 1 = q) (g : own_Go p e below s k n Q (T.setTop (mkF m q Ls (.int (x * y) :: rest)))) : own_Go p e below s k n Q (T.setTop (mkF m pc Ls (.int y :: .int x :: rest))) := by
  subst hq; exact g.via fun _ hr_ => XS.imul (g := mkF m pc Ls (.int y :: .int x :: rest)) X.here hx rfl hd rfl hr_
theorem own_iand (X : Stand p l e R s m args below meth c T locs cells slots) (hx : p.tables.exec = Jvm.exec) {x y : Int32} (hd : decode c.code pc = .ok (.iand, 1))  (hq : pc + 1 = q) (g : own_Go p e below s k n Q (T.setTop (mkF m q Ls (.int (x &&& y) :: rest)))) : own_Go p e below s k n Q (T.setTop (mkF m pc Ls (.int y :: .int x :: rest))) := by
  subst hq; exact g.via fun _ hr_ => XS.iand (g := mkF m pc Ls (.int y :: .int x :: rest)) X.here hx rfl hd rfl hr_
theorem own_ixor (X : Stand p l e R s m args below meth c T locs cells slots) (hx : p.tables.exec = Jvm.exec) {x y : Int32} (hd : decode c.code pc = .ok (.ixor, 1))  (hq : pc + 1 = q) (g : own_Go p e below s k n Q (T.setTop (mkF m q Ls (.int (x ^^^ y) :: rest)))) : own_Go p e below s k n Q (T.setTop (mkF m pc Ls (.int y :: .int x :: rest))) := by
  subst hq; exact g.via fun _ hr_ => XT.ixor (g := mkF m pc Ls (.int y :: .int x :: rest)) X.here hx rfl hd rfl hr_
theorem own_ior (X : Stand p l e R s m args below meth c T locs cells slots) (hx : p.tables.exec = Jvm.exec) {x y : Int32} (hd : decode c.code pc = .ok (.ior, 1))  (hq : pc + 1 = q) (g : own_Go p e below s k n Q (T.setTop (mkF m q Ls (.int (x ||| y) :: rest)))) : own_Go p e below s k n Q (T.setTop (mkF m pc Ls (.int y :: .int x :: rest))) := by
  subst hq; exact g.via fun _ hr_ => XT.ior (g := mkF m pc Ls (.int y :: .int x :: rest)) X.here hx rfl hd rfl hr_
theorem own_ishl (X : Stand p l e R s m args below meth c T locs cells slots) (hx : p.tables.exec = Jvm.exec) {x y : Int32} (hd : decode c.code pc = .ok (.ishl, 1))  (hq : pc + 1 = q) (g : own_Go p e below s k n Q (T.setTop (mkF m q Ls (.int (x <<< (y &&& 31)) :: rest)))) : own_Go p e below s k n Q (T.setTop (mkF m pc Ls (.int y :: .int x :: rest))) := by
  subst hq; exact g.via fun _ hr_ => XT.ishl (g := mkF m pc Ls (.int y :: .int x :: rest)) X.here hx rfl hd rfl hr_
theorem own_ishr (X : Stand p l e R s m args below meth c T locs cells slots) (hx : p.tables.exec = Jvm.exec) {x y : Int32} (hd : decode c.code pc = .ok (.ishr, 1))  (hq : pc + 1 = q) (g : own_Go p e below s k n Q (T.setTop (mkF m q Ls (.int (x >>> (y &&& 31)) :: rest)))) : own_Go p e below s k n Q (T.setTop (mkF m pc Ls (.int y :: .int x :: rest))) := by
  subst hq; exact g.via fun _ hr_ => XT.ishr (g := mkF m pc Ls (.int y :: .int x :: rest)) X.here hx rfl hd rfl hr_
theorem own_iushr (X : Stand p l e R s m args below meth c T locs cells slots) (hx : p.tables.exec = Jvm.exec) {x y : Int32} (hd : decode c.code pc = .ok (.iushr, 1))  (hq : pc + 1 = q) (g : own_Go p e below s k n Q (T.setTop (mkF m q Ls (.int (XT.ushr x y) :: rest)))) : own_Go p e below s k n Q (T.setTop (mkF m pc Ls (.int y :: .int x :: rest))) := by
  subst hq; exact g.via fun _ hr_ => XT.iushr (g := mkF m pc Ls (.int y :: .int x :: rest)) X.here hx rfl hd rfl hr_
theorem own_idiv (X : Stand p l e R s m args below meth c T locs cells slots) (hx : p.tables.exec = Jvm.exec) {x y : Int32} (hd : decode c.code pc = .ok (.idiv, 1)) (hy : y ≠ 0) (hq : pc + 1 = q) (g : own_Go p e below s k n Q (T.setTop (mkF m q Ls (.int (x / y) :: rest)))) : own_Go p e below s k n Q (T.setTop (mkF m pc Ls (.int y :: .int x :: rest))) := by
  subst hq; exact g.via fun _ hr_ => XS.idiv (g := mkF m pc Ls (.int y :: .int x :: rest)) X.here hx rfl hd rfl hy hr_
theorem own_irem (X : Stand p l e R s m args below meth c T locs cells slots) (hx : p.tables.exec = Jvm.exec) {x y : Int32} (hd : decode c.code pc = .ok (.irem, 1)) (hy : y ≠ 0) (hq : pc + 1 = q) (g : own_Go p e below s k n Q (T.setTop (mkF m q Ls (.int (x - (x / y) * y) :: rest)))) : own_Go p e below s k n Q (T.setTop (mkF m pc Ls (.int y :: .int x :: rest))) := by
  subst hq; exact g.via fun _ hr_ => XS.irem (g := mkF m pc Ls (.int y :: .int x :: rest)) X.here hx rfl hd rfl hy hr_
theorem own_ladd (X : Stand p l e R s m args below meth c T locs cells slots) (hx : p.tables.exec = Jvm.exec) {x y : Int64} (hd : decode c.code pc = .ok (.ladd, 1))  (hq : pc + 1 = q) (g : own_Go p e below s k n Q (T.setTop (mkF m q Ls (.long (x + y) :: rest)))) : own_Go p e below s k n Q (T.setTop (mkF m pc Ls (.long y :: .long x :: rest))) := by
  subst hq; exact g.via fun _ hr_ => XT.ladd (g := mkF m pc Ls (.long y :: .long x :: rest)) X.here hx rfl hd rfl hr_
theorem own_lsub (X : Stand p l e R s m args below meth c T locs cells slots) (hx : p.tables.exec = Jvm.exec) {x y : Int64} (hd : decode c.code pc = .ok (.lsub, 1))  (hq : pc + 1 = q) (g : own_Go p e below s k n Q (T.setTop (mkF m q Ls (.long (x - y) :: rest)))) : own_Go p e below s k n Q (T.setTop (mkF m pc Ls (.long y :: .long x :: rest))) := by
  subst hq; exact g.via fun _ hr_ => XT.lsub (g := mkF m pc Ls (.long y :: .long x :: rest)) X.here hx rfl hd rfl hr_
theorem own_lmul (X : Stand p l e R s m args below meth c T locs cells slots) (hx : p.tables.exec = Jvm.exec) {x y : Int64} (hd : decode c.code pc = .ok (.lmul, 1))  (hq : pc + 1 = q) (g : own_Go p e below s k n Q (T.setTop (mkF m q Ls (.long (x * y) :: rest)))) : own_Go p e below s k n Q (T.setTop (mkF m pc Ls (.long y :: .long x :: rest))) := by
  subst hq; exact g.via fun _ hr_ => XT.lmul (g := mkF m pc Ls (.long y :: .long x :: rest)) X.here hx rfl hd rfl hr_
theorem own_land (X : Stand p l e R s m args below meth c T locs cells slots) (hx : p.tables.exec = Jvm.exec) {x y : Int64} (hd : decode c.code pc = .ok (.land, 1))  (hq : pc + 1 = q) (g : own_Go p e below s k n Q (T.setTop (mkF m q Ls (.long (x &&& y) :: rest)))) : own_Go p e below s k n Q (T.setTop (mkF m pc Ls (.long y :: .long x :: rest))) := by
  subst hq; exact g.via fun _ hr_ => XT.land (g := mkF m pc Ls (.long y :: .long x :: rest)) X.here hx rfl hd rfl hr_
theorem own_lor (X : Stand p l e R s m args below meth c T locs cells slots) (hx : p.tables.exec = Jvm.exec) {x y : Int64} (hd : decode c.code pc = .ok (.lor, 1))  (hq : pc + 1 = q) (g : own_Go p e below s k n Q (T.setTop (mkF m q Ls (.long (x ||| y) :: rest)))) : own_Go p e below s k n Q (T.setTop (mkF m pc Ls (.long y :: .long x :: rest))) := by
  subst hq; exact g.via fun _ hr_ => XT.lor (g := mkF m pc Ls (.long y :: .long x :: rest)) X.here hx rfl hd rfl hr_
theorem own_lxor (X : Stand p l e R s m args below meth c T locs cells slots) (hx : p.tables.exec = Jvm.exec) {x y : Int64} (hd : decode c.code pc = .ok (.lxor, 1))  (hq : pc + 1 = q) (g : own_Go p e below s k n Q (T.setTop (mkF m q Ls (.long (x ^^^ y) :: rest)))) : own_Go p e below s k n Q (T.setTop (mkF m pc Ls (.long y :: .long x :: rest))) := by
  subst hq; exact g.via fun _ hr_ => XT.lxor (g := mkF m pc Ls (.long y :: .long x :: rest)) X.here hx rfl hd rfl hr_
theorem own_ldiv (X : Stand p l e R s m args below meth c T locs cells slots) (hx : p.tables.exec = Jvm.exec) {x y : Int64} (hd : decode c.code pc = .ok (.ldiv, 1)) (hy : y ≠ 0) (hq : pc + 1 = q) (g : own_Go p e below s k n Q (T.setTop (mkF m q Ls (.long (x / y) :: rest)))) : own_Go p e below s k n Q (T.setTop (mkF m pc Ls (.long y :: .long x :: rest))) := by
  subst hq; exact g.via fun _ hr_ => XT.ldiv (g := mkF m pc Ls (.long y :: .long x :: rest)) X.here hx rfl hd rfl hy hr_
theorem own_lrem (X : Stand p l e R s m args below meth c T locs cells slots) (hx : p.tables.exec = Jvm.exec) {x y : Int64} (hd : decode c.code pc = .ok (.lrem, 1)) (hy : y ≠ 0) (hq : pc + 1 = q) (g : own_Go p e below s k n Q (T.setTop (mkF m q Ls (.long (x - (x / y) * y) :: rest)))) : own_Go p e below s k n Q (T.setTop (mkF m pc Ls (.long y :: .long x :: rest))) := by
  subst hq; exact g.via fun _ hr_ => XT.lrem (g := mkF m pc Ls (.long y :: .long x :: rest)) X.here hx rfl hd rfl hy hr_
theorem own_lcmp (X : Stand p l e R s m args below meth c T locs cells slots) (hx : p.tables.exec = Jvm.exec) {x y : Int64} (hd : decode c.code pc = .ok (.lcmp, 1))  (hq : pc + 1 = q) (g : own_Go p e below s k n Q (T.setTop (mkF m q Ls (.int (XT.cmpL x y) :: rest)))) : own_Go p e below s k n Q (T.setTop (mkF m pc Ls (.long y :: .long x :: rest))) := by
  subst hq; exact g.via fun _ hr_ => XT.lcmp (g := mkF m pc Ls (.long y :: .long x :: rest)) X.here hx rfl hd rfl hr_
theorem own_lshl (X : Stand p l e R s m args below meth c T locs cells slots) (hx : p.tables.exec = Jvm.exec) {x : Int64} {y : Int32} (hd : decode c.code pc = .ok (.lshl, 1))  (hq : pc + 1 = q) (g : own_Go p e below s k n Q (T.setTop (mkF m q Ls (.long (x <<< (y.toInt64 &&& 63)) :: rest)))) : own_Go p e below s k n Q (T.setTop (mkF m pc Ls (.int y :: .long x :: rest))) := by
  subst hq; exact g.via fun _ hr_ => XT.lshl (g := mkF m pc Ls (.int y :: .long x :: rest)) X.here hx rfl hd rfl hr_
theorem own_lshr (X : Stand p l e R s m args below meth c T locs cells slots) (hx : p.tables.exec = Jvm.exec) {x : Int64} {y : Int32} (hd : decode c.code pc = .ok (.lshr, 1))  (hq : pc + 1 = q) (g : own_Go p e below s k n Q (T.setTop (mkF m q Ls (.long (x >>> (y.toInt64 &&& 63)) :: rest)))) : own_Go p e below s k n Q (T.setTop (mkF m pc Ls (.int y :: .long x :: rest))) := by
  subst hq; exact g.via fun _ hr_ => XT.lshr (g := mkF m pc Ls (.int y :: .long x :: rest)) X.here hx rfl hd rfl hr_
theorem own_lushr (X : Stand p l e R s m args below meth c T locs cells slots) (hx : p.tables.exec = Jvm.exec) {x : Int64} {y : Int32} (hd : decode c.code pc = .ok (.lushr, 1))  (hq : pc + 1 = q) (g : own_Go p e below s k n Q (T.setTop (mkF m q Ls (.long (XT.ushrL x y) :: rest)))) : own_Go p e below s k n Q (T.setTop (mkF m pc Ls (.int y :: .long x :: rest))) := by
  subst hq; exact g.via fun _ hr_ => XT.lushr (g := mkF m pc Ls (.int y :: .long x :: rest)) X.here hx rfl hd rfl hr_
theorem own_ineg (X : Stand p l e R s m args below meth c T locs cells slots) (hx : p.tables.exec = Jvm.exec) {x : Int32} (hd : decode c.code pc = .ok (.ineg, 1))  (hq : pc + 1 = q) (g : own_Go p e below s k n Q (T.setTop (mkF m q Ls (.int (-x) :: rest)))) : own_Go p e below s k n Q (T.setTop (mkF m pc Ls (.int x :: rest))) := by
  subst hq; exact g.via fun _ hr_ => XS.ineg (g := mkF m pc Ls (.int x :: rest)) X.here hx rfl hd rfl hr_
theorem own_lneg (X : Stand p l e R s m args below meth c T locs cells slots) (hx : p.tables.exec = Jvm.exec) {x : Int64} (hd : decode c.code pc = .ok (.lneg, 1))  (hq : pc + 1 = q) (g : own_Go p e below s k n Q (T.setTop (mkF m q Ls (.long (-x) :: rest)))) : own_Go p e below s k n Q (T.setTop (mkF m pc Ls (.long x :: rest))) := by
  subst hq; exact g.via fun _ hr_ => XT.lneg (g := mkF m pc Ls (.long x :: rest)) X.here hx rfl hd rfl hr_
theorem own_i2l (X : Stand p l e R s m args below meth c T locs cells slots) (hx : p.tables.exec = Jvm.exec) {x : Int32} (hd : decode c.code pc = .ok (.i2l, 1))  (hq : pc + 1 = q) (g : own_Go p e below s k n Q (T.setTop (mkF m q Ls (.long (x.toInt64) :: rest)))) : own_Go p e below s k n Q (T.setTop (mkF m pc Ls (.int x :: rest))) := by
  subst hq; exact g.via fun _ hr_ => XT.i2l (g := mkF m pc Ls (.int x :: rest)) X.here hx rfl hd rfl hr_
theorem own_l2i (X : Stand p l e R s m args below meth c T locs cells slots) (hx : p.tables.exec = Jvm.exec) {x : Int64} (hd : decode c.code pc = .ok (.l2i, 1))  (hq : pc + 1 = q) (g : own_Go p e below s k n Q (T.setTop (mkF m q Ls (.int (x.toInt32) :: rest)))) : own_Go p e below s k n Q (T.setTop (mkF m pc Ls (.long x :: rest))) := by
  subst hq; exact g.via fun _ hr_ => XT.l2i (g := mkF m pc Ls (.long x :: rest)) X.here hx rfl hd rfl hr_
theorem own_i2b (X : Stand p l e R s m args below meth c T locs cells slots) (hx : p.tables.exec = Jvm.exec) {x : Int32} (hd : decode c.code pc = .ok (.i2b, 1))  (hq : pc + 1 = q) (g : own_Go p e below s k n Q (T.setTop (mkF m q Ls (.int (x.toInt8.toInt32) :: rest)))) : own_Go p e below s k n Q (T.setTop (mkF m pc Ls (.int x :: rest))) := by
  subst hq; exact g.via fun _ hr_ => XT.i2b (g := mkF m pc Ls (.int x :: rest)) X.here hx rfl hd rfl hr_
theorem own_i2c (X : Stand p l e R s m args below meth c T locs cells slots) (hx : p.tables.exec = Jvm.exec) {x : Int32} (hd : decode c.code pc = .ok (.i2c, 1))  (hq : pc + 1 = q) (g : own_Go p e below s k n Q (T.setTop (mkF m q Ls (.int (x.toUInt32.toUInt16.toUInt32.toInt32) :: rest)))) : own_Go p e below s k n Q (T.setTop (mkF m pc Ls (.int x :: rest))) := by
  subst hq; exact g.via fun _ hr_ => XT.i2c (g := mkF m pc Ls (.int x :: rest)) X.here hx rfl hd rfl hr_
theorem own_iconst (X : Stand p l e R s m args below meth c T locs cells slots) (hx : p.tables.exec = Jvm.exec) {i : Int} {v : Int32} (hd : decode c.code pc = .ok (.iconst i, 1)) (hv : Int32.ofInt i = v) (hq : pc + 1 = q) (g : own_Go p e below s k n Q (T.setTop (mkF m q Ls (.int v :: st)))) : own_Go p e below s k n Q (T.setTop (mkF m pc Ls (st))) := by
  subst hq; subst hv; exact g.via fun _ hr_ => XS.iconst (g := mkF m pc Ls (st)) X.here hx rfl hd  hr_
theorem own_bipush (X : Stand p l e R s m args below meth c T locs cells slots) (hx : p.tables.exec = Jvm.exec) {i : Int} {v : Int32} (hd : decode c.code pc = .ok (.bipush i, 2)) (hv : (Int8.ofInt i).toInt32 = v) (hq : pc + 2 = q) (g : own_Go p e below s k n Q (T.setTop (mkF m q Ls (.int v :: st)))) : own_Go p e below s k n Q (T.setTop (mkF m pc Ls (st))) := by
  subst hq; subst hv; exact g.via fun _ hr_ => XS.bipush (g := mkF m pc Ls (st)) X.here hx rfl hd  hr_
theorem own_sipush (X : Stand p l e R s m args below meth c T locs cells slots) (hx : p.tables.exec = Jvm.exec) {i : Int} {v : Int32} (hd : decode c.code pc = .ok (.sipush i, 3)) (hv : (Int16.ofInt i).toInt32 = v) (hq : pc + 3 = q) (g : own_Go p e below s k n Q (T.setTop (mkF m q Ls (.int v :: st)))) : own_Go p e below s k n Q (T.setTop (mkF m pc Ls (st))) := by
  subst hq; subst hv; exact g.via fun _ hr_ => XS.sipush (g := mkF m pc Ls (st)) X.here hx rfl hd  hr_
theorem own_lconst (X : Stand p l e R s m args below meth c T locs cells slots) (hx : p.tables.exec = Jvm.exec) {i : Fin 2} {v : Int64} (hd : decode c.code pc = .ok (.lconst i, 1)) (hv : Int64.ofNat i = v) (hq : pc + 1 = q) (g : own_Go p e below s k n Q (T.setTop (mkF m q Ls (.long v :: st)))) : own_Go p e below s k n Q (T.setTop (mkF m pc Ls (st))) := by
  subst hq; subst hv; exact g.via fun _ hr_ => XT.lconst (g := mkF m pc Ls (st)) X.here hx rfl hd  hr_
theorem own_aconst_null (X : Stand p l e R s m args below meth c T locs cells slots) (hx : p.tables.exec = Jvm.exec)  (hd : decode c.code pc = .ok (.aconst_null, 1))  (hq : pc + 1 = q) (g : own_Go p e below s k n Q (T.setTop (mkF m q Ls (.null :: st)))) : own_Go p e below s k n Q (T.setTop (mkF m pc Ls (st))) := by
  subst hq; exact g.via fun _ hr_ => XS.aconstNull (g := mkF m pc Ls (st)) X.here hx rfl hd  hr_
theorem own_iload_n (X : Stand p l e R s m args below meth c T locs cells slots) (hx : p.tables.exec = Jvm.exec) {i : Fin 4} {v : Int32} (hd : decode c.code pc = .ok (.iload_n i, 1)) (hl : Ls[i.val]? = some (.val (.int v))) (hq : pc + 1 = q) (g : own_Go p e below s k n Q (T.setTop (mkF m q Ls (.int v :: st)))) : own_Go p e below s k n Q (T.setTop (mkF m pc Ls (st))) := by
  subst hq; exact g.via fun _ hr_ => XS.iloadN (g := mkF m pc Ls (st)) X.here hx rfl hd hl hr_
theorem own_iload (X : Stand p l e R s m args below meth c T locs cells slots) (hx : p.tables.exec = Jvm.exec) {i : Nat} {v : Int32} (hd : decode c.code pc = .ok (.iload i, 2)) (hl : Ls[i]? = some (.val (.int v))) (hq : pc + 2 = q) (g : own_Go p e below s k n Q (T.setTop (mkF m q Ls (.int v :: st)))) : own_Go p e below s k n Q (T.setTop (mkF m pc Ls (st))) := by
  subst hq; exact g.via fun _ hr_ => XS.iload (g := mkF m pc Ls (st)) X.here hx rfl hd hl hr_
theorem own_lload_n (X : Stand p l e R s m args below meth c T locs cells slots) (hx : p.tables.exec = Jvm.exec) {i : Fin 4} {v : Int64} (hd : decode c.code pc = .ok (.lload_n i, 1)) (hl : Ls[i.val]? = some (.val (.long v))) (hq : pc + 1 = q) (g : own_Go p e below s k n Q (T.setTop (mkF m q Ls (.long v :: st)))) : own_Go p e below s k n Q (T.setTop (mkF m pc Ls (st))) := by
  subst hq; exact g.via fun _ hr_ => XT.lloadN (g := mkF m pc Ls (st)) X.here hx rfl hd hl hr_
theorem own_lload (X : Stand p l e R s m args below meth c T locs cells slots) (hx : p.tables.exec = Jvm.exec) {i : Nat} {v : Int64} (hd : decode c.code pc = .ok (.lload i, 2)) (hl : Ls[i]? = some (.val (.long v))) (hq : pc + 2 = q) (g : own_Go p e below s k n Q (T.setTop (mkF m q Ls (.long v :: st)))) : own_Go p e below s k n Q (T.setTop (mkF m pc Ls (st))) := by
  subst hq; exact g.via fun _ hr_ => XT.lload (g := mkF m pc Ls (st)) X.here hx rfl hd hl hr_
theorem own_aload_n (X : Stand p l e R s m args below meth c T locs cells slots) (hx : p.tables.exec = Jvm.exec) {i : Fin 4} {v : Value} (hd : decode c.code pc = .ok (.aload_n i, 1)) (hl : Ls[i.val]? = some (.val v)) (hr : v.isRef = true) (hq : pc + 1 = q) (g : own_Go p e below s k n Q (T.setTop (mkF m q Ls (v :: st)))) : own_Go p e below s k n Q (T.setTop (mkF m pc Ls (st))) := by
  subst hq; exact g.via fun _ hr_ => XS.aloadN (g := mkF m pc Ls (st)) X.here hx rfl hd hl hr hr_
theorem own_aload (X : Stand p l e R s m args below meth c T locs cells slots) (hx : p.tables.exec = Jvm.exec) {i : Nat} {v : Value} (hd : decode c.code pc = .ok (.aload i, 2)) (hl : Ls[i]? = some (.val v)) (hr : v.isRef = true) (hq : pc + 2 = q) (g : own_Go p e below s k n Q (T.setTop (mkF m q Ls (v :: st)))) : own_Go p e below s k n Q (T.setTop (mkF m pc Ls (st))) := by
  subst hq; exact g.via fun _ hr_ => XS.aload (g := mkF m pc Ls (st)) X.here hx rfl hd hl hr hr_
theorem own_istore_n (X : Stand p l e R s m args below meth c T locs cells slots) (hx : p.tables.exec = Jvm.exec) {i : Fin 4} {v : Int32} (hd : decode c.code pc = .ok (.istore_n i, 1)) (hl : storeLocals Ls i.val (.int v) = some l') (hq : pc + 1 = q) (g : own_Go p e below s k n Q (T.setTop (mkF m q l' (rest)))) : own_Go p e below s k n Q (T.setTop (mkF m pc Ls (.int v :: rest))) := by
  subst hq; exact g.via fun _ hr_ => XS.istoreN (g := mkF m pc Ls (.int v :: rest)) X.here hx rfl hd rfl hl hr_
theorem own_istore (X : Stand p l e R s m args below meth c T locs cells slots) (hx : p.tables.exec = Jvm.exec) {i : Nat} {v : Int32} (hd : decode c.code pc = .ok (.istore i, 2)) (hl : storeLocals Ls i (.int v) = some l') (hq : pc + 2 = q) (g : own_Go p e below s k n Q (T.setTop (mkF m q l' (rest)))) : own_Go p e below s k n Q (T.setTop (mkF m pc Ls (.int v :: rest))) := by
  subst hq; exact g.via fun _ hr_ => XS.istore (g := mkF m pc Ls (.int v :: rest)) X.here hx rfl hd rfl hl hr_
theorem own_lstore_n (X : Stand p l e R s m args below meth c T locs cells slots) (hx : p.tables.exec = Jvm.exec) {i : Fin 4} {v : Int64} (hd : decode c.code pc = .ok (.lstore_n i, 1)) (hl : storeLocals Ls i.val (.long v) = some l') (hq : pc + 1 = q) (g : own_Go p e below s k n Q (T.setTop (mkF m q l' (rest)))) : own_Go p e below s k n Q (T.setTop (mkF m pc Ls (.long v :: rest))) := by
  subst hq; exact g.via fun _ hr_ => XT.lstoreN (g := mkF m pc Ls (.long v :: rest)) X.here hx rfl hd rfl hl hr_
theorem own_lstore (X : Stand p l e R s m args below meth c T locs cells slots) (hx : p.tables.exec = Jvm.exec) {i : Nat} {v : Int64} (hd : decode c.code pc = .ok (.lstore i, 2)) (hl : storeLocals Ls i (.long v) = some l') (hq : pc + 2 = q) (g : own_Go p e below s k n Q (T.setTop (mkF m q l' (rest)))) : own_Go p e below s k n Q (T.setTop (mkF m pc Ls (.long v :: rest))) := by
  subst hq; exact g.via fun _ hr_ => XT.lstore (g := mkF m pc Ls (.long v :: rest)) X.here hx rfl hd rfl hl hr_
theorem own_astore_n (X : Stand p l e R s m args below meth c T locs cells slots) (hx : p.tables.exec = Jvm.exec) {i : Fin 4} {v : Value} (hd : decode c.code pc = .ok (.astore_n i, 1)) (hr : v.isRef = true) (hl : storeLocals Ls i.val v = some l') (hq : pc + 1 = q) (g : own_Go p e below s k n Q (T.setTop (mkF m q l' (rest)))) : own_Go p e below s k n Q (T.setTop (mkF m pc Ls (v :: rest))) := by
  subst hq; exact g.via fun _ hr_ => XS.astoreN (g := mkF m pc Ls (v :: rest)) X.here hx rfl hd rfl hr hl hr_
theorem own_astore (X : Stand p l e R s m args below meth c T locs cells slots) (hx : p.tables.exec = Jvm.exec) {i : Nat} {v : Value} (hd : decode c.code pc = .ok (.astore i, 2)) (hr : v.isRef = true) (hl : storeLocals Ls i v = some l') (hq : pc + 2 = q) (g : own_Go p e below s k n Q (T.setTop (mkF m q l' (rest)))) : own_Go p e below s k n Q (T.setTop (mkF m pc Ls (v :: rest))) := by
  subst hq; exact g.via fun _ hr_ => XS.astore (g := mkF m pc Ls (v :: rest)) X.here hx rfl hd rfl hr hl hr_
theorem own_iinc (X : Stand p l e R s m args below meth c T locs cells slots) (hx : p.tables.exec = Jvm.exec) {i : Nat} {cst : Int} {v w : Int32} (hd : decode c.code pc = .ok (.iinc i cst, 3)) (hl : Ls[i]? = some (.val (.int v))) (hv : v + Int32.ofInt cst = w) (hs : storeLocals Ls i (.int w) = some l') (hq : pc + 3 = q) (g : own_Go p e below s k n Q (T.setTop (mkF m q l' (st)))) : own_Go p e below s k n Q (T.setTop (mkF m pc Ls (st))) := by
  subst hq; subst hv; exact g.via fun _ hr_ => XS.iinc (g := mkF m pc Ls (st)) X.here hx rfl hd hl hs hr_
theorem own_dup (X : Stand p l e R s m args below meth c T locs cells slots) (hx : p.tables.exec = Jvm.exec) {v : Value} (hd : decode c.code pc = .ok (.dup, 1)) (hc : v.category = 1) (hq : pc + 1 = q) (g : own_Go p e below s k n Q (T.setTop (mkF m q Ls (v :: v :: rest)))) : own_Go p e below s k n Q (T.setTop (mkF m pc Ls (v :: rest))) := by
  subst hq; exact g.via fun _ hr_ => XS.dup (g := mkF m pc Ls (v :: rest)) X.here hx rfl hd rfl hc hr_
theorem own_pop (X : Stand p l e R s m args below meth c T locs cells slots) (hx : p.tables.exec = Jvm.exec) {v : Value} (hd : decode c.code pc = .ok (.pop, 1)) (hc : v.category = 1) (hq : pc + 1 = q) (g : own_Go p e below s k n Q (T.setTop (mkF m q Ls (rest)))) : own_Go p e below s k n Q (T.setTop (mkF m pc Ls (v :: rest))) := by
  subst hq; exact g.via fun _ hr_ => XT.pop (g := mkF m pc Ls (v :: rest)) X.here hx rfl hd rfl hc hr_
theorem own_dup2L (X : Stand p l e R s m args below meth c T locs cells slots) (hx : p.tables.exec = Jvm.exec) {x : Int64} (hd : decode c.code pc = .ok (.dup2, 1))  (hq : pc + 1 = q) (g : own_Go p e below s k n Q (T.setTop (mkF m q Ls (.long x :: .long x :: rest)))) : own_Go p e below s k n Q (T.setTop (mkF m pc Ls (.long x :: rest))) := by
  subst hq; exact g.via fun _ hr_ => XT.dup2L (g := mkF m pc Ls (.long x :: rest)) X.here hx rfl hd rfl hr_
theorem own_dup2 (X : Stand p l e R s m args below meth c T locs cells slots) (hx : p.tables.exec = Jvm.exec) {v w : Value} (hd : decode c.code pc = .ok (.dup2, 1)) (hc : v.category = 1) (hc' : w.category = 1) (hq : pc + 1 = q) (g : own_Go p e below s k n Q (T.setTop (mkF m q Ls (v :: w :: v :: w :: rest)))) : own_Go p e below s k n Q (T.setTop (mkF m pc Ls (v :: w :: rest))) := by
  subst hq; exact g.via fun _ hr_ => XT.dup2 (g := mkF m pc Ls (v :: w :: rest)) X.here hx rfl hd rfl hc hc' hr_
theorem own_dup_x1 (X : Stand p l e R s m args below meth c T locs cells slots) (hx : p.tables.exec = Jvm.exec) {v w : Value} (hd : decode c.code pc = .ok (.dup_x1, 1)) (hc : v.category = 1) (hc' : w.category = 1) (hq : pc + 1 = q) (g : own_Go p e below s k n Q (T.setTop (mkF m q Ls (v :: w :: v :: rest)))) : own_Go p e below s k n Q (T.setTop (mkF m pc Ls (v :: w :: rest))) := by
  subst hq; exact g.via fun _ hr_ => XT.dupX1 (g := mkF m pc Ls (v :: w :: rest)) X.here hx rfl hd rfl hc hc' hr_
theorem own_goto (X : Stand p l e R s m args below meth c T locs cells slots) (hx : p.tables.exec = Jvm.exec) {o : Int} (hd : decode c.code pc = .ok (.goto o, 3)) (ho : 0 ≤ (pc : Int) + o) (hp : ((pc : Int) + o).toNat = q) (g : own_Go p e below s k n Q (T.setTop (mkF m q Ls st))) : own_Go p e below s k n Q (T.setTop (mkF m pc Ls st)) :=
  g.via fun _ hr => XS.goto (g := mkF m pc Ls st) X.here hx rfl (pc0 := pc) rfl hd ho hp hr
theorem own_if (X : Stand p l e R s m args below meth c T locs cells slots) (hx : p.tables.exec = Jvm.exec) {cd : ClassFile.Cond} {x : Int32} {o : Int} {P : Prop} [Decidable P] (hd : decode c.code pc = .ok (.ifCond cd o, 3)) (ho : 0 ≤ (pc : Int) + o) (hp : ((pc : Int) + o).toNat = q) (hq : pc + 3 = q') (hP : ifCond.holds cd x = decide P) (gy : P → own_Go p e below s k n Q (T.setTop (mkF m q Ls rest))) (gn : ¬ P → own_Go p e below s k n Q (T.setTop (mkF m q' Ls rest))) : own_Go p e below s k n Q (T.setTop (mkF m pc Ls (.int x :: rest))) := by
  by_cases h : P
  · exact (gy h).via fun _ hr => XS.ifYes (g := mkF m pc Ls (.int x :: rest)) X.here hx rfl (pc0 := pc) rfl hd rfl (by rw [hP]; exact decide_eq_true h) ho hp hr
  · subst hq; exact (gn h).via fun _ hr => XS.ifNo (g := mkF m pc Ls (.int x :: rest)) X.here hx rfl hd rfl (by rw [hP]; exact decide_eq_false h) hr
theorem own_icmp (X : Stand p l e R s m args below meth c T locs cells slots) (hx : p.tables.exec = Jvm.exec) {cd : ClassFile.Cond} {x y : Int32} {o : Int} {P : Prop} [Decidable P] (hd : decode c.code pc = .ok (.if_icmp cd o, 3)) (ho : 0 ≤ (pc : Int) + o) (hp : ((pc : Int) + o).toNat = q) (hq : pc + 3 = q') (hP : if_icmp.holds cd x y = decide P) (gy : P → own_Go p e below s k n Q (T.setTop (mkF m q Ls rest))) (gn : ¬ P → own_Go p e below s k n Q (T.setTop (mkF m q' Ls rest))) : own_Go p e below s k n Q (T.setTop (mkF m pc Ls (.int y :: .int x :: rest))) := by
  by_cases h : P
  · exact (gy h).via fun _ hr => XS.icmpYes (g := mkF m pc Ls (.int y :: .int x :: rest)) X.here hx rfl (pc0 := pc) rfl hd rfl (by rw [hP]; exact decide_eq_true h) ho hp hr
  · subst hq; exact (gn h).via fun _ hr => XS.icmpNo (g := mkF m pc Ls (.int y :: .int x :: rest)) X.here hx rfl hd rfl (by rw [hP]; exact decide_eq_false h) hr
theorem own_h_eq (x y : Int32) : if_icmp.holds .eq x y = decide (x.toInt = y.toInt) := by
  by_cases h : x = y
  · rw [(teq h).1, h]; simp
  · rw [(feq h).1]; symm; exact decide_eq_false fun q => h (Int32.toInt_inj.mp q)
theorem own_h_ne (x y : Int32) : if_icmp.holds .ne x y = decide (x.toInt ≠ y.toInt) := by
  by_cases h : x = y
  · rw [(teq h).2, h]; simp
  · rw [(feq h).2]; symm; exact decide_eq_true fun q => h (Int32.toInt_inj.mp q)
theorem own_h_lt (x y : Int32) : if_icmp.holds .lt x y = decide (x.toInt < y.toInt) := by
  by_cases h : x < y
  · rw [(tlt h).1]; symm; exact decide_eq_true (Int32.lt_iff_toInt_lt.mp h)
  · rw [(flt h).1]; symm; exact decide_eq_false fun q => h (Int32.lt_iff_toInt_lt.mpr q)
theorem own_h_ge (x y : Int32) : if_icmp.holds .ge x y = decide (y.toInt ≤ x.toInt) := by
  by_cases h : x < y
  · rw [(tlt h).2.1]; symm; exact decide_eq_false fun q => absurd (Int32.lt_iff_toInt_lt.mp h) (by omega)
  · rw [(flt h).2.1]; symm; exact decide_eq_true (Int.not_lt.mp fun q => h (Int32.lt_iff_toInt_lt.mpr q))
theorem own_h_gt (x y : Int32) : if_icmp.holds .gt x y = decide (y.toInt < x.toInt) := by
  by_cases h : y < x
  · rw [(tlt h).2.2.1]; symm; exact decide_eq_true (Int32.lt_iff_toInt_lt.mp h)
  · rw [(flt h).2.2.1]; symm; exact decide_eq_false fun q => h (Int32.lt_iff_toInt_lt.mpr q)
theorem own_h_le (x y : Int32) : if_icmp.holds .le x y = decide (x.toInt ≤ y.toInt) := by
  by_cases h : y < x
  · rw [(tlt h).2.2.2]; symm; exact decide_eq_false fun q => absurd (Int32.lt_iff_toInt_lt.mp h) (by omega)
  · rw [(flt h).2.2.2]; symm; exact decide_eq_true (Int.not_lt.mp fun q => h (Int32.lt_iff_toInt_lt.mpr q))
theorem own_z_eq (x : Int32) : ifCond.holds .eq x = decide (x.toInt = 0) := (if0 _ _).trans (own_h_eq x 0)
theorem own_z_ne (x : Int32) : ifCond.holds .ne x = decide (x.toInt ≠ 0) := (if0 _ _).trans (own_h_ne x 0)
theorem own_z_lt (x : Int32) : ifCond.holds .lt x = decide (x.toInt < 0) := (if0 _ _).trans (own_h_lt x 0)
theorem own_z_ge (x : Int32) : ifCond.holds .ge x = decide (0 ≤ x.toInt) := (if0 _ _).trans (own_h_ge x 0)
theorem own_z_gt (x : Int32) : ifCond.holds .gt x = decide (0 < x.toInt) := (if0 _ _).trans (own_h_gt x 0)
theorem own_z_le (x : Int32) : ifCond.holds .le x = decide (x.toInt ≤ 0) := (if0 _ _).trans (own_h_le x 0)
theorem own_cmpL (x y : Int64) : (x.toInt < y.toInt ∧ (XT.cmpL x y).toInt = -1) ∨ (x.toInt = y.toInt ∧ (XT.cmpL x y).toInt = 0) ∨ (y.toInt < x.toInt ∧ (XT.cmpL x y).toInt = 1) := by
  unfold XT.cmpL
  by_cases h1 : y < x
  · rw [if_pos h1]; exact Or.inr (Or.inr ⟨Int64.lt_iff_toInt_lt.mp h1, rfl⟩)
  · rw [if_neg h1]
    by_cases h2 : x = y
    · rw [if_pos h2]; exact Or.inr (Or.inl ⟨by rw [h2], rfl⟩)
    · rw [if_neg h2]
      have h3 : ¬ y.toInt < x.toInt := fun q => h1 (Int64.lt_iff_toInt_lt.mpr q)
      have h4 : ¬ x.toInt = y.toInt := fun q => h2 (Int64.toInt_inj.mp q)
      exact Or.inl ⟨by omega, rfl⟩
theorem own_l_eq (x y : Int64) : ifCond.holds .eq (XT.cmpL x y) = decide (x.toInt = y.toInt) := by
  rw [own_z_eq]; rcases own_cmpL x y with ⟨h, q⟩ | ⟨h, q⟩ | ⟨h, q⟩ <;> rw [q] <;> simp <;> omega
theorem own_l_ne (x y : Int64) : ifCond.holds .ne (XT.cmpL x y) = decide (x.toInt ≠ y.toInt) := by
  rw [own_z_ne]; rcases own_cmpL x y with ⟨h, q⟩ | ⟨h, q⟩ | ⟨h, q⟩ <;> rw [q] <;> simp <;> omega
theorem own_l_lt (x y : Int64) : ifCond.holds .lt (XT.cmpL x y) = decide (x.toInt < y.toInt) := by
  rw [own_z_lt]; rcases own_cmpL x y with ⟨h, q⟩ | ⟨h, q⟩ | ⟨h, q⟩ <;> rw [q] <;> simp <;> omega
theorem own_l_ge (x y : Int64) : ifCond.holds .ge (XT.cmpL x y) = decide (y.toInt ≤ x.toInt) := by
  rw [own_z_ge]; rcases own_cmpL x y with ⟨h, q⟩ | ⟨h, q⟩ | ⟨h, q⟩ <;> rw [q] <;> simp <;> omega
theorem own_l_gt (x y : Int64) : ifCond.holds .gt (XT.cmpL x y) = decide (y.toInt < x.toInt) := by
  rw [own_z_gt]; rcases own_cmpL x y with ⟨h, q⟩ | ⟨h, q⟩ | ⟨h, q⟩ <;> rw [q] <;> simp <;> omega
theorem own_l_le (x y : Int64) : ifCond.holds .le (XT.cmpL x y) = decide (x.toInt ≤ y.toInt) := by
  rw [own_z_le]; rcases own_cmpL x y with ⟨h, q⟩ | ⟨h, q⟩ | ⟨h, q⟩ <;> rw [q] <;> simp <;> omega
theorem own_addI (x y : Int32) (h1 : -2147483648 ≤ x.toInt + y.toInt) (h2 : x.toInt + y.toInt < 2147483648) : (x + y).toInt = x.toInt + y.toInt := by
  have := c_iadd x y; have := rng32 (x + y); omega
theorem own_subI (x y : Int32) (h1 : -2147483648 ≤ x.toInt - y.toInt) (h2 : x.toInt - y.toInt < 2147483648) : (x - y).toInt = x.toInt - y.toInt := by
  have := c_isub x y; have := rng32 (x - y); omega
theorem own_mulI (x y : Int32) (h1 : -2147483648 ≤ x.toInt * y.toInt) (h2 : x.toInt * y.toInt < 2147483648) : (x * y).toInt = x.toInt * y.toInt := by
  have := c_imul x y; have := rng32 (x * y); omega
theorem own_rem (x y : Int32) (h0 : 0 ≤ x.toInt) (hy : 0 < y.toInt) : (x - (x / y) * y).toInt = x.toInt % y.toInt := by
  have hne : y ≠ -1 := fun q => by rw [q] at hy; exact absurd hy (by decide)
  have h1 := (c_idiv x y y.toInt rfl hne).1 h0
  have h2 := c_imul (x / y) y
  rw [h1] at h2
  have h3 := c_isub x ((x / y) * y)
  have h4 := rng32 (x - (x / y) * y)
  have h5 := Int.emod_def x.toInt y.toInt
  rw [Int.mul_comm] at h5
  have h6 := Int.emod_nonneg x.toInt (Int.ne_of_gt hy)
  have h7 := Int.emod_lt_of_pos x.toInt hy
  have h8 := rng32 y
  generalize x.toInt / y.toInt * y.toInt = P at *
  generalize x.toInt % y.toInt = M at *
  omega
end Own
section Own2
variable {p : Program} {l : Launch} {e : Env} {R : Room} {s : State} {m : MethodId} {args : Array Value} {below : List Frame} {meth : Method} {c : Code} {T : State} {locs : List Loc} {cells slots : Nat} {k n : Nat} {Q : Option Value → Heap → List Loc → Prop} {pc q q' : Nat} {Ls l' : Array Slot} {st rest : List Value}
variable {Z : State} {a0 : Array Value} {h h' : Heap} {a b : Addr} {ty : FieldType} {N i : Nat} {f : Nat → Value} {v : Value} {ws : List Addr} {sl n0 : Nat} {j x : Int32}
/-- an array of N places that hold f 0 .. f (N - 1) -/
def own_Arr (Z : State) (h : Heap) (a : Addr) (ty : FieldType) (N : Nat) (f : Nat → Value) : Prop := ∃ c : Cell, Arr Z h a c ty ∧ c.slots.size = N ∧ N < 2 ^ 31 ∧ ∀ i, i < N → c.slots[i]? = some (f i)
def own_upd (f : Nat → Value) (j : Nat) (v : Value) : Nat → Value := fun i => if i = j then v else f i
theorem own_upd_same (f : Nat → Value) (j : Nat) (v : Value) : own_upd f j v j = v := if_pos rfl
theorem own_upd_ne (f : Nat → Value) {i j : Nat} (v : Value) (q : i ≠ j) : own_upd f j v i = f i := if_neg q
def own_updI (f : Nat → Int32) (j : Nat) (v : Int32) : Nat → Int32 := fun i => if i = j then v else f i
def own_zero : Nat → Int32 := fun _ => 0
theorem own_updI_same (f : Nat → Int32) (j : Nat) (v : Int32) : own_updI f j v j = v := if_pos rfl
theorem own_updI_ne (f : Nat → Int32) {i j : Nat} (v : Int32) (q : i ≠ j) : own_updI f j v i = f i := if_neg q
theorem own_upd_I (f : Nat → Int32) (j : Nat) (v : Int32) : own_upd (fun i => .int (f i)) j (.int v) = fun i => .int (own_updI f j v i) := by
  funext i
  show (if i = j then Value.int v else Value.int (f i)) = Value.int (if i = j then v else f i)
  split <;> rfl
theorem own_Arr.ext (F : own_Arr Z h a ty N f) (E : Ext h h') : own_Arr Z h' a ty N f := by obtain ⟨c, A, r⟩ := F; exact ⟨c, A.ext E, r⟩
theorem own_Arr.keep (F : own_Arr Z h a ty N f) (K : Keep h h' ws) (q : a ∉ ws) : own_Arr Z h' a ty N f := by obtain ⟨c, A, r⟩ := F; exact ⟨c, ⟨K.2.1 a c A.1 q, A.2⟩, r⟩
theorem own_Arr.lt (F : own_Arr Z h a ty N f) : a < h.size := by obtain ⟨c, A, -⟩ := F; exact A.lt
theorem own_Arr.set (F : own_Arr Z h a ty N f) (W : Wr h h' a i v) : own_Arr Z h' a ty N (own_upd f i v) := by
  obtain ⟨c, A, S, hN, H⟩ := F
  refine ⟨_, Arr.same W A, by rw [sz_set]; exact S, hN, fun t ht => ?_⟩
  show (c.slots.setIfInBounds i v)[t]? = _
  rw [Array.getElem?_setIfInBounds]
  by_cases q : t = i
  · subst q; simp [own_upd, S, ht]
  · rw [if_neg (fun z => q z.symm), own_upd, if_neg q]; exact H t ht
theorem own_idx (hj : j.toInt = (i : Int)) (hi : i < N) : ¬ (j < 0 ∨ N ≤ j.toNatClampNeg) ∧ j.toNatClampNeg = i := by
  have h1 : j.toNatClampNeg = i := by show j.toInt.toNat = i; omega
  refine ⟨fun q => ?_, h1⟩
  rcases q with q | q
  · have := Int32.lt_iff_toInt_lt.mp q; have : (0 : Int32).toInt = 0 := rfl; omega
  · omega
theorem own_newP (X : Stand p l e R s m args below meth c T locs cells slots) (hx : p.tables.exec = Jvm.exec) (hZ : Z.Warmed39 s.vm) {aty : ArrayType} (w : (Jvm.Cond.arrayClass (newarray.typeOf aty)).before a0 Z = true) (eT : T.heap = h) (hd : decode c.code pc = .ok (.newarray aty, 2)) (hn : j.toInt = (N : Int)) {cap : Nat} (hcap : N ≤ cap) (hb : cap * 8 ≤ 536870912) (hc : cells + 1 ≤ R.cells) (hl : slots + cap ≤ R.slots) (hq : pc + 2 = q)
    (g : ∀ T' h' b, b = h.size → Stand p l e R s m args below meth c T' locs (cells + 1) (slots + cap) → T'.heap = h' → Ext h h' → own_Arr Z h' b (newarray.typeOf aty) N (fun _ => defaultValue (newarray.typeOf aty)) → own_Go p e below s k n Q (T'.setTop (mkF m q Ls (.ref b :: rest)))) :
    own_Go p e below s k n Q (T.setTop (mkF m pc Ls (.int j :: rest))) := by
  subst hq
  have hN : j.toNatClampNeg = N := by show j.toInt.toNat = N; omega
  have hn0 : ¬ j < 0 := fun q => by have := Int32.lt_iff_toInt_lt.mp q; have : (0 : Int32).toInt = 0 := rfl; omega
  obtain ⟨T', h', cA, X', e', E, A, st⟩ := newP X hx hZ w eT (g := mkF m pc Ls (.int j :: rest)) rfl hd rfl hn0 (cap := cap) (by rw [hN]; exact hcap) hb hc hl
  refine (g T' h' h.size rfl X' e' E ⟨_, A, by rw [sz_new]; exact hN, ?_, fun t ht => ?_⟩).via st
  · have := (back32 hn0).2; omega
  · show (Array.replicate j.toNatClampNeg _)[t]? = _
    rw [Array.getElem?_replicate, if_pos (by omega)]
theorem own_stB (X : Stand p l e R s m args below meth c T locs cells slots) (hx : p.tables.exec = Jvm.exec) (hZ : Z.Warmed39 s.vm) (eT : T.heap = h) {fi : Nat → Int32} (A : own_Arr Z h a .byte N (fun i => .int (fi i))) (hd : decode c.code pc = .ok (.bastore, 1)) (hj : j.toInt = (i : Int)) (hi : i < N) (Nf : Fr n0 locs) (ha : n0 ≤ a) (hq : pc + 1 = q)
    (g : ∀ T' h' L', Stand p l e R s m args below meth c T' L' cells slots → Fr n0 L' → T'.heap = h' → own_Arr Z h' a .byte N (fun t => .int (own_updI fi i (x.toInt8.toInt32) t)) → Wr h h' a i (.int (x.toInt8.toInt32)) → own_Go p e below s k n Q (T'.setTop (mkF m q Ls rest))) :
    own_Go p e below s k n Q (T.setTop (mkF m pc Ls (.int x :: .int j :: .ref a :: rest))) := by
  subst hq
  have A0 := A
  obtain ⟨cl, Ar, S, hN, H⟩ := A
  obtain ⟨h1, h2⟩ := own_idx (N := cl.slots.size) hj (by omega)
  obtain ⟨T', h', X', e', W, st⟩ := stB X hx hZ eT Ar (j := j) (x := x) h1 (g := mkF m pc Ls (.int x :: .int j :: .ref a :: rest)) rfl rfl hd
  have N' := Fr.snoc X' Nf ha
  rw [h2] at W
  have A1 := A0.set W
  rw [show (Value.int (nar .byte x)) = .int (x.toInt8.toInt32) from rfl, own_upd_I] at A1
  exact (g T' h' _ X' N' e' A1 W).via st
theorem own_baload (X : Stand p l e R s m args below meth c T locs cells slots) (hx : p.tables.exec = Jvm.exec) (hZ : Z.Warmed39 s.vm) (eT : T.heap = h) (A : own_Arr Z h a .byte N f) (hd : decode c.code pc = .ok (.baload, 1)) (hj : j.toInt = (i : Int)) (hi : i < N) (hv : f i = v) (hq : pc + 1 = q)
    (g : own_Go p e below s k n Q (T.setTop (mkF m q Ls (v :: rest)))) :
    own_Go p e below s k n Q (T.setTop (mkF m pc Ls (.int j :: .ref a :: rest))) := by
  subst hq
  obtain ⟨cl, Ar, S, hN, H⟩ := A
  obtain ⟨h1, h2⟩ := own_idx (N := cl.slots.size) hj (by omega)
  exact g.via fun t => X.baloadBytes hx (j := j) (v := v) (by rw [eT]; exact Ar.1) (State.isArrayOf_alike hZ.alike Ar.2.1) Ar.2.2 h1 (by rw [h2, ← hv]; exact H i hi) (g := mkF m pc Ls (.int j :: .ref a :: rest)) rfl rfl hd t
theorem own_zaload (X : Stand p l e R s m args below meth c T locs cells slots) (hx : p.tables.exec = Jvm.exec) (hZ : Z.Warmed39 s.vm) (eT : T.heap = h) (A : own_Arr Z h a .boolean N f) (hd : decode c.code pc = .ok (.baload, 1)) (hj : j.toInt = (i : Int)) (hi : i < N) (hv : f i = v) (hq : pc + 1 = q)
    (g : own_Go p e below s k n Q (T.setTop (mkF m q Ls (v :: rest)))) :
    own_Go p e below s k n Q (T.setTop (mkF m pc Ls (.int j :: .ref a :: rest))) := by
  subst hq
  obtain ⟨cl, Ar, S, hN, H⟩ := A
  obtain ⟨h1, h2⟩ := own_idx (N := cl.slots.size) hj (by omega)
  exact g.via fun t => X.baloadBooleans hx (j := j) (v := v) (by rw [eT]; exact Ar.1) (State.isArrayOf_alike hZ.alike Ar.2.1) Ar.2.2 h1 (by rw [h2, ← hv]; exact H i hi) (g := mkF m pc Ls (.int j :: .ref a :: rest)) rfl rfl hd t
theorem own_newO (X : Stand p l e R s m args below meth c T locs cells slots) (hx : p.tables.exec = Jvm.exec) (hZ : Z.Warmed39 s.vm) {own C : String} {index sz : Nat} (hown : s.vm.findClass own = some m.cls) (w : (Jvm.Cond.classLink own index C).before a0 Z = true) (wi : (Jvm.Cond.instantiable C sz).before a0 Z = true) (wz : (Jvm.Cond.initialized C).before a0 Z = true) (eT : T.heap = h) (hd : decode c.code pc = .ok (.new index, 3)) (hc : cells + 1 ≤ R.cells) (hl : slots + sz ≤ R.slots) (hq : pc + 3 = q)
    (g : ∀ T' h' b, b = h.size → Stand p l e R s m args below meth c T' locs (cells + 1) (slots + sz) → T'.heap = h' → Ext h h' → Exa Z h' b C → (∀ {O nm d : String} {ty : FieldType}, Laid Z a0 C O nm d → parseFieldDescriptor d = some ty → Fld Z h' b O nm d (defaultValue ty)) → own_Go p e below s k n Q (T'.setTop (mkF m q Ls (.ref b :: st)))) :
    own_Go p e below s k n Q (T.setTop (mkF m pc Ls st)) := by
  subst hq
  obtain ⟨T', h', X', e', E, A, D, -, stp⟩ := newO X hx hZ hown w wi wz eT (g := mkF m pc Ls st) rfl hd hc hl
  exact (g T' h' h.size rfl X' e' E A D).via stp
theorem own_initO (X : Stand p l e R s m args below meth c T locs cells slots) (hx : p.tables.exec = Jvm.exec) (hZ : Z.Warmed39 s.vm) {own : String} {idx : Nat} (hown : s.vm.findClass own = some m.cls) (w1 : (Jvm.Cond.methodLink own idx Lib.objectInit).before a0 Z = true) (w2 : (Jvm.Cond.instanceMethod Lib.objectInit).before a0 Z = true)
    (w3 : (Jvm.Cond.code Lib.objectInit ⟨#[0xb1]⟩ 1 none).before a0 Z = true) (eT : T.heap = h) (hsize : Ls.size = c.maxLocals) (hd : decode c.code pc = .ok (.invokespecial idx, 3)) (hf : 1 ≤ R.frames) {W : Nat} (hW : (rest.map fun v => v.category).sum = W) (hl : W + 12 ≤ R.locals) (hq : pc + 3 = q)
    (g : ∀ T', Stand p l e R s m args below meth c T' locs cells slots → T'.heap = h → own_Go p e below s k n Q (T'.setTop (mkF m q Ls rest))) :
    own_Go p e below s k n Q (T.setTop (mkF m pc Ls (.ref a :: rest))) := by
  subst hq
  obtain ⟨T', X', e', st⟩ := initO X hx hZ hown w1 w2 w3 eT (g := mkF m pc Ls (.ref a :: rest)) rfl hsize rfl hd hf (W := W) (by show 2 * 0 + _ ≤ _; rw [hW]; omega) hl
  exact (g T' X' e').via st
theorem own_putF (X : Stand p l e R s m args below meth c T locs cells slots) (hx : p.tables.exec = Jvm.exec) (hZ : Z.Warmed39 s.vm) {own O nm d C : String} {index kk : Nat} {ft : FieldType} (hown : s.vm.findClass own = some m.cls) (w : (Jvm.Cond.fieldLink own index O nm d).before a0 Z = true)
    (eT : T.heap = h) {old : Value} (F : Fld Z h a O nm d old) (E : Exa Z h a C) (L : (Jvm.Cond.lays C O nm d).before a0 Z = true ∨ ((Jvm.Cond.laysFinal C O nm d).before a0 Z = true ∧ own = O ∧ meth.name = "<init>")) (wi : (Jvm.Cond.instantiable C kk).before a0 Z = true)
    (hty : parseFieldDescriptor d = some ft) (hn : narrow ft v = v) (hf : fits ft v = true) (hd : decode c.code pc = .ok (.putfield index, 3)) (Nf : Fr n0 locs) (ha : n0 ≤ a) (hq : pc + 3 = q)
    (g : ∀ T' h' L', Stand p l e R s m args below meth c T' L' cells slots → Fr n0 L' → T'.heap = h' → Wr h h' a (Jvm.RoadKit.slotOf Z O nm d) v → own_Go p e below s k n Q (T'.setTop (mkF m q Ls rest))) :
    own_Go p e below s k n Q (T.setTop (mkF m pc Ls (v :: .ref a :: rest))) := by
  subst hq
  obtain ⟨T', h', X', e', W, st⟩ := putF X hx hZ hown (host := "") (Or.inl w) Via.refl eT F E L wi hty hn hf (g := mkF m pc Ls (v :: .ref a :: rest)) rfl rfl hd
  exact (g T' h' _ X' (Fr.snoc X' Nf ha) e' W).via st
theorem own_getF (X : Stand p l e R s m args below meth c T locs cells slots) (hx : p.tables.exec = Jvm.exec) (hZ : Z.Warmed39 s.vm) {own O nm d : String} {index : Nat} (hown : s.vm.findClass own = some m.cls) (w : (Jvm.Cond.fieldLink own index O nm d).before a0 Z = true)
    (eT : T.heap = h) (F : Fld Z h a O nm d v) (hd : decode c.code pc = .ok (.getfield index, 3)) (hq : pc + 3 = q)
    (g : ∀ T', Stand p l e R s m args below meth c T' locs cells slots → T'.heap = h → own_Go p e below s k n Q (T'.setTop (mkF m q Ls (v :: rest)))) :
    own_Go p e below s k n Q (T.setTop (mkF m pc Ls (.ref a :: rest))) := by
  subst hq
  obtain ⟨T', X', e', st⟩ := getF X hx hZ hown (host := "") (Or.inl w) Via.refl eT F (g := mkF m pc Ls (.ref a :: rest)) rfl rfl hd
  exact (g T' X' e').via st
theorem own_getS (X : Stand p l e R s m args below meth c T locs cells slots) (hx : p.tables.exec = Jvm.exec) (hZ : Z.Warmed39 s.vm) {own O nm d : String} {index : Nat} (hown : s.vm.findClass own = some m.cls) (w : (Jvm.Cond.fieldLink own index O nm d).before a0 Z = true)
    (eT : T.heap = h) (F : Sta Z h O nm d v) (hd : decode c.code pc = .ok (.getstatic index, 3)) (hq : pc + 3 = q)
    (g : ∀ T', Stand p l e R s m args below meth c T' locs cells slots → T'.heap = h → own_Go p e below s k n Q (T'.setTop (mkF m q Ls (v :: st)))) :
    own_Go p e below s k n Q (T.setTop (mkF m pc Ls st)) := by
  subst hq
  obtain ⟨T', X', e', stp⟩ := getS X hx hZ (host := "") hown w Via.refl eT F (g := mkF m pc Ls st) rfl hd
  exact (g T' X' e').via stp
theorem own_retA (X : Stand p l e R s m args below meth c T locs cells slots) (hx : p.tables.exec = Jvm.exec) {t : FieldType} (hv : v.isRef = true) (hret : meth.sig.returnType = some t) (ht : t.isReference = true) (hlk : meth.locks = false) (hd : decode c.code pc = .ok (.areturn, 1)) (hk : cells ≤ k) (hn : slots ≤ n) (hq : Q (some v) T.heap locs) :
    own_Go p e below s k n Q (T.setTop (mkF m pc Ls [v])) := by
  obtain ⟨fs, hr, hrun, hended, hW, hsame⟩ := X.leave (v := some v) (fun h => by rw [hret] at h; cases h) hlk
  exact ⟨_, _, X.areturnOut hx hv hret ht hd hr, hrun, hended, _, _, rfl, hq, ⟨_, rfl⟩, hW, hsame.mono hk hn⟩
theorem own_newR (X : Stand p l e R s m args below meth c T locs cells slots) (hx : p.tables.exec = Jvm.exec) (hZ : Z.Warmed39 s.vm) {own C : String} {index : Nat} (hown : s.vm.findClass own = some m.cls) (w1 : (Jvm.Cond.classLink own index C).before a0 Z = true) (w2 : (Jvm.Cond.arrayOver (.object C)).before a0 Z = true) (eT : T.heap = h) (hd : decode c.code pc = .ok (.anewarray index, 3)) (hn : j.toInt = (N : Int)) {cap : Nat} (hcap : N ≤ cap) (hb : cap * 8 ≤ 536870912) (hc : cells + 1 ≤ R.cells) (hl : slots + cap ≤ R.slots) (hq : pc + 3 = q)
    (g : ∀ T' h' b, b = h.size → Stand p l e R s m args below meth c T' locs (cells + 1) (slots + cap) → T'.heap = h' → Ext h h' → own_Arr Z h' b (.object C) N (fun _ => .null) → (∃ cl, Arr Z h' b cl (.object C) ∧ Ovr Z cl.cls C) → own_Go p e below s k n Q (T'.setTop (mkF m q Ls (.ref b :: rest)))) :
    own_Go p e below s k n Q (T.setTop (mkF m pc Ls (.int j :: rest))) := by
  subst hq
  have hN : j.toNatClampNeg = N := by show j.toInt.toNat = N; omega
  have hn0 : ¬ j < 0 := fun q => by have := Int32.lt_iff_toInt_lt.mp q; have : (0 : Int32).toInt = 0 := rfl; omega
  obtain ⟨T', h', cA, X', e', E, A, O, st⟩ := newR X hx hZ hown w1 w2 eT (g := mkF m pc Ls (.int j :: rest)) rfl hd rfl hn0 (cap := cap) (by rw [hN]; exact hcap) hb hc hl
  refine (g T' h' h.size rfl X' e' E ⟨_, A, by rw [sz_new]; exact hN, ?_, fun t ht => ?_⟩ ⟨_, A, O⟩).via st
  · have := (back32 hn0).2; omega
  · show (Array.replicate j.toNatClampNeg _)[t]? = _
    rw [Array.getElem?_replicate, if_pos (by omega)]; rfl
theorem own_ovr_keep {C : String} (F : ∃ cl : Cell, Arr Z h a cl (.object C) ∧ Ovr Z cl.cls C) (W : Wr h h' a i v) : ∃ cl : Cell, Arr Z h' a cl (.object C) ∧ Ovr Z cl.cls C := by
  obtain ⟨cl, A, O⟩ := F
  exact ⟨_, Arr.same W A, O⟩
theorem own_stR {C : String} (X : Stand p l e R s m args below meth c T locs cells slots) (hx : p.tables.exec = Jvm.exec) (hZ : Z.Warmed39 s.vm) (eT : T.heap = h) (A : own_Arr Z h a (.object C) N f) (O : ∃ cl : Cell, Arr Z h a cl (.object C) ∧ Ovr Z cl.cls C) (I : Ins Z h b C true) (hd : decode c.code pc = .ok (.aastore, 1)) (hj : j.toInt = (i : Int)) (hi : i < N) (Nf : Fr n0 locs) (ha : n0 ≤ a) (hq : pc + 1 = q)
    (g : ∀ T' h' L', Stand p l e R s m args below meth c T' L' cells slots → Fr n0 L' → T'.heap = h' → own_Arr Z h' a (.object C) N (own_upd f i (.ref b)) → (∃ cl : Cell, Arr Z h' a cl (.object C) ∧ Ovr Z cl.cls C) → Wr h h' a i (.ref b) → own_Go p e below s k n Q (T'.setTop (mkF m q Ls rest))) :
    own_Go p e below s k n Q (T.setTop (mkF m pc Ls (.ref b :: .int j :: .ref a :: rest))) := by
  subst hq
  have A0 := A
  have O0 := O
  obtain ⟨cl, Ar, S, hN, H⟩ := A
  obtain ⟨cl', Ar', Ov⟩ := O
  cases Ar.1.symm.trans Ar'.1
  obtain ⟨h1, h2⟩ := own_idx (N := cl.slots.size) hj (by omega)
  obtain ⟨T', h', X', e', W, st⟩ := stR X hx hZ eT Ar (j := j) (v := .ref b) h1 rfl (Sto.of Ar Ov I) (g := mkF m pc Ls (.ref b :: .int j :: .ref a :: rest)) rfl rfl hd
  have N' := Fr.snoc X' Nf ha
  rw [h2] at W
  exact (g T' h' _ X' N' e' (A0.set W) (own_ovr_keep O0 W) W).via st
theorem own_aaload {C : String} (X : Stand p l e R s m args below meth c T locs cells slots) (hx : p.tables.exec = Jvm.exec) (hZ : Z.Warmed39 s.vm) (eT : T.heap = h) (A : own_Arr Z h a (.object C) N f) (hd : decode c.code pc = .ok (.aaload, 1)) (hj : j.toInt = (i : Int)) (hi : i < N) (hv : f i = v) (hq : pc + 1 = q)
    (g : own_Go p e below s k n Q (T.setTop (mkF m q Ls (v :: rest)))) :
    own_Go p e below s k n Q (T.setTop (mkF m pc Ls (.int j :: .ref a :: rest))) := by
  subst hq
  obtain ⟨cl, Ar, S, hN, H⟩ := A
  obtain ⟨h1, h2⟩ := own_idx (N := cl.slots.size) hj (by omega)
  exact g.via fun t => X.aaload hx (j := j) (v := v) (by rw [eT]; exact Ar.1) (State.isArrayOf_alike hZ.alike Ar.2.1) rfl Ar.2.2 h1 (by rw [h2, ← hv]; exact H i hi) (g := mkF m pc Ls (.int j :: .ref a :: rest)) rfl rfl hd t
theorem own_acmp (X : Stand p l e R s m args below meth c T locs cells slots) (hx : p.tables.exec = Jvm.exec) {cd : ClassFile.ACond} {o : Int} {P : Prop} [Decidable P] {u v : Value} (hd : decode c.code pc = .ok (.if_acmp cd o, 3)) (ho : 0 ≤ (pc : Int) + o) (hp : ((pc : Int) + o).toNat = q) (hq : pc + 3 = q') (hu : u.isRef = true) (hv : v.isRef = true) (hP : XT.acmp cd u v = decide P) (gy : P → own_Go p e below s k n Q (T.setTop (mkF m q Ls rest))) (gn : ¬ P → own_Go p e below s k n Q (T.setTop (mkF m q' Ls rest))) : own_Go p e below s k n Q (T.setTop (mkF m pc Ls (v :: u :: rest))) := by
  by_cases h : P
  · exact (gy h).via fun _ hr => XT.acmpYes (g := mkF m pc Ls (v :: u :: rest)) X.here hx rfl (pc0 := pc) rfl hd rfl hu hv (by rw [hP]; exact decide_eq_true h) ho hp hr
  · subst hq; exact (gn h).via fun _ hr => XT.acmpNo (g := mkF m pc Ls (v :: u :: rest)) X.here hx rfl hd rfl hu hv (by rw [hP]; exact decide_eq_false h) hr
theorem own_callVP {C own : String} {index : Nat} {y : MethodName} {bytes : ByteArray} {maxL : Nat} {ret : Option FieldType} (X : Stand p l e R s m args below meth c T locs cells slots) (hx : p.tables.exec = Jvm.exec) (hZ : Z.Warmed39 s.vm)
    (hown : s.vm.findClass own = some m.cls) (w1 : (Jvm.Cond.methodLink own index y).before a0 Z = true) (w2 : (Jvm.Cond.declares y).before a0 Z = true) (w3 : (Jvm.Cond.selects C y y).before a0 Z = true) (w4 : (Jvm.Cond.instanceMethod y).before a0 Z = true) (w5 : (Jvm.Cond.code y bytes maxL ret).before a0 Z = true) (w6 : (Jvm.Cond.initialized y.cls).before a0 Z = true)
    (hy : y.cls ≠ "java/lang/invoke/MethodHandle" ∧ y.cls ≠ "java/lang/invoke/VarHandle") {rm : Room} {as' : Array Value} {P : Value → Prop} {W : Nat}
    (hM : MetFree l y (head1 [Jvm.Cond.code y bytes maxL ret] rm) (fun a U => a = as' ∧ Z.Warmed39 U.vm ∧ U.heap = h) (fun _ _ _ _ _ => True) (fun _ U o U' => ∃ v L, o = .returned v ∧ ((∃ w, v = some w ∧ P w) ∧ L = [] ∧ U'.heap = h) ∧ FrameEnd U o U' L rm.cells rm.slots))
    (E : Exa Z h b C) (hf : rm.frames + 1 ≤ R.frames) (hl : W + (maxL + 11) + rm.locals ≤ R.locals) (eT : T.heap = h) (hsize : Ls.size = c.maxLocals) {argsL : List Value}
    (hlen : ∀ sig, parseMethodDescriptor y.desc = some sig → argsL.length = sig.parameters.length) (hst : st = argsL.reverse ++ .ref b :: rest) (hW : (rest.map fun v => v.category).sum = W) (hd : decode c.code pc = .ok (.invokevirtual index, 3)) (hq : pc + 3 = q) (has : (.ref b :: argsL).toArray = as') (hc : rm.cells = 0) (hs : rm.slots = 0) (hcc : cells ≤ R.cells) (hss : slots ≤ R.slots)
    (g : ∀ w T', P w → Stand p l e R s m args below meth c T' locs cells slots → T'.heap = h → own_Go p e below s k n Q (T'.setTop (mkF m q Ls (w :: rest)))) :
    own_Go p e below s k n Q (T.setTop (mkF m pc Ls st)) := by
  refine own_callV (Q' := fun v U L => (∃ w, v = some w ∧ P w) ∧ L = [] ∧ U = h) X hx hZ hown w1 w2 w3 w4 w5 w6 hy hM E hf hl eT hsize hlen hst hW hd hq has (by rw [hc]; exact hcc) (by rw [hs]; exact hss) ?_
  rintro v T' L ⟨⟨w, rfl, hP⟩, rfl, e'⟩ X'
  rw [List.append_nil, hc, hs] at X'
  exact g w T' hP X' e'
/-- a private method by invokevirtual, the heap left as it was -/
theorem own_callPP {C own : String} {index kk : Nat} {y : MethodName} {bytes : ByteArray} {maxL : Nat} {ret : Option FieldType} (X : Stand p l e R s m args below meth c T locs cells slots) (hx : p.tables.exec = Jvm.exec) (hZ : Z.Warmed39 s.vm)
    (hown : s.vm.findClass own = some m.cls) (w1 : (Jvm.Cond.methodLink own index y).before a0 Z = true) (w2 : (Jvm.Cond.privateMethod y).before a0 Z = true) (w3 : (Jvm.Cond.instantiable y.cls kk).before a0 Z = true) (w4 : (Jvm.Cond.instanceMethod y).before a0 Z = true) (w5 : (Jvm.Cond.code y bytes maxL ret).before a0 Z = true) (w6 : (Jvm.Cond.initialized y.cls).before a0 Z = true)
    (hy : y.cls ≠ "java/lang/invoke/MethodHandle" ∧ y.cls ≠ "java/lang/invoke/VarHandle") {rm : Room} {as' : Array Value} {P : Value → Prop} {W : Nat}
    (hM : MetFree l y (head1 [Jvm.Cond.code y bytes maxL ret] rm) (fun a U => a = as' ∧ Z.Warmed39 U.vm ∧ U.heap = h) (fun _ _ _ _ _ => True) (fun _ U o U' => ∃ v L, o = .returned v ∧ ((∃ w, v = some w ∧ P w) ∧ L = [] ∧ U'.heap = h) ∧ FrameEnd U o U' L rm.cells rm.slots))
    (E : Exa Z h b C) (hf : rm.frames + 1 ≤ R.frames) (hl : W + (maxL + 11) + rm.locals ≤ R.locals) (eT : T.heap = h) (hsize : Ls.size = c.maxLocals) {argsL : List Value}
    (hlen : ∀ sig, parseMethodDescriptor y.desc = some sig → argsL.length = sig.parameters.length) (hst : st = argsL.reverse ++ .ref b :: rest) (hW : (rest.map fun v => v.category).sum = W) (hd : decode c.code pc = .ok (.invokevirtual index, 3)) (hq : pc + 3 = q) (has : (.ref b :: argsL).toArray = as') (hc : rm.cells = 0) (hs : rm.slots = 0) (hcc : cells ≤ R.cells) (hss : slots ≤ R.slots)
    (g : ∀ w T', P w → Stand p l e R s m args below meth c T' locs cells slots → T'.heap = h → own_Go p e below s k n Q (T'.setTop (mkF m q Ls (w :: rest)))) :
    own_Go p e below s k n Q (T.setTop (mkF m pc Ls st)) := by
  subst hq hst
  obtain ⟨cq, q1, q2⟩ := E.cell
  have hi := mvT (args := args) hZ w4
  have hp := Cond.privateMethod_at (mvP (args := #[]) hZ w2)
  obtain ⟨ci, ki, f1, f2, -, f3, -⟩ := Cond.instantiable_spec (mvT (args := args) hZ w3)
  have hsel := selects_self_of_private f1 f2 (Bool.or_eq_false_iff.mp f3).1 hp hi hy
  obtain ⟨v, _, ⟨T7, L7, k7, n7⟩, -, X7, ⟨Lc7, hQ7, l7, y7, z7⟩, st7⟩ := X.privateBack hx hown (mvT hZ w1) hi hsel hp (mvT hZ w5) hy (backOf (W := W) (Q := fun v U L => (∃ w, v = some w ∧ P w) ∧ L = [] ∧ U = h) hM hZ w5 w6 hf hl) (g := mkF m pc Ls (argsL.reverse ++ .ref b :: rest)) rfl hsize (Steps.refl _) (a := b) (by rw [eT]; exact q1) q2 (argsL := argsL) (rest := rest) hlen rfl (by show 2 * 0 + _ ≤ _; rw [hW]; omega) hd (fun _ _ => ⟨has, eT, by rw [hc]; exact hcc, by rw [hs]; exact hss⟩)
  dsimp only [Pt.U, Pt.locs, Pt.cells, Pt.slots] at X7 l7 y7 z7 st7 hQ7
  obtain ⟨⟨w, rfl, hP⟩, rfl, e'⟩ := hQ7
  rw [List.append_nil] at l7
  rw [hc] at y7
  rw [hs] at z7
  subst l7 y7 z7
  exact (g w T7 hP X7 e').via fun t hh => st7.trans hh
/-- a constructor that leaves the heap as it was (Record's, say) -/
theorem own_callNP {own : String} {index : Nat} {y : MethodName} {bytes : ByteArray} {maxL : Nat} (X : Stand p l e R s m args below meth c T locs cells slots) (hx : p.tables.exec = Jvm.exec) (hZ : Z.Warmed39 s.vm)
    (hyn : y.name = "<init>") (hown : s.vm.findClass own = some m.cls) (w1 : (Jvm.Cond.methodLink own index y).before a0 Z = true) (w2 : (Jvm.Cond.instanceMethod y).before a0 Z = true) (w3 : (Jvm.Cond.initialized y.cls).before a0 Z = true) (w4 : (Jvm.Cond.code y bytes maxL none).before a0 Z = true)
    (hy : y.cls ≠ "java/lang/invoke/MethodHandle" ∧ y.cls ≠ "java/lang/invoke/VarHandle") {rm : Room} {as' : Array Value} {W : Nat}
    (hM : MetFree l y (head1 [Jvm.Cond.code y bytes maxL none] rm) (fun a U => a = as' ∧ Z.Warmed39 U.vm ∧ U.heap = h) (fun _ _ _ _ _ => True) (fun _ U o U' => ∃ v L, o = .returned v ∧ (v = none ∧ L = [] ∧ U'.heap = h) ∧ FrameEnd U o U' L rm.cells rm.slots))
    (hf : rm.frames + 1 ≤ R.frames) (hl : W + (maxL + 11) + rm.locals ≤ R.locals) (eT : T.heap = h) (hsize : Ls.size = c.maxLocals) {argsL : List Value}
    (hlen : ∀ sig, parseMethodDescriptor y.desc = some sig → argsL.length = sig.parameters.length) (hst : st = argsL.reverse ++ .ref b :: rest) (hW : (rest.map fun v => v.category).sum = W) (hd : decode c.code pc = .ok (.invokespecial index, 3)) (hq : pc + 3 = q) (has : (.ref b :: argsL).toArray = as') (hc : rm.cells = 0) (hs : rm.slots = 0) (hcc : cells ≤ R.cells) (hss : slots ≤ R.slots)
    (g : ∀ T', Stand p l e R s m args below meth c T' locs cells slots → T'.heap = h → own_Go p e below s k n Q (T'.setTop (mkF m q Ls rest))) :
    own_Go p e below s k n Q (T.setTop (mkF m pc Ls st)) := by
  refine own_callN (Q' := fun v U L => v = none ∧ L = [] ∧ U = h) (b := b) X hx hZ hyn hown w1 w2 w3 w4 hy hM hf hl eT hsize hlen hst hW hd hq has (by rw [hc]; exact hcc) (by rw [hs]; exact hss) ?_
  rintro v T' L ⟨rfl, rfl, e'⟩ X'
  rw [List.append_nil, hc, hs] at X'
  exact g T' X' e'
theorem own_addL (x y : Int64) (h1 : -9223372036854775808 ≤ x.toInt + y.toInt) (h2 : x.toInt + y.toInt < 9223372036854775808) : (x + y).toInt = x.toInt + y.toInt := by
  have := c_ladd x y; have := rng64 (x + y); omega
theorem own_subL (x y : Int64) (h1 : -9223372036854775808 ≤ x.toInt - y.toInt) (h2 : x.toInt - y.toInt < 9223372036854775808) : (x - y).toInt = x.toInt - y.toInt := by
  have := c_lsub x y; have := rng64 (x - y); omega
theorem own_mulL (x y : Int64) (h1 : -9223372036854775808 ≤ x.toInt * y.toInt) (h2 : x.toInt * y.toInt < 9223372036854775808) : (x * y).toInt = x.toInt * y.toInt := by
  have := c_lmul x y; have := rng64 (x * y); omega
theorem own_nb (z : Int32) (h : z.toInt = 0 ∨ z.toInt = 1) : nar .boolean z = z := by
  rcases h with h | h
  · rw [show z = 0 from Int32.toInt_inj.mp h]; rfl
  · rw [show z = 1 from Int32.toInt_inj.mp h]; rfl
theorem own_rngU {f : Nat → Int32} (hf : ∀ j, -128 ≤ (f j).toInt ∧ (f j).toInt < 128) (i : Nat) (x : Int32) : ∀ j, -128 ≤ (own_updI f i (x.toInt8.toInt32) j).toInt ∧ (own_updI f i (x.toInt8.toInt32) j).toInt < 128 := by
  intro j
  by_cases q : j = i
  · subst q; rw [own_updI_same]; exact (c_i2b x).2
  · rw [own_updI_ne _ _ q]; exact hf j
theorem own_rng0 : ∀ j, -128 ≤ (own_zero j).toInt ∧ (own_zero j).toInt < 128 := fun _ => ⟨show (-128 : Int) ≤ (0 : Int32).toInt by decide, show (0 : Int32).toInt < (128 : Int) by decide⟩
end Own2
section Own3
variable {p : Program} {l : Launch} {e : Env} {R : Room} {s : State} {m : MethodId} {args : Array Value} {below : List Frame} {meth : Method} {c : Code} {T : State} {locs : List Loc} {cells slots : Nat} {k n : Nat} {Q : Option Value → Heap → List Loc → Prop} {pc q q' : Nat} {Ls l' : Array Slot} {st rest : List Value} {Z : State} {a0 : Array Value} {h h' : Heap} {ws : List Addr}
theorem own_i2d (X : Stand p l e R s m args below meth c T locs cells slots) (hx : p.tables.exec = Jvm.exec) {x : Int32} (hd : decode c.code pc = .ok (.i2d, 1)) (hq : pc + 1 = q) (g : own_Go p e below s k n Q (T.setTop (mkF m q Ls (.double (FP.i2d x) :: rest)))) : own_Go p e below s k n Q (T.setTop (mkF m pc Ls (.int x :: rest))) := by
  subst hq; exact g.via fun _ hr_ => XS.i2dS (g := mkF m pc Ls (.int x :: rest)) X.here hx rfl hd rfl rfl hr_
theorem own_l2d (X : Stand p l e R s m args below meth c T locs cells slots) (hx : p.tables.exec = Jvm.exec) {x : Int64} (hd : decode c.code pc = .ok (.l2d, 1)) (hq : pc + 1 = q) (g : own_Go p e below s k n Q (T.setTop (mkF m q Ls (.double (FP.l2d x) :: rest)))) : own_Go p e below s k n Q (T.setTop (mkF m pc Ls (.long x :: rest))) := by
  subst hq; exact g.via fun _ hr_ => XS.l2dS (g := mkF m pc Ls (.long x :: rest)) X.here hx rfl hd rfl rfl hr_
theorem own_dload (X : Stand p l e R s m args below meth c T locs cells slots) (hx : p.tables.exec = Jvm.exec) {i : Nat} {v : UInt64} (hd : decode c.code pc = .ok (.dload i, 2)) (hl : Ls[i]? = some (.val (.double v))) (hq : pc + 2 = q) (g : own_Go p e below s k n Q (T.setTop (mkF m q Ls (.double v :: st)))) : own_Go p e below s k n Q (T.setTop (mkF m pc Ls st)) := by
  subst hq; exact g.via fun _ hr_ => XS.dload (g := mkF m pc Ls st) X.here hx rfl hd hl hr_
theorem own_dload_n (X : Stand p l e R s m args below meth c T locs cells slots) (hx : p.tables.exec = Jvm.exec) {i : Fin 4} {v : UInt64} (hd : decode c.code pc = .ok (.dload_n i, 1)) (hl : Ls[i.val]? = some (.val (.double v))) (hq : pc + 1 = q) (g : own_Go p e below s k n Q (T.setTop (mkF m q Ls (.double v :: st)))) : own_Go p e below s k n Q (T.setTop (mkF m pc Ls st)) := by
  subst hq; exact g.via fun _ hr_ => XS.dloadN (g := mkF m pc Ls st) X.here hx rfl hd hl hr_
theorem own_dstore (X : Stand p l e R s m args below meth c T locs cells slots) (hx : p.tables.exec = Jvm.exec) {i : Nat} {v : UInt64} (hd : decode c.code pc = .ok (.dstore i, 2)) (hl : storeLocals Ls i (.double v) = some l') (hq : pc + 2 = q) (g : own_Go p e below s k n Q (T.setTop (mkF m q l' rest))) : own_Go p e below s k n Q (T.setTop (mkF m pc Ls (.double v :: rest))) := by
  subst hq; exact g.via fun _ hr_ => XS.dstore (g := mkF m pc Ls (.double v :: rest)) X.here hx rfl hd rfl hl hr_
theorem own_dstore_n (X : Stand p l e R s m args below meth c T locs cells slots) (hx : p.tables.exec = Jvm.exec) {i : Fin 4} {v : UInt64} (hd : decode c.code pc = .ok (.dstore_n i, 1)) (hl : storeLocals Ls i.val (.double v) = some l') (hq : pc + 1 = q) (g : own_Go p e below s k n Q (T.setTop (mkF m q l' rest))) : own_Go p e below s k n Q (T.setTop (mkF m pc Ls (.double v :: rest))) := by
  subst hq; exact g.via fun _ hr_ => XS.dstoreN (g := mkF m pc Ls (.double v :: rest)) X.here hx rfl hd rfl hl hr_
theorem own_dcmp (X : Stand p l e R s m args below meth c T locs cells slots) (hx : p.tables.exec = Jvm.exec) {o : CmpOp} {x y : UInt64} {v : Int32} (hd : decode c.code pc = .ok (.dcmp o, 1)) (hv : cmpValue (FP.dcmp x y) o = v) (hq : pc + 1 = q) (g : own_Go p e below s k n Q (T.setTop (mkF m q Ls (.int v :: rest)))) : own_Go p e below s k n Q (T.setTop (mkF m pc Ls (.double y :: .double x :: rest))) := by
  subst hq; exact g.via fun _ hr_ => XS.dcmpS (g := mkF m pc Ls (.double y :: .double x :: rest)) X.here hx rfl hd rfl hv hr_
theorem own_ldcD (X : Stand p l e R s m args below meth c T locs cells slots) (hx : p.tables.exec = Jvm.exec) (hZ : Z.Warmed39 s.vm) {own : String} {index : Nat} {v : UInt64} (hown : s.vm.findClass own = some m.cls) (w : (Jvm.Cond.constantDouble own index v).before a0 Z = true) (hd : decode c.code pc = .ok (.ldc2_w index, 3)) (hq : pc + 3 = q)
    (g : own_Go p e below s k n Q (T.setTop (mkF m q Ls (.double v :: st)))) : own_Go p e below s k n Q (T.setTop (mkF m pc Ls st)) := by
  subst hq; exact g.via fun t => X.ldc2DoubleC hx hown (mvT hZ w) (g := mkF m pc Ls st) rfl hd t
theorem own_kext (K : Keep h h' []) : Ext h h' := ⟨K.1, fun x c q => K.2.1 x c q nin0⟩
end Own3
section Own4
variable {p : Program} {l : Launch} {e : Env} {R : Room} {s : State} {m : MethodId} {args : Array Value} {below : List Frame} {meth : Method} {c : Code} {T : State} {locs : List Loc} {cells slots : Nat} {k n : Nat} {Q : Option Value → Heap → List Loc → Prop} {pc q q' : Nat} {Ls l' : Array Slot} {st rest : List Value} {Z : State} {a0 : Array Value} {h h' : Heap} {ws : List Addr} {a : Addr} {ty : FieldType} {N i n0 : Nat} {f : Nat → Value} {j : Int32}
theorem own_dmul (X : Stand p l e R s m args below meth c T locs cells slots) (hx : p.tables.exec = Jvm.exec) {x y : UInt64} (hd : decode c.code pc = .ok (.dmul, 1)) (hn : Jvm.Free.Fl.Fin64 (FP.dmul x y)) (hq : pc + 1 = q) (g : own_Go p e below s k n Q (T.setTop (mkF m q Ls (.double (FP.dmul x y) :: rest)))) : own_Go p e below s k n Q (T.setTop (mkF m pc Ls (.double y :: .double x :: rest))) := by
  subst hq; exact g.via fun _ hr_ => XS.dmulS (g := mkF m pc Ls (.double y :: .double x :: rest)) X.here hx rfl hd rfl hn.noNaN rfl hr_
theorem own_dadd (X : Stand p l e R s m args below meth c T locs cells slots) (hx : p.tables.exec = Jvm.exec) {x y : UInt64} (hd : decode c.code pc = .ok (.dadd, 1)) (hn : Jvm.Free.Fl.Fin64 (FP.dadd x y)) (hq : pc + 1 = q) (g : own_Go p e below s k n Q (T.setTop (mkF m q Ls (.double (FP.dadd x y) :: rest)))) : own_Go p e below s k n Q (T.setTop (mkF m pc Ls (.double y :: .double x :: rest))) := by
  subst hq; exact g.via fun _ hr_ => XS.daddS (g := mkF m pc Ls (.double y :: .double x :: rest)) X.here hx rfl hd rfl hn.noNaN rfl hr_
theorem own_ddiv (X : Stand p l e R s m args below meth c T locs cells slots) (hx : p.tables.exec = Jvm.exec) {x y : UInt64} (hd : decode c.code pc = .ok (.ddiv, 1)) (hn : Jvm.Free.Fl.Fin64 (FP.ddiv x y)) (hq : pc + 1 = q) (g : own_Go p e below s k n Q (T.setTop (mkF m q Ls (.double (FP.ddiv x y) :: rest)))) : own_Go p e below s k n Q (T.setTop (mkF m pc Ls (.double y :: .double x :: rest))) := by
  subst hq; exact g.via fun _ hr_ => XS.ddivS (g := mkF m pc Ls (.double y :: .double x :: rest)) X.here hx rfl hd rfl hn.noNaN rfl hr_
theorem own_dconst0 (X : Stand p l e R s m args below meth c T locs cells slots) (hx : p.tables.exec = Jvm.exec) (hd : decode c.code pc = .ok (.dconst 0, 1)) (hq : pc + 1 = q) (g : own_Go p e below s k n Q (T.setTop (mkF m q Ls (.double FP.dconst0 :: st)))) : own_Go p e below s k n Q (T.setTop (mkF m pc Ls st)) := by
  subst hq; exact g.via fun _ hr_ => XS.dconst0 (g := mkF m pc Ls st) X.here hx rfl hd rfl hr_
theorem own_dconst1 (X : Stand p l e R s m args below meth c T locs cells slots) (hx : p.tables.exec = Jvm.exec) (hd : decode c.code pc = .ok (.dconst 1, 1)) (hq : pc + 1 = q) (g : own_Go p e below s k n Q (T.setTop (mkF m q Ls (.double FP.dconst1 :: st)))) : own_Go p e below s k n Q (T.setTop (mkF m pc Ls st)) := by
  subst hq; exact g.via fun _ hr_ => XS.dconst1 (g := mkF m pc Ls st) X.here hx rfl hd rfl hr_
theorem own_newPD (X : Stand p l e R s m args below meth c T locs cells slots) (hx : p.tables.exec = Jvm.exec) (hZ : Z.Warmed39 s.vm) {aty : ArrayType} (w : (Jvm.Cond.arrayClass (newarray.typeOf aty)).before a0 Z = true) (eT : T.heap = h) (hd : decode c.code pc = .ok (.newarray aty, 2)) (hn : j.toInt = (N : Int)) {cap : Nat} (hcap : N ≤ cap) (hb : cap * 8 ≤ 536870912) (hc : cells + 1 ≤ R.cells) (hl : slots + cap ≤ R.slots) {ad : String} (had : "[" ++ (newarray.typeOf aty).toString = ad) (hq : pc + 2 = q)
    (g : ∀ T' h' b, b = h.size → Stand p l e R s m args below meth c T' locs (cells + 1) (slots + cap) → T'.heap = h' → Ext h h' → own_Arr Z h' b (newarray.typeOf aty) N (fun _ => defaultValue (newarray.typeOf aty)) → Exa Z h' b ad → own_Go p e below s k n Q (T'.setTop (mkF m q Ls (.ref b :: rest)))) :
    own_Go p e below s k n Q (T.setTop (mkF m pc Ls (.int j :: rest))) := by
  subst hq
  have hN : j.toNatClampNeg = N := by show j.toInt.toNat = N; omega
  have hn0 : ¬ j < 0 := fun q => by have := Int32.lt_iff_toInt_lt.mp q; have : (0 : Int32).toInt = 0 := rfl; omega
  obtain ⟨T', h', cA, X', e', E, A, Ex, st⟩ := newPE X hx hZ w eT (g := mkF m pc Ls (.int j :: rest)) rfl hd rfl hn0 (cap := cap) (by rw [hN]; exact hcap) hb hc hl had
  refine (g T' h' h.size rfl X' e' E ⟨_, A, by rw [sz_new]; exact hN, ?_, fun t ht => ?_⟩ Ex).via st
  · have := (back32 hn0).2; omega
  · show (Array.replicate j.toNatClampNeg _)[t]? = _
    rw [Array.getElem?_replicate, if_pos (by omega)]
theorem own_stD (X : Stand p l e R s m args below meth c T locs cells slots) (hx : p.tables.exec = Jvm.exec) (hZ : Z.Warmed39 s.vm) (eT : T.heap = h) {x : UInt64} (A : own_Arr Z h a .double N f) (hd : decode c.code pc = .ok (.dastore, 1)) (hj : j.toInt = (i : Int)) (hi : i < N) (Nf : Fr n0 locs) (ha : n0 ≤ a) (hq : pc + 1 = q)
    (g : ∀ T' h' L', Stand p l e R s m args below meth c T' L' cells slots → Fr n0 L' → T'.heap = h' → own_Arr Z h' a .double N (own_upd f i (.double x)) → Wr h h' a i (.double x) → own_Go p e below s k n Q (T'.setTop (mkF m q Ls rest))) :
    own_Go p e below s k n Q (T.setTop (mkF m pc Ls (.double x :: .int j :: .ref a :: rest))) := by
  subst hq
  have A0 := A
  obtain ⟨cl, Ar, S, hN, H⟩ := A
  obtain ⟨h1, h2⟩ := own_idx (N := cl.slots.size) hj (by omega)
  obtain ⟨T', h', X', e', W, st⟩ := stD X hx hZ eT Ar (j := j) (x := x) h1 (g := mkF m pc Ls (.double x :: .int j :: .ref a :: rest)) rfl rfl hd
  have N' := Fr.snoc X' Nf ha
  rw [h2] at W
  exact (g T' h' _ X' N' e' (A0.set W) W).via st
theorem own_arraylength (X : Stand p l e R s m args below meth c T locs cells slots) (hx : p.tables.exec = Jvm.exec) (hZ : Z.Warmed39 s.vm) (eT : T.heap = h) (A : own_Arr Z h a ty N f) (hd : decode c.code pc = .ok (.arraylength, 1)) {v : Int32} (hv : N.toInt32 = v) (hq : pc + 1 = q)
    (g : own_Go p e below s k n Q (T.setTop (mkF m q Ls (.int v :: rest)))) :
    own_Go p e below s k n Q (T.setTop (mkF m pc Ls (.ref a :: rest))) := by
  subst hq hv
  obtain ⟨cl, Ar, S, hN, H⟩ := A
  subst S
  exact g.via fun t => X.arraylength hx (by rw [eT]; exact Ar.1) (State.isArrayOf_alike hZ.alike Ar.2.1) (g := mkF m pc Ls (.ref a :: rest)) rfl rfl hd t
theorem own_clone {own ad : String} {index : Nat} (X : Stand p l e R s m args below meth c T locs cells slots) (hx : p.tables.exec = Jvm.exec) (hZ : Z.Warmed39 s.vm) (hown : s.vm.findClass own = some m.cls)
    (w1 : (Jvm.Cond.methodLink own index ⟨ad, "clone", "()Ljava/lang/Object;"⟩).before a0 Z = true) (w2 : (Jvm.Cond.sameMethod ad "java/lang/Object" "clone" "()Ljava/lang/Object;").before a0 Z = true) (w3 : (Jvm.Cond.native ⟨"java/lang/Object", "clone", "()Ljava/lang/Object;"⟩).before a0 Z = true)
    (w4 : (Jvm.Cond.instanceMethod ⟨"java/lang/Object", "clone", "()Ljava/lang/Object;"⟩).before a0 Z = true) (w5 : (Jvm.Cond.selects ad ⟨ad, "clone", "()Ljava/lang/Object;"⟩ ⟨"java/lang/Object", "clone", "()Ljava/lang/Object;"⟩).before a0 Z = true) (w6 : (Jvm.Cond.castable ad "java/lang/Cloneable").before a0 Z = true)
    (eT : T.heap = h) (A : own_Arr Z h a ty N f) (E : Exa Z h a ad) (hf : ∀ i, i < N → fits ty (f i) = true) (hsize : Ls.size = c.maxLocals) (hd : decode c.code pc = .ok (.invokevirtual index, 3)) (hfr : 1 ≤ R.frames) {W cap : Nat} (hW : (rest.map fun v => v.category).sum = W) (hl : W + 14 ≤ R.locals) (hcap : N ≤ cap) (hc : cells + 1 ≤ R.cells) (hsl : slots + cap ≤ R.slots) (hq : pc + 3 = q)
    (g : ∀ T' h' b, b = h.size → Stand p l e R s m args below meth c T' locs (cells + 1) (slots + cap) → T'.heap = h' → Ext h h' → Exa Z h' b ad → own_Go p e below s k n Q (T'.setTop (mkF m q Ls (.ref b :: rest)))) :
    own_Go p e below s k n Q (T.setTop (mkF m pc Ls (.ref a :: rest))) := by
  subst hq
  obtain ⟨cl, Ar, S, hN, H⟩ := A
  have F : FitC Z cl := fitC_of Ar (fun i hi v hv => by rw [H i (by omega)] at hv; cases hv; exact hf i (by omega))
  obtain ⟨T', h', X', e', Ee, A', Ex, st⟩ := cloneA X hx hZ hown w1 w2 w3 w4 w5 w6 eT Ar E F (g := mkF m pc Ls (.ref a :: rest)) rfl hsize rfl hd hfr (W := W) (cap := cap) (by show 2 * 0 + _ ≤ _; rw [hW]; omega) hl (by omega) hc hsl
  exact (g T' h' h.size rfl X' e' Ee Ex).via st
theorem own_cast {own K : String} {index : Nat} (X : Stand p l e R s m args below meth c T locs cells slots) (hx : p.tables.exec = Jvm.exec) (hZ : Z.Warmed39 s.vm) (hown : s.vm.findClass own = some m.cls) (w : (Jvm.Cond.classLink own index K).before a0 Z = true) (eT : T.heap = h) (F : Ins Z h a K true) (hd : decode c.code pc = .ok (.checkcast index, 3)) (hq : pc + 3 = q)
    (g : ∀ T', Stand p l e R s m args below meth c T' locs cells slots → T'.heap = h → own_Go p e below s k n Q (T'.setTop (mkF m q Ls (.ref a :: rest)))) :
    own_Go p e below s k n Q (T.setTop (mkF m pc Ls (.ref a :: rest))) := by
  subst hq
  obtain ⟨T', X', e', st⟩ := castY X hx hZ hown w eT F (g := mkF m pc Ls (.ref a :: rest)) rfl rfl hd
  exact (g T' X' e').via st
theorem own_retD (X : Stand p l e R s m args below meth c T locs cells slots) (hx : p.tables.exec = Jvm.exec) {z : UInt64} (hret : meth.sig.returnType = some .double) (hlk : meth.locks = false) (hd : decode c.code pc = .ok (.dreturn, 1)) (hk : cells ≤ k) (hn : slots ≤ n) (hq : Q (some (.double z)) T.heap locs) :
    own_Go p e below s k n Q (T.setTop (mkF m pc Ls [.double z])) := by
  obtain ⟨fs, hr, hrun, hended, hW, hsame⟩ := X.leave (v := some (.double z)) (fun h => by rw [hret] at h; cases h) hlk
  have hm' : T.vm.method? m = some meth := X.method'
  refine ⟨_, _, ?_, hrun, hended, _, _, rfl, hq, ⟨_, rfl⟩, hW, hsame.mono hk hn⟩
  show Steps p.tables e below (T.setTop { method := m, pc := pc, locals := Ls, stack := [.double z], locked := none }) _
  jvm_step X.here [X.here.top, hx, hd, hm', hret]
  first | (intro acts; rw [hr _ acts rfl rfl rfl]) | rw [hr _ _ rfl rfl rfl]
  exact Steps.refl _
end Own4
theorem own_pd0 : parseMethodDescriptor "()V" = some ⟨[], none⟩ := by decide +kernel
theorem own_pd1 : parseMethodDescriptor "([D[D)V" = some ⟨[(.array .double), (.array .double)], none⟩ := by decide +kernel
theorem own_pd2 : parseMethodDescriptor "(DDDDDLcom/example/stellwerk/stellwerk/core/TractiveEffort;)V" = some ⟨[.double, .double, .double, .double, .double, (.object "com/example/stellwerk/stellwerk/core/TractiveEffort")], none⟩ := by decide +kernel
theorem own_pd3 : parseMethodDescriptor "(D)D" = some ⟨[.double], (some .double)⟩ := by decide +kernel
section OwnM
open Jvm.FP Jvm.FP.Core
/-- X * 2^a = Y, as naturals -/
def own_V (X Y : Nat) (a : Int) : Prop := X * 2 ^ a.toNat = Y * 2 ^ (-a).toNat
theorem own_two {X Y : Nat} {a : Int} (h : own_V X Y a) {P S : Nat} (hp : (P : Int) - S = a) : X * 2 ^ P = Y * 2 ^ S := by
  unfold own_V at h
  rcases Int.le_total 0 a with q | q
  · rw [show (-a).toNat = 0 by omega] at h
    rw [show P = a.toNat + S by omega, Nat.pow_add, ← Nat.mul_assoc, h]; simp
  · rw [show a.toNat = 0 by omega] at h
    rw [show S = (-a).toNat + P by omega, Nat.pow_add, ← Nat.mul_assoc, ← h]; simp
theorem own_V.mk' {X Y : Nat} {a : Int} {P S : Nat} (hp : (P : Int) - S = a) (h : X * 2 ^ P = Y * 2 ^ S) : own_V X Y a := by
  unfold own_V
  rcases Int.le_total 0 a with q | q
  · have e : P = a.toNat + S := by omega
    rw [show (-a).toNat = 0 by omega]
    rw [e, Nat.pow_add, ← Nat.mul_assoc] at h
    simpa using Nat.eq_of_mul_eq_mul_right (Nat.two_pow_pos S) h
  · have e : S = (-a).toNat + P := by omega
    rw [show a.toNat = 0 by omega]
    rw [e, Nat.pow_add, ← Nat.mul_assoc] at h
    simpa using Nat.eq_of_mul_eq_mul_right (Nat.two_pow_pos P) h
theorem own_V.mul {X Y X' Y' : Nat} {a b : Int} (h : own_V X Y a) (h' : own_V X' Y' b) : own_V (X * X') (Y * Y') (a + b) := by
  have e1 := own_two h (P := a.toNat) (S := (-a).toNat) (by omega)
  have e2 := own_two h' (P := b.toNat) (S := (-b).toNat) (by omega)
  refine own_V.mk' (P := a.toNat + b.toNat) (S := (-a).toNat + (-b).toNat) (by omega) ?_
  rw [Nat.pow_add, Nat.pow_add, Nat.mul_mul_mul_comm, e1, e2, Nat.mul_mul_mul_comm]
/-- the double is exactly n / 2^k, and not below 0 -/
def own_D (n k : Nat) (x : UInt64) : Prop := ∃ c q, val64 x = .fin false c q ∧ own_V c n (q + k)
theorem own_round {n k : Nat} (hn : n < 2 ^ 53) (hk : k ≤ 900) {x : UInt64} (h : val64 x = round b64 (.fin false n (-(k : Int)))) : own_D n k x := by
  by_cases h0 : n = 0
  · subst h0
    refine ⟨0, b64.qmin, h, ?_⟩
    unfold own_V; simp
  · have hl : n.log2 ≤ 52 := by have := (Nat.log2_lt h0).mpr hn; omega
    have h1 : 2 ^ n.log2 ≤ n := Nat.log2_self_le h0
    have h2 : n < 2 ^ (n.log2 + 1) := Nat.lt_log2_self
    have hf : Jvm.FP.Core.fits b64 (Datum.fin false (n * 2 ^ (52 - n.log2)) (-(k : Int) - ((52 - n.log2 : Nat) : Int))) := by
      refine ⟨?_, ?_, ?_, Or.inr ?_⟩
      · show n * 2 ^ (52 - n.log2) < 2 ^ 53
        calc n * 2 ^ (52 - n.log2) < 2 ^ (n.log2 + 1) * 2 ^ (52 - n.log2) := Nat.mul_lt_mul_of_pos_right h2 (Nat.two_pow_pos _)
          _ = 2 ^ 53 := by rw [← Nat.pow_add]; congr 1; omega
      · show (2 - ((1023 : Nat) : Int) - ((53 : Nat) : Int)) ≤ _; omega
      · show _ ≤ (((1023 : Nat) : Int) - ((53 : Nat) : Int) + 1); omega
      · show 2 ^ 52 ≤ n * 2 ^ (52 - n.log2)
        calc 2 ^ 52 = 2 ^ n.log2 * 2 ^ (52 - n.log2) := by rw [← Nat.pow_add]; congr 1; omega
          _ ≤ n * 2 ^ (52 - n.log2) := Nat.mul_le_mul_right _ h1
    have hr : round b64 (.fin false n (-(k : Int))) = .fin false (n * 2 ^ (52 - n.log2)) (-(k : Int) - ((52 - n.log2 : Nat) : Int)) := by
      refine roundRatio_exact good_b64 (by decide) hf ?_
      rw [show (-(k : Int) - (-(k : Int) - ((52 - n.log2 : Nat) : Int))).toNat = 52 - n.log2 by omega, show (-(k : Int) - ((52 - n.log2 : Nat) : Int) - -(k : Int)).toNat = 0 by omega]
      simp
    refine ⟨_, _, h.trans hr, ?_⟩
    refine own_V.mk' (P := 0) (S := 52 - n.log2) (by omega) ?_
    simp
theorem own_Dmul {n m j k K : Nat} {x y : UInt64} (hx : own_D n j x) (hy : own_D m k y) (hK : j + k = K) : val64 (FP.dmul x y) = round b64 (.fin false (n * m) (-(K : Int))) := by
  subst hK
  obtain ⟨c, q, e1, v1⟩ := hx
  obtain ⟨d, r, e2, v2⟩ := hy
  rw [show FP.dmul x y = Core.dmul x y from rfl, val64_dmul, e1, e2]
  show roundRatio b64 (false != false) (c * d) 1 (q + r) = roundRatio b64 false (n * m) 1 _
  refine roundRatio_congr (by decide) (by decide) ?_
  have := own_two (v1.mul v2) (P := (q + r - -((j + k : Nat) : Int)).toNat) (S := (-((j + k : Nat) : Int) - (q + r)).toNat) (by omega)
  simpa using this
theorem own_Dadd {n m j k K : Nat} {x y : UInt64} (hx : own_D n j x) (hy : own_D m k y) (hj : j ≤ K) (hk : k ≤ K) : val64 (FP.dadd x y) = round b64 (.fin false (n * 2 ^ (K - j) + m * 2 ^ (K - k)) (-(K : Int))) := by
  obtain ⟨c, q, e1, v1⟩ := hx
  obtain ⟨d, r, e2, v2⟩ := hy
  rw [show FP.dadd x y = Core.dadd x y from rfl, val64_dadd, e1, e2]
  have es : exactSum (.fin false c q) (.fin false d r) = .fin false (inUnits c q (min q r) + inUnits d r (min q r)) (min q r) := by
    show Datum.fin (sumSign false false (sumUnits false c q false d r (min q r))) (sumUnits false c q false d r (min q r)).natAbs (min q r) = _
    have e : sumUnits false c q false d r (min q r) = ((inUnits c q (min q r) + inUnits d r (min q r) : Nat) : Int) := by simp [sumUnits, signed]
    rw [e, Int.natAbs_natCast]
    congr 1
    unfold sumSign
    split
    · rfl
    · exact decide_eq_false (by omega)
  rw [es]
  show roundRatio b64 false _ 1 _ = roundRatio b64 false _ 1 _
  refine roundRatio_congr (by decide) (by decide) ?_
  have t1 := own_two v1 (P := (q - min q r).toNat + (min q r - -(K : Int)).toNat) (S := (K - j) + (-(K : Int) - min q r).toNat) (by omega)
  have t2 := own_two v2 (P := (r - min q r).toNat + (min q r - -(K : Int)).toNat) (S := (K - k) + (-(K : Int) - min q r).toNat) (by omega)
  rw [Nat.pow_add, Nat.pow_add, ← Nat.mul_assoc, ← Nat.mul_assoc] at t1 t2
  simp only [Nat.mul_one, inUnits, Nat.add_mul]
  omega
theorem own_Ddiv {n j w K : Nat} {x y : UInt64} (hx : own_D n j x) (hy : val64 y = .fin false (2 ^ 52) ((w : Int) - 52)) (hK : j + w = K) : val64 (FP.ddiv x y) = round b64 (.fin false n (-(K : Int))) := by
  subst hK
  obtain ⟨c, q, e1, v1⟩ := hx
  rw [show FP.ddiv x y = Core.ddiv x y from rfl, val64_ddiv, e1, hy]
  show (if (2 ^ 52 : Nat) = 0 then (if c = 0 then Datum.nan else Datum.inf (false != false)) else roundRatio b64 (false != false) c (2 ^ 52) (q - ((w : Int) - 52))) = roundRatio b64 false n 1 _
  rw [if_neg (by decide)]
  refine roundRatio_congr (by decide) (by decide) ?_
  have t1 := own_two v1 (P := (q - ((w : Int) - 52) - -((j + w : Nat) : Int)).toNat) (S := 52 + (-((j + w : Nat) : Int) - (q - ((w : Int) - 52))).toNat) (by omega)
  rw [Nat.pow_add, ← Nat.mul_assoc] at t1
  simpa using t1
theorem own_Dl {a : Int64} (h : 0 ≤ a.toInt) : val64 (FP.l2d a) = round b64 (.fin false a.toInt.toNat (-((0 : Nat) : Int))) := by
  rw [show FP.l2d a = Core.l2d a from rfl, val64_l2d]
  show round b64 (.fin (decide (a.toInt < 0)) a.toInt.natAbs 0) = _
  rw [decide_eq_false (by omega), show a.toInt.natAbs = a.toInt.toNat by omega]; rfl
theorem own_D.fin {n k : Nat} {x : UInt64} (h : own_D n k x) : Jvm.Free.Fl.Fin64 x := by
  obtain ⟨c, q, e, -⟩ := h
  exact Jvm.Free.Fl.fin64_core.mpr ⟨false, c, q, e⟩
theorem own_p53 : (2 : Nat) ^ 53 = 9007199254740992 := by decide
theorem own_res {A B C k : Nat} {dA dB dC sp : UInt64} (hA : own_D A 0 dA) (hB : own_D B 0 dB) (hC : own_D C 0 dC) (hs : own_D k 2 sp) (bA : A ≤ 1048575) (bB : B ≤ 1023) (bC : C ≤ 1023) (bk : k ≤ 4095) :
    Jvm.Free.Fl.Fin64 (FP.dmul dB sp) ∧ Jvm.Free.Fl.Fin64 (FP.dadd dA (FP.dmul dB sp)) ∧ Jvm.Free.Fl.Fin64 (FP.dmul dC sp) ∧ Jvm.Free.Fl.Fin64 (FP.dmul (FP.dmul dC sp) sp) ∧ Jvm.Free.Fl.Fin64 (FP.dadd (FP.dadd dA (FP.dmul dB sp)) (FP.dmul (FP.dmul dC sp) sp)) ∧
      val64 (FP.dadd (FP.dadd dA (FP.dmul dB sp)) (FP.dmul (FP.dmul dC sp) sp)) = round b64 (.fin false ((A * 4 + B * k) * 4 + C * k * k) (-((4 : Nat) : Int))) := by
  have b1 : B * k ≤ 1023 * 4095 := Nat.mul_le_mul bB bk
  have b2 : C * k ≤ 1023 * 4095 := Nat.mul_le_mul bC bk
  have b3 : C * k * k ≤ 1023 * 4095 * 4095 := Nat.mul_le_mul b2 bk
  have r1 : own_D (B * k) 2 (FP.dmul dB sp) := own_round (by rw [own_p53]; omega) (by decide) (own_Dmul hB hs rfl)
  have r2 : own_D (C * k) 2 (FP.dmul dC sp) := own_round (by rw [own_p53]; omega) (by decide) (own_Dmul hC hs rfl)
  have r3 : own_D (C * k * k) 4 (FP.dmul (FP.dmul dC sp) sp) := own_round (by rw [own_p53]; omega) (by decide) (own_Dmul r2 hs rfl)
  have e4 := own_Dadd hA r1 (K := 2) (by decide) (by decide)
  rw [show A * 2 ^ (2 - 0) + B * k * 2 ^ (2 - 2) = A * 4 + B * k by simp] at e4
  have r4 : own_D (A * 4 + B * k) 2 (FP.dadd dA (FP.dmul dB sp)) := own_round (by rw [own_p53]; omega) (by decide) e4
  have e5 := own_Dadd r4 r3 (K := 4) (by decide) (by decide)
  rw [show (A * 4 + B * k) * 2 ^ (4 - 2) + C * k * k * 2 ^ (4 - 4) = (A * 4 + B * k) * 4 + C * k * k by simp] at e5
  have r5 := own_round (by rw [own_p53]; omega) (by decide) e5
  exact ⟨r1.fin, r4.fin, r2.fin, r3.fin, r5.fin, e5⟩
theorem own_v4 : val64 (4616189618054758400 : UInt64) = .fin false (2 ^ 52) (((2 : Nat) : Int) - 52) := by decide +kernel
theorem own_v16 : val64 (4625196817309499392 : UInt64) = .fin false (2 ^ 52) (((4 : Nat) : Int) - 52) := by decide +kernel
theorem own_same {x y : UInt64} {n k : Nat} (hn : n < 2 ^ 53) (hk : k ≤ 900) (h1 : val64 x = round b64 (.fin false n (-(k : Int)))) (h2 : val64 y = round b64 (.fin false n (-(k : Int)))) (o : Jvm.ClassFile.CmpOp) : Jvm.Op.cmpValue (FP.dcmp x y) o = 0 := by
  have d := own_round hn hk h1
  obtain ⟨c, q, e, -⟩ := id d
  have : x = y := val64_inj (by rw [e]; exact fun z => nomatch z) (h1.trans h2.symm)
  subst this
  exact dcmpV_self d.fin.noNaN o
theorem own_DL {a : Int64} {n : Nat} (h : a.toInt = (n : Int)) (hn : n < 9007199254740992) : own_D n 0 (FP.l2d a) := by
  refine own_round (by rw [own_p53]; exact hn) (by decide) ?_
  rw [own_Dl (by omega), show a.toInt.toNat = n by omega]
end OwnM
theorem dR_0 : decode jdk_30_method_1_code 0 = .ok (.aload_n 0, 1) := by decide +kernel
theorem dR_1 : decode jdk_30_method_1_code 1 = .ok (.invokespecial 1, 3) := by decide +kernel
theorem dR_4 : decode jdk_30_method_1_code 4 = .ok (.return_, 1) := by decide +kernel
theorem own_pnR : plainName "java/lang/Record" = true := by first | (simp [plainName, overriddenIn]; done) | decide +kernel
theorem own_efR (m : MethodId) (a1 : Addr) : entryFrame m #[(.ref a1)] 1 = mkF m 0 #[.val (.ref a1)] [] := by first | (simp [entryFrame, mkF, argsToLocals, Value.category, maxLocals]; done) | rfl
set_option maxRecDepth 65536 in
set_option maxHeartbeats 40000000 in
theorem own_rmR (l : Launch) (Z : State) (a0 : Array Value) (hw : ∀ d ∈ tables_1, d.before a0 Z = true) (ws : List Jvm.Cond) (a1 : Addr)  (h0 : Heap)  :
    MetFree l (⟨"java/lang/Record", "<init>", "()V"⟩ : MethodName) (head1 (Jvm.Cond.code (⟨"java/lang/Record", "<init>", "()V"⟩ : MethodName) jdk_30_method_1_code 1 none :: ws) ({ frames := 1, cells := 0, slots := 0, locals := 12 } : Room)) (fun a U => a = #[(.ref a1)] ∧ Z.Warmed39 U.vm ∧ U.heap = h0) (fun _ _ _ _ _ => True) (fun _ U o U' => ∃ v L, o = .returned v ∧ (fun v h L => v = none ∧ L = [] ∧ h = h0) v U'.heap L ∧ FrameEnd U o U' L ({ frames := 1, cells := 0, slots := 0, locals := 12 } : Room).cells ({ frames := 1, cells := 0, slots := 0, locals := 12 } : Room).slots) := by
  refine own_body (y := (⟨"java/lang/Record", "<init>", "()V"⟩ : MethodName)) (Q := fun v h L => v = none ∧ L = [] ∧ h = h0) (rm := ({ frames := 1, cells := 0, slots := 0, locals := 12 } : Room)) (as' := #[(.ref a1)]) (h0 := h0) (Z := Z) own_pnR ?_
  intro p e s m below meth c s₁ hx hby hml hown hnm hret hlk hZ X0 e0
  have hown : s.vm.findClass "java/lang/Record" = some m.cls := hown
  rw [own_efR]
  refine own_aload_n X0 hx (hb hby dR_0) rfl rfl (q := 1) rfl ?_
  refine own_initO X0 hx hZ hown (hw _ (List.mem_of_getElem? (i := 37) rfl)) (hw _ (List.mem_of_getElem? (i := 11) rfl)) (hw _ (List.mem_of_getElem? (i := 12) rfl)) e0 (by rw [hml]; rfl) (hb hby dR_1) (by decide) (W := 0) rfl (by decide) (q := 4) rfl ?_
  intro T1 X1 e1
  exact own_retV X1 hx hret hlk (hb hby dR_4) (by decide) (by decide) ⟨rfl, rfl, e1⟩
theorem dT_0 : decode prog_42_method_1_code 0 = .ok (.aload_n 0, 1) := by decide +kernel
theorem dT_1 : decode prog_42_method_1_code 1 = .ok (.invokespecial 1, 3) := by decide +kernel
theorem dT_4 : decode prog_42_method_1_code 4 = .ok (.aload_n 1, 1) := by decide +kernel
theorem dT_5 : decode prog_42_method_1_code 5 = .ok (.arraylength, 1) := by decide +kernel
theorem dT_6 : decode prog_42_method_1_code 6 = .ok (.ifCond .eq 10, 3) := by decide +kernel
theorem dT_9 : decode prog_42_method_1_code 9 = .ok (.aload_n 1, 1) := by decide +kernel
theorem dT_10 : decode prog_42_method_1_code 10 = .ok (.arraylength, 1) := by decide +kernel
theorem dT_11 : decode prog_42_method_1_code 11 = .ok (.aload_n 2, 1) := by decide +kernel
theorem dT_12 : decode prog_42_method_1_code 12 = .ok (.arraylength, 1) := by decide +kernel
theorem dT_13 : decode prog_42_method_1_code 13 = .ok (.if_icmp .eq 20, 3) := by decide +kernel
theorem dT_33 : decode prog_42_method_1_code 33 = .ok (.iconst 1, 1) := by decide +kernel
theorem dT_34 : decode prog_42_method_1_code 34 = .ok (.istore_n 3, 1) := by decide +kernel
theorem dT_35 : decode prog_42_method_1_code 35 = .ok (.iload_n 3, 1) := by decide +kernel
theorem dT_36 : decode prog_42_method_1_code 36 = .ok (.aload_n 1, 1) := by decide +kernel
theorem dT_37 : decode prog_42_method_1_code 37 = .ok (.arraylength, 1) := by decide +kernel
theorem dT_38 : decode prog_42_method_1_code 38 = .ok (.if_icmp .ge 42, 3) := by decide +kernel
theorem dT_80 : decode prog_42_method_1_code 80 = .ok (.aload_n 0, 1) := by decide +kernel
theorem dT_81 : decode prog_42_method_1_code 81 = .ok (.aload_n 1, 1) := by decide +kernel
theorem dT_82 : decode prog_42_method_1_code 82 = .ok (.invokevirtual 19, 3) := by decide +kernel
theorem dT_85 : decode prog_42_method_1_code 85 = .ok (.checkcast 20, 3) := by decide +kernel
theorem dT_88 : decode prog_42_method_1_code 88 = .ok (.putfield 25, 3) := by decide +kernel
theorem dT_91 : decode prog_42_method_1_code 91 = .ok (.aload_n 0, 1) := by decide +kernel
theorem dT_92 : decode prog_42_method_1_code 92 = .ok (.aload_n 2, 1) := by decide +kernel
theorem dT_93 : decode prog_42_method_1_code 93 = .ok (.invokevirtual 19, 3) := by decide +kernel
theorem dT_96 : decode prog_42_method_1_code 96 = .ok (.checkcast 20, 3) := by decide +kernel
theorem dT_99 : decode prog_42_method_1_code 99 = .ok (.putfield 30, 3) := by decide +kernel
theorem dT_102 : decode prog_42_method_1_code 102 = .ok (.return_, 1) := by decide +kernel
def own_QT (Z : State) (a1 : Addr) (a2 : Addr) (a3 : Addr) (h0 : Heap) (n0 : Nat) : Option Value → Heap → List Loc → Prop := fun v h L => v = none ∧ Fr n0 L ∧ Keep h0 h [a1]
theorem own_pnT : plainName "com/example/stellwerk/stellwerk/core/TractiveEffort" = true := by first | (simp [plainName, overriddenIn]; done) | decide +kernel
theorem own_efT (m : MethodId) (a1 : Addr) (a2 : Addr) (a3 : Addr) : entryFrame m #[(.ref a1), (.ref a2), (.ref a3)] 4 = mkF m 0 #[.val (.ref a1), .val (.ref a2), .val (.ref a3), .unset] [] := by first | (simp [entryFrame, mkF, argsToLocals, Value.category, maxLocals]; done) | rfl
set_option maxRecDepth 65536 in
set_option maxHeartbeats 40000000 in
theorem own_rmT (l : Launch) (Z : State) (a0 : Array Value) (hw : ∀ d ∈ tables_1, d.before a0 Z = true) (ws : List Jvm.Cond) (a1 : Addr) (a2 : Addr) (a3 : Addr) (f2 f3 : Nat → Value) (h0 : Heap) (n0 : Nat) (ha : n0 ≤ a1) (E : Exa Z h0 a1 "com/example/stellwerk/stellwerk/core/TractiveEffort") (F1 : Fld Z h0 a1 "com/example/stellwerk/stellwerk/core/TractiveEffort" "speeds" "[D" (.null)) (F2 : Fld Z h0 a1 "com/example/stellwerk/stellwerk/core/TractiveEffort" "forces" "[D" (.null)) (Ar2 : own_Arr Z h0 a2 .double 1 f2) (Ar3 : own_Arr Z h0 a3 .double 1 f3) (Ex2 : Exa Z h0 a2 "[D") (Ex3 : Exa Z h0 a3 "[D") (ne2 : a2 ≠ a1) (ne3 : a3 ≠ a1) (t2 : ∀ i, i < 1 → fits .double (f2 i) = true) (t3 : ∀ i, i < 1 → fits .double (f3 i) = true) :
    MetFree l (⟨"com/example/stellwerk/stellwerk/core/TractiveEffort", "<init>", "([D[D)V"⟩ : MethodName) (head1 (Jvm.Cond.code (⟨"com/example/stellwerk/stellwerk/core/TractiveEffort", "<init>", "([D[D)V"⟩ : MethodName) prog_42_method_1_code 4 none :: ws) ({ frames := 1, cells := 2, slots := 2, locals := 15 } : Room)) (fun a U => a = #[(.ref a1), (.ref a2), (.ref a3)] ∧ Z.Warmed39 U.vm ∧ U.heap = h0) (fun _ _ _ _ _ => True) (fun _ U o U' => ∃ v L, o = .returned v ∧ (own_QT Z a1 a2 a3 h0 n0) v U'.heap L ∧ FrameEnd U o U' L ({ frames := 1, cells := 2, slots := 2, locals := 15 } : Room).cells ({ frames := 1, cells := 2, slots := 2, locals := 15 } : Room).slots) := by
  refine own_body (y := (⟨"com/example/stellwerk/stellwerk/core/TractiveEffort", "<init>", "([D[D)V"⟩ : MethodName)) (Q := own_QT Z a1 a2 a3 h0 n0) (rm := ({ frames := 1, cells := 2, slots := 2, locals := 15 } : Room)) (as' := #[(.ref a1), (.ref a2), (.ref a3)]) (h0 := h0) (Z := Z) own_pnT ?_
  intro p e s m below meth c s₁ hx hby hml hown hnm hret hlk hZ X0 e0
  have hown : s.vm.findClass "com/example/stellwerk/stellwerk/core/TractiveEffort" = some m.cls := hown
  rw [own_efT]
  refine own_aload_n X0 hx (hb hby dT_0) rfl rfl (q := 1) rfl ?_
  refine own_initO X0 hx hZ hown (hw _ (List.mem_of_getElem? (i := 10) rfl)) (hw _ (List.mem_of_getElem? (i := 11) rfl)) (hw _ (List.mem_of_getElem? (i := 12) rfl)) e0 (by rw [hml]; rfl) (hb hby dT_1) (by decide) (W := 0) rfl (by decide) (q := 4) rfl ?_
  intro T1 X1 e1
  refine own_aload_n X1 hx (hb hby dT_4) rfl rfl (q := 5) rfl ?_
  refine own_arraylength X1 hx hZ e1 Ar2 (hb hby dT_5) (v := (1 : Int32)) rfl (q := 6) rfl ?_
  refine own_if X1 hx (hb hby dT_6) (by decide) (q := 16) rfl (q' := 9) rfl (own_z_eq _) (fun h6 => ?_) (fun h6 => ?_)
  · replace h6 : (1 : Int) = 0 := h6
    exfalso; omega
  · replace h6 : ¬ ((1 : Int) = 0) := h6
    refine own_aload_n X1 hx (hb hby dT_9) rfl rfl (q := 10) rfl ?_
    refine own_arraylength X1 hx hZ e1 Ar2 (hb hby dT_10) (v := (1 : Int32)) rfl (q := 11) rfl ?_
    refine own_aload_n X1 hx (hb hby dT_11) rfl rfl (q := 12) rfl ?_
    refine own_arraylength X1 hx hZ e1 Ar3 (hb hby dT_12) (v := (1 : Int32)) rfl (q := 13) rfl ?_
    refine own_icmp X1 hx (hb hby dT_13) (by decide) (q := 33) rfl (q' := 16) rfl (own_h_eq _ _) (fun h13 => ?_) (fun h13 => ?_)
    · replace h13 : (1 : Int) = (1 : Int) := h13
      refine own_iconst X1 hx (hb hby dT_33) (v := (1 : Int32)) rfl (q := 34) rfl ?_
      refine own_istore_n X1 hx (hb hby dT_34) (l' := #[.val (.ref a1), .val (.ref a2), .val (.ref a3), .val (.int (1 : Int32))]) rfl (q := 35) rfl ?_
      refine own_iload_n X1 hx (hb hby dT_35) rfl (q := 36) rfl ?_
      refine own_aload_n X1 hx (hb hby dT_36) rfl rfl (q := 37) rfl ?_
      refine own_arraylength X1 hx hZ e1 Ar2 (hb hby dT_37) (v := (1 : Int32)) rfl (q := 38) rfl ?_
      refine own_icmp X1 hx (hb hby dT_38) (by decide) (q := 80) rfl (q' := 41) rfl (own_h_ge _ _) (fun h38 => ?_) (fun h38 => ?_)
      · replace h38 : (1 : Int) ≤ (1 : Int) := h38
        refine own_aload_n X1 hx (hb hby dT_80) rfl rfl (q := 81) rfl ?_
        refine own_aload_n X1 hx (hb hby dT_81) rfl rfl (q := 82) rfl ?_
        refine own_clone X1 hx hZ hown (hw _ (List.mem_of_getElem? (i := 13) rfl)) (hw _ (List.mem_of_getElem? (i := 14) rfl)) (hw _ (List.mem_of_getElem? (i := 18) rfl)) (hw _ (List.mem_of_getElem? (i := 16) rfl)) (hw _ (List.mem_of_getElem? (i := 17) rfl)) (hw _ (List.mem_of_getElem? (i := 19) rfl)) e1 Ar2 Ex2 t2 (by rw [hml]; rfl) (hb hby dT_82) (by decide) (W := 1) (cap := 1) rfl (by decide) (by decide) (by decide) (by decide) (q := 85) rfl ?_
        intro T2 h2_ b2 g2 X2 e2 E2 Q2
        have ne_a1_b2 : a1 ≠ b2 := Nat.ne_of_lt (by rw [g2]; exact E.lt)
        have ne_a2_b2 : a2 ≠ b2 := Nat.ne_of_lt (by rw [g2]; exact Ar2.lt)
        have ne_a3_b2 : a3 ≠ b2 := Nat.ne_of_lt (by rw [g2]; exact Ar3.lt)
        have E_2 := E.ext E2
        have F1_2 := F1.ext E2
        have F2_2 := F2.ext E2
        have Ar2_2 := Ar2.ext E2
        have Ar3_2 := Ar3.ext E2
        have Ex2_2 := Ex2.ext E2
        have Ex3_2 := Ex3.ext E2
        have o2 : h0.size ≤ b2 := by rw [g2]; exact (Nat.le_refl _)
        have z2_ : h0.size ≤ h2_.size := Nat.le_trans (Nat.le_refl _) E2.1
        refine own_cast X2 hx hZ hown (hw _ (List.mem_of_getElem? (i := 20) rfl)) e2 (Ins.of_exa Q2 (hw _ (List.mem_of_getElem? (i := 21) rfl))) (hb hby dT_85) (q := 88) rfl ?_
        intro T3 X3 e3
        refine own_putF X3 hx hZ hown (hw _ (List.mem_of_getElem? (i := 22) rfl)) e3 F1_2 E_2 (Or.inr ⟨(hw _ (List.mem_of_getElem? (i := 23) rfl)), rfl, hnm⟩) (hw _ (List.mem_of_getElem? (i := 4) rfl)) (ft := (.array .double)) (by decide) rfl rfl (hb hby dT_88) (Fr.nil n0) ha (q := 91) rfl ?_
        intro T4 h4_ L4 X4 N4 e4 W4
        have K4 := Keep.of_wr W4
        have E_4 := E_2.wr W4
        have F1_4 := F1_2.same W4
        have F2_4 := F2_2.other W4 (Or.inr (slot_ne (Or.inr (hw _ (List.mem_of_getElem? (i := 25) rfl))) (Or.inr (hw _ (List.mem_of_getElem? (i := 23) rfl))) (by decide) (t := (.array .double)) (t' := (.array .double)) (by decide) (by decide)))
        have Ar2_4 := Ar2_2.keep K4 (ninS ne2 nin0)
        have Ar3_4 := Ar3_2.keep K4 (ninS ne3 nin0)
        have Ex2_4 := Ex2_2.wr W4
        have Ex3_4 := Ex3_2.wr W4
        have Q2_4 := Q2.wr W4
        have z4_ : h0.size ≤ h4_.size := Nat.le_trans z2_ K4.1
        refine own_aload_n X4 hx (hb hby dT_91) rfl rfl (q := 92) rfl ?_
        refine own_aload_n X4 hx (hb hby dT_92) rfl rfl (q := 93) rfl ?_
        refine own_clone X4 hx hZ hown (hw _ (List.mem_of_getElem? (i := 13) rfl)) (hw _ (List.mem_of_getElem? (i := 14) rfl)) (hw _ (List.mem_of_getElem? (i := 18) rfl)) (hw _ (List.mem_of_getElem? (i := 16) rfl)) (hw _ (List.mem_of_getElem? (i := 17) rfl)) (hw _ (List.mem_of_getElem? (i := 19) rfl)) e4 Ar3_4 Ex3_4 t3 (by rw [hml]; rfl) (hb hby dT_93) (by decide) (W := 1) (cap := 1) rfl (by decide) (by decide) (by decide) (by decide) (q := 96) rfl ?_
        intro T5 h5_ b5 g5 X5 e5 E5 Q5
        have ne_a1_b5 : a1 ≠ b5 := Nat.ne_of_lt (by rw [g5]; exact E_4.lt)
        have ne_a2_b5 : a2 ≠ b5 := Nat.ne_of_lt (by rw [g5]; exact Ar2_4.lt)
        have ne_a3_b5 : a3 ≠ b5 := Nat.ne_of_lt (by rw [g5]; exact Ar3_4.lt)
        have ne_b2_b5 : b2 ≠ b5 := Nat.ne_of_lt (by rw [g5]; exact Q2_4.lt)
        have E_5 := E_4.ext E5
        have F1_5 := F1_4.ext E5
        have F2_5 := F2_4.ext E5
        have Ar2_5 := Ar2_4.ext E5
        have Ar3_5 := Ar3_4.ext E5
        have Ex2_5 := Ex2_4.ext E5
        have Ex3_5 := Ex3_4.ext E5
        have Q2_5 := Q2_4.ext E5
        have o5 : h0.size ≤ b5 := by rw [g5]; exact z4_
        have z5_ : h0.size ≤ h5_.size := Nat.le_trans z4_ E5.1
        refine own_cast X5 hx hZ hown (hw _ (List.mem_of_getElem? (i := 20) rfl)) e5 (Ins.of_exa Q5 (hw _ (List.mem_of_getElem? (i := 21) rfl))) (hb hby dT_96) (q := 99) rfl ?_
        intro T6 X6 e6
        refine own_putF X6 hx hZ hown (hw _ (List.mem_of_getElem? (i := 24) rfl)) e6 F2_5 E_5 (Or.inr ⟨(hw _ (List.mem_of_getElem? (i := 25) rfl)), rfl, hnm⟩) (hw _ (List.mem_of_getElem? (i := 4) rfl)) (ft := (.array .double)) (by decide) rfl rfl (hb hby dT_99) N4 ha (q := 102) rfl ?_
        intro T7 h7_ L7 X7 N7 e7 W7
        have K7 := Keep.of_wr W7
        have E_7 := E_5.wr W7
        have F1_7 := F1_5.other W7 (Or.inr (slot_ne (Or.inr (hw _ (List.mem_of_getElem? (i := 23) rfl))) (Or.inr (hw _ (List.mem_of_getElem? (i := 25) rfl))) (by decide) (t := (.array .double)) (t' := (.array .double)) (by decide) (by decide)))
        have F2_7 := F2_5.same W7
        have Ar2_7 := Ar2_5.keep K7 (ninS ne2 nin0)
        have Ar3_7 := Ar3_5.keep K7 (ninS ne3 nin0)
        have Ex2_7 := Ex2_5.wr W7
        have Ex3_7 := Ex3_5.wr W7
        have Q2_7 := Q2_5.wr W7
        have Q5_7 := Q5.wr W7
        have z7_ : h0.size ≤ h7_.size := Nat.le_trans z5_ K7.1
        exact own_retV X7 hx hret hlk (hb hby dT_102) (by decide) (by decide) (by rw [e7]; unfold own_QT; exact ⟨rfl, N7, (((((Keep.refl _ _).ext E2).wr W4 (Or.inl (List.mem_of_getElem? (i := 0) rfl))).ext E5).wr W7 (Or.inl (List.mem_of_getElem? (i := 0) rfl)))⟩)
      · replace h38 : ¬ ((1 : Int) ≤ (1 : Int)) := h38
        exfalso; omega
    · replace h13 : ¬ ((1 : Int) = (1 : Int)) := h13
      exfalso; omega
theorem dP_0 : decode prog_48_method_1_code 0 = .ok (.aload_n 0, 1) := by decide +kernel
theorem dP_1 : decode prog_48_method_1_code 1 = .ok (.invokespecial 1, 3) := by decide +kernel
theorem dP_4 : decode prog_48_method_1_code 4 = .ok (.aload_n 0, 1) := by decide +kernel
theorem dP_5 : decode prog_48_method_1_code 5 = .ok (.dload_n 1, 1) := by decide +kernel
theorem dP_6 : decode prog_48_method_1_code 6 = .ok (.putfield 7, 3) := by decide +kernel
theorem dP_9 : decode prog_48_method_1_code 9 = .ok (.aload_n 0, 1) := by decide +kernel
theorem dP_10 : decode prog_48_method_1_code 10 = .ok (.dload_n 3, 1) := by decide +kernel
theorem dP_11 : decode prog_48_method_1_code 11 = .ok (.putfield 13, 3) := by decide +kernel
theorem dP_14 : decode prog_48_method_1_code 14 = .ok (.aload_n 0, 1) := by decide +kernel
theorem dP_15 : decode prog_48_method_1_code 15 = .ok (.dload 5, 2) := by decide +kernel
theorem dP_17 : decode prog_48_method_1_code 17 = .ok (.putfield 16, 3) := by decide +kernel
theorem dP_20 : decode prog_48_method_1_code 20 = .ok (.aload_n 0, 1) := by decide +kernel
theorem dP_21 : decode prog_48_method_1_code 21 = .ok (.dload 7, 2) := by decide +kernel
theorem dP_23 : decode prog_48_method_1_code 23 = .ok (.putfield 19, 3) := by decide +kernel
theorem dP_26 : decode prog_48_method_1_code 26 = .ok (.aload_n 0, 1) := by decide +kernel
theorem dP_27 : decode prog_48_method_1_code 27 = .ok (.dload 9, 2) := by decide +kernel
theorem dP_29 : decode prog_48_method_1_code 29 = .ok (.putfield 22, 3) := by decide +kernel
theorem dP_32 : decode prog_48_method_1_code 32 = .ok (.aload_n 0, 1) := by decide +kernel
theorem dP_33 : decode prog_48_method_1_code 33 = .ok (.aload 11, 2) := by decide +kernel
theorem dP_35 : decode prog_48_method_1_code 35 = .ok (.putfield 25, 3) := by decide +kernel
theorem dP_38 : decode prog_48_method_1_code 38 = .ok (.return_, 1) := by decide +kernel
def own_QP (Z : State) (a1 : Addr) (d1 : UInt64) (d2 : UInt64) (d3 : UInt64) (d4 : UInt64) (d5 : UInt64) (a2 : Addr) (h0 : Heap) (n0 : Nat) : Option Value → Heap → List Loc → Prop := fun v h L => v = none ∧ Fr n0 L ∧ Keep h0 h [a1] ∧ Exa Z h a1 "com/example/stellwerk/stellwerk/core/TrainPhysics" ∧ Fld Z h a1 "com/example/stellwerk/stellwerk/core/TrainPhysics" "davisA" "D" (.double d3) ∧ Fld Z h a1 "com/example/stellwerk/stellwerk/core/TrainPhysics" "davisB" "D" (.double d4) ∧ Fld Z h a1 "com/example/stellwerk/stellwerk/core/TrainPhysics" "davisC" "D" (.double d5)
theorem own_pnP : plainName "com/example/stellwerk/stellwerk/core/TrainPhysics" = true := by first | (simp [plainName, overriddenIn]; done) | decide +kernel
theorem own_efP (m : MethodId) (a1 : Addr) (d1 : UInt64) (d2 : UInt64) (d3 : UInt64) (d4 : UInt64) (d5 : UInt64) (a2 : Addr) : entryFrame m #[(.ref a1), (.double d1), (.double d2), (.double d3), (.double d4), (.double d5), (.ref a2)] 12 = mkF m 0 #[.val (.ref a1), .val (.double d1), .second, .val (.double d2), .second, .val (.double d3), .second, .val (.double d4), .second, .val (.double d5), .second, .val (.ref a2)] [] := by first | (simp [entryFrame, mkF, argsToLocals, Value.category, maxLocals]; done) | rfl
set_option maxRecDepth 65536 in
set_option maxHeartbeats 40000000 in
theorem own_rmP (l : Launch) (Z : State) (a0 : Array Value) (hw : ∀ d ∈ tables_1, d.before a0 Z = true) (ws : List Jvm.Cond) (a1 : Addr) (d1 : UInt64) (d2 : UInt64) (d3 : UInt64) (d4 : UInt64) (d5 : UInt64) (a2 : Addr)  (h0 : Heap) (n0 : Nat) (ha : n0 ≤ a1) (E : Exa Z h0 a1 "com/example/stellwerk/stellwerk/core/TrainPhysics") (F0 : Fld Z h0 a1 "com/example/stellwerk/stellwerk/core/TrainPhysics" "mass" "D" (.double 0)) (F1 : Fld Z h0 a1 "com/example/stellwerk/stellwerk/core/TrainPhysics" "rotatingMassFactor" "D" (.double 0)) (F2 : Fld Z h0 a1 "com/example/stellwerk/stellwerk/core/TrainPhysics" "davisA" "D" (.double 0)) (F3 : Fld Z h0 a1 "com/example/stellwerk/stellwerk/core/TrainPhysics" "davisB" "D" (.double 0)) (F4 : Fld Z h0 a1 "com/example/stellwerk/stellwerk/core/TrainPhysics" "davisC" "D" (.double 0)) (F5 : Fld Z h0 a1 "com/example/stellwerk/stellwerk/core/TrainPhysics" "tractiveEffort" "Lcom/example/stellwerk/stellwerk/core/TractiveEffort;" (.null)) :
    MetFree l (⟨"com/example/stellwerk/stellwerk/core/TrainPhysics", "<init>", "(DDDDDLcom/example/stellwerk/stellwerk/core/TractiveEffort;)V"⟩ : MethodName) (head1 (Jvm.Cond.code (⟨"com/example/stellwerk/stellwerk/core/TrainPhysics", "<init>", "(DDDDDLcom/example/stellwerk/stellwerk/core/TractiveEffort;)V"⟩ : MethodName) prog_48_method_1_code 12 none :: ws) ({ frames := 2, cells := 0, slots := 0, locals := 24 } : Room)) (fun a U => a = #[(.ref a1), (.double d1), (.double d2), (.double d3), (.double d4), (.double d5), (.ref a2)] ∧ Z.Warmed39 U.vm ∧ U.heap = h0) (fun _ _ _ _ _ => True) (fun _ U o U' => ∃ v L, o = .returned v ∧ (own_QP Z a1 d1 d2 d3 d4 d5 a2 h0 n0) v U'.heap L ∧ FrameEnd U o U' L ({ frames := 2, cells := 0, slots := 0, locals := 24 } : Room).cells ({ frames := 2, cells := 0, slots := 0, locals := 24 } : Room).slots) := by
  refine own_body (y := (⟨"com/example/stellwerk/stellwerk/core/TrainPhysics", "<init>", "(DDDDDLcom/example/stellwerk/stellwerk/core/TractiveEffort;)V"⟩ : MethodName)) (Q := own_QP Z a1 d1 d2 d3 d4 d5 a2 h0 n0) (rm := ({ frames := 2, cells := 0, slots := 0, locals := 24 } : Room)) (as' := #[(.ref a1), (.double d1), (.double d2), (.double d3), (.double d4), (.double d5), (.ref a2)]) (h0 := h0) (Z := Z) own_pnP ?_
  intro p e s m below meth c s₁ hx hby hml hown hnm hret hlk hZ X0 e0
  have hown : s.vm.findClass "com/example/stellwerk/stellwerk/core/TrainPhysics" = some m.cls := hown
  rw [own_efP]
  refine own_aload_n X0 hx (hb hby dP_0) rfl rfl (q := 1) rfl ?_
  refine own_callNP X0 hx hZ rfl hown (hw _ (List.mem_of_getElem? (i := 32) rfl)) (hw _ (List.mem_of_getElem? (i := 33) rfl)) (hw _ (List.mem_of_getElem? (i := 35) rfl)) (hw _ (List.mem_of_getElem? (i := 36) rfl)) (by decide) (own_rmR l Z a0 hw [] a1 h0) (by decide) (by decide) e0 (by rw [hml]; rfl) (argsL := []) (rest := []) (lenOf own_pd0 rfl) rfl (W := 0) rfl (hb hby dP_1) (q := 4) rfl rfl rfl rfl (by decide) (by decide) ?_
  intro T1 X1 e1
  refine own_aload_n X1 hx (hb hby dP_4) rfl rfl (q := 5) rfl ?_
  refine own_dload_n X1 hx (hb hby dP_5) rfl (q := 6) rfl ?_
  refine own_putF X1 hx hZ hown (hw _ (List.mem_of_getElem? (i := 38) rfl)) e1 F0 E (Or.inr ⟨(hw _ (List.mem_of_getElem? (i := 39) rfl)), rfl, hnm⟩) (hw _ (List.mem_of_getElem? (i := 27) rfl)) (ft := .double) (by decide) rfl rfl (hb hby dP_6) (Fr.nil n0) ha (q := 9) rfl ?_
  intro T2 h2_ L2 X2 N2 e2 W2
  have K2 := Keep.of_wr W2
  have E_2 := E.wr W2
  have F0_2 := F0.same W2
  have F1_2 := F1.other W2 (Or.inr (slot_ne (Or.inr (hw _ (List.mem_of_getElem? (i := 41) rfl))) (Or.inr (hw _ (List.mem_of_getElem? (i := 39) rfl))) (by decide) (t := .double) (t' := .double) (by decide) (by decide)))
  have F2_2 := F2.other W2 (Or.inr (slot_ne (Or.inr (hw _ (List.mem_of_getElem? (i := 43) rfl))) (Or.inr (hw _ (List.mem_of_getElem? (i := 39) rfl))) (by decide) (t := .double) (t' := .double) (by decide) (by decide)))
  have F3_2 := F3.other W2 (Or.inr (slot_ne (Or.inr (hw _ (List.mem_of_getElem? (i := 45) rfl))) (Or.inr (hw _ (List.mem_of_getElem? (i := 39) rfl))) (by decide) (t := .double) (t' := .double) (by decide) (by decide)))
  have F4_2 := F4.other W2 (Or.inr (slot_ne (Or.inr (hw _ (List.mem_of_getElem? (i := 47) rfl))) (Or.inr (hw _ (List.mem_of_getElem? (i := 39) rfl))) (by decide) (t := .double) (t' := .double) (by decide) (by decide)))
  have F5_2 := F5.other W2 (Or.inr (slot_ne (Or.inr (hw _ (List.mem_of_getElem? (i := 49) rfl))) (Or.inr (hw _ (List.mem_of_getElem? (i := 39) rfl))) (by decide) (t := (.object "com/example/stellwerk/stellwerk/core/TractiveEffort")) (t' := .double) (by decide) (by decide)))
  have z2_ : h0.size ≤ h2_.size := Nat.le_trans (Nat.le_refl _) K2.1
  refine own_aload_n X2 hx (hb hby dP_9) rfl rfl (q := 10) rfl ?_
  refine own_dload_n X2 hx (hb hby dP_10) rfl (q := 11) rfl ?_
  refine own_putF X2 hx hZ hown (hw _ (List.mem_of_getElem? (i := 40) rfl)) e2 F1_2 E_2 (Or.inr ⟨(hw _ (List.mem_of_getElem? (i := 41) rfl)), rfl, hnm⟩) (hw _ (List.mem_of_getElem? (i := 27) rfl)) (ft := .double) (by decide) rfl rfl (hb hby dP_11) N2 ha (q := 14) rfl ?_
  intro T3 h3_ L3 X3 N3 e3 W3
  have K3 := Keep.of_wr W3
  have E_3 := E_2.wr W3
  have F0_3 := F0_2.other W3 (Or.inr (slot_ne (Or.inr (hw _ (List.mem_of_getElem? (i := 39) rfl))) (Or.inr (hw _ (List.mem_of_getElem? (i := 41) rfl))) (by decide) (t := .double) (t' := .double) (by decide) (by decide)))
  have F1_3 := F1_2.same W3
  have F2_3 := F2_2.other W3 (Or.inr (slot_ne (Or.inr (hw _ (List.mem_of_getElem? (i := 43) rfl))) (Or.inr (hw _ (List.mem_of_getElem? (i := 41) rfl))) (by decide) (t := .double) (t' := .double) (by decide) (by decide)))
  have F3_3 := F3_2.other W3 (Or.inr (slot_ne (Or.inr (hw _ (List.mem_of_getElem? (i := 45) rfl))) (Or.inr (hw _ (List.mem_of_getElem? (i := 41) rfl))) (by decide) (t := .double) (t' := .double) (by decide) (by decide)))
  have F4_3 := F4_2.other W3 (Or.inr (slot_ne (Or.inr (hw _ (List.mem_of_getElem? (i := 47) rfl))) (Or.inr (hw _ (List.mem_of_getElem? (i := 41) rfl))) (by decide) (t := .double) (t' := .double) (by decide) (by decide)))
  have F5_3 := F5_2.other W3 (Or.inr (slot_ne (Or.inr (hw _ (List.mem_of_getElem? (i := 49) rfl))) (Or.inr (hw _ (List.mem_of_getElem? (i := 41) rfl))) (by decide) (t := (.object "com/example/stellwerk/stellwerk/core/TractiveEffort")) (t' := .double) (by decide) (by decide)))
  have z3_ : h0.size ≤ h3_.size := Nat.le_trans z2_ K3.1
  refine own_aload_n X3 hx (hb hby dP_14) rfl rfl (q := 15) rfl ?_
  refine own_dload X3 hx (hb hby dP_15) rfl (q := 17) rfl ?_
  refine own_putF X3 hx hZ hown (hw _ (List.mem_of_getElem? (i := 42) rfl)) e3 F2_3 E_3 (Or.inr ⟨(hw _ (List.mem_of_getElem? (i := 43) rfl)), rfl, hnm⟩) (hw _ (List.mem_of_getElem? (i := 27) rfl)) (ft := .double) (by decide) rfl rfl (hb hby dP_17) N3 ha (q := 20) rfl ?_
  intro T4 h4_ L4 X4 N4 e4 W4
  have K4 := Keep.of_wr W4
  have E_4 := E_3.wr W4
  have F0_4 := F0_3.other W4 (Or.inr (slot_ne (Or.inr (hw _ (List.mem_of_getElem? (i := 39) rfl))) (Or.inr (hw _ (List.mem_of_getElem? (i := 43) rfl))) (by decide) (t := .double) (t' := .double) (by decide) (by decide)))
  have F1_4 := F1_3.other W4 (Or.inr (slot_ne (Or.inr (hw _ (List.mem_of_getElem? (i := 41) rfl))) (Or.inr (hw _ (List.mem_of_getElem? (i := 43) rfl))) (by decide) (t := .double) (t' := .double) (by decide) (by decide)))
  have F2_4 := F2_3.same W4
  have F3_4 := F3_3.other W4 (Or.inr (slot_ne (Or.inr (hw _ (List.mem_of_getElem? (i := 45) rfl))) (Or.inr (hw _ (List.mem_of_getElem? (i := 43) rfl))) (by decide) (t := .double) (t' := .double) (by decide) (by decide)))
  have F4_4 := F4_3.other W4 (Or.inr (slot_ne (Or.inr (hw _ (List.mem_of_getElem? (i := 47) rfl))) (Or.inr (hw _ (List.mem_of_getElem? (i := 43) rfl))) (by decide) (t := .double) (t' := .double) (by decide) (by decide)))
  have F5_4 := F5_3.other W4 (Or.inr (slot_ne (Or.inr (hw _ (List.mem_of_getElem? (i := 49) rfl))) (Or.inr (hw _ (List.mem_of_getElem? (i := 43) rfl))) (by decide) (t := (.object "com/example/stellwerk/stellwerk/core/TractiveEffort")) (t' := .double) (by decide) (by decide)))
  have z4_ : h0.size ≤ h4_.size := Nat.le_trans z3_ K4.1
  refine own_aload_n X4 hx (hb hby dP_20) rfl rfl (q := 21) rfl ?_
  refine own_dload X4 hx (hb hby dP_21) rfl (q := 23) rfl ?_
  refine own_putF X4 hx hZ hown (hw _ (List.mem_of_getElem? (i := 44) rfl)) e4 F3_4 E_4 (Or.inr ⟨(hw _ (List.mem_of_getElem? (i := 45) rfl)), rfl, hnm⟩) (hw _ (List.mem_of_getElem? (i := 27) rfl)) (ft := .double) (by decide) rfl rfl (hb hby dP_23) N4 ha (q := 26) rfl ?_
  intro T5 h5_ L5 X5 N5 e5 W5
  have K5 := Keep.of_wr W5
  have E_5 := E_4.wr W5
  have F0_5 := F0_4.other W5 (Or.inr (slot_ne (Or.inr (hw _ (List.mem_of_getElem? (i := 39) rfl))) (Or.inr (hw _ (List.mem_of_getElem? (i := 45) rfl))) (by decide) (t := .double) (t' := .double) (by decide) (by decide)))
  have F1_5 := F1_4.other W5 (Or.inr (slot_ne (Or.inr (hw _ (List.mem_of_getElem? (i := 41) rfl))) (Or.inr (hw _ (List.mem_of_getElem? (i := 45) rfl))) (by decide) (t := .double) (t' := .double) (by decide) (by decide)))
  have F2_5 := F2_4.other W5 (Or.inr (slot_ne (Or.inr (hw _ (List.mem_of_getElem? (i := 43) rfl))) (Or.inr (hw _ (List.mem_of_getElem? (i := 45) rfl))) (by decide) (t := .double) (t' := .double) (by decide) (by decide)))
  have F3_5 := F3_4.same W5
  have F4_5 := F4_4.other W5 (Or.inr (slot_ne (Or.inr (hw _ (List.mem_of_getElem? (i := 47) rfl))) (Or.inr (hw _ (List.mem_of_getElem? (i := 45) rfl))) (by decide) (t := .double) (t' := .double) (by decide) (by decide)))
  have F5_5 := F5_4.other W5 (Or.inr (slot_ne (Or.inr (hw _ (List.mem_of_getElem? (i := 49) rfl))) (Or.inr (hw _ (List.mem_of_getElem? (i := 45) rfl))) (by decide) (t := (.object "com/example/stellwerk/stellwerk/core/TractiveEffort")) (t' := .double) (by decide) (by decide)))
  have z5_ : h0.size ≤ h5_.size := Nat.le_trans z4_ K5.1
  refine own_aload_n X5 hx (hb hby dP_26) rfl rfl (q := 27) rfl ?_
  refine own_dload X5 hx (hb hby dP_27) rfl (q := 29) rfl ?_
  refine own_putF X5 hx hZ hown (hw _ (List.mem_of_getElem? (i := 46) rfl)) e5 F4_5 E_5 (Or.inr ⟨(hw _ (List.mem_of_getElem? (i := 47) rfl)), rfl, hnm⟩) (hw _ (List.mem_of_getElem? (i := 27) rfl)) (ft := .double) (by decide) rfl rfl (hb hby dP_29) N5 ha (q := 32) rfl ?_
  intro T6 h6_ L6 X6 N6 e6 W6
  have K6 := Keep.of_wr W6
  have E_6 := E_5.wr W6
  have F0_6 := F0_5.other W6 (Or.inr (slot_ne (Or.inr (hw _ (List.mem_of_getElem? (i := 39) rfl))) (Or.inr (hw _ (List.mem_of_getElem? (i := 47) rfl))) (by decide) (t := .double) (t' := .double) (by decide) (by decide)))
  have F1_6 := F1_5.other W6 (Or.inr (slot_ne (Or.inr (hw _ (List.mem_of_getElem? (i := 41) rfl))) (Or.inr (hw _ (List.mem_of_getElem? (i := 47) rfl))) (by decide) (t := .double) (t' := .double) (by decide) (by decide)))
  have F2_6 := F2_5.other W6 (Or.inr (slot_ne (Or.inr (hw _ (List.mem_of_getElem? (i := 43) rfl))) (Or.inr (hw _ (List.mem_of_getElem? (i := 47) rfl))) (by decide) (t := .double) (t' := .double) (by decide) (by decide)))
  have F3_6 := F3_5.other W6 (Or.inr (slot_ne (Or.inr (hw _ (List.mem_of_getElem? (i := 45) rfl))) (Or.inr (hw _ (List.mem_of_getElem? (i := 47) rfl))) (by decide) (t := .double) (t' := .double) (by decide) (by decide)))
  have F4_6 := F4_5.same W6
  have F5_6 := F5_5.other W6 (Or.inr (slot_ne (Or.inr (hw _ (List.mem_of_getElem? (i := 49) rfl))) (Or.inr (hw _ (List.mem_of_getElem? (i := 47) rfl))) (by decide) (t := (.object "com/example/stellwerk/stellwerk/core/TractiveEffort")) (t' := .double) (by decide) (by decide)))
  have z6_ : h0.size ≤ h6_.size := Nat.le_trans z5_ K6.1
  refine own_aload_n X6 hx (hb hby dP_32) rfl rfl (q := 33) rfl ?_
  refine own_aload X6 hx (hb hby dP_33) rfl rfl (q := 35) rfl ?_
  refine own_putF X6 hx hZ hown (hw _ (List.mem_of_getElem? (i := 48) rfl)) e6 F5_6 E_6 (Or.inr ⟨(hw _ (List.mem_of_getElem? (i := 49) rfl)), rfl, hnm⟩) (hw _ (List.mem_of_getElem? (i := 27) rfl)) (ft := (.object "com/example/stellwerk/stellwerk/core/TractiveEffort")) (by decide) rfl rfl (hb hby dP_35) N6 ha (q := 38) rfl ?_
  intro T7 h7_ L7 X7 N7 e7 W7
  have K7 := Keep.of_wr W7
  have E_7 := E_6.wr W7
  have F0_7 := F0_6.other W7 (Or.inr (slot_ne (Or.inr (hw _ (List.mem_of_getElem? (i := 39) rfl))) (Or.inr (hw _ (List.mem_of_getElem? (i := 49) rfl))) (by decide) (t := .double) (t' := (.object "com/example/stellwerk/stellwerk/core/TractiveEffort")) (by decide) (by decide)))
  have F1_7 := F1_6.other W7 (Or.inr (slot_ne (Or.inr (hw _ (List.mem_of_getElem? (i := 41) rfl))) (Or.inr (hw _ (List.mem_of_getElem? (i := 49) rfl))) (by decide) (t := .double) (t' := (.object "com/example/stellwerk/stellwerk/core/TractiveEffort")) (by decide) (by decide)))
  have F2_7 := F2_6.other W7 (Or.inr (slot_ne (Or.inr (hw _ (List.mem_of_getElem? (i := 43) rfl))) (Or.inr (hw _ (List.mem_of_getElem? (i := 49) rfl))) (by decide) (t := .double) (t' := (.object "com/example/stellwerk/stellwerk/core/TractiveEffort")) (by decide) (by decide)))
  have F3_7 := F3_6.other W7 (Or.inr (slot_ne (Or.inr (hw _ (List.mem_of_getElem? (i := 45) rfl))) (Or.inr (hw _ (List.mem_of_getElem? (i := 49) rfl))) (by decide) (t := .double) (t' := (.object "com/example/stellwerk/stellwerk/core/TractiveEffort")) (by decide) (by decide)))
  have F4_7 := F4_6.other W7 (Or.inr (slot_ne (Or.inr (hw _ (List.mem_of_getElem? (i := 47) rfl))) (Or.inr (hw _ (List.mem_of_getElem? (i := 49) rfl))) (by decide) (t := .double) (t' := (.object "com/example/stellwerk/stellwerk/core/TractiveEffort")) (by decide) (by decide)))
  have F5_7 := F5_6.same W7
  have z7_ : h0.size ≤ h7_.size := Nat.le_trans z6_ K7.1
  exact own_retV X7 hx hret hlk (hb hby dP_38) (by decide) (by decide) (by rw [e7]; unfold own_QP; exact ⟨rfl, N7, (((((((Keep.refl _ _).wr W2 (Or.inl (List.mem_of_getElem? (i := 0) rfl))).wr W3 (Or.inl (List.mem_of_getElem? (i := 0) rfl))).wr W4 (Or.inl (List.mem_of_getElem? (i := 0) rfl))).wr W5 (Or.inl (List.mem_of_getElem? (i := 0) rfl))).wr W6 (Or.inl (List.mem_of_getElem? (i := 0) rfl))).wr W7 (Or.inl (List.mem_of_getElem? (i := 0) rfl))), E_7, F2_7, F3_7, F4_7⟩)
theorem dS_0 : decode prog_48_method_2_code 0 = .ok (.aload_n 0, 1) := by decide +kernel
theorem dS_1 : decode prog_48_method_2_code 1 = .ok (.getfield 16, 3) := by decide +kernel
theorem dS_4 : decode prog_48_method_2_code 4 = .ok (.aload_n 0, 1) := by decide +kernel
theorem dS_5 : decode prog_48_method_2_code 5 = .ok (.getfield 19, 3) := by decide +kernel
theorem dS_8 : decode prog_48_method_2_code 8 = .ok (.dload_n 1, 1) := by decide +kernel
theorem dS_9 : decode prog_48_method_2_code 9 = .ok (.dmul, 1) := by decide +kernel
theorem dS_10 : decode prog_48_method_2_code 10 = .ok (.dadd, 1) := by decide +kernel
theorem dS_11 : decode prog_48_method_2_code 11 = .ok (.aload_n 0, 1) := by decide +kernel
theorem dS_12 : decode prog_48_method_2_code 12 = .ok (.getfield 22, 3) := by decide +kernel
theorem dS_15 : decode prog_48_method_2_code 15 = .ok (.dload_n 1, 1) := by decide +kernel
theorem dS_16 : decode prog_48_method_2_code 16 = .ok (.dmul, 1) := by decide +kernel
theorem dS_17 : decode prog_48_method_2_code 17 = .ok (.dload_n 1, 1) := by decide +kernel
theorem dS_18 : decode prog_48_method_2_code 18 = .ok (.dmul, 1) := by decide +kernel
theorem dS_19 : decode prog_48_method_2_code 19 = .ok (.dadd, 1) := by decide +kernel
theorem dS_20 : decode prog_48_method_2_code 20 = .ok (.dreturn, 1) := by decide +kernel
theorem own_pnS : plainName "com/example/stellwerk/stellwerk/core/TrainPhysics" = true := by first | (simp [plainName, overriddenIn]; done) | decide +kernel
theorem own_efS (m : MethodId) (a1 : Addr) (sp : UInt64) : entryFrame m #[(.ref a1), (.double sp)] 3 = mkF m 0 #[.val (.ref a1), .val (.double sp), .second] [] := by first | (simp [entryFrame, mkF, argsToLocals, Value.category, maxLocals]; done) | rfl
set_option maxRecDepth 65536 in
set_option maxHeartbeats 40000000 in
theorem own_rmS (l : Launch) (Z : State) (a0 : Array Value) (hw : ∀ d ∈ tables_1, d.before a0 Z = true) (ws : List Jvm.Cond) (a1 : Addr) (sp : UInt64) (dA dB dC : UInt64) (A B C k : Nat) (h0 : Heap) (F1 : Fld Z h0 a1 "com/example/stellwerk/stellwerk/core/TrainPhysics" "davisA" "D" (.double dA)) (F2 : Fld Z h0 a1 "com/example/stellwerk/stellwerk/core/TrainPhysics" "davisB" "D" (.double dB)) (F3 : Fld Z h0 a1 "com/example/stellwerk/stellwerk/core/TrainPhysics" "davisC" "D" (.double dC)) (hA : own_D A 0 dA) (hB : own_D B 0 dB) (hC : own_D C 0 dC) (hs : own_D k 2 sp) (bA : A ≤ 1048575) (bB : B ≤ 1023) (bC : C ≤ 1023) (bk : k ≤ 4095) :
    MetFree l (⟨"com/example/stellwerk/stellwerk/core/TrainPhysics", "resistance", "(D)D"⟩ : MethodName) (head1 (Jvm.Cond.code (⟨"com/example/stellwerk/stellwerk/core/TrainPhysics", "resistance", "(D)D"⟩ : MethodName) prog_48_method_2_code 3 (some .double) :: ws) ({ frames := 0, cells := 0, slots := 0, locals := 0 } : Room)) (fun a U => a = #[(.ref a1), (.double sp)] ∧ Z.Warmed39 U.vm ∧ U.heap = h0) (fun _ _ _ _ _ => True) (fun _ U o U' => ∃ v L, o = .returned v ∧ (fun v h L => (∃ w, v = some w ∧ (fun w => ∃ z : UInt64, w = .double z ∧ Jvm.FP.Core.val64 z = Jvm.FP.Core.round Jvm.FP.Core.b64 (Jvm.FP.Core.Datum.fin false ((A * 4 + B * k) * 4 + C * k * k) (-((4 : Nat) : Int)))) w) ∧ L = [] ∧ h = h0) v U'.heap L ∧ FrameEnd U o U' L ({ frames := 0, cells := 0, slots := 0, locals := 0 } : Room).cells ({ frames := 0, cells := 0, slots := 0, locals := 0 } : Room).slots) := by
  refine own_body (y := (⟨"com/example/stellwerk/stellwerk/core/TrainPhysics", "resistance", "(D)D"⟩ : MethodName)) (Q := fun v h L => (∃ w, v = some w ∧ (fun w => ∃ z : UInt64, w = .double z ∧ Jvm.FP.Core.val64 z = Jvm.FP.Core.round Jvm.FP.Core.b64 (Jvm.FP.Core.Datum.fin false ((A * 4 + B * k) * 4 + C * k * k) (-((4 : Nat) : Int)))) w) ∧ L = [] ∧ h = h0) (rm := ({ frames := 0, cells := 0, slots := 0, locals := 0 } : Room)) (as' := #[(.ref a1), (.double sp)]) (h0 := h0) (Z := Z) own_pnS ?_
  intro p e s m below meth c s₁ hx hby hml hown hnm hret hlk hZ X0 e0
  have hown : s.vm.findClass "com/example/stellwerk/stellwerk/core/TrainPhysics" = some m.cls := hown
  rw [own_efS]
  obtain ⟨r1, r2, r3, r4, r5, r6⟩ := own_res hA hB hC hs bA bB bC bk
  refine own_aload_n X0 hx (hb hby dS_0) rfl rfl (q := 1) rfl ?_
  refine own_getF X0 hx hZ hown (hw _ (List.mem_of_getElem? (i := 42) rfl)) e0 F1 (hb hby dS_1) (q := 4) rfl ?_
  intro T1 X1 e1
  refine own_aload_n X1 hx (hb hby dS_4) rfl rfl (q := 5) rfl ?_
  refine own_getF X1 hx hZ hown (hw _ (List.mem_of_getElem? (i := 44) rfl)) e1 F2 (hb hby dS_5) (q := 8) rfl ?_
  intro T2 X2 e2
  refine own_dload_n X2 hx (hb hby dS_8) rfl (q := 9) rfl ?_
  refine own_dmul X2 hx (hb hby dS_9) (r1) (q := 10) rfl ?_
  refine own_dadd X2 hx (hb hby dS_10) (r2) (q := 11) rfl ?_
  refine own_aload_n X2 hx (hb hby dS_11) rfl rfl (q := 12) rfl ?_
  refine own_getF X2 hx hZ hown (hw _ (List.mem_of_getElem? (i := 46) rfl)) e2 F3 (hb hby dS_12) (q := 15) rfl ?_
  intro T3 X3 e3
  refine own_dload_n X3 hx (hb hby dS_15) rfl (q := 16) rfl ?_
  refine own_dmul X3 hx (hb hby dS_16) (r3) (q := 17) rfl ?_
  refine own_dload_n X3 hx (hb hby dS_17) rfl (q := 18) rfl ?_
  refine own_dmul X3 hx (hb hby dS_18) (r4) (q := 19) rfl ?_
  refine own_dadd X3 hx (hb hby dS_19) (r5) (q := 20) rfl ?_
  exact own_retD X3 hx hret hlk (hb hby dS_20) (by decide) (by decide) ⟨⟨_, rfl, ⟨_, rfl, r6⟩⟩, rfl, e3⟩
theorem own_bn {A B C k : Nat} (bA : A ≤ 1048575) (bB : B ≤ 1023) (bC : C ≤ 1023) (bk : k ≤ 4095) : (A * 4 + B * k) * 4 + C * k * k < 9007199254740992 := by
  have b1 : B * k ≤ 1023 * 4095 := Nat.mul_le_mul bB bk
  have b2 : C * k ≤ 1023 * 4095 := Nat.mul_le_mul bC bk
  have b3 : C * k * k ≤ 1023 * 4095 * 4095 := Nat.mul_le_mul b2 bk
  omega
theorem own_six {lA lB lC lk : Int64} {A B C k : Nat} (hA : lA.toInt = (A : Int)) (hB : lB.toInt = (B : Int)) (hC : lC.toInt = (C : Int)) (hk : lk.toInt = (k : Int)) (bA : A ≤ 1048575) (bB : B ≤ 1023) (bC : C ≤ 1023) (bk : k ≤ 4095) : ((((16 : Int64) * lA) + (((4 : Int64) * lB) * lk)) + ((lC * lk) * lk)).toInt = (((A * 4 + B * k) * 4 + C * k * k : Nat) : Int) := by
  have b1 : B * k ≤ 1023 * 4095 := Nat.mul_le_mul bB bk
  have b2 : C * k ≤ 1023 * 4095 := Nat.mul_le_mul bC bk
  have b3 : C * k * k ≤ 1023 * 4095 * 4095 := Nat.mul_le_mul b2 bk
  have k16 : (16 : Int64).toInt = 16 := rfl
  have k4 : (4 : Int64).toInt = 4 := rfl
  generalize (16 : Int64) = x16 at *
  generalize (4 : Int64) = x4 at *
  have e1 := own_mulL x16 lA (by rw [k16]; omega) (by rw [k16]; omega)
  rw [k16, hA] at e1
  have e2 := own_mulL x4 lB (by rw [k4]; omega) (by rw [k4]; omega)
  rw [k4, hB] at e2
  have p1 : ((4 * (B : Int)) * (k : Int)) = ((4 * (B * k) : Nat) : Int) := by push_cast; rw [Int.mul_assoc]
  have e3 := own_mulL (x4 * lB) lk (by rw [e2, hk, p1]; omega) (by rw [e2, hk, p1]; omega)
  rw [e2, hk, p1] at e3
  have p2 : ((C : Int) * (k : Int)) = ((C * k : Nat) : Int) := by push_cast; rfl
  have e4 := own_mulL lC lk (by rw [hC, hk, p2]; omega) (by rw [hC, hk, p2]; omega)
  rw [hC, hk, p2] at e4
  have p3 : (((C * k : Nat) : Int) * (k : Int)) = ((C * k * k : Nat) : Int) := by push_cast; rfl
  have e5 := own_mulL (lC * lk) lk (by rw [e4, hk, p3]; omega) (by rw [e4, hk, p3]; omega)
  rw [e4, hk, p3] at e5
  have e6 := own_addL (x16 * lA) (x4 * lB * lk) (by omega) (by omega)
  have e7 := own_addL (x16 * lA + x4 * lB * lk) (lC * lk * lk) (by omega) (by omega)
  omega
theorem own_pn0 : plainName "com/example/stellwerk/stellwerk/core/TrainPhysicsResistancePinLaw" = true := by first | (simp [plainName, overriddenIn]; done) | decide +kernel
theorem own_ef0 (m : MethodId) (p1 : Int32) (p2 : Int32) (p3 : Int32) (p4 : Int32) (p5 : Int32) : entryFrame m #[(.int p1), (.int p2), (.int p3), (.int p4), (.int p5)] maxLocals = mkF m 0 #[.val (.int p1), .val (.int p2), .val (.int p3), .val (.int p4), .val (.int p5), .unset, .unset, .unset, .unset, .unset, .unset, .unset, .unset, .unset, .unset, .unset, .unset, .unset, .unset, .unset, .unset, .unset, .unset, .unset, .unset] [] := by first | (simp [entryFrame, mkF, argsToLocals, Value.category, maxLocals]; done) | rfl
set_option maxRecDepth 65536 in
set_option maxHeartbeats 40000000 in
theorem own_rm0 (l : Launch) (Z : State) (a0 : Array Value) (hw : ∀ d ∈ tables_1, d.before a0 Z = true) (ws : List Jvm.Cond) (p1 : Int32) (p2 : Int32) (p3 : Int32) (p4 : Int32) (p5 : Int32)  (h0 : Heap)  :
    MetFree l x (head1 (Jvm.Cond.code x code maxLocals ret :: ws) room_1) (fun a U => a = #[(.int p1), (.int p2), (.int p3), (.int p4), (.int p5)] ∧ Z.Warmed39 U.vm ∧ U.heap = h0) (fun _ _ _ _ _ => True) (fun _ U o U' => ∃ v L, o = .returned v ∧ (fun v h L => v = some (.int 1) ∧ Fr h0.size L) v U'.heap L ∧ FrameEnd U o U' L room_1.cells room_1.slots) := by
  refine own_body (y := x) (Q := fun v h L => v = some (.int 1) ∧ Fr h0.size L) (rm := room_1) (as' := #[(.int p1), (.int p2), (.int p3), (.int p4), (.int p5)]) (h0 := h0) (Z := Z) own_pn0 ?_
  intro p e s m below meth c s₁ hx hby hml hown hnm hret hlk hZ X0 e0
  have hown : s.vm.findClass "com/example/stellwerk/stellwerk/core/TrainPhysicsResistancePinLaw" = some m.cls := hown
  rw [own_ef0]
  refine own_iload_n X0 hx (hb hby at_0) rfl (q := 1) rfl ?_
  refine own_ldcI X0 hx hZ hown (hw _ (List.mem_of_getElem? (i := 0) rfl)) (hb hby at_1) (q := 3) rfl ?_
  refine own_iand X0 hx (hb hby at_3) (q := 4) rfl ?_
  refine own_i2l X0 hx (hb hby at_4) (q := 5) rfl ?_
  refine own_lstore X0 hx (hb hby at_5) (l' := #[.val (.int p1), .val (.int p2), .val (.int p3), .val (.int p4), .val (.int p5), .val (.long ((p1 &&& (1048575 : Int32)).toInt64)), .second, .unset, .unset, .unset, .unset, .unset, .unset, .unset, .unset, .unset, .unset, .unset, .unset, .unset, .unset, .unset, .unset, .unset, .unset]) rfl (q := 7) rfl ?_
  obtain ⟨lA, e_lA⟩ : ∃ z, z = ((p1 &&& (1048575 : Int32)).toInt64) := ⟨_, rfl⟩
  have i_lA : lA.toInt = (p1 &&& (1048575 : Int32)).toInt := by rw [e_lA]; exact c_i2l _
  have m_lA : (p1 &&& (1048575 : Int32)).toInt = p1.toInt % 1048576 := c_mask p1 1048575 20 (by decide) (by decide)
  rw [← e_lA]
  obtain ⟨A, n_A⟩ : ∃ n : Nat, lA.toInt = (n : Int) := ⟨lA.toInt.toNat, by omega⟩
  have b_A : A ≤ 1048575 := by omega
  have D_A : own_D A 0 (FP.l2d lA) := own_DL n_A (by omega)
  clear e_lA i_lA m_lA
  refine own_iload_n X0 hx (hb hby at_7) rfl (q := 8) rfl ?_
  refine own_sipush X0 hx (hb hby at_8) (v := (1023 : Int32)) rfl (q := 11) rfl ?_
  refine own_iand X0 hx (hb hby at_11) (q := 12) rfl ?_
  refine own_i2l X0 hx (hb hby at_12) (q := 13) rfl ?_
  refine own_lstore X0 hx (hb hby at_13) (l' := #[.val (.int p1), .val (.int p2), .val (.int p3), .val (.int p4), .val (.int p5), .val (.long lA), .second, .val (.long ((p2 &&& (1023 : Int32)).toInt64)), .second, .unset, .unset, .unset, .unset, .unset, .unset, .unset, .unset, .unset, .unset, .unset, .unset, .unset, .unset, .unset, .unset]) rfl (q := 15) rfl ?_
  obtain ⟨lB, e_lB⟩ : ∃ z, z = ((p2 &&& (1023 : Int32)).toInt64) := ⟨_, rfl⟩
  have i_lB : lB.toInt = (p2 &&& (1023 : Int32)).toInt := by rw [e_lB]; exact c_i2l _
  have m_lB : (p2 &&& (1023 : Int32)).toInt = p2.toInt % 1024 := c_mask p2 1023 10 (by decide) (by decide)
  rw [← e_lB]
  obtain ⟨B, n_B⟩ : ∃ n : Nat, lB.toInt = (n : Int) := ⟨lB.toInt.toNat, by omega⟩
  have b_B : B ≤ 1023 := by omega
  have D_B : own_D B 0 (FP.l2d lB) := own_DL n_B (by omega)
  clear e_lB i_lB m_lB
  refine own_iload_n X0 hx (hb hby at_15) rfl (q := 16) rfl ?_
  refine own_sipush X0 hx (hb hby at_16) (v := (1023 : Int32)) rfl (q := 19) rfl ?_
  refine own_iand X0 hx (hb hby at_19) (q := 20) rfl ?_
  refine own_i2l X0 hx (hb hby at_20) (q := 21) rfl ?_
  refine own_lstore X0 hx (hb hby at_21) (l' := #[.val (.int p1), .val (.int p2), .val (.int p3), .val (.int p4), .val (.int p5), .val (.long lA), .second, .val (.long lB), .second, .val (.long ((p3 &&& (1023 : Int32)).toInt64)), .second, .unset, .unset, .unset, .unset, .unset, .unset, .unset, .unset, .unset, .unset, .unset, .unset, .unset, .unset]) rfl (q := 23) rfl ?_
  obtain ⟨lC, e_lC⟩ : ∃ z, z = ((p3 &&& (1023 : Int32)).toInt64) := ⟨_, rfl⟩
  have i_lC : lC.toInt = (p3 &&& (1023 : Int32)).toInt := by rw [e_lC]; exact c_i2l _
  have m_lC : (p3 &&& (1023 : Int32)).toInt = p3.toInt % 1024 := c_mask p3 1023 10 (by decide) (by decide)
  rw [← e_lC]
  obtain ⟨C, n_C⟩ : ∃ n : Nat, lC.toInt = (n : Int) := ⟨lC.toInt.toNat, by omega⟩
  have b_C : C ≤ 1023 := by omega
  have D_C : own_D C 0 (FP.l2d lC) := own_DL n_C (by omega)
  clear e_lC i_lC m_lC
  refine own_iload_n X0 hx (hb hby at_23) rfl (q := 24) rfl ?_
  refine own_sipush X0 hx (hb hby at_24) (v := (4095 : Int32)) rfl (q := 27) rfl ?_
  refine own_iand X0 hx (hb hby at_27) (q := 28) rfl ?_
  refine own_i2l X0 hx (hb hby at_28) (q := 29) rfl ?_
  refine own_lstore X0 hx (hb hby at_29) (l' := #[.val (.int p1), .val (.int p2), .val (.int p3), .val (.int p4), .val (.int p5), .val (.long lA), .second, .val (.long lB), .second, .val (.long lC), .second, .val (.long ((p4 &&& (4095 : Int32)).toInt64)), .second, .unset, .unset, .unset, .unset, .unset, .unset, .unset, .unset, .unset, .unset, .unset, .unset]) rfl (q := 31) rfl ?_
  obtain ⟨lk, e_lk⟩ : ∃ z, z = ((p4 &&& (4095 : Int32)).toInt64) := ⟨_, rfl⟩
  have i_lk : lk.toInt = (p4 &&& (4095 : Int32)).toInt := by rw [e_lk]; exact c_i2l _
  have m_lk : (p4 &&& (4095 : Int32)).toInt = p4.toInt % 4096 := c_mask p4 4095 12 (by decide) (by decide)
  rw [← e_lk]
  obtain ⟨kk, n_kk⟩ : ∃ n : Nat, lk.toInt = (n : Int) := ⟨lk.toInt.toNat, by omega⟩
  have b_kk : kk ≤ 4095 := by omega
  have D_kk : own_D kk 0 (FP.l2d lk) := own_DL n_kk (by omega)
  clear e_lk i_lk m_lk
  refine own_iload X0 hx (hb hby at_31) rfl (q := 33) rfl ?_
  refine own_ldcI X0 hx hZ hown (hw _ (List.mem_of_getElem? (i := 1) rfl)) (hb hby at_33) (q := 35) rfl ?_
  refine own_iand X0 hx (hb hby at_35) (q := 36) rfl ?_
  refine own_iconst X0 hx (hb hby at_36) (v := (1 : Int32)) rfl (q := 37) rfl ?_
  refine own_iadd X0 hx (hb hby at_37) (q := 38) rfl ?_
  refine own_i2d X0 hx (hb hby at_38) (q := 39) rfl ?_
  refine own_dstore X0 hx (hb hby at_39) (l' := #[.val (.int p1), .val (.int p2), .val (.int p3), .val (.int p4), .val (.int p5), .val (.long lA), .second, .val (.long lB), .second, .val (.long lC), .second, .val (.long lk), .second, .val (.double (FP.i2d ((p5 &&& (65535 : Int32)) + (1 : Int32)))), .second, .unset, .unset, .unset, .unset, .unset, .unset, .unset, .unset, .unset, .unset]) rfl (q := 41) rfl ?_
  refine own_lload X0 hx (hb hby at_41) rfl (q := 43) rfl ?_
  refine own_l2d X0 hx (hb hby at_43) (q := 44) rfl ?_
  refine own_ldcD X0 hx hZ hown (hw _ (List.mem_of_getElem? (i := 2) rfl)) (hb hby at_44) (q := 47) rfl ?_
  have s4 : own_D kk 2 (FP.ddiv (FP.l2d lk) (4616189618054758400 : UInt64)) := own_round (by rw [own_p53]; omega) (by decide) (own_Ddiv D_kk own_v4 rfl)
  refine own_ddiv X0 hx (hb hby at_47) (s4.fin) (q := 48) rfl ?_
  refine own_dstore X0 hx (hb hby at_48) (l' := #[.val (.int p1), .val (.int p2), .val (.int p3), .val (.int p4), .val (.int p5), .val (.long lA), .second, .val (.long lB), .second, .val (.long lC), .second, .val (.long lk), .second, .val (.double (FP.i2d ((p5 &&& (65535 : Int32)) + (1 : Int32)))), .second, .val (.double (FP.ddiv (FP.l2d lk) (4616189618054758400 : UInt64))), .second, .unset, .unset, .unset, .unset, .unset, .unset, .unset, .unset]) rfl (q := 50) rfl ?_
  obtain ⟨sp, e_sp⟩ : ∃ z, z = (FP.ddiv (FP.l2d lk) (4616189618054758400 : UInt64)) := ⟨_, rfl⟩
  rw [← e_sp] at s4 ⊢
  obtain ⟨ma, e_ma⟩ : ∃ z, z = (FP.i2d ((p5 &&& (65535 : Int32)) + (1 : Int32))) := ⟨_, rfl⟩
  rw [← e_ma]
  refine own_newO X0 hx hZ hown (hw _ (List.mem_of_getElem? (i := 3) rfl)) (hw _ (List.mem_of_getElem? (i := 4) rfl)) (hw _ (List.mem_of_getElem? (i := 5) rfl)) e0 (hb hby at_50) (by decide) (by decide) (q := 53) rfl ?_
  intro T1 h1_ b1 g1 X1 e1 E1 A1 D1
  have o1 : h0.size ≤ b1 := by rw [g1]; exact (Nat.le_refl _)
  have z1_ : h0.size ≤ h1_.size := Nat.le_trans (Nat.le_refl _) E1.1
  have F1speeds : Fld Z h1_ b1 "com/example/stellwerk/stellwerk/core/TractiveEffort" "speeds" "[D" (.null) := D1 (Or.inr (hw _ (List.mem_of_getElem? (i := 23) rfl))) (ty := (.array .double)) (by decide)
  have F1forces : Fld Z h1_ b1 "com/example/stellwerk/stellwerk/core/TractiveEffort" "forces" "[D" (.null) := D1 (Or.inr (hw _ (List.mem_of_getElem? (i := 25) rfl))) (ty := (.array .double)) (by decide)
  refine own_dup X1 hx (hb hby at_53) rfl (q := 54) rfl ?_
  refine own_iconst X1 hx (hb hby at_54) (v := (1 : Int32)) rfl (q := 55) rfl ?_
  refine own_newPD X1 hx hZ (hw _ (List.mem_of_getElem? (i := 6) rfl)) e1 (hb hby at_55) (N := 1) rfl (cap := 1) (by decide) (by decide) (by decide) (by decide) (ad := "[D") rfl (q := 57) rfl ?_
  intro T2 h2_ b2 g2 X2 e2 E2 A2 Q2
  have ne_b1_b2 : b1 ≠ b2 := Nat.ne_of_lt (by rw [g2]; exact A1.lt)
  have A1_2 := A1.ext E2
  have F1speeds_2 := F1speeds.ext E2
  have F1forces_2 := F1forces.ext E2
  have o2 : h0.size ≤ b2 := by rw [g2]; exact z1_
  have z2_ : h0.size ≤ h2_.size := Nat.le_trans z1_ E2.1
  refine own_dup X2 hx (hb hby at_57) rfl (q := 58) rfl ?_
  refine own_iconst X2 hx (hb hby at_58) (v := (0 : Int32)) rfl (q := 59) rfl ?_
  refine own_dconst0 X2 hx (hb hby at_59) (q := 60) rfl ?_
  refine own_stD X2 hx hZ e2 A2 (hb hby at_60) (i := 0) rfl (by decide) (Fr.nil _) o2 (q := 61) rfl ?_
  intro T3 h3_ L3 X3 N3 e3 A3 W3
  have K3 := Keep.of_wr W3
  have A1_3 := A1_2.keep K3
  have F1speeds_3 := F1speeds_2.keep K3 (ninS ne_b1_b2 nin0)
  have F1forces_3 := F1forces_2.keep K3 (ninS ne_b1_b2 nin0)
  have Q2_3 := Q2.keep K3
  have z3_ : h0.size ≤ h3_.size := Nat.le_trans z2_ K3.1
  refine own_iconst X3 hx (hb hby at_61) (v := (1 : Int32)) rfl (q := 62) rfl ?_
  refine own_newPD X3 hx hZ (hw _ (List.mem_of_getElem? (i := 6) rfl)) e3 (hb hby at_62) (N := 1) rfl (cap := 1) (by decide) (by decide) (by decide) (by decide) (ad := "[D") rfl (q := 64) rfl ?_
  intro T4 h4_ b4 g4 X4 e4 E4 A4 Q4
  have ne_b1_b4 : b1 ≠ b4 := Nat.ne_of_lt (by rw [g4]; exact A1_3.lt)
  have ne_b2_b4 : b2 ≠ b4 := Nat.ne_of_lt (by rw [g4]; exact Q2_3.lt)
  have A1_4 := A1_3.ext E4
  have F1speeds_4 := F1speeds_3.ext E4
  have F1forces_4 := F1forces_3.ext E4
  have Q2_4 := Q2_3.ext E4
  have A3_4 := A3.ext E4
  have o4 : h0.size ≤ b4 := by rw [g4]; exact z3_
  have z4_ : h0.size ≤ h4_.size := Nat.le_trans z3_ E4.1
  refine own_dup X4 hx (hb hby at_64) rfl (q := 65) rfl ?_
  refine own_iconst X4 hx (hb hby at_65) (v := (0 : Int32)) rfl (q := 66) rfl ?_
  refine own_dconst0 X4 hx (hb hby at_66) (q := 67) rfl ?_
  refine own_stD X4 hx hZ e4 A4 (hb hby at_67) (i := 0) rfl (by decide) N3 o4 (q := 68) rfl ?_
  intro T5 h5_ L5 X5 N5 e5 A5 W5
  have K5 := Keep.of_wr W5
  have A1_5 := A1_4.keep K5
  have F1speeds_5 := F1speeds_4.keep K5 (ninS ne_b1_b4 nin0)
  have F1forces_5 := F1forces_4.keep K5 (ninS ne_b1_b4 nin0)
  have Q2_5 := Q2_4.keep K5
  have A3_5 := A3_4.keep K5 (ninS ne_b2_b4 nin0)
  have Q4_5 := Q4.keep K5
  have z5_ : h0.size ≤ h5_.size := Nat.le_trans z4_ K5.1
  refine own_callN X5 hx hZ rfl hown (hw _ (List.mem_of_getElem? (i := 7) rfl)) (hw _ (List.mem_of_getElem? (i := 8) rfl)) (hw _ (List.mem_of_getElem? (i := 5) rfl)) (hw _ (List.mem_of_getElem? (i := 9) rfl)) (by decide) (own_rmT l Z a0 hw [] b1 b2 b4 _ _ h5_ h0.size o1 A1_5 F1speeds_5 F1forces_5 A3_5 A5 Q2_5 Q4_5 ne_b1_b2.symm ne_b1_b4.symm (fun i hi => by rw [show i = 0 by omega]; rfl) (fun i hi => by rw [show i = 0 by omega]; rfl)) (by decide) (by decide) e5 (by rw [hml]; rfl) (argsL := [(.ref b2), (.ref b4)]) (rest := [(.ref b1)]) (lenOf own_pd1 rfl) rfl (W := 1) rfl (hb hby at_68) (q := 71) rfl rfl (by decide) (by decide) ?_
  rintro _ T6 L6 ⟨rfl, NL6, K6⟩ X6
  have N6 := Fr.app N5 NL6
  obtain ⟨h6_, e6⟩ : ∃ z, T6.heap = z := ⟨_, rfl⟩
  rw [e6] at K6 
  have Q2_6 := Q2_5.keep K6
  have A3_6 := A3_5.keep K6 (ninS ne_b1_b2.symm nin0)
  have Q4_6 := Q4_5.keep K6
  have A5_6 := A5.keep K6 (ninS ne_b1_b4.symm nin0)
  have z6_ : h0.size ≤ h6_.size := Nat.le_trans z5_ K6.1
  obtain ⟨LL6, eL6⟩ : ∃ z, L5 ++ L6 = z := ⟨_, rfl⟩
  rw [eL6] at X6 N6
  show own_Go p e below s _ _ _ (T6.setTop (mkF m 71 #[.val (.int p1), .val (.int p2), .val (.int p3), .val (.int p4), .val (.int p5), .val (.long lA), .second, .val (.long lB), .second, .val (.long lC), .second, .val (.long lk), .second, .val (.double ma), .second, .val (.double sp), .second, .unset, .unset, .unset, .unset, .unset, .unset, .unset, .unset] [(.ref b1)]))
  refine own_astore X6 hx (hb hby at_71) rfl (l' := #[.val (.int p1), .val (.int p2), .val (.int p3), .val (.int p4), .val (.int p5), .val (.long lA), .second, .val (.long lB), .second, .val (.long lC), .second, .val (.long lk), .second, .val (.double ma), .second, .val (.double sp), .second, .val (.ref b1), .unset, .unset, .unset, .unset, .unset, .unset, .unset]) rfl (q := 73) rfl ?_
  refine own_newO X6 hx hZ hown (hw _ (List.mem_of_getElem? (i := 26) rfl)) (hw _ (List.mem_of_getElem? (i := 27) rfl)) (hw _ (List.mem_of_getElem? (i := 28) rfl)) e6 (hb hby at_73) (by decide) (by decide) (q := 76) rfl ?_
  intro T7 h7_ b7 g7 X7 e7 E7 A7 D7
  have o7 : h0.size ≤ b7 := by rw [g7]; exact z6_
  have z7_ : h0.size ≤ h7_.size := Nat.le_trans z6_ E7.1
  have F7mass : Fld Z h7_ b7 "com/example/stellwerk/stellwerk/core/TrainPhysics" "mass" "D" (.double 0) := D7 (Or.inr (hw _ (List.mem_of_getElem? (i := 39) rfl))) (ty := .double) (by decide)
  have F7rotatingMassFactor : Fld Z h7_ b7 "com/example/stellwerk/stellwerk/core/TrainPhysics" "rotatingMassFactor" "D" (.double 0) := D7 (Or.inr (hw _ (List.mem_of_getElem? (i := 41) rfl))) (ty := .double) (by decide)
  have F7davisA : Fld Z h7_ b7 "com/example/stellwerk/stellwerk/core/TrainPhysics" "davisA" "D" (.double 0) := D7 (Or.inr (hw _ (List.mem_of_getElem? (i := 43) rfl))) (ty := .double) (by decide)
  have F7davisB : Fld Z h7_ b7 "com/example/stellwerk/stellwerk/core/TrainPhysics" "davisB" "D" (.double 0) := D7 (Or.inr (hw _ (List.mem_of_getElem? (i := 45) rfl))) (ty := .double) (by decide)
  have F7davisC : Fld Z h7_ b7 "com/example/stellwerk/stellwerk/core/TrainPhysics" "davisC" "D" (.double 0) := D7 (Or.inr (hw _ (List.mem_of_getElem? (i := 47) rfl))) (ty := .double) (by decide)
  have F7tractiveEffort : Fld Z h7_ b7 "com/example/stellwerk/stellwerk/core/TrainPhysics" "tractiveEffort" "Lcom/example/stellwerk/stellwerk/core/TractiveEffort;" (.null) := D7 (Or.inr (hw _ (List.mem_of_getElem? (i := 49) rfl))) (ty := (.object "com/example/stellwerk/stellwerk/core/TractiveEffort")) (by decide)
  refine own_dup X7 hx (hb hby at_76) rfl (q := 77) rfl ?_
  refine own_dload X7 hx (hb hby at_77) rfl (q := 79) rfl ?_
  refine own_dconst1 X7 hx (hb hby at_79) (q := 80) rfl ?_
  refine own_lload X7 hx (hb hby at_80) rfl (q := 82) rfl ?_
  refine own_l2d X7 hx (hb hby at_82) (q := 83) rfl ?_
  refine own_lload X7 hx (hb hby at_83) rfl (q := 85) rfl ?_
  refine own_l2d X7 hx (hb hby at_85) (q := 86) rfl ?_
  refine own_lload X7 hx (hb hby at_86) rfl (q := 88) rfl ?_
  refine own_l2d X7 hx (hb hby at_88) (q := 89) rfl ?_
  refine own_aload X7 hx (hb hby at_89) rfl rfl (q := 91) rfl ?_
  refine own_callN X7 hx hZ rfl hown (hw _ (List.mem_of_getElem? (i := 29) rfl)) (hw _ (List.mem_of_getElem? (i := 30) rfl)) (hw _ (List.mem_of_getElem? (i := 28) rfl)) (hw _ (List.mem_of_getElem? (i := 31) rfl)) (by decide) (own_rmP l Z a0 hw [] b7 ma FP.dconst1 (FP.l2d lA) (FP.l2d lB) (FP.l2d lC) b1 h7_ h0.size o7 A7 F7mass F7rotatingMassFactor F7davisA F7davisB F7davisC F7tractiveEffort) (by decide) (by decide) e7 (by rw [hml]; rfl) (argsL := [(.double ma), (.double FP.dconst1), (.double (FP.l2d lA)), (.double (FP.l2d lB)), (.double (FP.l2d lC)), (.ref b1)]) (rest := [(.ref b7)]) (lenOf own_pd2 rfl) rfl (W := 1) rfl (hb hby at_91) (q := 94) rfl rfl (by decide) (by decide) ?_
  rintro _ T8 L8 ⟨rfl, NL8, K8, A8, FA8, FB8, FC8⟩ X8
  have N8 := Fr.app N6 NL8
  obtain ⟨h8_, e8⟩ : ∃ z, T8.heap = z := ⟨_, rfl⟩
  rw [e8] at K8 A8 FA8 FB8 FC8
  have z8_ : h0.size ≤ h8_.size := Nat.le_trans z7_ K8.1
  obtain ⟨LL8, eL8⟩ : ∃ z, LL6 ++ L8 = z := ⟨_, rfl⟩
  rw [eL8] at X8 N8
  show own_Go p e below s _ _ _ (T8.setTop (mkF m 94 #[.val (.int p1), .val (.int p2), .val (.int p3), .val (.int p4), .val (.int p5), .val (.long lA), .second, .val (.long lB), .second, .val (.long lC), .second, .val (.long lk), .second, .val (.double ma), .second, .val (.double sp), .second, .val (.ref b1), .unset, .unset, .unset, .unset, .unset, .unset, .unset] [(.ref b7)]))
  refine own_astore X8 hx (hb hby at_94) rfl (l' := #[.val (.int p1), .val (.int p2), .val (.int p3), .val (.int p4), .val (.int p5), .val (.long lA), .second, .val (.long lB), .second, .val (.long lC), .second, .val (.long lk), .second, .val (.double ma), .second, .val (.double sp), .second, .val (.ref b1), .val (.ref b7), .unset, .unset, .unset, .unset, .unset, .unset]) rfl (q := 96) rfl ?_
  refine own_aload X8 hx (hb hby at_96) rfl rfl (q := 98) rfl ?_
  refine own_dload X8 hx (hb hby at_98) rfl (q := 100) rfl ?_
  refine own_callVP X8 hx hZ hown (hw _ (List.mem_of_getElem? (i := 50) rfl)) (hw _ (List.mem_of_getElem? (i := 51) rfl)) (hw _ (List.mem_of_getElem? (i := 53) rfl)) (hw _ (List.mem_of_getElem? (i := 52) rfl)) (hw _ (List.mem_of_getElem? (i := 54) rfl)) (hw _ (List.mem_of_getElem? (i := 28) rfl)) (by decide) (own_rmS l Z a0 hw [] b7 sp (FP.l2d lA) (FP.l2d lB) (FP.l2d lC) A B C kk h8_ FA8 FB8 FC8 D_A D_B D_C s4 b_A b_B b_C b_kk) A8 (by decide) (by decide) e8 (by rw [hml]; rfl) (argsL := [(.double sp)]) (rest := []) (lenOf own_pd3 rfl) rfl (W := 0) rfl (hb hby at_100) (q := 103) rfl rfl rfl rfl (by decide) (by decide) ?_
  rintro _ T9 ⟨z9, rfl, hz9⟩ X9 e9
  have hzR := hz9
  refine own_dstore X9 hx (hb hby at_103) (l' := #[.val (.int p1), .val (.int p2), .val (.int p3), .val (.int p4), .val (.int p5), .val (.long lA), .second, .val (.long lB), .second, .val (.long lC), .second, .val (.long lk), .second, .val (.double ma), .second, .val (.double sp), .second, .val (.ref b1), .val (.ref b7), .val (.double z9), .second, .unset, .unset, .unset, .unset]) rfl (q := 105) rfl ?_
  refine own_ldcL X9 hx hZ hown (hw _ (List.mem_of_getElem? (i := 55) rfl)) (hb hby at_105) (q := 108) rfl ?_
  refine own_lload X9 hx (hb hby at_108) rfl (q := 110) rfl ?_
  refine own_lmul X9 hx (hb hby at_110) (q := 111) rfl ?_
  refine own_ldcL X9 hx hZ hown (hw _ (List.mem_of_getElem? (i := 56) rfl)) (hb hby at_111) (q := 114) rfl ?_
  refine own_lload X9 hx (hb hby at_114) rfl (q := 116) rfl ?_
  refine own_lmul X9 hx (hb hby at_116) (q := 117) rfl ?_
  refine own_lload X9 hx (hb hby at_117) rfl (q := 119) rfl ?_
  refine own_lmul X9 hx (hb hby at_119) (q := 120) rfl ?_
  refine own_ladd X9 hx (hb hby at_120) (q := 121) rfl ?_
  refine own_lload X9 hx (hb hby at_121) rfl (q := 123) rfl ?_
  refine own_lload X9 hx (hb hby at_123) rfl (q := 125) rfl ?_
  refine own_lmul X9 hx (hb hby at_125) (q := 126) rfl ?_
  refine own_lload X9 hx (hb hby at_126) rfl (q := 128) rfl ?_
  refine own_lmul X9 hx (hb hby at_128) (q := 129) rfl ?_
  refine own_ladd X9 hx (hb hby at_129) (q := 130) rfl ?_
  refine own_lstore X9 hx (hb hby at_130) (l' := #[.val (.int p1), .val (.int p2), .val (.int p3), .val (.int p4), .val (.int p5), .val (.long lA), .second, .val (.long lB), .second, .val (.long lC), .second, .val (.long lk), .second, .val (.double ma), .second, .val (.double sp), .second, .val (.ref b1), .val (.ref b7), .val (.double z9), .second, .val (.long ((((16 : Int64) * lA) + (((4 : Int64) * lB) * lk)) + ((lC * lk) * lk))), .second, .unset, .unset]) rfl (q := 132) rfl ?_
  obtain ⟨sx, e_sx, n_sx⟩ : ∃ z : Int64, z = ((((16 : Int64) * lA) + (((4 : Int64) * lB) * lk)) + ((lC * lk) * lk)) ∧ z.toInt = (((A * 4 + B * kk) * 4 + C * kk * kk : Nat) : Int) := ⟨_, rfl, own_six n_A n_B n_C n_kk b_A b_B b_C b_kk⟩
  rw [← e_sx]
  have bn : (A * 4 + B * kk) * 4 + C * kk * kk < 9007199254740992 := own_bn b_A b_B b_C b_kk
  have v16 := own_Ddiv (own_DL n_sx bn) own_v16 (K := 4) rfl
  have s16 := own_round (by rw [own_p53]; exact bn) (by decide) v16
  refine own_lload X9 hx (hb hby at_132) rfl (q := 134) rfl ?_
  refine own_l2d X9 hx (hb hby at_134) (q := 135) rfl ?_
  refine own_ldcD X9 hx hZ hown (hw _ (List.mem_of_getElem? (i := 57) rfl)) (hb hby at_135) (q := 138) rfl ?_
  refine own_ddiv X9 hx (hb hby at_138) (s16.fin) (q := 139) rfl ?_
  refine own_dstore X9 hx (hb hby at_139) (l' := #[.val (.int p1), .val (.int p2), .val (.int p3), .val (.int p4), .val (.int p5), .val (.long lA), .second, .val (.long lB), .second, .val (.long lC), .second, .val (.long lk), .second, .val (.double ma), .second, .val (.double sp), .second, .val (.ref b1), .val (.ref b7), .val (.double z9), .second, .val (.long sx), .second, .val (.double (FP.ddiv (FP.l2d sx) (4625196817309499392 : UInt64))), .second]) rfl (q := 141) rfl ?_
  refine own_dload X9 hx (hb hby at_141) rfl (q := 143) rfl ?_
  refine own_dload X9 hx (hb hby at_143) rfl (q := 145) rfl ?_
  refine own_dcmp X9 hx (hb hby at_145) (v := (0 : Int32)) (own_same (by rw [own_p53]; exact bn) (by decide) hzR v16 .l) (q := 146) rfl ?_
  refine own_if X9 hx (hb hby at_146) (by decide) (q := 153) rfl (q' := 149) rfl (own_z_ne _) (fun h146 => ?_) (fun h146 => ?_)
  · replace h146 : (0 : Int) ≠ 0 := h146
    exfalso; omega
  · replace h146 : ¬ ((0 : Int) ≠ 0) := h146
    refine own_iconst X9 hx (hb hby at_149) (v := (1 : Int32)) rfl (q := 150) rfl ?_
    refine own_goto X9 hx (hb hby at_150) (by decide) (q := 154) rfl ?_
    exact own_retN X9 hx (t := .boolean) hret hlk (by simp) (hb hby at_154) (by decide) (by decide) (w := 1) rfl ⟨rfl, N8⟩
set_option maxRecDepth 65536 in
set_option maxHeartbeats 40000000 in
theorem own_comes {Post : Tables → Env → Array Value → State → Outcome → State → Prop} (hpost : ∀ tb e args s v u, (limb_1_1.after args s (.returned v) u = true ∧ limb_1_2.after args s (.returned v) u = true ∧ True) → FrameEnd s (.returned v) u (Jvm.fieldLocs frame_1_writes args s ++ Jvm.arrayLocs frame_1_arrays args s ++ Jvm.staticLocs frame_1_statics s) 24 128 → Post tb e args s (.returned v) u) :
    ArmFor flags0 classFile x code maxLocals ret World_1 tables_1 room_1 Calls_1 rest_1 Pre_1 Post := by
  intro l hfl _ _ p e ha hc hk s m args below hf hA hF happ hP
  obtain ⟨hcalls, hrest, hpre⟩ := hP
  obtain ⟨-, -, -, hnamed, -, -, -, hat⟩ := (Spec.applies_iff hf).mp happ
  obtain ⟨hg, hn⟩ := and_e (Cond.before_iff.mp (show (Jvm.Cond.and given_1 narrow_1).before args s = true from hpre))
  obtain ⟨hcount, k0⟩ := and_e hg
  obtain ⟨w0, w1, w2, w3, w4, rfl⟩ : ∃ w0 w1 w2 w3 w4 : Value, args = #[w0, w1, w2, w3, w4] := by
    have hs : args.size = 5 := by simpa [Cond.value, given_1] using hcount
    obtain ⟨L⟩ := args
    match L, hs with
    | [w0, w1, w2, w3, w4], _ => exact ⟨w0, w1, w2, w3, w4, rfl⟩
  have hw := fun d (hd : d ∈ tables_1) => atoms_spec (ws := Jvm.Cond.code x code maxLocals ret :: tables_1) hat d (List.mem_cons_of_mem _ hd)
  have hfit : Fit s := fun {y c} hc i hi => by
    obtain ⟨ha, rfl⟩ := Array.getElem?_eq_some_iff.mp hc
    have q := List.all_eq_true.mp ((Array.all_eq_true_iff_forall_mem.mp hF) _ (Array.getElem_mem ha)) i (List.mem_range.mpr hi)
    simpa [Array.getElem?_eq_getElem hi] using q
  obtain ⟨j0, k1⟩ := and_e k0
  obtain ⟨i0, e0⟩ := is_v j0
  obtain rfl : w0 = (.int i0) := Option.some.inj e0
  obtain ⟨j1, k2⟩ := and_e k1
  obtain ⟨i1, e1⟩ := is_v j1
  obtain rfl : w1 = (.int i1) := Option.some.inj e1
  obtain ⟨j2, k3⟩ := and_e k2
  obtain ⟨i2, e2⟩ := is_v j2
  obtain rfl : w2 = (.int i2) := Option.some.inj e2
  obtain ⟨j3, k4⟩ := and_e k3
  obtain ⟨i3, e3⟩ := is_v j3
  obtain rfl : w3 = (.int i3) := Option.some.inj e3
  have j4 := k4
  obtain ⟨i4, e4⟩ := is_v j4
  obtain rfl : w4 = (.int i4) := Option.some.inj e4
  obtain ⟨n, o, h1, h2, h3, _, L, rfl, ⟨rfl, N⟩, hq⟩ := own_rm0 l s _ hw tables_1 i0 i1 i2 i3 i4 s.heap  p e ha hc hk s m _ below hf ((Spec.applies_iff_loose hf).mp happ).1 ⟨rfl, State.Warmed39.refl s, rfl⟩ trivial
  refine ⟨n, _, h1, h2, h3, hpost _ _ _ _ _ _ ⟨Cond.after_iff.mpr rfl, Cond.after_iff.mpr (eq_i res_at (Term.int_eval (1)) rfl), trivial⟩ ⟨hq.1, hq.2.1, (hq.2.2.sift fun y hy => Or.inr (N y hy)).mono (by decide) (by decide)⟩⟩
theorem main_1_1 : Claimed_1_1 := own_comes fun _ _ _ _ _ _ h hF => ⟨h.1, hF⟩
theorem main_1_2 : Claimed_1_2 := own_comes fun _ _ _ _ _ _ h hF => ⟨h.2.1, hF⟩
end Jvm.Pilot.@@N@@
namespace Jvm.Pilot.@@N@@
open Jvm Jvm.ClassFile Sem Op Lib Jvm.Free Jvm.Stand Jvm.Pilot.@@N@@.Jvm.D
/-! MADE BY PROGRAM (witnessworld.py) out of the Statement's table words and the real class files: 14 classes; the members and pool entries that the words name. The judged class is class 1, her method 1. -/
namespace start1
open Jvm.ClassFile
def u (s : String) : CpInfo := .utf8 (stringToUtf16 s)
/-- a pool by its gaps: so many unusable entries, then the entry; so many at the end -/
def gap : Nat → List CpInfo → List CpInfo
  | 0, r => r
  | n + 1, r => .unusable :: gap n r
def poolList (es : List (Nat × CpInfo)) (last : Nat) : List CpInfo := es.foldr (fun e r => gap e.1 (e.2 :: r)) (gap last [])
def pool (es : List (Nat × CpInfo)) (last : Nat) : Array CpInfo := ⟨poolList es last⟩
def fileOf (pool : Array CpInfo) (this : Nat) (attrs : Array Attribute := #[]) (ms : Array MethodInfo := #[]) (fl : Nat := 33) (sup : Nat := 0) (ifs : Array Nat := #[]) (fds : Array FieldInfo := #[]) : ClassFile where
  minorVersion := 0
  majorVersion := 65
  constantPool := pool
  accessFlags := fl
  thisClass := this
  superClass := sup
  interfaces := ifs
  fields := fds
  methods := ms
  attributes := attrs
def plain (name : String) (sup : Option ClassId) : Class where
  name := name
  kind := .ordinary
  loader := none
  accessFlags := 33
  super := sup
  interfaces := #[]
  cf := none
  fields := #[]
  methods := #[]
  instanceTypes := #[]
  staticTypes := #[]
  resolved := #[]
  callSites := []
  init := .initialized
  statics := none
  mirror := none

def pool0 : Array CpInfo := pool [(5, u "<init>"), (0, u "()V"), (1, .class_ 10), (1, u "java/lang/Object"), (85, u "clone"), (0, u "()Ljava/lang/Object;")] 26

def k0c0 : Code := { maxStack := 0, maxLocals := 1, code := object_method_1_code, exceptionTable := #[], attributes := #[] }
def k0m0 : Method := { name := "<init>", desc := "()V", sig := { parameters := [], returnType := none }, accessFlags := 1, code := some k0c0 }
def k0m1 : Method := { name := "clone", desc := "()Ljava/lang/Object;", sig := { parameters := [], returnType := some (.object "java/lang/Object") }, accessFlags := 260, code := none }
/-- java/lang/Object -/
def k0 : Class := { plain "java/lang/Object" none with
  accessFlags := 33
  interfaces := #[]
  cf := some (fileOf pool0 8 #[] #[{ accessFlags := 1, nameIndex := 5, descriptorIndex := 6, attributes := #[] }, { accessFlags := 260, nameIndex := 96, descriptorIndex := 97, attributes := #[] }] 33 0 #[] #[])
  fields := #[]
  methods := #[k0m0, k0m1]
  instanceTypes := #[]
  staticTypes := #[]
  resolved := Array.replicate 124 none
  statics := none }

def pool1 : Array CpInfo := pool [(2, .class_ 4), (1, u "java/lang/Object"), (0, u "<init>"), (0, u "()V"), (0, .integer 1048575), (0, .integer 65535), (0, .double 4616189618054758400), (1, .class_ 12), (0, u "com/example/stellwerk/stellwerk/core/TractiveEffort"), (0, .methodref 11 14), (0, .nameAndType 5 15), (0, u "([D[D)V"), (0, .class_ 17), (0, u "com/example/stellwerk/stellwerk/core/TrainPhysics"), (0, .methodref 16 19), (0, .nameAndType 5 20), (0, u "(DDDDDLcom/example/stellwerk/stellwerk/core/TractiveEffort;)V"), (0, .methodref 16 22), (0, .nameAndType 23 24), (0, u "resistance"), (0, u "(D)D"), (0, .long 16), (1, .long 4), (1, .double 4625196817309499392), (1, .class_ 32), (0, u "com/example/stellwerk/stellwerk/core/TrainPhysicsResistancePinLaw"), (2, u "law"), (0, u "(IIIII)Z")] 3

def k1m0 : Method := { name := "<init>", desc := "()V", sig := { parameters := [], returnType := none }, accessFlags := 1, code := none }
def k1c1 : Code := { maxStack := 13, maxLocals := 25, code := code, exceptionTable := #[], attributes := #[] }
def k1m1 : Method := { name := "law", desc := "(IIIII)Z", sig := { parameters := [.int, .int, .int, .int, .int], returnType := some .boolean }, accessFlags := 9, code := some k1c1 }
/-- com/example/stellwerk/stellwerk/core/TrainPhysicsResistancePinLaw -/
def k1 : Class := { plain "com/example/stellwerk/stellwerk/core/TrainPhysicsResistancePinLaw" (some 0) with
  accessFlags := 49
  interfaces := #[]
  cf := some (fileOf pool1 31 #[] #[{ accessFlags := 1, nameIndex := 5, descriptorIndex := 6, attributes := #[] }, { accessFlags := 9, nameIndex := 35, descriptorIndex := 36, attributes := #[] }] 49 2 #[] #[])
  fields := #[]
  methods := #[k1m0, k1m1]
  instanceTypes := #[]
  staticTypes := #[]
  resolved := Array.replicate 40 none
  statics := none }

def pool2 : Array CpInfo := pool [(1, .methodref 2 3), (0, .class_ 4), (0, .nameAndType 5 6), (0, u "java/lang/Object"), (0, u "<init>"), (0, u "()V"), (12, .methodref 20 21), (0, .class_ 22), (0, .nameAndType 23 24), (0, u "[D"), (0, u "clone"), (0, u "()Ljava/lang/Object;"), (0, .fieldref 26 27), (0, .class_ 28), (0, .nameAndType 29 22), (0, u "com/example/stellwerk/stellwerk/core/TractiveEffort"), (0, u "speeds"), (0, .fieldref 26 31), (0, .nameAndType 32 22), (0, u "forces"), (6, u "([D[D)V")] 24

def k2c0 : Code := { maxStack := 7, maxLocals := 4, code := prog_42_method_1_code, exceptionTable := #[], attributes := #[] }
def k2m0 : Method := { name := "<init>", desc := "([D[D)V", sig := { parameters := [(.array .double), (.array .double)], returnType := none }, accessFlags := 1, code := some k2c0 }
/-- com/example/stellwerk/stellwerk/core/TractiveEffort -/
def k2 : Class := { plain "com/example/stellwerk/stellwerk/core/TractiveEffort" (some 0) with
  accessFlags := 49
  interfaces := #[]
  cf := some (fileOf pool2 26 #[] #[{ accessFlags := 1, nameIndex := 5, descriptorIndex := 39, attributes := #[] }] 49 2 #[] #[{ accessFlags := 18, nameIndex := 29, descriptorIndex := 22, attributes := #[] }, { accessFlags := 18, nameIndex := 32, descriptorIndex := 22, attributes := #[] }])
  fields := #[{ name := "speeds", type := (.array .double), accessFlags := 18, slot := 0, constantValue := 0 }, { name := "forces", type := (.array .double), accessFlags := 18, slot := 1, constantValue := 0 }]
  methods := #[k2m0]
  instanceTypes := #[(.array .double), (.array .double)]
  staticTypes := #[]
  resolved := Array.replicate 64 none
  statics := none }

def pool3 : Array CpInfo := pool [(1, .class_ 2), (0, u "java/lang/Cloneable"), (0, .class_ 4), (0, u "java/lang/Object")] 2

/-- java/lang/Cloneable -/
def k3 : Class := { plain "java/lang/Cloneable" (some 0) with
  accessFlags := 1537
  interfaces := #[]
  cf := some (fileOf pool3 1 #[] #[] 1537 3 #[] #[])
  fields := #[]
  methods := #[]
  instanceTypes := #[]
  staticTypes := #[]
  resolved := Array.replicate 7 none
  statics := none }

def pool4 : Array CpInfo := pool [(1, .methodref 2 3), (0, .class_ 4), (0, .nameAndType 5 6), (0, u "java/lang/Object"), (0, u "<init>"), (0, u "()V"), (0, .class_ 8), (0, u "java/lang/Record")] 13

def k4c0 : Code := { maxStack := 1, maxLocals := 1, code := jdk_30_method_1_code, exceptionTable := #[], attributes := #[] }
def k4m0 : Method := { name := "<init>", desc := "()V", sig := { parameters := [], returnType := none }, accessFlags := 4, code := some k4c0 }
/-- java/lang/Record -/
def k4 : Class := { plain "java/lang/Record" (some 0) with
  accessFlags := 1057
  interfaces := #[]
  cf := some (fileOf pool4 7 #[] #[{ accessFlags := 4, nameIndex := 5, descriptorIndex := 6, attributes := #[] }] 1057 2 #[] #[])
  fields := #[]
  methods := #[k4m0]
  instanceTypes := #[]
  staticTypes := #[]
  resolved := Array.replicate 22 none
  statics := none }

def pool5 : Array CpInfo := pool [(1, .class_ 2), (0, u "com/example/stellwerk/stellwerk/core/Traction"), (0, .class_ 4), (0, u "java/lang/Object")] 11

/-- com/example/stellwerk/stellwerk/core/Traction -/
def k5 : Class := { plain "com/example/stellwerk/stellwerk/core/Traction" (some 0) with
  accessFlags := 1537
  interfaces := #[]
  cf := some (fileOf pool5 1 #[] #[] 1537 3 #[] #[])
  fields := #[]
  methods := #[]
  instanceTypes := #[]
  staticTypes := #[]
  resolved := Array.replicate 16 none
  statics := none }

def pool6 : Array CpInfo := pool [(1, .methodref 2 3), (0, .class_ 4), (0, .nameAndType 5 6), (0, u "java/lang/Record"), (0, u "<init>"), (0, u "()V"), (0, .fieldref 8 9), (0, .class_ 10), (0, .nameAndType 11 12), (0, u "com/example/stellwerk/stellwerk/core/TrainPhysics"), (0, u "mass"), (0, u "D"), (0, .fieldref 8 14), (0, .nameAndType 15 12), (0, u "rotatingMassFactor"), (0, .fieldref 8 17), (0, .nameAndType 18 12), (0, u "davisA"), (0, .fieldref 8 20), (0, .nameAndType 21 12), (0, u "davisB"), (0, .fieldref 8 23), (0, .nameAndType 24 12), (0, u "davisC"), (0, .fieldref 8 26), (0, .nameAndType 27 28), (0, u "tractiveEffort"), (0, u "Lcom/example/stellwerk/stellwerk/core/TractiveEffort;"), (9, u "(D)D"), (2, u "resistance"), (15, .class_ 58), (0, u "com/example/stellwerk/stellwerk/core/Traction"), (0, u "GRAVITY"), (1, u "(DDDDDLcom/example/stellwerk/stellwerk/core/TractiveEffort;)V")] 37

def k6c0 : Code := { maxStack := 3, maxLocals := 12, code := prog_48_method_1_code, exceptionTable := #[], attributes := #[] }
def k6m0 : Method := { name := "<init>", desc := "(DDDDDLcom/example/stellwerk/stellwerk/core/TractiveEffort;)V", sig := { parameters := [.double, .double, .double, .double, .double, (.object "com/example/stellwerk/stellwerk/core/TractiveEffort")], returnType := none }, accessFlags := 1, code := some k6c0 }
def k6c1 : Code := { maxStack := 6, maxLocals := 3, code := prog_48_method_2_code, exceptionTable := #[], attributes := #[] }
def k6m1 : Method := { name := "resistance", desc := "(D)D", sig := { parameters := [.double], returnType := some .double }, accessFlags := 1, code := some k6c1 }
/-- com/example/stellwerk/stellwerk/core/TrainPhysics -/
def k6 : Class := { plain "com/example/stellwerk/stellwerk/core/TrainPhysics" (some 4) with
  accessFlags := 49
  interfaces := #[5]
  cf := some (fileOf pool6 8 #[] #[{ accessFlags := 1, nameIndex := 5, descriptorIndex := 61, attributes := #[] }, { accessFlags := 1, nameIndex := 41, descriptorIndex := 38, attributes := #[] }] 49 2 #[57] #[{ accessFlags := 18, nameIndex := 11, descriptorIndex := 12, attributes := #[] }, { accessFlags := 18, nameIndex := 15, descriptorIndex := 12, attributes := #[] }, { accessFlags := 18, nameIndex := 18, descriptorIndex := 12, attributes := #[] }, { accessFlags := 18, nameIndex := 21, descriptorIndex := 12, attributes := #[] }, { accessFlags := 18, nameIndex := 24, descriptorIndex := 12, attributes := #[] }, { accessFlags := 18, nameIndex := 27, descriptorIndex := 28, attributes := #[] }, { accessFlags := 25, nameIndex := 59, descriptorIndex := 12, attributes := #[] }])
  fields := #[{ name := "mass", type := .double, accessFlags := 18, slot := 0, constantValue := 0 }, { name := "rotatingMassFactor", type := .double, accessFlags := 18, slot := 1, constantValue := 0 }, { name := "davisA", type := .double, accessFlags := 18, slot := 2, constantValue := 0 }, { name := "davisB", type := .double, accessFlags := 18, slot := 3, constantValue := 0 }, { name := "davisC", type := .double, accessFlags := 18, slot := 4, constantValue := 0 }, { name := "tractiveEffort", type := (.object "com/example/stellwerk/stellwerk/core/TractiveEffort"), accessFlags := 18, slot := 5, constantValue := 0 }, { name := "GRAVITY", type := .double, accessFlags := 25, slot := 0, constantValue := 0 }]
  methods := #[k6m0, k6m1]
  instanceTypes := #[.double, .double, .double, .double, .double, (.object "com/example/stellwerk/stellwerk/core/TractiveEffort")]
  staticTypes := #[.double]
  resolved := Array.replicate 99 none
  statics := none }

def pool7 : Array CpInfo := pool [(1, u "java/io/Serializable"), (0, .class_ 1), (0, u "java/lang/Object"), (0, .class_ 3)] 3

/-- java/io/Serializable -/
def k7 : Class := { plain "java/io/Serializable" (some 0) with
  accessFlags := 1537
  interfaces := #[]
  cf := some (fileOf pool7 2 #[] #[] 1537 4 #[] #[])
  fields := #[]
  methods := #[]
  instanceTypes := #[]
  staticTypes := #[]
  resolved := Array.replicate 8 none
  statics := none }

/-- the primitive byte -/
def k8 : Class := { plain "byte" none with kind := .primitive 'B', accessFlags := 0x411 }
/-- [B -/
def k9 : Class := { plain "[B" (some 0) with kind := .array 8 .byte, interfaces := #[3, 7], accessFlags := 1041 }

/-- the primitive double -/
def k10 : Class := { plain "double" none with kind := .primitive 'D', accessFlags := 0x411 }
/-- [D -/
def k11 : Class := { plain "[D" (some 0) with kind := .array 10 .double, interfaces := #[3, 7], accessFlags := 1041 }

/-- the primitive int -/
def k12 : Class := { plain "int" none with kind := .primitive 'I', accessFlags := 0x411 }
/-- [I -/
def k13 : Class := { plain "[I" (some 0) with kind := .array 12 .int, interfaces := #[3, 7], accessFlags := 1041 }

def heap : Heap := #[]
def classes : Array Class := #[k0, k1, k2, k3, k4, k5, k6, k7, k8, k9, k10, k11, k12, k13]
def interned : List (Array UInt16 × Addr) := []
def slotsUsed : Nat := 0
def theMethod : MethodId := ⟨1, 1⟩
def args0 : Array Value := #[.int 5, .int 5, .int 5, .int 5, .int 5]
def aboutOver (below : List Frame) : State where
  vm := { classes := classes, interned := interned.toArray }
  heap := heap
  slotsUsed := slotsUsed
  threads := #[{ frames := .invoking theMethod args0 :: below }]
def below0 : List Frame := [.native { method := ⟨0, 0⟩, args := #[] }]
def about1 : State := aboutOver below0
def p0 : Program := .bare "" "" ""
def e0 : Env := launch0.env 0 0 0
theorem w_frames : about1.frames = Frame.invoking theMethod args0 :: below0 := rfl
set_option maxRecDepth 65536 in
theorem w_args : argsFit about1.vm theMethod args0 = true := by decide +kernel
set_option maxRecDepth 65536 in
theorem w_heap : heapFits about1 = true := by decide +kernel
set_option maxRecDepth 65536 in
theorem w_runnable : about1.curStatus? = some .runnable := by decide +kernel
set_option maxRecDepth 65536 in
theorem w_alone : about1.alone = true := by decide +kernel
set_option maxRecDepth 65536 in
theorem w_named : about1.methodNamed? x = some theMethod := by decide +kernel
set_option maxRecDepth 65536 in
theorem w_hears : about1.hears theMethod below0 = true := by decide +kernel
set_option maxRecDepth 65536 in
theorem w_ripe : about1.ripe theMethod args0 below0 = true := by decide +kernel
theorem w_running : about1.status = .running := rfl
set_option maxRecDepth 65536 in
theorem w_room : about1.hasRoom e0.platform room_1 = true :=
  launch0.hasRoom_least _ room_1 (by decide +kernel) (by decide +kernel) (by decide +kernel) (by decide +kernel) (by decide +kernel) (by decide +kernel)
theorem allAtoms_all (ts : List Jvm.Cond) (a : Array Jvm.Value) (st : Jvm.State) : (allAtoms ts).before a st = ts.all (fun c => c.before a st) := by
  induction ts with
  | nil => rfl
  | cons c t ih =>
    show (Jvm.Cond.and c (allAtoms t)).before a st = _
    rw [Jvm.Cond.before_and, ih, List.all_cons]
def words1 : List Jvm.Cond := Jvm.Cond.code x code maxLocals ret :: tables_1
/-- a 'code' word, met by the world's own term for the bytes: nothing is compared byte by byte -/
theorem code_word {y : MethodName} {bytes : ByteArray} {mx : Nat} {rt : Option FieldType} {a : Array Value} {s : State} {m : MethodId} {meth : Method} {c : Code} (h1 : s.methodNamed? y = some m) (h2 : s.vm.method? m = some meth) (h3 : meth.code = some c) (h4 : c.code = bytes)
    (h5 : (c.maxLocals == mx && c.exceptionTable.isEmpty && decide (c.maxStack ≤ mostOperands) && decide (meth.sig.returnType = rt) && !meth.locks && decide (parseMethodDescriptor y.desc = some meth.sig)) = true) : (Jvm.Cond.code y bytes mx rt).before a s = true := by
  simp only [Bool.and_eq_true, beq_iff_eq, Bool.not_eq_true', decide_eq_true_eq] at h5
  obtain ⟨⟨⟨⟨⟨g1, g2⟩, g3⟩, g4⟩, g5⟩, g6⟩ := h5
  simp [Cond.before, Cond.holds, Cond.value, h1, h2, h3, h4, g1, g2, g3, g4, g5, g6]
def isCode : Jvm.Cond → Bool
  | .code _ _ _ _ => true
  | _ => false
theorem all_split {L : List Jvm.Cond} {P : Jvm.Cond → Bool} (h1 : L.all (fun c => isCode c || P c) = true) (h2 : ∀ c ∈ L.filter isCode, P c = true) : L.all P = true := by
  refine List.all_eq_true.mpr fun c hc => ?_
  have h := List.all_eq_true.mp h1 c hc
  rcases Bool.eq_false_or_eq_true (isCode c) with hi | hi
  · exact h2 c (List.mem_filter.mpr ⟨hc, hi⟩)
  · simpa [hi] using h
set_option maxRecDepth 65536 in
theorem w_c0 : (Jvm.Cond.code x code maxLocals ret).before args0 about1 = true := code_word (m := ⟨1, 1⟩) (meth := k1m1) (c := k1c1) (by decide +kernel) rfl rfl rfl (by decide +kernel)
set_option maxRecDepth 65536 in
theorem w_c1 : (Jvm.Cond.code ({ cls := "com/example/stellwerk/stellwerk/core/TractiveEffort", name := "<init>", desc := "([D[D)V" } : Jvm.MethodName) prog_42_method_1_code (4 : Nat) (Option.none : Option Jvm.ClassFile.FieldType)).before args0 about1 = true := code_word (m := ⟨2, 0⟩) (meth := k2m0) (c := k2c0) (by decide +kernel) rfl rfl rfl (by decide +kernel)
set_option maxRecDepth 65536 in
theorem w_c2 : (Jvm.Cond.code ({ cls := "java/lang/Object", name := "<init>", desc := "()V" } : Jvm.MethodName) object_method_1_code (1 : Nat) (Option.none : Option Jvm.ClassFile.FieldType)).before args0 about1 = true := code_word (m := ⟨0, 0⟩) (meth := k0m0) (c := k0c0) (by decide +kernel) rfl rfl rfl (by decide +kernel)
set_option maxRecDepth 65536 in
theorem w_c3 : (Jvm.Cond.code ({ cls := "com/example/stellwerk/stellwerk/core/TrainPhysics", name := "<init>", desc := "(DDDDDLcom/example/stellwerk/stellwerk/core/TractiveEffort;)V" } : Jvm.MethodName) prog_48_method_1_code (12 : Nat) (Option.none : Option Jvm.ClassFile.FieldType)).before args0 about1 = true := code_word (m := ⟨6, 0⟩) (meth := k6m0) (c := k6c0) (by decide +kernel) rfl rfl rfl (by decide +kernel)
set_option maxRecDepth 65536 in
theorem w_c4 : (Jvm.Cond.code ({ cls := "java/lang/Record", name := "<init>", desc := "()V" } : Jvm.MethodName) jdk_30_method_1_code (1 : Nat) (Option.none : Option Jvm.ClassFile.FieldType)).before args0 about1 = true := code_word (m := ⟨4, 0⟩) (meth := k4m0) (c := k4c0) (by decide +kernel) rfl rfl rfl (by decide +kernel)
set_option maxRecDepth 65536 in
theorem w_c5 : (Jvm.Cond.code ({ cls := "com/example/stellwerk/stellwerk/core/TrainPhysics", name := "resistance", desc := "(D)D" } : Jvm.MethodName) prog_48_method_2_code (3 : Nat) (Option.some Jvm.ClassFile.FieldType.double)).before args0 about1 = true := code_word (m := ⟨6, 1⟩) (meth := k6m1) (c := k6c1) (by decide +kernel) rfl rfl rfl (by decide +kernel)
def codes1 : List Jvm.Cond := [Jvm.Cond.code x code maxLocals ret, Jvm.Cond.code ({ cls := "com/example/stellwerk/stellwerk/core/TractiveEffort", name := "<init>", desc := "([D[D)V" } : Jvm.MethodName) prog_42_method_1_code (4 : Nat) (Option.none : Option Jvm.ClassFile.FieldType), Jvm.Cond.code ({ cls := "java/lang/Object", name := "<init>", desc := "()V" } : Jvm.MethodName) object_method_1_code (1 : Nat) (Option.none : Option Jvm.ClassFile.FieldType), Jvm.Cond.code ({ cls := "com/example/stellwerk/stellwerk/core/TrainPhysics", name := "<init>", desc := "(DDDDDLcom/example/stellwerk/stellwerk/core/TractiveEffort;)V" } : Jvm.MethodName) prog_48_method_1_code (12 : Nat) (Option.none : Option Jvm.ClassFile.FieldType), Jvm.Cond.code ({ cls := "java/lang/Record", name := "<init>", desc := "()V" } : Jvm.MethodName) jdk_30_method_1_code (1 : Nat) (Option.none : Option Jvm.ClassFile.FieldType), Jvm.Cond.code ({ cls := "com/example/stellwerk/stellwerk/core/TrainPhysics", name := "resistance", desc := "(D)D" } : Jvm.MethodName) prog_48_method_2_code (3 : Nat) (Option.some Jvm.ClassFile.FieldType.double)]
set_option maxRecDepth 65536 in
theorem codes_eq : words1.filter isCode = codes1 := rfl
theorem w_codes : ∀ c ∈ words1.filter isCode, c.before args0 about1 = true := by
  rw [codes_eq]
  intro c hc
  simp only [codes1, List.mem_cons, List.not_mem_nil, or_false] at hc
  rcases hc with rfl | rfl | rfl | rfl | rfl | rfl
  · exact w_c0
  · exact w_c1
  · exact w_c2
  · exact w_c3
  · exact w_c4
  · exact w_c5
set_option maxRecDepth 65536 in
theorem w_t1 : (words1.take 24).all (fun c => isCode c || c.before args0 about1) = true := by decide +kernel
set_option maxRecDepth 65536 in
theorem w_t2 : ((words1.drop 24).take 24).all (fun c => isCode c || c.before args0 about1) = true := by decide +kernel
set_option maxRecDepth 65536 in
theorem w_t3 : ((words1.drop 24).drop 24).all (fun c => isCode c || c.before args0 about1) = true := by decide +kernel
theorem w_tables : (allAtoms (Jvm.Cond.code x code maxLocals ret :: tables_1)).before args0 about1 = true := by
  rw [allAtoms_all]
  show words1.all (fun c => c.before args0 about1) = true
  refine all_split ?_ w_codes
  rw [← List.take_append_drop 24 words1, List.all_append, w_t1, ← List.take_append_drop 24 (words1.drop 24), List.all_append, w_t2, w_t3]
  rfl
set_option maxRecDepth 65536 in
theorem w_case : (Jvm.Cond.and given_1 narrow_1).before args0 about1 = true := by decide +kernel
theorem w_applies : (headSpec (Jvm.Cond.code x code maxLocals ret :: tables_1) room_1).applies x e0.platform about1 = true :=
  (Spec.applies_iff w_frames).mpr ⟨w_running, w_runnable, w_alone, w_named, w_hears, w_ripe, w_room, w_tables⟩
theorem atStart : AtStart classFile x code maxLocals ret World_1 tables_1 room_1 Calls_1 rest_1 Pre_1 launch0 p0 e0 about1 theMethod args0 below0 :=
  ⟨lists_1, trivial, launch0.admits_env _ _ _, launch0.least_env, fairChoices_fair.cas, fairChoices_fair.clock, w_frames, w_args, w_heap, w_applies, trivial, trivial, w_case⟩
end start1
theorem witness_1 : WitnessClaimed_1 := ⟨start1.p0, start1.e0, start1.about1, start1.theMethod, start1.args0, start1.below0, start1.atStart⟩
end Jvm.Pilot.@@N@@
