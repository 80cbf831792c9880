import JvmDerived
import JvmDerived.Pilot.@@N@@Statement
import JvmDerived.Pilot.@@N@@Code
set_option linter.unusedVariables false
set_option linter.unusedSimpArgs false
namespace Jvm.Pilot.@@N@@
open Jvm Jvm.ClassFile Sem Op Lib Jvm.Free Jvm.Stand Jvm.LawKit Jvm.RoadKit Bundle Jvm.Pilot.@@N@@.Jvm.D
section Own
variable {p : Program} {l : Launch} {e : Env} {R : Room} {s : State} {m : MethodId} {args : Array Value} {below : List Frame} {meth : Method} {c : Code} {T : State} {locs : List Loc} {cells slots : Nat} {k n : Nat} {Q : Option Value → Heap → List Loc → Prop} {pc q q' : Nat} {Ls l' : Array Slot} {st rest : List Value}
/-- from U the run comes to a return that Q allows, with at most k cells and n slots made -/
def own_Go (p : Program) (e : Env) (below : List Frame) (s : State) (k n : Nat) (Q : Option Value → Heap → List Loc → Prop) (U : State) : Prop :=
  ∃ s₂ o, Steps p.tables e below U s₂ ∧ s₂.status = .running ∧ Ended s₂ below o ∧ ∃ v L, o = .returned v ∧ Q v s₂.heap L ∧ FrameEnd s o s₂ L k n
theorem own_Go.via {U U' : State} (g : own_Go p e below s k n Q U') (h : ∀ t, Steps p.tables e below U' t → Steps p.tables e below U t) : own_Go p e below s k n Q U := by
  obtain ⟨s₂, o, h1, h2⟩ := g
  exact ⟨s₂, o, h _ h1, h2⟩
theorem own_retI (X : Stand p l e R s m args below meth c T locs cells slots) (hx : p.tables.exec = Jvm.exec) {z : Int32} (hret : meth.sig.returnType = some .int) (hlk : meth.locks = false) (hd : decode c.code pc = .ok (.ireturn, 1)) (hk : cells ≤ k) (hn : slots ≤ n) (hq : Q (some (.int z)) T.heap locs) :
    own_Go p e below s k n Q (T.setTop (mkF m pc Ls [.int z])) := by
  obtain ⟨fs, hr, hrun, hended, hW, hsame⟩ := X.leave (v := some (.int z)) (fun h => by rw [hret] at h; cases h) hlk
  exact ⟨_, _, X.ireturnOut hx hret rfl (Or.inl rfl) hd hr, hrun, hended, _, _, rfl, hq, ⟨_, rfl⟩, hW, hsame.mono hk hn⟩
theorem own_retN (X : Stand p l e R s m args below meth c T locs cells slots) (hx : p.tables.exec = Jvm.exec) {z w : Int32} {t : FieldType} (hret : meth.sig.returnType = some t) (hlk : meth.locks = false) (ht : t = .boolean ∨ t = .byte ∨ t = .char ∨ t = .short) (hd : decode c.code pc = .ok (.ireturn, 1)) (hk : cells ≤ k) (hn : slots ≤ n) (hz : nar t z = w) (hq : Q (some (.int w)) T.heap locs) :
    own_Go p e below s k n Q (T.setTop (mkF m pc Ls [.int z])) := by
  subst hz
  obtain ⟨fs, hr, hrun, hended, hW, hsame⟩ := X.leave (v := some (.int (nar t z))) (fun h => by rw [hret] at h; cases h) hlk
  exact ⟨_, _, retN X hx hret ht hd hr, hrun, hended, _, _, rfl, hq, ⟨_, rfl⟩, hW, hsame.mono hk hn⟩
theorem own_retL (X : Stand p l e R s m args below meth c T locs cells slots) (hx : p.tables.exec = Jvm.exec) {z : Int64} (hret : meth.sig.returnType = some .long) (hlk : meth.locks = false) (hd : decode c.code pc = .ok (.lreturn, 1)) (hk : cells ≤ k) (hn : slots ≤ n) (hq : Q (some (.long z)) T.heap locs) :
    own_Go p e below s k n Q (T.setTop (mkF m pc Ls [.long z])) := by
  obtain ⟨fs, hr, hrun, hended, hW, hsame⟩ := X.leave (v := some (.long z)) (fun h => by rw [hret] at h; cases h) hlk
  exact ⟨_, _, X.lreturnOut hx hret hd hr, hrun, hended, _, _, rfl, hq, ⟨_, rfl⟩, hW, hsame.mono hk hn⟩
theorem own_retV (X : Stand p l e R s m args below meth c T locs cells slots) (hx : p.tables.exec = Jvm.exec) (hret : meth.sig.returnType = none) (hlk : meth.locks = false) (hd : decode c.code pc = .ok (.return_, 1)) (hk : cells ≤ k) (hn : slots ≤ n) (hq : Q none T.heap locs) :
    own_Go p e below s k n Q (T.setTop (mkF m pc Ls [])) := by
  obtain ⟨fs, hr, hrun, hended, hW, hsame⟩ := X.leave (v := none) (fun _ => rfl) hlk
  exact ⟨_, _, X.returnOut hx hret hd hr, hrun, hended, _, _, rfl, hq, ⟨_, rfl⟩, hW, hsame.mono hk hn⟩
theorem own_body {y : MethodName} {bytes : ByteArray} {maxL : Nat} {ret : Option FieldType} {ws : List Jvm.Cond} {rm : Room} {as' : Array Value} {h0 : Heap} {Z : State} (hpn : plainName y.cls = true)
    (body : ∀ (p : Program) (e : Env) (s : State) (m : MethodId) (below : List Frame) (meth : Method) (c : Code) (s₁ : State), p.tables.exec = Jvm.exec → c.code = bytes → c.maxLocals = maxL → s.vm.findClass y.cls = some m.cls → meth.name = y.name → meth.sig.returnType = ret → meth.locks = false → Z.Warmed39 s.vm →
      Stand p l e rm s m as' below meth c s₁ [] 0 0 → s₁.heap = h0 → own_Go p e below s rm.cells rm.slots Q (s₁.setTop (entryFrame m as' maxL))) :
    MetFree l y (head1 (Jvm.Cond.code y bytes maxL ret :: ws) rm) (fun a U => a = as' ∧ Z.Warmed39 U.vm ∧ U.heap = h0) (fun _ _ _ _ _ => True) (fun _ U o U' => ∃ v L, o = .returned v ∧ Q v U'.heap L ∧ FrameEnd U o U' L rm.cells rm.slots) := by
  refine MetFree.of_bodySF (plainFor_of_name hpn) hisR ?_
  intro p e s m args below meth c s₁ Bd hml0 hP hK
  obtain ⟨rfl, hZ, hh⟩ := hP
  exact body p e s m below meth c s₁ Bd.exec Bd.bytes hml0 (findClass_of_methodNamed Bd.named) (name_of_methodNamed Bd.named Bd.method).1 Bd.returns Bd.notSynchronized hZ (Stand.of_body Bd) (by rw [← hh, Bd.state]; rfl)
/-- a static call by the callee's contract -/
theorem own_callS {Z : State} {a0 : Array Value} {h : Heap} (X : Stand p l e R s m args below meth c T locs cells slots) (hx : p.tables.exec = Jvm.exec) (hZ : Z.Warmed39 s.vm) {own : String} {index : Nat} {y : MethodName} {bytes : ByteArray} {maxL : Nat} {ret : Option FieldType}
    (hown : s.vm.findClass own = some m.cls) (w1 : (Jvm.Cond.methodLink own index y).before a0 Z = true) (w2 : (Jvm.Cond.static y).before a0 Z = true) (w3 : (Jvm.Cond.initialized y.cls).before a0 Z = true) (w4 : (Jvm.Cond.code y bytes maxL ret).before a0 Z = true)
    (hy : y.cls ≠ "java/lang/invoke/MethodHandle" ∧ y.cls ≠ "java/lang/invoke/VarHandle") {rm : Room} {as' : Array Value} {Q' : Option Value → Heap → List Loc → Prop} {W : Nat}
    (hM : MetFree l y (head1 [Jvm.Cond.code y bytes maxL ret] rm) (fun a U => a = as' ∧ Z.Warmed39 U.vm ∧ U.heap = h) (fun _ _ _ _ _ => True) (fun _ U o U' => ∃ v L, o = .returned v ∧ Q' v U'.heap L ∧ FrameEnd U o U' L rm.cells rm.slots))
    (hf : rm.frames + 1 ≤ R.frames) (hl : W + (maxL + 11) + rm.locals ≤ R.locals) (eT : T.heap = h) (hsize : Ls.size = c.maxLocals) {argsL : List Value}
    (hlen : ∀ sig, parseMethodDescriptor y.desc = some sig → argsL.length = sig.parameters.length) (hst : st = argsL.reverse ++ rest) (hW : (rest.map fun v => v.category).sum = W) (hd : decode c.code pc = .ok (.invokestatic index, 3)) (hq : pc + 3 = q) (has : argsL.toArray = as') (hc : cells + rm.cells ≤ R.cells) (hs : slots + rm.slots ≤ R.slots)
    (g : ∀ v T' L, Q' v T'.heap L → Stand p l e R s m args below meth c T' (locs ++ L) (cells + rm.cells) (slots + rm.slots) → own_Go p e below s k n Q (T'.setTop (mkF m q Ls (v.toList ++ rest)))) :
    own_Go p e below s k n Q (T.setTop (mkF m pc Ls st)) := by
  subst hq hst
  obtain ⟨v, _, ⟨T7, L7, k7, n7⟩, -, X7, ⟨Lc7, hQ7, l7, y7, z7⟩, st7⟩ := Jvm.LawKit.callS X hx hown (mvT hZ w1) (mvT hZ w2) (mvT hZ w3) (mvT hZ w4) hy (backOf (W := W) hM hZ w4 w3 hf hl) (g := mkF m pc Ls (argsL.reverse ++ rest)) rfl hsize hlen rfl (by show 2 * 0 + _ ≤ _; rw [hW]; omega) hd (fun _ _ => ⟨has, eT, hc, hs⟩)
  dsimp only [Pt.U, Pt.locs, Pt.cells, Pt.slots] at X7 l7 y7 z7 st7 hQ7
  subst l7 y7 z7
  exact (g v T7 Lc7 hQ7 X7).via fun t => st7 t
/-- a static call that leaves the heap as it was -/
theorem own_callSP {Z : State} {a0 : Array Value} {h : Heap} (X : Stand p l e R s m args below meth c T locs cells slots) (hx : p.tables.exec = Jvm.exec) (hZ : Z.Warmed39 s.vm) {own : String} {index : Nat} {y : MethodName} {bytes : ByteArray} {maxL : Nat} {ret : Option FieldType}
    (hown : s.vm.findClass own = some m.cls) (w1 : (Jvm.Cond.methodLink own index y).before a0 Z = true) (w2 : (Jvm.Cond.static y).before a0 Z = true) (w3 : (Jvm.Cond.initialized y.cls).before a0 Z = true) (w4 : (Jvm.Cond.code y bytes maxL ret).before a0 Z = true)
    (hy : y.cls ≠ "java/lang/invoke/MethodHandle" ∧ y.cls ≠ "java/lang/invoke/VarHandle") {rm : Room} {as' : Array Value} {P : Value → Prop} {W : Nat}
    (hM : MetFree l y (head1 [Jvm.Cond.code y bytes maxL ret] rm) (fun a U => a = as' ∧ Z.Warmed39 U.vm ∧ U.heap = h) (fun _ _ _ _ _ => True) (fun _ U o U' => ∃ v L, o = .returned v ∧ ((∃ w, v = some w ∧ P w) ∧ L = [] ∧ U'.heap = h) ∧ FrameEnd U o U' L rm.cells rm.slots))
    (hf : rm.frames + 1 ≤ R.frames) (hl : W + (maxL + 11) + rm.locals ≤ R.locals) (eT : T.heap = h) (hsize : Ls.size = c.maxLocals) {argsL : List Value}
    (hlen : ∀ sig, parseMethodDescriptor y.desc = some sig → argsL.length = sig.parameters.length) (hst : st = argsL.reverse ++ rest) (hW : (rest.map fun v => v.category).sum = W) (hd : decode c.code pc = .ok (.invokestatic index, 3)) (hq : pc + 3 = q) (has : argsL.toArray = as') (hc : rm.cells = 0) (hs : rm.slots = 0) (hcc : cells ≤ R.cells) (hss : slots ≤ R.slots)
    (g : ∀ w T', P w → Stand p l e R s m args below meth c T' locs cells slots → T'.heap = h → own_Go p e below s k n Q (T'.setTop (mkF m q Ls (w :: rest)))) :
    own_Go p e below s k n Q (T.setTop (mkF m pc Ls st)) := by
  refine own_callS (Q' := fun v U L => (∃ w, v = some w ∧ P w) ∧ L = [] ∧ U = h) X hx hZ hown w1 w2 w3 w4 hy hM hf hl eT hsize hlen hst hW hd hq has (by rw [hc]; exact hcc) (by rw [hs]; exact hss) ?_
  rintro v T' L ⟨⟨w, rfl, hP⟩, rfl, e'⟩ X'
  rw [List.append_nil, hc, hs] at X'
  exact g w T' hP X' e'
/-- a virtual call by the callee's contract; the receiver is exactly of class C -/
theorem own_callV {Z : State} {a0 : Array Value} {h : Heap} (X : Stand p l e R s m args below meth c T locs cells slots) (hx : p.tables.exec = Jvm.exec) (hZ : Z.Warmed39 s.vm) {own C : String} {index : Nat} {y : MethodName} {bytes : ByteArray} {maxL : Nat} {ret : Option FieldType}
    (hown : s.vm.findClass own = some m.cls) (w1 : (Jvm.Cond.methodLink own index y).before a0 Z = true) (w2 : (Jvm.Cond.declares y).before a0 Z = true) (w3 : (Jvm.Cond.selects C y y).before a0 Z = true) (w4 : (Jvm.Cond.instanceMethod y).before a0 Z = true) (w5 : (Jvm.Cond.code y bytes maxL ret).before a0 Z = true) (w6 : (Jvm.Cond.initialized y.cls).before a0 Z = true)
    (hy : y.cls ≠ "java/lang/invoke/MethodHandle" ∧ y.cls ≠ "java/lang/invoke/VarHandle") {rm : Room} {as' : Array Value} {Q' : Option Value → Heap → List Loc → Prop} {W : Nat}
    (hM : MetFree l y (head1 [Jvm.Cond.code y bytes maxL ret] rm) (fun a U => a = as' ∧ Z.Warmed39 U.vm ∧ U.heap = h) (fun _ _ _ _ _ => True) (fun _ U o U' => ∃ v L, o = .returned v ∧ Q' v U'.heap L ∧ FrameEnd U o U' L rm.cells rm.slots))
    {b : Addr} (E : Exa Z h b C)
    (hf : rm.frames + 1 ≤ R.frames) (hl : W + (maxL + 11) + rm.locals ≤ R.locals) (eT : T.heap = h) (hsize : Ls.size = c.maxLocals) {argsL : List Value}
    (hlen : ∀ sig, parseMethodDescriptor y.desc = some sig → argsL.length = sig.parameters.length) (hst : st = argsL.reverse ++ .ref b :: rest) (hW : (rest.map fun v => v.category).sum = W) (hd : decode c.code pc = .ok (.invokevirtual index, 3)) (hq : pc + 3 = q) (has : (.ref b :: argsL).toArray = as') (hc : cells + rm.cells ≤ R.cells) (hs : slots + rm.slots ≤ R.slots)
    (g : ∀ v T' L, Q' v T'.heap L → Stand p l e R s m args below meth c T' (locs ++ L) (cells + rm.cells) (slots + rm.slots) → own_Go p e below s k n Q (T'.setTop (mkF m q Ls (v.toList ++ rest)))) :
    own_Go p e below s k n Q (T.setTop (mkF m pc Ls st)) := by
  subst hq hst
  obtain ⟨cq, kq, qa, qb, qc⟩ := isOf hZ eT E
  obtain ⟨v, _, ⟨T7, L7, k7, n7⟩, -, X7, ⟨Lc7, hQ7, l7, y7, z7⟩, st7⟩ := X.virtualBack hx hown (mvT hZ w1) (mvT hZ w2) (notFace_of_selects (args := #[]) (mvT hZ w3)) (mvT hZ w3) (mvT hZ w4) hy (backOf (W := W) hM hZ w5 w6 hf hl) qa qc (g := mkF m pc Ls (argsL.reverse ++ .ref b :: rest)) rfl hsize (Steps.refl _) (argsL := argsL) (rest := rest) hlen rfl (by show 2 * 0 + _ ≤ _; rw [hW]; omega) hd (fun _ _ => ⟨has, eT, hc, hs⟩)
  dsimp only [Pt.U, Pt.locs, Pt.cells, Pt.slots] at X7 l7 y7 z7 st7 hQ7
  subst l7 y7 z7
  exact (g v T7 Lc7 hQ7 X7).via fun t hh => st7.trans hh
/-- a constructor's call by its contract -/
theorem own_callN {Z : State} {a0 : Array Value} {h : Heap} (X : Stand p l e R s m args below meth c T locs cells slots) (hx : p.tables.exec = Jvm.exec) (hZ : Z.Warmed39 s.vm) {own : String} {index : Nat} {y : MethodName} {bytes : ByteArray} {maxL : Nat}
    (hyn : y.name = "<init>") (hown : s.vm.findClass own = some m.cls) (w1 : (Jvm.Cond.methodLink own index y).before a0 Z = true) (w2 : (Jvm.Cond.instanceMethod y).before a0 Z = true) (w3 : (Jvm.Cond.initialized y.cls).before a0 Z = true) (w4 : (Jvm.Cond.code y bytes maxL none).before a0 Z = true)
    (hy : y.cls ≠ "java/lang/invoke/MethodHandle" ∧ y.cls ≠ "java/lang/invoke/VarHandle") {rm : Room} {as' : Array Value} {Q' : Option Value → Heap → List Loc → Prop} {W : Nat}
    (hM : MetFree l y (head1 [Jvm.Cond.code y bytes maxL none] rm) (fun a U => a = as' ∧ Z.Warmed39 U.vm ∧ U.heap = h) (fun _ _ _ _ _ => True) (fun _ U o U' => ∃ v L, o = .returned v ∧ Q' v U'.heap L ∧ FrameEnd U o U' L rm.cells rm.slots))
    {b : Addr} (hf : rm.frames + 1 ≤ R.frames) (hl : W + (maxL + 11) + rm.locals ≤ R.locals) (eT : T.heap = h) (hsize : Ls.size = c.maxLocals) {argsL : List Value}
    (hlen : ∀ sig, parseMethodDescriptor y.desc = some sig → argsL.length = sig.parameters.length) (hst : st = argsL.reverse ++ .ref b :: rest) (hW : (rest.map fun v => v.category).sum = W) (hd : decode c.code pc = .ok (.invokespecial index, 3)) (hq : pc + 3 = q) (has : (.ref b :: argsL).toArray = as') (hc : cells + rm.cells ≤ R.cells) (hs : slots + rm.slots ≤ R.slots)
    (g : ∀ v T' L, Q' v T'.heap L → Stand p l e R s m args below meth c T' (locs ++ L) (cells + rm.cells) (slots + rm.slots) → own_Go p e below s k n Q (T'.setTop (mkF m q Ls (v.toList ++ rest)))) :
    own_Go p e below s k n Q (T.setTop (mkF m pc Ls st)) := by
  subst hq hst
  obtain ⟨v, _, ⟨T7, L7, k7, n7⟩, -, X7, ⟨Lc7, hQ7, l7, y7, z7⟩, st7⟩ := X.specialBack hx hyn hown (mvT hZ w1) (mvT hZ w2) (mvT hZ w4) hy (backOf (W := W) hM hZ w4 w3 hf hl) (g := mkF m pc Ls (argsL.reverse ++ .ref b :: rest)) rfl hsize (Steps.refl _) (a := b) (argsL := argsL) (rest := rest) hlen rfl (by show 2 * 0 + _ ≤ _; rw [hW]; omega) hd (fun _ _ => ⟨has, eT, hc, hs⟩)
  dsimp only [Pt.U, Pt.locs, Pt.cells, Pt.slots] at X7 l7 y7 z7 st7 hQ7
  subst l7 y7 z7
  exact (g v T7 Lc7 hQ7 X7).via fun t hh => st7.trans hh
theorem own_ldcI {Z : State} {a0 : Array Value} (X : Stand p l e R s m args below meth c T locs cells slots) (hx : p.tables.exec = Jvm.exec) (hZ : Z.Warmed39 s.vm) {own : String} {index : Nat} {v : Int32} (hown : s.vm.findClass own = some m.cls) (w : (Jvm.Cond.constant own index v).before a0 Z = true) (hd : decode c.code pc = .ok (.ldc index, 2)) (hq : pc + 2 = q)
    (g : own_Go p e below s k n Q (T.setTop (mkF m q Ls (.int v :: st)))) : own_Go p e below s k n Q (T.setTop (mkF m pc Ls st)) := by
  subst hq; exact g.via fun t => X.ldcInt hx hown (mvT hZ w) (g := mkF m pc Ls st) rfl hd t
theorem own_ldcL {Z : State} {a0 : Array Value} (X : Stand p l e R s m args below meth c T locs cells slots) (hx : p.tables.exec = Jvm.exec) (hZ : Z.Warmed39 s.vm) {own : String} {index : Nat} {v : Int64} (hown : s.vm.findClass own = some m.cls) (w : (Jvm.Cond.constantLong own index v).before a0 Z = true) (hd : decode c.code pc = .ok (.ldc2_w index, 3)) (hq : pc + 3 = q)
    (g : own_Go p e below s k n Q (T.setTop (mkF m q Ls (.long v :: st)))) : own_Go p e below s k n Q (T.setTop (mkF m pc Ls st)) := by
  subst hq; exact g.via fun t => X.ldc2Long hx hown (mvT hZ w) (g := mkF m pc Ls st) rfl hd t
theorem own_iadd (X : Stand p l e R s m args below meth c T locs cells slots) (hx : p.tables.exec = Jvm.exec) {x y : Int32} (hd : decode c.code pc = .ok (.iadd, 1))  (hq : pc + 1 = q) (g : own_Go p e below s k n Q (T.setTop (mkF m q Ls (.int (x + y) :: rest)))) : own_Go p e below s k n Q (T.setTop (mkF m pc Ls (.int y :: .int x :: rest))) := by
  subst hq; exact g.via fun _ hr_ => XS.iadd (g := mkF m pc Ls (.int y :: .int x :: rest)) X.here hx rfl hd rfl hr_
theorem own_isub (X : Stand p l e R s m args below meth c T locs cells slots) (hx : p.tables.exec = Jvm.exec) {x y : Int32} (hd : decode c.code pc = .ok (.isub, 1))  (hq : pc + 1 = q) (g : own_Go p e below s k n Q (T.setTop (mkF m q Ls (.int (x - y) :: rest)))) : own_Go p e below s k n Q (T.setTop (mkF m pc Ls (.int y :: .int x :: rest))) := by
  subst hq; exact g.via fun _ hr_ => XS.isub (g := mkF m pc Ls (.int y :: .int x :: rest)) X.here hx rfl hd rfl hr_
theorem own_imul (X : Stand p l e R s m args below meth c T locs cells slots) (hx : p.tables.exec = Jvm.exec) {x y : Int32} (hd : decode c.code pc = .ok (.imul, 1))  (hq : pc + 1 = q) (g : own_Go p e below s k n Q (T.setTop (mkF m q Ls (.int (x * y) :: rest)))) : own_Go p e below s k n Q (T.setTop (mkF m pc Ls (.int y :: .int x :: rest))) := by
  subst hq; exact g.via fun _ hr_ => XS.imul (g := mkF m pc Ls (.int y :: .int x :: rest)) X.here hx rfl hd rfl hr_
theorem own_iand (X : Stand p l e R s m args below meth c T locs cells slots) (hx : p.tables.exec = Jvm.exec) {x y : Int32} (hd : decode c.code pc = .ok (.iand, 1))  (hq : pc + 1 = q) (g : own_Go p e below s k n Q (T.setTop (mkF m q Ls (.int (x &&& y) :: rest)))) : own_Go p e below s k n Q (T.setTop (mkF m pc Ls (.int y :: .int x :: rest))) := by
  subst hq; exact g.via fun _ hr_ => XS.iand (g := mkF m pc Ls (.int y :: .int x :: rest)) X.here hx rfl hd rfl hr_
theorem own_ixor (X : Stand p l e R s m args below meth c T locs cells slots) (hx : p.tables.exec = Jvm.exec) {x y : Int32} (hd : decode c.code pc = .ok (.ixor, 1))  (hq : pc + 1 = q) (g : own_Go p e below s k n Q (T.setTop (mkF m q Ls (.int (x ^^^ y) :: rest)))) : own_Go p e below s k n Q (T.setTop (mkF m pc Ls (.int y :: .int x :: rest))) := by
  subst hq; exact g.via fun _ hr_ => XT.ixor (g := mkF m pc Ls (.int y :: .int x :: rest)) X.here hx rfl hd rfl hr_
theorem own_ior (X : Stand p l e R s m args below meth c T locs cells slots) (hx : p.tables.exec = Jvm.exec) {x y : Int32} (hd : decode c.code pc = .ok (.ior, 1))  (hq : pc + 1 = q) (g : own_Go p e below s k n Q (T.setTop (mkF m q Ls (.int (x ||| y) :: rest)))) : own_Go p e below s k n Q (T.setTop (mkF m pc Ls (.int y :: .int x :: rest))) := by
  subst hq; exact g.via fun _ hr_ => XT.ior (g := mkF m pc Ls (.int y :: .int x :: rest)) X.here hx rfl hd rfl hr_
theorem own_ishl (X : Stand p l e R s m args below meth c T locs cells slots) (hx : p.tables.exec = Jvm.exec) {x y : Int32} (hd : decode c.code pc = .ok (.ishl, 1))  (hq : pc + 1 = q) (g : own_Go p e below s k n Q (T.setTop (mkF m q Ls (.int (x <<< (y &&& 31)) :: rest)))) : own_Go p e below s k n Q (T.setTop (mkF m pc Ls (.int y :: .int x :: rest))) := by
  subst hq; exact g.via fun _ hr_ => XT.ishl (g := mkF m pc Ls (.int y :: .int x :: rest)) X.here hx rfl hd rfl hr_
theorem own_ishr (X : Stand p l e R s m args below meth c T locs cells slots) (hx : p.tables.exec = Jvm.exec) {x y : Int32} (hd : decode c.code pc = .ok (.ishr, 1))  (hq : pc + 1 = q) (g : own_Go p e below s k n Q (T.setTop (mkF m q Ls (.int (x >>> (y &&& 31)) :: rest)))) : own_Go p e below s k n Q (T.setTop (mkF m pc Ls (.int y :: .int x :: rest))) := by
  subst hq; exact g.via fun _ hr_ => XT.ishr (g := mkF m pc Ls (.int y :: .int x :: rest)) X.here hx rfl hd rfl hr_
theorem own_iushr (X : Stand p l e R s m args below meth c T locs cells slots) (hx : p.tables.exec = Jvm.exec) {x y : Int32} (hd : decode c.code pc = .ok (.iushr, 1))  (hq : pc + 1 = q) (g : own_Go p e below s k n Q (T.setTop (mkF m q Ls (.int (XT.ushr x y) :: rest)))) : own_Go p e below s k n Q (T.setTop (mkF m pc Ls (.int y :: .int x :: rest))) := by
  subst hq; exact g.via fun _ hr_ => XT.iushr (g := mkF m pc Ls (.int y :: .int x :: rest)) X.here hx rfl hd rfl hr_
theorem own_idiv (X : Stand p l e R s m args below meth c T locs cells slots) (hx : p.tables.exec = Jvm.exec) {x y : Int32} (hd : decode c.code pc = .ok (.idiv, 1)) (hy : y ≠ 0) (hq : pc + 1 = q) (g : own_Go p e below s k n Q (T.setTop (mkF m q Ls (.int (x / y) :: rest)))) : own_Go p e below s k n Q (T.setTop (mkF m pc Ls (.int y :: .int x :: rest))) := by
  subst hq; exact g.via fun _ hr_ => XS.idiv (g := mkF m pc Ls (.int y :: .int x :: rest)) X.here hx rfl hd rfl hy hr_
theorem own_irem (X : Stand p l e R s m args below meth c T locs cells slots) (hx : p.tables.exec = Jvm.exec) {x y : Int32} (hd : decode c.code pc = .ok (.irem, 1)) (hy : y ≠ 0) (hq : pc + 1 = q) (g : own_Go p e below s k n Q (T.setTop (mkF m q Ls (.int (x - (x / y) * y) :: rest)))) : own_Go p e below s k n Q (T.setTop (mkF m pc Ls (.int y :: .int x :: rest))) := by
  subst hq; exact g.via fun _ hr_ => XS.irem (g := mkF m pc Ls (.int y :: .int x :: rest)) X.here hx rfl hd rfl hy hr_
theorem own_ladd (X : Stand p l e R s m args below meth c T locs cells slots) (hx : p.tables.exec = Jvm.exec) {x y : Int64} (hd : decode c.code pc = .ok (.ladd, 1))  (hq : pc + 1 = q) (g : own_Go p e below s k n Q (T.setTop (mkF m q Ls (.long (x + y) :: rest)))) : own_Go p e below s k n Q (T.setTop (mkF m pc Ls (.long y :: .long x :: rest))) := by
  subst hq; exact g.via fun _ hr_ => XT.ladd (g := mkF m pc Ls (.long y :: .long x :: rest)) X.here hx rfl hd rfl hr_
theorem own_lsub (X : Stand p l e R s m args below meth c T locs cells slots) (hx : p.tables.exec = Jvm.exec) {x y : Int64} (hd : decode c.code pc = .ok (.lsub, 1))  (hq : pc + 1 = q) (g : own_Go p e below s k n Q (T.setTop (mkF m q Ls (.long (x - y) :: rest)))) : own_Go p e below s k n Q (T.setTop (mkF m pc Ls (.long y :: .long x :: rest))) := by
  subst hq; exact g.via fun _ hr_ => XT.lsub (g := mkF m pc Ls (.long y :: .long x :: rest)) X.here hx rfl hd rfl hr_
theorem own_lmul (X : Stand p l e R s m args below meth c T locs cells slots) (hx : p.tables.exec = Jvm.exec) {x y : Int64} (hd : decode c.code pc = .ok (.lmul, 1))  (hq : pc + 1 = q) (g : own_Go p e below s k n Q (T.setTop (mkF m q Ls (.long (x * y) :: rest)))) : own_Go p e below s k n Q (T.setTop (mkF m pc Ls (.long y :: .long x :: rest))) := by
  subst hq; exact g.via fun _ hr_ => XT.lmul (g := mkF m pc Ls (.long y :: .long x :: rest)) X.here hx rfl hd rfl hr_
theorem own_land (X : Stand p l e R s m args below meth c T locs cells slots) (hx : p.tables.exec = Jvm.exec) {x y : Int64} (hd : decode c.code pc = .ok (.land, 1))  (hq : pc + 1 = q) (g : own_Go p e below s k n Q (T.setTop (mkF m q Ls (.long (x &&& y) :: rest)))) : own_Go p e below s k n Q (T.setTop (mkF m pc Ls (.long y :: .long x :: rest))) := by
  subst hq; exact g.via fun _ hr_ => XT.land (g := mkF m pc Ls (.long y :: .long x :: rest)) X.here hx rfl hd rfl hr_
theorem own_lor (X : Stand p l e R s m args below meth c T locs cells slots) (hx : p.tables.exec = Jvm.exec) {x y : Int64} (hd : decode c.code pc = .ok (.lor, 1))  (hq : pc + 1 = q) (g : own_Go p e below s k n Q (T.setTop (mkF m q Ls (.long (x ||| y) :: rest)))) : own_Go p e below s k n Q (T.setTop (mkF m pc Ls (.long y :: .long x :: rest))) := by
  subst hq; exact g.via fun _ hr_ => XT.lor (g := mkF m pc Ls (.long y :: .long x :: rest)) X.here hx rfl hd rfl hr_
theorem own_lxor (X : Stand p l e R s m args below meth c T locs cells slots) (hx : p.tables.exec = Jvm.exec) {x y : Int64} (hd : decode c.code pc = .ok (.lxor, 1))  (hq : pc + 1 = q) (g : own_Go p e below s k n Q (T.setTop (mkF m q Ls (.long (x ^^^ y) :: rest)))) : own_Go p e below s k n Q (T.setTop (mkF m pc Ls (.long y :: .long x :: rest))) := by
  subst hq; exact g.via fun _ hr_ => XT.lxor (g := mkF m pc Ls (.long y :: .long x :: rest)) X.here hx rfl hd rfl hr_
theorem own_ldiv (X : Stand p l e R s m args below meth c T locs cells slots) (hx : p.tables.exec = Jvm.exec) {x y : Int64} (hd : decode c.code pc = .ok (.ldiv, 1)) (hy : y ≠ 0) (hq : pc + 1 = q) (g : own_Go p e below s k n Q (T.setTop (mkF m q Ls (.long (x / y) :: rest)))) : own_Go p e below s k n Q (T.setTop (mkF m pc Ls (.long y :: .long x :: rest))) := by
  subst hq; exact g.via fun _ hr_ => XT.ldiv (g := mkF m pc Ls (.long y :: .long x :: rest)) X.here hx rfl hd rfl hy hr_
theorem own_lrem (X : Stand p l e R s m args below meth c T locs cells slots) (hx : p.tables.exec = Jvm.exec) {x y : Int64} (hd : decode c.code pc = .ok (.lrem, 1)) (hy : y ≠ 0) (hq : pc + 1 = q) (g : own_Go p e below s k n Q (T.setTop (mkF m q Ls (.long (x - (x / y) * y) :: rest)))) : own_Go p e below s k n Q (T.setTop (mkF m pc Ls (.long y :: .long x :: rest))) := by
  subst hq; exact g.via fun _ hr_ => XT.lrem (g := mkF m pc Ls (.long y :: .long x :: rest)) X.here hx rfl hd rfl hy hr_
theorem own_lcmp (X : Stand p l e R s m args below meth c T locs cells slots) (hx : p.tables.exec = Jvm.exec) {x y : Int64} (hd : decode c.code pc = .ok (.lcmp, 1))  (hq : pc + 1 = q) (g : own_Go p e below s k n Q (T.setTop (mkF m q Ls (.int (XT.cmpL x y) :: rest)))) : own_Go p e below s k n Q (T.setTop (mkF m pc Ls (.long y :: .long x :: rest))) := by
  subst hq; exact g.via fun _ hr_ => XT.lcmp (g := mkF m pc Ls (.long y :: .long x :: rest)) X.here hx rfl hd rfl hr_
theorem own_lshl (X : Stand p l e R s m args below meth c T locs cells slots) (hx : p.tables.exec = Jvm.exec) {x : Int64} {y : Int32} (hd : decode c.code pc = .ok (.lshl, 1))  (hq : pc + 1 = q) (g : own_Go p e below s k n Q (T.setTop (mkF m q Ls (.long (x <<< (y.toInt64 &&& 63)) :: rest)))) : own_Go p e below s k n Q (T.setTop (mkF m pc Ls (.int y :: .long x :: rest))) := by
  subst hq; exact g.via fun _ hr_ => XT.lshl (g := mkF m pc Ls (.int y :: .long x :: rest)) X.here hx rfl hd rfl hr_
theorem own_lshr (X : Stand p l e R s m args below meth c T locs cells slots) (hx : p.tables.exec = Jvm.exec) {x : Int64} {y : Int32} (hd : decode c.code pc = .ok (.lshr, 1))  (hq : pc + 1 = q) (g : own_Go p e below s k n Q (T.setTop (mkF m q Ls (.long (x >>> (y.toInt64 &&& 63)) :: rest)))) : own_Go p e below s k n Q (T.setTop (mkF m pc Ls (.int y :: .long x :: rest))) := by
  subst hq; exact g.via fun _ hr_ => XT.lshr (g := mkF m pc Ls (.int y :: .long x :: rest)) X.here hx rfl hd rfl hr_
theorem own_lushr (X : Stand p l e R s m args below meth c T locs cells slots) (hx : p.tables.exec = Jvm.exec) {x : Int64} {y : Int32} (hd : decode c.code pc = .ok (.lushr, 1))  (hq : pc + 1 = q) (g : own_Go p e below s k n Q (T.setTop (mkF m q Ls (.long (XT.ushrL x y) :: rest)))) : own_Go p e below s k n Q (T.setTop (mkF m pc Ls (.int y :: .long x :: rest))) := by
  subst hq; exact g.via fun _ hr_ => XT.lushr (g := mkF m pc Ls (.int y :: .long x :: rest)) X.here hx rfl hd rfl hr_
theorem own_ineg (X : Stand p l e R s m args below meth c T locs cells slots) (hx : p.tables.exec = Jvm.exec) {x : Int32} (hd : decode c.code pc = .ok (.ineg, 1))  (hq : pc + 1 = q) (g : own_Go p e below s k n Q (T.setTop (mkF m q Ls (.int (-x) :: rest)))) : own_Go p e below s k n Q (T.setTop (mkF m pc Ls (.int x :: rest))) := by
  subst hq; exact g.via fun _ hr_ => XS.ineg (g := mkF m pc Ls (.int x :: rest)) X.here hx rfl hd rfl hr_
theorem own_lneg (X : Stand p l e R s m args below meth c T locs cells slots) (hx : p.tables.exec = Jvm.exec) {x : Int64} (hd : decode c.code pc = .ok (.lneg, 1))  (hq : pc + 1 = q) (g : own_Go p e below s k n Q (T.setTop (mkF m q Ls (.long (-x) :: rest)))) : own_Go p e below s k n Q (T.setTop (mkF m pc Ls (.long x :: rest))) := by
  subst hq; exact g.via fun _ hr_ => XT.lneg (g := mkF m pc Ls (.long x :: rest)) X.here hx rfl hd rfl hr_
theorem own_i2l (X : Stand p l e R s m args below meth c T locs cells slots) (hx : p.tables.exec = Jvm.exec) {x : Int32} (hd : decode c.code pc = .ok (.i2l, 1))  (hq : pc + 1 = q) (g : own_Go p e below s k n Q (T.setTop (mkF m q Ls (.long (x.toInt64) :: rest)))) : own_Go p e below s k n Q (T.setTop (mkF m pc Ls (.int x :: rest))) := by
  subst hq; exact g.via fun _ hr_ => XT.i2l (g := mkF m pc Ls (.int x :: rest)) X.here hx rfl hd rfl hr_
theorem own_l2i (X : Stand p l e R s m args below meth c T locs cells slots) (hx : p.tables.exec = Jvm.exec) {x : Int64} (hd : decode c.code pc = .ok (.l2i, 1))  (hq : pc + 1 = q) (g : own_Go p e below s k n Q (T.setTop (mkF m q Ls (.int (x.toInt32) :: rest)))) : own_Go p e below s k n Q (T.setTop (mkF m pc Ls (.long x :: rest))) := by
  subst hq; exact g.via fun _ hr_ => XT.l2i (g := mkF m pc Ls (.long x :: rest)) X.here hx rfl hd rfl hr_
theorem own_i2b (X : Stand p l e R s m args below meth c T locs cells slots) (hx : p.tables.exec = Jvm.exec) {x : Int32} (hd : decode c.code pc = .ok (.i2b, 1))  (hq : pc + 1 = q) (g : own_Go p e below s k n Q (T.setTop (mkF m q Ls (.int (x.toInt8.toInt32) :: rest)))) : own_Go p e below s k n Q (T.setTop (mkF m pc Ls (.int x :: rest))) := by
  subst hq; exact g.via fun _ hr_ => XT.i2b (g := mkF m pc Ls (.int x :: rest)) X.here hx rfl hd rfl hr_
theorem own_i2c (X : Stand p l e R s m args below meth c T locs cells slots) (hx : p.tables.exec = Jvm.exec) {x : Int32} (hd : decode c.code pc = .ok (.i2c, 1))  (hq : pc + 1 = q) (g : own_Go p e below s k n Q (T.setTop (mkF m q Ls (.int (x.toUInt32.toUInt16.toUInt32.toInt32) :: rest)))) : own_Go p e below s k n Q (T.setTop (mkF m pc Ls (.int x :: rest))) := by
  subst hq; exact g.via fun _ hr_ => XT.i2c (g := mkF m pc Ls (.int x :: rest)) X.here hx rfl hd rfl hr_
theorem own_iconst (X : Stand p l e R s m args below meth c T locs cells slots) (hx : p.tables.exec = Jvm.exec) {i : Int} {v : Int32} (hd : decode c.code pc = .ok (.iconst i, 1)) (hv : Int32.ofInt i = v) (hq : pc + 1 = q) (g : own_Go p e below s k n Q (T.setTop (mkF m q Ls (.int v :: st)))) : own_Go p e below s k n Q (T.setTop (mkF m pc Ls (st))) := by
  subst hq; subst hv; exact g.via fun _ hr_ => XS.iconst (g := mkF m pc Ls (st)) X.here hx rfl hd  hr_
theorem own_bipush (X : Stand p l e R s m args below meth c T locs cells slots) (hx : p.tables.exec = Jvm.exec) {i : Int} {v : Int32} (hd : decode c.code pc = .ok (.bipush i, 2)) (hv : (Int8.ofInt i).toInt32 = v) (hq : pc + 2 = q) (g : own_Go p e below s k n Q (T.setTop (mkF m q Ls (.int v :: st)))) : own_Go p e below s k n Q (T.setTop (mkF m pc Ls (st))) := by
  subst hq; subst hv; exact g.via fun _ hr_ => XS.bipush (g := mkF m pc Ls (st)) X.here hx rfl hd  hr_
theorem own_sipush (X : Stand p l e R s m args below meth c T locs cells slots) (hx : p.tables.exec = Jvm.exec) {i : Int} {v : Int32} (hd : decode c.code pc = .ok (.sipush i, 3)) (hv : (Int16.ofInt i).toInt32 = v) (hq : pc + 3 = q) (g : own_Go p e below s k n Q (T.setTop (mkF m q Ls (.int v :: st)))) : own_Go p e below s k n Q (T.setTop (mkF m pc Ls (st))) := by
  subst hq; subst hv; exact g.via fun _ hr_ => XS.sipush (g := mkF m pc Ls (st)) X.here hx rfl hd  hr_
theorem own_lconst (X : Stand p l e R s m args below meth c T locs cells slots) (hx : p.tables.exec = Jvm.exec) {i : Fin 2} {v : Int64} (hd : decode c.code pc = .ok (.lconst i, 1)) (hv : Int64.ofNat i = v) (hq : pc + 1 = q) (g : own_Go p e below s k n Q (T.setTop (mkF m q Ls (.long v :: st)))) : own_Go p e below s k n Q (T.setTop (mkF m pc Ls (st))) := by
  subst hq; subst hv; exact g.via fun _ hr_ => XT.lconst (g := mkF m pc Ls (st)) X.here hx rfl hd  hr_
theorem own_aconst_null (X : Stand p l e R s m args below meth c T locs cells slots) (hx : p.tables.exec = Jvm.exec)  (hd : decode c.code pc = .ok (.aconst_null, 1))  (hq : pc + 1 = q) (g : own_Go p e below s k n Q (T.setTop (mkF m q Ls (.null :: st)))) : own_Go p e below s k n Q (T.setTop (mkF m pc Ls (st))) := by
  subst hq; exact g.via fun _ hr_ => XS.aconstNull (g := mkF m pc Ls (st)) X.here hx rfl hd  hr_
theorem own_iload_n (X : Stand p l e R s m args below meth c T locs cells slots) (hx : p.tables.exec = Jvm.exec) {i : Fin 4} {v : Int32} (hd : decode c.code pc = .ok (.iload_n i, 1)) (hl : Ls[i.val]? = some (.val (.int v))) (hq : pc + 1 = q) (g : own_Go p e below s k n Q (T.setTop (mkF m q Ls (.int v :: st)))) : own_Go p e below s k n Q (T.setTop (mkF m pc Ls (st))) := by
  subst hq; exact g.via fun _ hr_ => XS.iloadN (g := mkF m pc Ls (st)) X.here hx rfl hd hl hr_
theorem own_iload (X : Stand p l e R s m args below meth c T locs cells slots) (hx : p.tables.exec = Jvm.exec) {i : Nat} {v : Int32} (hd : decode c.code pc = .ok (.iload i, 2)) (hl : Ls[i]? = some (.val (.int v))) (hq : pc + 2 = q) (g : own_Go p e below s k n Q (T.setTop (mkF m q Ls (.int v :: st)))) : own_Go p e below s k n Q (T.setTop (mkF m pc Ls (st))) := by
  subst hq; exact g.via fun _ hr_ => XS.iload (g := mkF m pc Ls (st)) X.here hx rfl hd hl hr_
theorem own_lload_n (X : Stand p l e R s m args below meth c T locs cells slots) (hx : p.tables.exec = Jvm.exec) {i : Fin 4} {v : Int64} (hd : decode c.code pc = .ok (.lload_n i, 1)) (hl : Ls[i.val]? = some (.val (.long v))) (hq : pc + 1 = q) (g : own_Go p e below s k n Q (T.setTop (mkF m q Ls (.long v :: st)))) : own_Go p e below s k n Q (T.setTop (mkF m pc Ls (st))) := by
  subst hq; exact g.via fun _ hr_ => XT.lloadN (g := mkF m pc Ls (st)) X.here hx rfl hd hl hr_
theorem own_lload (X : Stand p l e R s m args below meth c T locs cells slots) (hx : p.tables.exec = Jvm.exec) {i : Nat} {v : Int64} (hd : decode c.code pc = .ok (.lload i, 2)) (hl : Ls[i]? = some (.val (.long v))) (hq : pc + 2 = q) (g : own_Go p e below s k n Q (T.setTop (mkF m q Ls (.long v :: st)))) : own_Go p e below s k n Q (T.setTop (mkF m pc Ls (st))) := by
  subst hq; exact g.via fun _ hr_ => XT.lload (g := mkF m pc Ls (st)) X.here hx rfl hd hl hr_
theorem own_aload_n (X : Stand p l e R s m args below meth c T locs cells slots) (hx : p.tables.exec = Jvm.exec) {i : Fin 4} {v : Value} (hd : decode c.code pc = .ok (.aload_n i, 1)) (hl : Ls[i.val]? = some (.val v)) (hr : v.isRef = true) (hq : pc + 1 = q) (g : own_Go p e below s k n Q (T.setTop (mkF m q Ls (v :: st)))) : own_Go p e below s k n Q (T.setTop (mkF m pc Ls (st))) := by
  subst hq; exact g.via fun _ hr_ => XS.aloadN (g := mkF m pc Ls (st)) X.here hx rfl hd hl hr hr_
theorem own_aload (X : Stand p l e R s m args below meth c T locs cells slots) (hx : p.tables.exec = Jvm.exec) {i : Nat} {v : Value} (hd : decode c.code pc = .ok (.aload i, 2)) (hl : Ls[i]? = some (.val v)) (hr : v.isRef = true) (hq : pc + 2 = q) (g : own_Go p e below s k n Q (T.setTop (mkF m q Ls (v :: st)))) : own_Go p e below s k n Q (T.setTop (mkF m pc Ls (st))) := by
  subst hq; exact g.via fun _ hr_ => XS.aload (g := mkF m pc Ls (st)) X.here hx rfl hd hl hr hr_
theorem own_istore_n (X : Stand p l e R s m args below meth c T locs cells slots) (hx : p.tables.exec = Jvm.exec) {i : Fin 4} {v : Int32} (hd : decode c.code pc = .ok (.istore_n i, 1)) (hl : storeLocals Ls i.val (.int v) = some l') (hq : pc + 1 = q) (g : own_Go p e below s k n Q (T.setTop (mkF m q l' (rest)))) : own_Go p e below s k n Q (T.setTop (mkF m pc Ls (.int v :: rest))) := by
  subst hq; exact g.via fun _ hr_ => XS.istoreN (g := mkF m pc Ls (.int v :: rest)) X.here hx rfl hd rfl hl hr_
theorem own_istore (X : Stand p l e R s m args below meth c T locs cells slots) (hx : p.tables.exec = Jvm.exec) {i : Nat} {v : Int32} (hd : decode c.code pc = .ok (.istore i, 2)) (hl : storeLocals Ls i (.int v) = some l') (hq : pc + 2 = q) (g : own_Go p e below s k n Q (T.setTop (mkF m q l' (rest)))) : own_Go p e below s k n Q (T.setTop (mkF m pc Ls (.int v :: rest))) := by
  subst hq; exact g.via fun _ hr_ => XS.istore (g := mkF m pc Ls (.int v :: rest)) X.here hx rfl hd rfl hl hr_
theorem own_lstore_n (X : Stand p l e R s m args below meth c T locs cells slots) (hx : p.tables.exec = Jvm.exec) {i : Fin 4} {v : Int64} (hd : decode c.code pc = .ok (.lstore_n i, 1)) (hl : storeLocals Ls i.val (.long v) = some l') (hq : pc + 1 = q) (g : own_Go p e below s k n Q (T.setTop (mkF m q l' (rest)))) : own_Go p e below s k n Q (T.setTop (mkF m pc Ls (.long v :: rest))) := by
  subst hq; exact g.via fun _ hr_ => XT.lstoreN (g := mkF m pc Ls (.long v :: rest)) X.here hx rfl hd rfl hl hr_
theorem own_lstore (X : Stand p l e R s m args below meth c T locs cells slots) (hx : p.tables.exec = Jvm.exec) {i : Nat} {v : Int64} (hd : decode c.code pc = .ok (.lstore i, 2)) (hl : storeLocals Ls i (.long v) = some l') (hq : pc + 2 = q) (g : own_Go p e below s k n Q (T.setTop (mkF m q l' (rest)))) : own_Go p e below s k n Q (T.setTop (mkF m pc Ls (.long v :: rest))) := by
  subst hq; exact g.via fun _ hr_ => XT.lstore (g := mkF m pc Ls (.long v :: rest)) X.here hx rfl hd rfl hl hr_
theorem own_astore_n (X : Stand p l e R s m args below meth c T locs cells slots) (hx : p.tables.exec = Jvm.exec) {i : Fin 4} {v : Value} (hd : decode c.code pc = .ok (.astore_n i, 1)) (hr : v.isRef = true) (hl : storeLocals Ls i.val v = some l') (hq : pc + 1 = q) (g : own_Go p e below s k n Q (T.setTop (mkF m q l' (rest)))) : own_Go p e below s k n Q (T.setTop (mkF m pc Ls (v :: rest))) := by
  subst hq; exact g.via fun _ hr_ => XS.astoreN (g := mkF m pc Ls (v :: rest)) X.here hx rfl hd rfl hr hl hr_
theorem own_astore (X : Stand p l e R s m args below meth c T locs cells slots) (hx : p.tables.exec = Jvm.exec) {i : Nat} {v : Value} (hd : decode c.code pc = .ok (.astore i, 2)) (hr : v.isRef = true) (hl : storeLocals Ls i v = some l') (hq : pc + 2 = q) (g : own_Go p e below s k n Q (T.setTop (mkF m q l' (rest)))) : own_Go p e below s k n Q (T.setTop (mkF m pc Ls (v :: rest))) := by
  subst hq; exact g.via fun _ hr_ => XS.astore (g := mkF m pc Ls (v :: rest)) X.here hx rfl hd rfl hr hl hr_
theorem own_iinc (X : Stand p l e R s m args below meth c T locs cells slots) (hx : p.tables.exec = Jvm.exec) {i : Nat} {cst : Int} {v w : Int32} (hd : decode c.code pc = .ok (.iinc i cst, 3)) (hl : Ls[i]? = some (.val (.int v))) (hv : v + Int32.ofInt cst = w) (hs : storeLocals Ls i (.int w) = some l') (hq : pc + 3 = q) (g : own_Go p e below s k n Q (T.setTop (mkF m q l' (st)))) : own_Go p e below s k n Q (T.setTop (mkF m pc Ls (st))) := by
  subst hq; subst hv; exact g.via fun _ hr_ => XS.iinc (g := mkF m pc Ls (st)) X.here hx rfl hd hl hs hr_
theorem own_dup (X : Stand p l e R s m args below meth c T locs cells slots) (hx : p.tables.exec = Jvm.exec) {v : Value} (hd : decode c.code pc = .ok (.dup, 1)) (hc : v.category = 1) (hq : pc + 1 = q) (g : own_Go p e below s k n Q (T.setTop (mkF m q Ls (v :: v :: rest)))) : own_Go p e below s k n Q (T.setTop (mkF m pc Ls (v :: rest))) := by
  subst hq; exact g.via fun _ hr_ => XS.dup (g := mkF m pc Ls (v :: rest)) X.here hx rfl hd rfl hc hr_
theorem own_pop (X : Stand p l e R s m args below meth c T locs cells slots) (hx : p.tables.exec = Jvm.exec) {v : Value} (hd : decode c.code pc = .ok (.pop, 1)) (hc : v.category = 1) (hq : pc + 1 = q) (g : own_Go p e below s k n Q (T.setTop (mkF m q Ls (rest)))) : own_Go p e below s k n Q (T.setTop (mkF m pc Ls (v :: rest))) := by
  subst hq; exact g.via fun _ hr_ => XT.pop (g := mkF m pc Ls (v :: rest)) X.here hx rfl hd rfl hc hr_
theorem own_dup2L (X : Stand p l e R s m args below meth c T locs cells slots) (hx : p.tables.exec = Jvm.exec) {x : Int64} (hd : decode c.code pc = .ok (.dup2, 1))  (hq : pc + 1 = q) (g : own_Go p e below s k n Q (T.setTop (mkF m q Ls (.long x :: .long x :: rest)))) : own_Go p e below s k n Q (T.setTop (mkF m pc Ls (.long x :: rest))) := by
  subst hq; exact g.via fun _ hr_ => XT.dup2L (g := mkF m pc Ls (.long x :: rest)) X.here hx rfl hd rfl hr_
theorem own_dup2 (X : Stand p l e R s m args below meth c T locs cells slots) (hx : p.tables.exec = Jvm.exec) {v w : Value} (hd : decode c.code pc = .ok (.dup2, 1)) (hc : v.category = 1) (hc' : w.category = 1) (hq : pc + 1 = q) (g : own_Go p e below s k n Q (T.setTop (mkF m q Ls (v :: w :: v :: w :: rest)))) : own_Go p e below s k n Q (T.setTop (mkF m pc Ls (v :: w :: rest))) := by
  subst hq; exact g.via fun _ hr_ => XT.dup2 (g := mkF m pc Ls (v :: w :: rest)) X.here hx rfl hd rfl hc hc' hr_
theorem own_dup_x1 (X : Stand p l e R s m args below meth c T locs cells slots) (hx : p.tables.exec = Jvm.exec) {v w : Value} (hd : decode c.code pc = .ok (.dup_x1, 1)) (hc : v.category = 1) (hc' : w.category = 1) (hq : pc + 1 = q) (g : own_Go p e below s k n Q (T.setTop (mkF m q Ls (v :: w :: v :: rest)))) : own_Go p e below s k n Q (T.setTop (mkF m pc Ls (v :: w :: rest))) := by
  subst hq; exact g.via fun _ hr_ => XT.dupX1 (g := mkF m pc Ls (v :: w :: rest)) X.here hx rfl hd rfl hc hc' hr_
theorem own_goto (X : Stand p l e R s m args below meth c T locs cells slots) (hx : p.tables.exec = Jvm.exec) {o : Int} (hd : decode c.code pc = .ok (.goto o, 3)) (ho : 0 ≤ (pc : Int) + o) (hp : ((pc : Int) + o).toNat = q) (g : own_Go p e below s k n Q (T.setTop (mkF m q Ls st))) : own_Go p e below s k n Q (T.setTop (mkF m pc Ls st)) :=
  g.via fun _ hr => XS.goto (g := mkF m pc Ls st) X.here hx rfl (pc0 := pc) rfl hd ho hp hr
theorem own_if (X : Stand p l e R s m args below meth c T locs cells slots) (hx : p.tables.exec = Jvm.exec) {cd : ClassFile.Cond} {x : Int32} {o : Int} {P : Prop} [Decidable P] (hd : decode c.code pc = .ok (.ifCond cd o, 3)) (ho : 0 ≤ (pc : Int) + o) (hp : ((pc : Int) + o).toNat = q) (hq : pc + 3 = q') (hP : ifCond.holds cd x = decide P) (gy : P → own_Go p e below s k n Q (T.setTop (mkF m q Ls rest))) (gn : ¬ P → own_Go p e below s k n Q (T.setTop (mkF m q' Ls rest))) : own_Go p e below s k n Q (T.setTop (mkF m pc Ls (.int x :: rest))) := by
  by_cases h : P
  · exact (gy h).via fun _ hr => XS.ifYes (g := mkF m pc Ls (.int x :: rest)) X.here hx rfl (pc0 := pc) rfl hd rfl (by rw [hP]; exact decide_eq_true h) ho hp hr
  · subst hq; exact (gn h).via fun _ hr => XS.ifNo (g := mkF m pc Ls (.int x :: rest)) X.here hx rfl hd rfl (by rw [hP]; exact decide_eq_false h) hr
theorem own_icmp (X : Stand p l e R s m args below meth c T locs cells slots) (hx : p.tables.exec = Jvm.exec) {cd : ClassFile.Cond} {x y : Int32} {o : Int} {P : Prop} [Decidable P] (hd : decode c.code pc = .ok (.if_icmp cd o, 3)) (ho : 0 ≤ (pc : Int) + o) (hp : ((pc : Int) + o).toNat = q) (hq : pc + 3 = q') (hP : if_icmp.holds cd x y = decide P) (gy : P → own_Go p e below s k n Q (T.setTop (mkF m q Ls rest))) (gn : ¬ P → own_Go p e below s k n Q (T.setTop (mkF m q' Ls rest))) : own_Go p e below s k n Q (T.setTop (mkF m pc Ls (.int y :: .int x :: rest))) := by
  by_cases h : P
  · exact (gy h).via fun _ hr => XS.icmpYes (g := mkF m pc Ls (.int y :: .int x :: rest)) X.here hx rfl (pc0 := pc) rfl hd rfl (by rw [hP]; exact decide_eq_true h) ho hp hr
  · subst hq; exact (gn h).via fun _ hr => XS.icmpNo (g := mkF m pc Ls (.int y :: .int x :: rest)) X.here hx rfl hd rfl (by rw [hP]; exact decide_eq_false h) hr
theorem own_h_eq (x y : Int32) : if_icmp.holds .eq x y = decide (x.toInt = y.toInt) := by
  by_cases h : x = y
  · rw [(teq h).1, h]; simp
  · rw [(feq h).1]; symm; exact decide_eq_false fun q => h (Int32.toInt_inj.mp q)
theorem own_h_ne (x y : Int32) : if_icmp.holds .ne x y = decide (x.toInt ≠ y.toInt) := by
  by_cases h : x = y
  · rw [(teq h).2, h]; simp
  · rw [(feq h).2]; symm; exact decide_eq_true fun q => h (Int32.toInt_inj.mp q)
theorem own_h_lt (x y : Int32) : if_icmp.holds .lt x y = decide (x.toInt < y.toInt) := by
  by_cases h : x < y
  · rw [(tlt h).1]; symm; exact decide_eq_true (Int32.lt_iff_toInt_lt.mp h)
  · rw [(flt h).1]; symm; exact decide_eq_false fun q => h (Int32.lt_iff_toInt_lt.mpr q)
theorem own_h_ge (x y : Int32) : if_icmp.holds .ge x y = decide (y.toInt ≤ x.toInt) := by
  by_cases h : x < y
  · rw [(tlt h).2.1]; symm; exact decide_eq_false fun q => absurd (Int32.lt_iff_toInt_lt.mp h) (by omega)
  · rw [(flt h).2.1]; symm; exact decide_eq_true (Int.not_lt.mp fun q => h (Int32.lt_iff_toInt_lt.mpr q))
theorem own_h_gt (x y : Int32) : if_icmp.holds .gt x y = decide (y.toInt < x.toInt) := by
  by_cases h : y < x
  · rw [(tlt h).2.2.1]; symm; exact decide_eq_true (Int32.lt_iff_toInt_lt.mp h)
  · rw [(flt h).2.2.1]; symm; exact decide_eq_false fun q => h (Int32.lt_iff_toInt_lt.mpr q)
theorem own_h_le (x y : Int32) : if_icmp.holds .le x y = decide (x.toInt ≤ y.toInt) := by
  by_cases h : y < x
  · rw [(tlt h).2.2.2]; symm; exact decide_eq_false fun q => absurd (Int32.lt_iff_toInt_lt.mp h) (by omega)
  · rw [(flt h).2.2.2]; symm; exact decide_eq_true (Int.not_lt.mp fun q => h (Int32.lt_iff_toInt_lt.mpr q))
theorem own_z_eq (x : Int32) : ifCond.holds .eq x = decide (x.toInt = 0) := (if0 _ _).trans (own_h_eq x 0)
theorem own_z_ne (x : Int32) : ifCond.holds .ne x = decide (x.toInt ≠ 0) := (if0 _ _).trans (own_h_ne x 0)
theorem own_z_lt (x : Int32) : ifCond.holds .lt x = decide (x.toInt < 0) := (if0 _ _).trans (own_h_lt x 0)
theorem own_z_ge (x : Int32) : ifCond.holds .ge x = decide (0 ≤ x.toInt) := (if0 _ _).trans (own_h_ge x 0)
theorem own_z_gt (x : Int32) : ifCond.holds .gt x = decide (0 < x.toInt) := (if0 _ _).trans (own_h_gt x 0)
theorem own_z_le (x : Int32) : ifCond.holds .le x = decide (x.toInt ≤ 0) := (if0 _ _).trans (own_h_le x 0)
theorem own_cmpL (x y : Int64) : (x.toInt < y.toInt ∧ (XT.cmpL x y).toInt = -1) ∨ (x.toInt = y.toInt ∧ (XT.cmpL x y).toInt = 0) ∨ (y.toInt < x.toInt ∧ (XT.cmpL x y).toInt = 1) := by
  unfold XT.cmpL
  by_cases h1 : y < x
  · rw [if_pos h1]; exact Or.inr (Or.inr ⟨Int64.lt_iff_toInt_lt.mp h1, rfl⟩)
  · rw [if_neg h1]
    by_cases h2 : x = y
    · rw [if_pos h2]; exact Or.inr (Or.inl ⟨by rw [h2], rfl⟩)
    · rw [if_neg h2]
      have h3 : ¬ y.toInt < x.toInt := fun q => h1 (Int64.lt_iff_toInt_lt.mpr q)
      have h4 : ¬ x.toInt = y.toInt := fun q => h2 (Int64.toInt_inj.mp q)
      exact Or.inl ⟨by omega, rfl⟩
theorem own_l_eq (x y : Int64) : ifCond.holds .eq (XT.cmpL x y) = decide (x.toInt = y.toInt) := by
  rw [own_z_eq]; rcases own_cmpL x y with ⟨h, q⟩ | ⟨h, q⟩ | ⟨h, q⟩ <;> rw [q] <;> simp <;> omega
theorem own_l_ne (x y : Int64) : ifCond.holds .ne (XT.cmpL x y) = decide (x.toInt ≠ y.toInt) := by
  rw [own_z_ne]; rcases own_cmpL x y with ⟨h, q⟩ | ⟨h, q⟩ | ⟨h, q⟩ <;> rw [q] <;> simp <;> omega
theorem own_l_lt (x y : Int64) : ifCond.holds .lt (XT.cmpL x y) = decide (x.toInt < y.toInt) := by
  rw [own_z_lt]; rcases own_cmpL x y with ⟨h, q⟩ | ⟨h, q⟩ | ⟨h, q⟩ <;> rw [q] <;> simp <;> omega
theorem own_l_ge (x y : Int64) : ifCond.holds .ge (XT.cmpL x y) = decide (y.toInt ≤ x.toInt) := by
  rw [own_z_ge]; rcases own_cmpL x y with ⟨h, q⟩ | ⟨h, q⟩ | ⟨h, q⟩ <;> rw [q] <;> simp <;> omega
theorem own_l_gt (x y : Int64) : ifCond.holds .gt (XT.cmpL x y) = decide (y.toInt < x.toInt) := by
  rw [own_z_gt]; rcases own_cmpL x y with ⟨h, q⟩ | ⟨h, q⟩ | ⟨h, q⟩ <;> rw [q] <;> simp <;> omega
theorem own_l_le (x y : Int64) : ifCond.holds .le (XT.cmpL x y) = decide (x.toInt ≤ y.toInt) := by
  rw [own_z_le]; rcases own_cmpL x y with ⟨h, q⟩ | ⟨h, q⟩ | ⟨h, q⟩ <;> rw [q] <;> simp <;> omega
theorem own_addI (x y : Int32) (h1 : -2147483648 ≤ x.toInt + y.toInt) (h2 : x.toInt + y.toInt < 2147483648) : (x + y).toInt = x.toInt + y.toInt := by
  have := c_iadd x y; have := rng32 (x + y); omega
theorem own_subI (x y : Int32) (h1 : -2147483648 ≤ x.toInt - y.toInt) (h2 : x.toInt - y.toInt < 2147483648) : (x - y).toInt = x.toInt - y.toInt := by
  have := c_isub x y; have := rng32 (x - y); omega
theorem own_mulI (x y : Int32) (h1 : -2147483648 ≤ x.toInt * y.toInt) (h2 : x.toInt * y.toInt < 2147483648) : (x * y).toInt = x.toInt * y.toInt := by
  have := c_imul x y; have := rng32 (x * y); omega
theorem own_rem (x y : Int32) (h0 : 0 ≤ x.toInt) (hy : 0 < y.toInt) : (x - (x / y) * y).toInt = x.toInt % y.toInt := by
  have hne : y ≠ -1 := fun q => by rw [q] at hy; exact absurd hy (by decide)
  have h1 := (c_idiv x y y.toInt rfl hne).1 h0
  have h2 := c_imul (x / y) y
  rw [h1] at h2
  have h3 := c_isub x ((x / y) * y)
  have h4 := rng32 (x - (x / y) * y)
  have h5 := Int.emod_def x.toInt y.toInt
  rw [Int.mul_comm] at h5
  have h6 := Int.emod_nonneg x.toInt (Int.ne_of_gt hy)
  have h7 := Int.emod_lt_of_pos x.toInt hy
  have h8 := rng32 y
  generalize x.toInt / y.toInt * y.toInt = P at *
  generalize x.toInt % y.toInt = M at *
  omega
end Own
section Own2
variable {p : Program} {l : Launch} {e : Env} {R : Room} {s : State} {m : MethodId} {args : Array Value} {below : List Frame} {meth : Method} {c : Code} {T : State} {locs : List Loc} {cells slots : Nat} {k n : Nat} {Q : Option Value → Heap → List Loc → Prop} {pc q q' : Nat} {Ls l' : Array Slot} {st rest : List Value}
variable {Z : State} {a0 : Array Value} {h h' : Heap} {a b : Addr} {ty : FieldType} {N i : Nat} {f : Nat → Value} {v : Value} {ws : List Addr} {sl n0 : Nat} {j x : Int32}
/-- an array of N places that hold f 0 .. f (N - 1) -/
def own_Arr (Z : State) (h : Heap) (a : Addr) (ty : FieldType) (N : Nat) (f : Nat → Value) : Prop := ∃ c : Cell, Arr Z h a c ty ∧ c.slots.size = N ∧ N < 2 ^ 31 ∧ ∀ i, i < N → c.slots[i]? = some (f i)
def own_upd (f : Nat → Value) (j : Nat) (v : Value) : Nat → Value := fun i => if i = j then v else f i
theorem own_upd_same (f : Nat → Value) (j : Nat) (v : Value) : own_upd f j v j = v := if_pos rfl
theorem own_upd_ne (f : Nat → Value) {i j : Nat} (v : Value) (q : i ≠ j) : own_upd f j v i = f i := if_neg q
def own_updI (f : Nat → Int32) (j : Nat) (v : Int32) : Nat → Int32 := fun i => if i = j then v else f i
def own_zero : Nat → Int32 := fun _ => 0
theorem own_updI_same (f : Nat → Int32) (j : Nat) (v : Int32) : own_updI f j v j = v := if_pos rfl
theorem own_updI_ne (f : Nat → Int32) {i j : Nat} (v : Int32) (q : i ≠ j) : own_updI f j v i = f i := if_neg q
theorem own_upd_I (f : Nat → Int32) (j : Nat) (v : Int32) : own_upd (fun i => .int (f i)) j (.int v) = fun i => .int (own_updI f j v i) := by
  funext i
  show (if i = j then Value.int v else Value.int (f i)) = Value.int (if i = j then v else f i)
  split <;> rfl
theorem own_Arr.ext (F : own_Arr Z h a ty N f) (E : Ext h h') : own_Arr Z h' a ty N f := by obtain ⟨c, A, r⟩ := F; exact ⟨c, A.ext E, r⟩
theorem own_Arr.keep (F : own_Arr Z h a ty N f) (K : Keep h h' ws) (q : a ∉ ws) : own_Arr Z h' a ty N f := by obtain ⟨c, A, r⟩ := F; exact ⟨c, ⟨K.2.1 a c A.1 q, A.2⟩, r⟩
theorem own_Arr.lt (F : own_Arr Z h a ty N f) : a < h.size := by obtain ⟨c, A, -⟩ := F; exact A.lt
theorem own_Arr.set (F : own_Arr Z h a ty N f) (W : Wr h h' a i v) : own_Arr Z h' a ty N (own_upd f i v) := by
  obtain ⟨c, A, S, hN, H⟩ := F
  refine ⟨_, Arr.same W A, by rw [sz_set]; exact S, hN, fun t ht => ?_⟩
  show (c.slots.setIfInBounds i v)[t]? = _
  rw [Array.getElem?_setIfInBounds]
  by_cases q : t = i
  · subst q; simp [own_upd, S, ht]
  · rw [if_neg (fun z => q z.symm), own_upd, if_neg q]; exact H t ht
theorem own_idx (hj : j.toInt = (i : Int)) (hi : i < N) : ¬ (j < 0 ∨ N ≤ j.toNatClampNeg) ∧ j.toNatClampNeg = i := by
  have h1 : j.toNatClampNeg = i := by show j.toInt.toNat = i; omega
  refine ⟨fun q => ?_, h1⟩
  rcases q with q | q
  · have := Int32.lt_iff_toInt_lt.mp q; have : (0 : Int32).toInt = 0 := rfl; omega
  · omega
theorem own_newP (X : Stand p l e R s m args below meth c T locs cells slots) (hx : p.tables.exec = Jvm.exec) (hZ : Z.Warmed39 s.vm) {aty : ArrayType} (w : (Jvm.Cond.arrayClass (newarray.typeOf aty)).before a0 Z = true) (eT : T.heap = h) (hd : decode c.code pc = .ok (.newarray aty, 2)) (hn : j.toInt = (N : Int)) {cap : Nat} (hcap : N ≤ cap) (hb : cap * 8 ≤ 536870912) (hc : cells + 1 ≤ R.cells) (hl : slots + cap ≤ R.slots) (hq : pc + 2 = q)
    (g : ∀ T' h' b, b = h.size → Stand p l e R s m args below meth c T' locs (cells + 1) (slots + cap) → T'.heap = h' → Ext h h' → own_Arr Z h' b (newarray.typeOf aty) N (fun _ => defaultValue (newarray.typeOf aty)) → own_Go p e below s k n Q (T'.setTop (mkF m q Ls (.ref b :: rest)))) :
    own_Go p e below s k n Q (T.setTop (mkF m pc Ls (.int j :: rest))) := by
  subst hq
  have hN : j.toNatClampNeg = N := by show j.toInt.toNat = N; omega
  have hn0 : ¬ j < 0 := fun q => by have := Int32.lt_iff_toInt_lt.mp q; have : (0 : Int32).toInt = 0 := rfl; omega
  obtain ⟨T', h', cA, X', e', E, A, st⟩ := newP X hx hZ w eT (g := mkF m pc Ls (.int j :: rest)) rfl hd rfl hn0 (cap := cap) (by rw [hN]; exact hcap) hb hc hl
  refine (g T' h' h.size rfl X' e' E ⟨_, A, by rw [sz_new]; exact hN, ?_, fun t ht => ?_⟩).via st
  · have := (back32 hn0).2; omega
  · show (Array.replicate j.toNatClampNeg _)[t]? = _
    rw [Array.getElem?_replicate, if_pos (by omega)]
theorem own_stB (X : Stand p l e R s m args below meth c T locs cells slots) (hx : p.tables.exec = Jvm.exec) (hZ : Z.Warmed39 s.vm) (eT : T.heap = h) {fi : Nat → Int32} (A : own_Arr Z h a .byte N (fun i => .int (fi i))) (hd : decode c.code pc = .ok (.bastore, 1)) (hj : j.toInt = (i : Int)) (hi : i < N) (Nf : Fr n0 locs) (ha : n0 ≤ a) (hq : pc + 1 = q)
    (g : ∀ T' h' L', Stand p l e R s m args below meth c T' L' cells slots → Fr n0 L' → T'.heap = h' → own_Arr Z h' a .byte N (fun t => .int (own_updI fi i (x.toInt8.toInt32) t)) → Wr h h' a i (.int (x.toInt8.toInt32)) → own_Go p e below s k n Q (T'.setTop (mkF m q Ls rest))) :
    own_Go p e below s k n Q (T.setTop (mkF m pc Ls (.int x :: .int j :: .ref a :: rest))) := by
  subst hq
  have A0 := A
  obtain ⟨cl, Ar, S, hN, H⟩ := A
  obtain ⟨h1, h2⟩ := own_idx (N := cl.slots.size) hj (by omega)
  obtain ⟨T', h', X', e', W, st⟩ := stB X hx hZ eT Ar (j := j) (x := x) h1 (g := mkF m pc Ls (.int x :: .int j :: .ref a :: rest)) rfl rfl hd
  have N' := Fr.snoc X' Nf ha
  rw [h2] at W
  have A1 := A0.set W
  rw [show (Value.int (nar .byte x)) = .int (x.toInt8.toInt32) from rfl, own_upd_I] at A1
  exact (g T' h' _ X' N' e' A1 W).via st
theorem own_baload (X : Stand p l e R s m args below meth c T locs cells slots) (hx : p.tables.exec = Jvm.exec) (hZ : Z.Warmed39 s.vm) (eT : T.heap = h) (A : own_Arr Z h a .byte N f) (hd : decode c.code pc = .ok (.baload, 1)) (hj : j.toInt = (i : Int)) (hi : i < N) (hv : f i = v) (hq : pc + 1 = q)
    (g : own_Go p e below s k n Q (T.setTop (mkF m q Ls (v :: rest)))) :
    own_Go p e below s k n Q (T.setTop (mkF m pc Ls (.int j :: .ref a :: rest))) := by
  subst hq
  obtain ⟨cl, Ar, S, hN, H⟩ := A
  obtain ⟨h1, h2⟩ := own_idx (N := cl.slots.size) hj (by omega)
  exact g.via fun t => X.baloadBytes hx (j := j) (v := v) (by rw [eT]; exact Ar.1) (State.isArrayOf_alike hZ.alike Ar.2.1) Ar.2.2 h1 (by rw [h2, ← hv]; exact H i hi) (g := mkF m pc Ls (.int j :: .ref a :: rest)) rfl rfl hd t
theorem own_zaload (X : Stand p l e R s m args below meth c T locs cells slots) (hx : p.tables.exec = Jvm.exec) (hZ : Z.Warmed39 s.vm) (eT : T.heap = h) (A : own_Arr Z h a .boolean N f) (hd : decode c.code pc = .ok (.baload, 1)) (hj : j.toInt = (i : Int)) (hi : i < N) (hv : f i = v) (hq : pc + 1 = q)
    (g : own_Go p e below s k n Q (T.setTop (mkF m q Ls (v :: rest)))) :
    own_Go p e below s k n Q (T.setTop (mkF m pc Ls (.int j :: .ref a :: rest))) := by
  subst hq
  obtain ⟨cl, Ar, S, hN, H⟩ := A
  obtain ⟨h1, h2⟩ := own_idx (N := cl.slots.size) hj (by omega)
  exact g.via fun t => X.baloadBooleans hx (j := j) (v := v) (by rw [eT]; exact Ar.1) (State.isArrayOf_alike hZ.alike Ar.2.1) Ar.2.2 h1 (by rw [h2, ← hv]; exact H i hi) (g := mkF m pc Ls (.int j :: .ref a :: rest)) rfl rfl hd t
theorem own_newO (X : Stand p l e R s m args below meth c T locs cells slots) (hx : p.tables.exec = Jvm.exec) (hZ : Z.Warmed39 s.vm) {own C : String} {index sz : Nat} (hown : s.vm.findClass own = some m.cls) (w : (Jvm.Cond.classLink own index C).before a0 Z = true) (wi : (Jvm.Cond.instantiable C sz).before a0 Z = true) (wz : (Jvm.Cond.initialized C).before a0 Z = true) (eT : T.heap = h) (hd : decode c.code pc = .ok (.new index, 3)) (hc : cells + 1 ≤ R.cells) (hl : slots + sz ≤ R.slots) (hq : pc + 3 = q)
    (g : ∀ T' h' b, b = h.size → Stand p l e R s m args below meth c T' locs (cells + 1) (slots + sz) → T'.heap = h' → Ext h h' → Exa Z h' b C → (∀ {O nm d : String} {ty : FieldType}, Laid Z a0 C O nm d → parseFieldDescriptor d = some ty → Fld Z h' b O nm d (defaultValue ty)) → own_Go p e below s k n Q (T'.setTop (mkF m q Ls (.ref b :: st)))) :
    own_Go p e below s k n Q (T.setTop (mkF m pc Ls st)) := by
  subst hq
  obtain ⟨T', h', X', e', E, A, D, -, stp⟩ := newO X hx hZ hown w wi wz eT (g := mkF m pc Ls st) rfl hd hc hl
  exact (g T' h' h.size rfl X' e' E A D).via stp
theorem own_initO (X : Stand p l e R s m args below meth c T locs cells slots) (hx : p.tables.exec = Jvm.exec) (hZ : Z.Warmed39 s.vm) {own : String} {idx : Nat} (hown : s.vm.findClass own = some m.cls) (w1 : (Jvm.Cond.methodLink own idx Lib.objectInit).before a0 Z = true) (w2 : (Jvm.Cond.instanceMethod Lib.objectInit).before a0 Z = true)
    (w3 : (Jvm.Cond.code Lib.objectInit ⟨#[0xb1]⟩ 1 none).before a0 Z = true) (eT : T.heap = h) (hsize : Ls.size = c.maxLocals) (hd : decode c.code pc = .ok (.invokespecial idx, 3)) (hf : 1 ≤ R.frames) {W : Nat} (hW : (rest.map fun v => v.category).sum = W) (hl : W + 12 ≤ R.locals) (hq : pc + 3 = q)
    (g : ∀ T', Stand p l e R s m args below meth c T' locs cells slots → T'.heap = h → own_Go p e below s k n Q (T'.setTop (mkF m q Ls rest))) :
    own_Go p e below s k n Q (T.setTop (mkF m pc Ls (.ref a :: rest))) := by
  subst hq
  obtain ⟨T', X', e', st⟩ := initO X hx hZ hown w1 w2 w3 eT (g := mkF m pc Ls (.ref a :: rest)) rfl hsize rfl hd hf (W := W) (by show 2 * 0 + _ ≤ _; rw [hW]; omega) hl
  exact (g T' X' e').via st
theorem own_putF (X : Stand p l e R s m args below meth c T locs cells slots) (hx : p.tables.exec = Jvm.exec) (hZ : Z.Warmed39 s.vm) {own O nm d C : String} {index kk : Nat} {ft : FieldType} (hown : s.vm.findClass own = some m.cls) (w : (Jvm.Cond.fieldLink own index O nm d).before a0 Z = true)
    (eT : T.heap = h) {old : Value} (F : Fld Z h a O nm d old) (E : Exa Z h a C) (L : (Jvm.Cond.lays C O nm d).before a0 Z = true ∨ ((Jvm.Cond.laysFinal C O nm d).before a0 Z = true ∧ own = O ∧ meth.name = "<init>")) (wi : (Jvm.Cond.instantiable C kk).before a0 Z = true)
    (hty : parseFieldDescriptor d = some ft) (hn : narrow ft v = v) (hf : fits ft v = true) (hd : decode c.code pc = .ok (.putfield index, 3)) (Nf : Fr n0 locs) (ha : n0 ≤ a) (hq : pc + 3 = q)
    (g : ∀ T' h' L', Stand p l e R s m args below meth c T' L' cells slots → Fr n0 L' → T'.heap = h' → Wr h h' a (Jvm.RoadKit.slotOf Z O nm d) v → own_Go p e below s k n Q (T'.setTop (mkF m q Ls rest))) :
    own_Go p e below s k n Q (T.setTop (mkF m pc Ls (v :: .ref a :: rest))) := by
  subst hq
  obtain ⟨T', h', X', e', W, st⟩ := putF X hx hZ hown (host := "") (Or.inl w) Via.refl eT F E L wi hty hn hf (g := mkF m pc Ls (v :: .ref a :: rest)) rfl rfl hd
  exact (g T' h' _ X' (Fr.snoc X' Nf ha) e' W).via st
theorem own_getF (X : Stand p l e R s m args below meth c T locs cells slots) (hx : p.tables.exec = Jvm.exec) (hZ : Z.Warmed39 s.vm) {own O nm d : String} {index : Nat} (hown : s.vm.findClass own = some m.cls) (w : (Jvm.Cond.fieldLink own index O nm d).before a0 Z = true)
    (eT : T.heap = h) (F : Fld Z h a O nm d v) (hd : decode c.code pc = .ok (.getfield index, 3)) (hq : pc + 3 = q)
    (g : ∀ T', Stand p l e R s m args below meth c T' locs cells slots → T'.heap = h → own_Go p e below s k n Q (T'.setTop (mkF m q Ls (v :: rest)))) :
    own_Go p e below s k n Q (T.setTop (mkF m pc Ls (.ref a :: rest))) := by
  subst hq
  obtain ⟨T', X', e', st⟩ := getF X hx hZ hown (host := "") (Or.inl w) Via.refl eT F (g := mkF m pc Ls (.ref a :: rest)) rfl rfl hd
  exact (g T' X' e').via st
theorem own_getS (X : Stand p l e R s m args below meth c T locs cells slots) (hx : p.tables.exec = Jvm.exec) (hZ : Z.Warmed39 s.vm) {own O nm d : String} {index : Nat} (hown : s.vm.findClass own = some m.cls) (w : (Jvm.Cond.fieldLink own index O nm d).before a0 Z = true)
    (eT : T.heap = h) (F : Sta Z h O nm d v) (hd : decode c.code pc = .ok (.getstatic index, 3)) (hq : pc + 3 = q)
    (g : ∀ T', Stand p l e R s m args below meth c T' locs cells slots → T'.heap = h → own_Go p e below s k n Q (T'.setTop (mkF m q Ls (v :: st)))) :
    own_Go p e below s k n Q (T.setTop (mkF m pc Ls st)) := by
  subst hq
  obtain ⟨T', X', e', stp⟩ := getS X hx hZ (host := "") hown w Via.refl eT F (g := mkF m pc Ls st) rfl hd
  exact (g T' X' e').via stp
theorem own_retA (X : Stand p l e R s m args below meth c T locs cells slots) (hx : p.tables.exec = Jvm.exec) {t : FieldType} (hv : v.isRef = true) (hret : meth.sig.returnType = some t) (ht : t.isReference = true) (hlk : meth.locks = false) (hd : decode c.code pc = .ok (.areturn, 1)) (hk : cells ≤ k) (hn : slots ≤ n) (hq : Q (some v) T.heap locs) :
    own_Go p e below s k n Q (T.setTop (mkF m pc Ls [v])) := by
  obtain ⟨fs, hr, hrun, hended, hW, hsame⟩ := X.leave (v := some v) (fun h => by rw [hret] at h; cases h) hlk
  exact ⟨_, _, X.areturnOut hx hv hret ht hd hr, hrun, hended, _, _, rfl, hq, ⟨_, rfl⟩, hW, hsame.mono hk hn⟩
theorem own_newR (X : Stand p l e R s m args below meth c T locs cells slots) (hx : p.tables.exec = Jvm.exec) (hZ : Z.Warmed39 s.vm) {own C : String} {index : Nat} (hown : s.vm.findClass own = some m.cls) (w1 : (Jvm.Cond.classLink own index C).before a0 Z = true) (w2 : (Jvm.Cond.arrayOver (.object C)).before a0 Z = true) (eT : T.heap = h) (hd : decode c.code pc = .ok (.anewarray index, 3)) (hn : j.toInt = (N : Int)) {cap : Nat} (hcap : N ≤ cap) (hb : cap * 8 ≤ 536870912) (hc : cells + 1 ≤ R.cells) (hl : slots + cap ≤ R.slots) (hq : pc + 3 = q)
    (g : ∀ T' h' b, b = h.size → Stand p l e R s m args below meth c T' locs (cells + 1) (slots + cap) → T'.heap = h' → Ext h h' → own_Arr Z h' b (.object C) N (fun _ => .null) → (∃ cl, Arr Z h' b cl (.object C) ∧ Ovr Z cl.cls C) → own_Go p e below s k n Q (T'.setTop (mkF m q Ls (.ref b :: rest)))) :
    own_Go p e below s k n Q (T.setTop (mkF m pc Ls (.int j :: rest))) := by
  subst hq
  have hN : j.toNatClampNeg = N := by show j.toInt.toNat = N; omega
  have hn0 : ¬ j < 0 := fun q => by have := Int32.lt_iff_toInt_lt.mp q; have : (0 : Int32).toInt = 0 := rfl; omega
  obtain ⟨T', h', cA, X', e', E, A, O, st⟩ := newR X hx hZ hown w1 w2 eT (g := mkF m pc Ls (.int j :: rest)) rfl hd rfl hn0 (cap := cap) (by rw [hN]; exact hcap) hb hc hl
  refine (g T' h' h.size rfl X' e' E ⟨_, A, by rw [sz_new]; exact hN, ?_, fun t ht => ?_⟩ ⟨_, A, O⟩).via st
  · have := (back32 hn0).2; omega
  · show (Array.replicate j.toNatClampNeg _)[t]? = _
    rw [Array.getElem?_replicate, if_pos (by omega)]; rfl
theorem own_ovr_keep {C : String} (F : ∃ cl : Cell, Arr Z h a cl (.object C) ∧ Ovr Z cl.cls C) (W : Wr h h' a i v) : ∃ cl : Cell, Arr Z h' a cl (.object C) ∧ Ovr Z cl.cls C := by
  obtain ⟨cl, A, O⟩ := F
  exact ⟨_, Arr.same W A, O⟩
theorem own_stR {C : String} (X : Stand p l e R s m args below meth c T locs cells slots) (hx : p.tables.exec = Jvm.exec) (hZ : Z.Warmed39 s.vm) (eT : T.heap = h) (A : own_Arr Z h a (.object C) N f) (O : ∃ cl : Cell, Arr Z h a cl (.object C) ∧ Ovr Z cl.cls C) (I : Ins Z h b C true) (hd : decode c.code pc = .ok (.aastore, 1)) (hj : j.toInt = (i : Int)) (hi : i < N) (Nf : Fr n0 locs) (ha : n0 ≤ a) (hq : pc + 1 = q)
    (g : ∀ T' h' L', Stand p l e R s m args below meth c T' L' cells slots → Fr n0 L' → T'.heap = h' → own_Arr Z h' a (.object C) N (own_upd f i (.ref b)) → (∃ cl : Cell, Arr Z h' a cl (.object C) ∧ Ovr Z cl.cls C) → Wr h h' a i (.ref b) → own_Go p e below s k n Q (T'.setTop (mkF m q Ls rest))) :
    own_Go p e below s k n Q (T.setTop (mkF m pc Ls (.ref b :: .int j :: .ref a :: rest))) := by
  subst hq
  have A0 := A
  have O0 := O
  obtain ⟨cl, Ar, S, hN, H⟩ := A
  obtain ⟨cl', Ar', Ov⟩ := O
  cases Ar.1.symm.trans Ar'.1
  obtain ⟨h1, h2⟩ := own_idx (N := cl.slots.size) hj (by omega)
  obtain ⟨T', h', X', e', W, st⟩ := stR X hx hZ eT Ar (j := j) (v := .ref b) h1 rfl (Sto.of Ar Ov I) (g := mkF m pc Ls (.ref b :: .int j :: .ref a :: rest)) rfl rfl hd
  have N' := Fr.snoc X' Nf ha
  rw [h2] at W
  exact (g T' h' _ X' N' e' (A0.set W) (own_ovr_keep O0 W) W).via st
theorem own_aaload {C : String} (X : Stand p l e R s m args below meth c T locs cells slots) (hx : p.tables.exec = Jvm.exec) (hZ : Z.Warmed39 s.vm) (eT : T.heap = h) (A : own_Arr Z h a (.object C) N f) (hd : decode c.code pc = .ok (.aaload, 1)) (hj : j.toInt = (i : Int)) (hi : i < N) (hv : f i = v) (hq : pc + 1 = q)
    (g : own_Go p e below s k n Q (T.setTop (mkF m q Ls (v :: rest)))) :
    own_Go p e below s k n Q (T.setTop (mkF m pc Ls (.int j :: .ref a :: rest))) := by
  subst hq
  obtain ⟨cl, Ar, S, hN, H⟩ := A
  obtain ⟨h1, h2⟩ := own_idx (N := cl.slots.size) hj (by omega)
  exact g.via fun t => X.aaload hx (j := j) (v := v) (by rw [eT]; exact Ar.1) (State.isArrayOf_alike hZ.alike Ar.2.1) rfl Ar.2.2 h1 (by rw [h2, ← hv]; exact H i hi) (g := mkF m pc Ls (.int j :: .ref a :: rest)) rfl rfl hd t
theorem own_acmp (X : Stand p l e R s m args below meth c T locs cells slots) (hx : p.tables.exec = Jvm.exec) {cd : ClassFile.ACond} {o : Int} {P : Prop} [Decidable P] {u v : Value} (hd : decode c.code pc = .ok (.if_acmp cd o, 3)) (ho : 0 ≤ (pc : Int) + o) (hp : ((pc : Int) + o).toNat = q) (hq : pc + 3 = q') (hu : u.isRef = true) (hv : v.isRef = true) (hP : XT.acmp cd u v = decide P) (gy : P → own_Go p e below s k n Q (T.setTop (mkF m q Ls rest))) (gn : ¬ P → own_Go p e below s k n Q (T.setTop (mkF m q' Ls rest))) : own_Go p e below s k n Q (T.setTop (mkF m pc Ls (v :: u :: rest))) := by
  by_cases h : P
  · exact (gy h).via fun _ hr => XT.acmpYes (g := mkF m pc Ls (v :: u :: rest)) X.here hx rfl (pc0 := pc) rfl hd rfl hu hv (by rw [hP]; exact decide_eq_true h) ho hp hr
  · subst hq; exact (gn h).via fun _ hr => XT.acmpNo (g := mkF m pc Ls (v :: u :: rest)) X.here hx rfl hd rfl hu hv (by rw [hP]; exact decide_eq_false h) hr
theorem own_callVP {C own : String} {index : Nat} {y : MethodName} {bytes : ByteArray} {maxL : Nat} {ret : Option FieldType} (X : Stand p l e R s m args below meth c T locs cells slots) (hx : p.tables.exec = Jvm.exec) (hZ : Z.Warmed39 s.vm)
    (hown : s.vm.findClass own = some m.cls) (w1 : (Jvm.Cond.methodLink own index y).before a0 Z = true) (w2 : (Jvm.Cond.declares y).before a0 Z = true) (w3 : (Jvm.Cond.selects C y y).before a0 Z = true) (w4 : (Jvm.Cond.instanceMethod y).before a0 Z = true) (w5 : (Jvm.Cond.code y bytes maxL ret).before a0 Z = true) (w6 : (Jvm.Cond.initialized y.cls).before a0 Z = true)
    (hy : y.cls ≠ "java/lang/invoke/MethodHandle" ∧ y.cls ≠ "java/lang/invoke/VarHandle") {rm : Room} {as' : Array Value} {P : Value → Prop} {W : Nat}
    (hM : MetFree l y (head1 [Jvm.Cond.code y bytes maxL ret] rm) (fun a U => a = as' ∧ Z.Warmed39 U.vm ∧ U.heap = h) (fun _ _ _ _ _ => True) (fun _ U o U' => ∃ v L, o = .returned v ∧ ((∃ w, v = some w ∧ P w) ∧ L = [] ∧ U'.heap = h) ∧ FrameEnd U o U' L rm.cells rm.slots))
    (E : Exa Z h b C) (hf : rm.frames + 1 ≤ R.frames) (hl : W + (maxL + 11) + rm.locals ≤ R.locals) (eT : T.heap = h) (hsize : Ls.size = c.maxLocals) {argsL : List Value}
    (hlen : ∀ sig, parseMethodDescriptor y.desc = some sig → argsL.length = sig.parameters.length) (hst : st = argsL.reverse ++ .ref b :: rest) (hW : (rest.map fun v => v.category).sum = W) (hd : decode c.code pc = .ok (.invokevirtual index, 3)) (hq : pc + 3 = q) (has : (.ref b :: argsL).toArray = as') (hc : rm.cells = 0) (hs : rm.slots = 0) (hcc : cells ≤ R.cells) (hss : slots ≤ R.slots)
    (g : ∀ w T', P w → Stand p l e R s m args below meth c T' locs cells slots → T'.heap = h → own_Go p e below s k n Q (T'.setTop (mkF m q Ls (w :: rest)))) :
    own_Go p e below s k n Q (T.setTop (mkF m pc Ls st)) := by
  refine own_callV (Q' := fun v U L => (∃ w, v = some w ∧ P w) ∧ L = [] ∧ U = h) X hx hZ hown w1 w2 w3 w4 w5 w6 hy hM E hf hl eT hsize hlen hst hW hd hq has (by rw [hc]; exact hcc) (by rw [hs]; exact hss) ?_
  rintro v T' L ⟨⟨w, rfl, hP⟩, rfl, e'⟩ X'
  rw [List.append_nil, hc, hs] at X'
  exact g w T' hP X' e'
/-- a private method by invokevirtual, the heap left as it was -/
theorem own_callPP {C own : String} {index kk : Nat} {y : MethodName} {bytes : ByteArray} {maxL : Nat} {ret : Option FieldType} (X : Stand p l e R s m args below meth c T locs cells slots) (hx : p.tables.exec = Jvm.exec) (hZ : Z.Warmed39 s.vm)
    (hown : s.vm.findClass own = some m.cls) (w1 : (Jvm.Cond.methodLink own index y).before a0 Z = true) (w2 : (Jvm.Cond.privateMethod y).before a0 Z = true) (w3 : (Jvm.Cond.instantiable y.cls kk).before a0 Z = true) (w4 : (Jvm.Cond.instanceMethod y).before a0 Z = true) (w5 : (Jvm.Cond.code y bytes maxL ret).before a0 Z = true) (w6 : (Jvm.Cond.initialized y.cls).before a0 Z = true)
    (hy : y.cls ≠ "java/lang/invoke/MethodHandle" ∧ y.cls ≠ "java/lang/invoke/VarHandle") {rm : Room} {as' : Array Value} {P : Value → Prop} {W : Nat}
    (hM : MetFree l y (head1 [Jvm.Cond.code y bytes maxL ret] rm) (fun a U => a = as' ∧ Z.Warmed39 U.vm ∧ U.heap = h) (fun _ _ _ _ _ => True) (fun _ U o U' => ∃ v L, o = .returned v ∧ ((∃ w, v = some w ∧ P w) ∧ L = [] ∧ U'.heap = h) ∧ FrameEnd U o U' L rm.cells rm.slots))
    (E : Exa Z h b C) (hf : rm.frames + 1 ≤ R.frames) (hl : W + (maxL + 11) + rm.locals ≤ R.locals) (eT : T.heap = h) (hsize : Ls.size = c.maxLocals) {argsL : List Value}
    (hlen : ∀ sig, parseMethodDescriptor y.desc = some sig → argsL.length = sig.parameters.length) (hst : st = argsL.reverse ++ .ref b :: rest) (hW : (rest.map fun v => v.category).sum = W) (hd : decode c.code pc = .ok (.invokevirtual index, 3)) (hq : pc + 3 = q) (has : (.ref b :: argsL).toArray = as') (hc : rm.cells = 0) (hs : rm.slots = 0) (hcc : cells ≤ R.cells) (hss : slots ≤ R.slots)
    (g : ∀ w T', P w → Stand p l e R s m args below meth c T' locs cells slots → T'.heap = h → own_Go p e below s k n Q (T'.setTop (mkF m q Ls (w :: rest)))) :
    own_Go p e below s k n Q (T.setTop (mkF m pc Ls st)) := by
  subst hq hst
  obtain ⟨cq, q1, q2⟩ := E.cell
  have hi := mvT (args := args) hZ w4
  have hp := Cond.privateMethod_at (mvP (args := #[]) hZ w2)
  obtain ⟨ci, ki, f1, f2, -, f3, -⟩ := Cond.instantiable_spec (mvT (args := args) hZ w3)
  have hsel := selects_self_of_private f1 f2 (Bool.or_eq_false_iff.mp f3).1 hp hi hy
  obtain ⟨v, _, ⟨T7, L7, k7, n7⟩, -, X7, ⟨Lc7, hQ7, l7, y7, z7⟩, st7⟩ := X.privateBack hx hown (mvT hZ w1) hi hsel hp (mvT hZ w5) hy (backOf (W := W) (Q := fun v U L => (∃ w, v = some w ∧ P w) ∧ L = [] ∧ U = h) hM hZ w5 w6 hf hl) (g := mkF m pc Ls (argsL.reverse ++ .ref b :: rest)) rfl hsize (Steps.refl _) (a := b) (by rw [eT]; exact q1) q2 (argsL := argsL) (rest := rest) hlen rfl (by show 2 * 0 + _ ≤ _; rw [hW]; omega) hd (fun _ _ => ⟨has, eT, by rw [hc]; exact hcc, by rw [hs]; exact hss⟩)
  dsimp only [Pt.U, Pt.locs, Pt.cells, Pt.slots] at X7 l7 y7 z7 st7 hQ7
  obtain ⟨⟨w, rfl, hP⟩, rfl, e'⟩ := hQ7
  rw [List.append_nil] at l7
  rw [hc] at y7
  rw [hs] at z7
  subst l7 y7 z7
  exact (g w T7 hP X7 e').via fun t hh => st7.trans hh
/-- a constructor that leaves the heap as it was (Record's, say) -/
theorem own_callNP {own : String} {index : Nat} {y : MethodName} {bytes : ByteArray} {maxL : Nat} (X : Stand p l e R s m args below meth c T locs cells slots) (hx : p.tables.exec = Jvm.exec) (hZ : Z.Warmed39 s.vm)
    (hyn : y.name = "<init>") (hown : s.vm.findClass own = some m.cls) (w1 : (Jvm.Cond.methodLink own index y).before a0 Z = true) (w2 : (Jvm.Cond.instanceMethod y).before a0 Z = true) (w3 : (Jvm.Cond.initialized y.cls).before a0 Z = true) (w4 : (Jvm.Cond.code y bytes maxL none).before a0 Z = true)
    (hy : y.cls ≠ "java/lang/invoke/MethodHandle" ∧ y.cls ≠ "java/lang/invoke/VarHandle") {rm : Room} {as' : Array Value} {W : Nat}
    (hM : MetFree l y (head1 [Jvm.Cond.code y bytes maxL none] rm) (fun a U => a = as' ∧ Z.Warmed39 U.vm ∧ U.heap = h) (fun _ _ _ _ _ => True) (fun _ U o U' => ∃ v L, o = .returned v ∧ (v = none ∧ L = [] ∧ U'.heap = h) ∧ FrameEnd U o U' L rm.cells rm.slots))
    (hf : rm.frames + 1 ≤ R.frames) (hl : W + (maxL + 11) + rm.locals ≤ R.locals) (eT : T.heap = h) (hsize : Ls.size = c.maxLocals) {argsL : List Value}
    (hlen : ∀ sig, parseMethodDescriptor y.desc = some sig → argsL.length = sig.parameters.length) (hst : st = argsL.reverse ++ .ref b :: rest) (hW : (rest.map fun v => v.category).sum = W) (hd : decode c.code pc = .ok (.invokespecial index, 3)) (hq : pc + 3 = q) (has : (.ref b :: argsL).toArray = as') (hc : rm.cells = 0) (hs : rm.slots = 0) (hcc : cells ≤ R.cells) (hss : slots ≤ R.slots)
    (g : ∀ T', Stand p l e R s m args below meth c T' locs cells slots → T'.heap = h → own_Go p e below s k n Q (T'.setTop (mkF m q Ls rest))) :
    own_Go p e below s k n Q (T.setTop (mkF m pc Ls st)) := by
  refine own_callN (Q' := fun v U L => v = none ∧ L = [] ∧ U = h) (b := b) X hx hZ hyn hown w1 w2 w3 w4 hy hM hf hl eT hsize hlen hst hW hd hq has (by rw [hc]; exact hcc) (by rw [hs]; exact hss) ?_
  rintro v T' L ⟨rfl, rfl, e'⟩ X'
  rw [List.append_nil, hc, hs] at X'
  exact g T' X' e'
theorem own_addL (x y : Int64) (h1 : -9223372036854775808 ≤ x.toInt + y.toInt) (h2 : x.toInt + y.toInt < 9223372036854775808) : (x + y).toInt = x.toInt + y.toInt := by
  have := c_ladd x y; have := rng64 (x + y); omega
theorem own_subL (x y : Int64) (h1 : -9223372036854775808 ≤ x.toInt - y.toInt) (h2 : x.toInt - y.toInt < 9223372036854775808) : (x - y).toInt = x.toInt - y.toInt := by
  have := c_lsub x y; have := rng64 (x - y); omega
theorem own_mulL (x y : Int64) (h1 : -9223372036854775808 ≤ x.toInt * y.toInt) (h2 : x.toInt * y.toInt < 9223372036854775808) : (x * y).toInt = x.toInt * y.toInt := by
  have := c_lmul x y; have := rng64 (x * y); omega
theorem own_nb (z : Int32) (h : z.toInt = 0 ∨ z.toInt = 1) : nar .boolean z = z := by
  rcases h with h | h
  · rw [show z = 0 from Int32.toInt_inj.mp h]; rfl
  · rw [show z = 1 from Int32.toInt_inj.mp h]; rfl
theorem own_rngU {f : Nat → Int32} (hf : ∀ j, -128 ≤ (f j).toInt ∧ (f j).toInt < 128) (i : Nat) (x : Int32) : ∀ j, -128 ≤ (own_updI f i (x.toInt8.toInt32) j).toInt ∧ (own_updI f i (x.toInt8.toInt32) j).toInt < 128 := by
  intro j
  by_cases q : j = i
  · subst q; rw [own_updI_same]; exact (c_i2b x).2
  · rw [own_updI_ne _ _ q]; exact hf j
theorem own_rng0 : ∀ j, -128 ≤ (own_zero j).toInt ∧ (own_zero j).toInt < 128 := fun _ => ⟨show (-128 : Int) ≤ (0 : Int32).toInt by decide, show (0 : Int32).toInt < (128 : Int) by decide⟩
end Own2
section Own3
variable {p : Program} {l : Launch} {e : Env} {R : Room} {s : State} {m : MethodId} {args : Array Value} {below : List Frame} {meth : Method} {c : Code} {T : State} {locs : List Loc} {cells slots : Nat} {k n : Nat} {Q : Option Value → Heap → List Loc → Prop} {pc q q' : Nat} {Ls l' : Array Slot} {st rest : List Value} {Z : State} {a0 : Array Value} {h h' : Heap} {ws : List Addr}
theorem own_i2d (X : Stand p l e R s m args below meth c T locs cells slots) (hx : p.tables.exec = Jvm.exec) {x : Int32} (hd : decode c.code pc = .ok (.i2d, 1)) (hq : pc + 1 = q) (g : own_Go p e below s k n Q (T.setTop (mkF m q Ls (.double (FP.i2d x) :: rest)))) : own_Go p e below s k n Q (T.setTop (mkF m pc Ls (.int x :: rest))) := by
  subst hq; exact g.via fun _ hr_ => XS.i2dS (g := mkF m pc Ls (.int x :: rest)) X.here hx rfl hd rfl rfl hr_
theorem own_l2d (X : Stand p l e R s m args below meth c T locs cells slots) (hx : p.tables.exec = Jvm.exec) {x : Int64} (hd : decode c.code pc = .ok (.l2d, 1)) (hq : pc + 1 = q) (g : own_Go p e below s k n Q (T.setTop (mkF m q Ls (.double (FP.l2d x) :: rest)))) : own_Go p e below s k n Q (T.setTop (mkF m pc Ls (.long x :: rest))) := by
  subst hq; exact g.via fun _ hr_ => XS.l2dS (g := mkF m pc Ls (.long x :: rest)) X.here hx rfl hd rfl rfl hr_
theorem own_dload (X : Stand p l e R s m args below meth c T locs cells slots) (hx : p.tables.exec = Jvm.exec) {i : Nat} {v : UInt64} (hd : decode c.code pc = .ok (.dload i, 2)) (hl : Ls[i]? = some (.val (.double v))) (hq : pc + 2 = q) (g : own_Go p e below s k n Q (T.setTop (mkF m q Ls (.double v :: st)))) : own_Go p e below s k n Q (T.setTop (mkF m pc Ls st)) := by
  subst hq; exact g.via fun _ hr_ => XS.dload (g := mkF m pc Ls st) X.here hx rfl hd hl hr_
theorem own_dload_n (X : Stand p l e R s m args below meth c T locs cells slots) (hx : p.tables.exec = Jvm.exec) {i : Fin 4} {v : UInt64} (hd : decode c.code pc = .ok (.dload_n i, 1)) (hl : Ls[i.val]? = some (.val (.double v))) (hq : pc + 1 = q) (g : own_Go p e below s k n Q (T.setTop (mkF m q Ls (.double v :: st)))) : own_Go p e below s k n Q (T.setTop (mkF m pc Ls st)) := by
  subst hq; exact g.via fun _ hr_ => XS.dloadN (g := mkF m pc Ls st) X.here hx rfl hd hl hr_
theorem own_dstore (X : Stand p l e R s m args below meth c T locs cells slots) (hx : p.tables.exec = Jvm.exec) {i : Nat} {v : UInt64} (hd : decode c.code pc = .ok (.dstore i, 2)) (hl : storeLocals Ls i (.double v) = some l') (hq : pc + 2 = q) (g : own_Go p e below s k n Q (T.setTop (mkF m q l' rest))) : own_Go p e below s k n Q (T.setTop (mkF m pc Ls (.double v :: rest))) := by
  subst hq; exact g.via fun _ hr_ => XS.dstore (g := mkF m pc Ls (.double v :: rest)) X.here hx rfl hd rfl hl hr_
theorem own_dstore_n (X : Stand p l e R s m args below meth c T locs cells slots) (hx : p.tables.exec = Jvm.exec) {i : Fin 4} {v : UInt64} (hd : decode c.code pc = .ok (.dstore_n i, 1)) (hl : storeLocals Ls i.val (.double v) = some l') (hq : pc + 1 = q) (g : own_Go p e below s k n Q (T.setTop (mkF m q l' rest))) : own_Go p e below s k n Q (T.setTop (mkF m pc Ls (.double v :: rest))) := by
  subst hq; exact g.via fun _ hr_ => XS.dstoreN (g := mkF m pc Ls (.double v :: rest)) X.here hx rfl hd rfl hl hr_
theorem own_dcmp (X : Stand p l e R s m args below meth c T locs cells slots) (hx : p.tables.exec = Jvm.exec) {o : CmpOp} {x y : UInt64} {v : Int32} (hd : decode c.code pc = .ok (.dcmp o, 1)) (hv : cmpValue (FP.dcmp x y) o = v) (hq : pc + 1 = q) (g : own_Go p e below s k n Q (T.setTop (mkF m q Ls (.int v :: rest)))) : own_Go p e below s k n Q (T.setTop (mkF m pc Ls (.double y :: .double x :: rest))) := by
  subst hq; exact g.via fun _ hr_ => XS.dcmpS (g := mkF m pc Ls (.double y :: .double x :: rest)) X.here hx rfl hd rfl hv hr_
theorem own_ldcD (X : Stand p l e R s m args below meth c T locs cells slots) (hx : p.tables.exec = Jvm.exec) (hZ : Z.Warmed39 s.vm) {own : String} {index : Nat} {v : UInt64} (hown : s.vm.findClass own = some m.cls) (w : (Jvm.Cond.constantDouble own index v).before a0 Z = true) (hd : decode c.code pc = .ok (.ldc2_w index, 3)) (hq : pc + 3 = q)
    (g : own_Go p e below s k n Q (T.setTop (mkF m q Ls (.double v :: st)))) : own_Go p e below s k n Q (T.setTop (mkF m pc Ls st)) := by
  subst hq; exact g.via fun t => X.ldc2DoubleC hx hown (mvT hZ w) (g := mkF m pc Ls st) rfl hd t
theorem own_kext (K : Keep h h' []) : Ext h h' := ⟨K.1, fun x c q => K.2.1 x c q nin0⟩
end Own3
theorem own_pd0 : parseMethodDescriptor "(C)Z" = some ⟨[.char], (some .boolean)⟩ := by decide +kernel
theorem own_pd1 : parseMethodDescriptor "(C)[B" = some ⟨[.char], (some (.array .byte))⟩ := by decide +kernel
theorem own_pd2 : parseMethodDescriptor "([BB)V" = some ⟨[(.array .byte), .byte], none⟩ := by decide +kernel
theorem own_pd3 : parseMethodDescriptor "()V" = some ⟨[], none⟩ := by decide +kernel
theorem own_pd4 : parseMethodDescriptor "(C)Ljava/lang/String;" = some ⟨[.char], (some (.object "java/lang/String"))⟩ := by decide +kernel
theorem own_pd5 : parseMethodDescriptor "(Ljava/lang/String;Ljava/lang/String;Ljava/lang/String;DD)V" = some ⟨[(.object "java/lang/String"), (.object "java/lang/String"), (.object "java/lang/String"), .double, .double], none⟩ := by decide +kernel
theorem own_pd6 : parseMethodDescriptor "()Z" = some ⟨[], (some .boolean)⟩ := by decide +kernel
theorem own_i2d_fin (x : Int32) : Jvm.Free.Fl.Fin64 (FP.i2d x) := by rw [i2d_w]; exact Jvm.Free.Fl.l2d_fin _
theorem own_inf_nf : ¬ Jvm.Free.Fl.Fin64 (9218868437227405312 : UInt64) := fun h => by
  have h1 := dcmp_pinf h .l
  exact absurd h1 (by decide +kernel)
theorem own_cmpinf {d : UInt64} (h : d = (9218868437227405312 : UInt64) ∨ Jvm.Free.Fl.Fin64 d) : ∃ cv : Int32, cmpValue (FP.dcmp d (9218868437227405312 : UInt64)) .l = cv ∧ ((d = (9218868437227405312 : UInt64) ∧ cv.toInt = 0) ∨ (Jvm.Free.Fl.Fin64 d ∧ cv.toInt = -1)) := by
  rcases h with h | h
  · exact ⟨0, by rw [h]; decide +kernel, Or.inl ⟨h, rfl⟩⟩
  · exact ⟨-1, dcmp_pinf h .l, Or.inr ⟨h, rfl⟩⟩
theorem own_chr (x : Int32) : ((x &&& (255 : Int32)).toUInt32.toUInt16.toUInt32.toInt32).toInt ≤ 255 := by
  rw [i2c_mask]
  have e : (x &&& (255 : Int32)).toInt = x.toInt % 256 := c_mask x 255 8 (by decide) (by decide)
  omega
theorem dR_0 : decode jdk_30_method_1_code 0 = .ok (.aload_n 0, 1) := by decide +kernel
theorem dR_1 : decode jdk_30_method_1_code 1 = .ok (.invokespecial 1, 3) := by decide +kernel
theorem dR_4 : decode jdk_30_method_1_code 4 = .ok (.return_, 1) := by decide +kernel
theorem own_pnR : plainName "java/lang/Record" = true := by first | (simp [plainName, overriddenIn]; done) | decide +kernel
theorem own_efR (m : MethodId) (a1 : Addr) : entryFrame m #[(.ref a1)] 1 = mkF m 0 #[.val (.ref a1)] [] := by first | (simp [entryFrame, mkF, argsToLocals, Value.category, maxLocals]; done) | rfl
set_option maxRecDepth 65536 in
set_option maxHeartbeats 40000000 in
theorem own_rmR (l : Launch) (Z : State) (a0 : Array Value) (hw : ∀ d ∈ tables_1, d.before a0 Z = true) (ws : List Jvm.Cond) (a1 : Addr)  (h0 : Heap)  :
    MetFree l (⟨"java/lang/Record", "<init>", "()V"⟩ : MethodName) (head1 (Jvm.Cond.code (⟨"java/lang/Record", "<init>", "()V"⟩ : MethodName) jdk_30_method_1_code 1 none :: ws) ({ frames := 1, cells := 0, slots := 0, locals := 12 } : Room)) (fun a U => a = #[(.ref a1)] ∧ Z.Warmed39 U.vm ∧ U.heap = h0) (fun _ _ _ _ _ => True) (fun _ U o U' => ∃ v L, o = .returned v ∧ (fun v h L => v = none ∧ L = [] ∧ h = h0) v U'.heap L ∧ FrameEnd U o U' L ({ frames := 1, cells := 0, slots := 0, locals := 12 } : Room).cells ({ frames := 1, cells := 0, slots := 0, locals := 12 } : Room).slots) := by
  refine own_body (y := (⟨"java/lang/Record", "<init>", "()V"⟩ : MethodName)) (Q := fun v h L => v = none ∧ L = [] ∧ h = h0) (rm := ({ frames := 1, cells := 0, slots := 0, locals := 12 } : Room)) (as' := #[(.ref a1)]) (h0 := h0) (Z := Z) own_pnR ?_
  intro p e s m below meth c s₁ hx hby hml hown hnm hret hlk hZ X0 e0
  have hown : s.vm.findClass "java/lang/Record" = some m.cls := hown
  rw [own_efR]
  refine own_aload_n X0 hx (hb hby dR_0) rfl rfl (q := 1) rfl ?_
  refine own_initO X0 hx hZ hown (hw _ (List.mem_of_getElem? (i := 37) rfl)) (hw _ (List.mem_of_getElem? (i := 20) rfl)) (hw _ (List.mem_of_getElem? (i := 21) rfl)) e0 (by rw [hml]; rfl) (hb hby dR_1) (by decide) (W := 0) rfl (by decide) (q := 4) rfl ?_
  intro T1 X1 e1
  exact own_retV X1 hx hret hlk (hb hby dR_4) (by decide) (by decide) ⟨rfl, rfl, e1⟩
theorem dC_0 : decode jdk_43_method_3_code 0 = .ok (.iload_n 0, 1) := by decide +kernel
theorem dC_1 : decode jdk_43_method_3_code 1 = .ok (.sipush 255, 3) := by decide +kernel
theorem dC_4 : decode jdk_43_method_3_code 4 = .ok (.if_icmp .gt 7, 3) := by decide +kernel
theorem dC_7 : decode jdk_43_method_3_code 7 = .ok (.iconst 1, 1) := by decide +kernel
theorem dC_8 : decode jdk_43_method_3_code 8 = .ok (.goto 4, 3) := by decide +kernel
theorem dC_11 : decode jdk_43_method_3_code 11 = .ok (.iconst 0, 1) := by decide +kernel
theorem dC_12 : decode jdk_43_method_3_code 12 = .ok (.ireturn, 1) := by decide +kernel
theorem own_pnC : plainName "java/lang/StringLatin1" = true := by first | (simp [plainName, overriddenIn]; done) | decide +kernel
theorem own_efC (m : MethodId) (p1 : Int32) : entryFrame m #[(.int p1)] 1 = mkF m 0 #[.val (.int p1)] [] := by first | (simp [entryFrame, mkF, argsToLocals, Value.category, maxLocals]; done) | rfl
set_option maxRecDepth 65536 in
set_option maxHeartbeats 40000000 in
theorem own_rmC (l : Launch) (Z : State) (a0 : Array Value) (hw : ∀ d ∈ tables_1, d.before a0 Z = true) (ws : List Jvm.Cond) (p1 : Int32)  (h0 : Heap)  :
    MetFree l (⟨"java/lang/StringLatin1", "canEncode", "(C)Z"⟩ : MethodName) (head1 (Jvm.Cond.code (⟨"java/lang/StringLatin1", "canEncode", "(C)Z"⟩ : MethodName) jdk_43_method_3_code 1 (some .boolean) :: ws) ({ frames := 0, cells := 0, slots := 0, locals := 0 } : Room)) (fun a U => a = #[(.int p1)] ∧ Z.Warmed39 U.vm ∧ U.heap = h0) (fun _ _ _ _ _ => True) (fun _ U o U' => ∃ v L, o = .returned v ∧ (fun v h L => (∃ w, v = some w ∧ (fun w => ∃ z : Int32, w = .int z ∧ (((p1.toInt ≤ 255) ∧ z.toInt = 1) ∨ (¬ (p1.toInt ≤ 255) ∧ z.toInt = 0))) w) ∧ L = [] ∧ h = h0) v U'.heap L ∧ FrameEnd U o U' L ({ frames := 0, cells := 0, slots := 0, locals := 0 } : Room).cells ({ frames := 0, cells := 0, slots := 0, locals := 0 } : Room).slots) := by
  refine own_body (y := (⟨"java/lang/StringLatin1", "canEncode", "(C)Z"⟩ : MethodName)) (Q := fun v h L => (∃ w, v = some w ∧ (fun w => ∃ z : Int32, w = .int z ∧ (((p1.toInt ≤ 255) ∧ z.toInt = 1) ∨ (¬ (p1.toInt ≤ 255) ∧ z.toInt = 0))) w) ∧ L = [] ∧ h = h0) (rm := ({ frames := 0, cells := 0, slots := 0, locals := 0 } : Room)) (as' := #[(.int p1)]) (h0 := h0) (Z := Z) own_pnC ?_
  intro p e s m below meth c s₁ hx hby hml hown hnm hret hlk hZ X0 e0
  have hown : s.vm.findClass "java/lang/StringLatin1" = some m.cls := hown
  rw [own_efC]
  refine own_iload_n X0 hx (hb hby dC_0) rfl (q := 1) rfl ?_
  refine own_sipush X0 hx (hb hby dC_1) (v := (255 : Int32)) rfl (q := 4) rfl ?_
  refine own_icmp X0 hx (hb hby dC_4) (by decide) (q := 11) rfl (q' := 7) rfl (own_h_gt _ _) (fun h4 => ?_) (fun h4 => ?_)
  · replace h4 : 255 < p1.toInt := h4
    refine own_iconst X0 hx (hb hby dC_11) (v := (0 : Int32)) rfl (q := 12) rfl ?_
    exact own_retN X0 hx (t := .boolean) hret hlk (by simp) (hb hby dC_12) (by decide) (by decide) (w := (0 : Int32)) rfl ⟨⟨_, rfl, ⟨_, rfl, by have hc_ : (0 : Int32).toInt = 0 := rfl; omega⟩⟩, rfl, e0⟩
  · replace h4 : ¬ (255 < p1.toInt) := h4
    refine own_iconst X0 hx (hb hby dC_7) (v := (1 : Int32)) rfl (q := 8) rfl ?_
    refine own_goto X0 hx (hb hby dC_8) (by decide) (q := 12) rfl ?_
    exact own_retN X0 hx (t := .boolean) hret hlk (by simp) (hb hby dC_12) (by decide) (by decide) (w := (1 : Int32)) rfl ⟨⟨_, rfl, ⟨_, rfl, by have hc_ : (1 : Int32).toInt = 1 := rfl; omega⟩⟩, rfl, e0⟩
theorem dT_0 : decode jdk_43_method_46_code 0 = .ok (.iconst 1, 1) := by decide +kernel
theorem dT_1 : decode jdk_43_method_46_code 1 = .ok (.newarray .byte, 2) := by decide +kernel
theorem dT_3 : decode jdk_43_method_46_code 3 = .ok (.dup, 1) := by decide +kernel
theorem dT_4 : decode jdk_43_method_46_code 4 = .ok (.iconst 0, 1) := by decide +kernel
theorem dT_5 : decode jdk_43_method_46_code 5 = .ok (.iload_n 0, 1) := by decide +kernel
theorem dT_6 : decode jdk_43_method_46_code 6 = .ok (.i2b, 1) := by decide +kernel
theorem dT_7 : decode jdk_43_method_46_code 7 = .ok (.bastore, 1) := by decide +kernel
theorem dT_8 : decode jdk_43_method_46_code 8 = .ok (.areturn, 1) := by decide +kernel
def own_QT (Z : State) (p1 : Int32) (h0 : Heap) (n0 : Nat) : Option Value → Heap → List Loc → Prop := fun v h L => ∃ b, v = some (.ref b) ∧ n0 ≤ b ∧ Fr n0 L ∧ Keep h0 h []
theorem own_pnT : plainName "java/lang/StringLatin1" = true := by first | (simp [plainName, overriddenIn]; done) | decide +kernel
theorem own_efT (m : MethodId) (p1 : Int32) : entryFrame m #[(.int p1)] 1 = mkF m 0 #[.val (.int p1)] [] := by first | (simp [entryFrame, mkF, argsToLocals, Value.category, maxLocals]; done) | rfl
set_option maxRecDepth 65536 in
set_option maxHeartbeats 40000000 in
theorem own_rmT (l : Launch) (Z : State) (a0 : Array Value) (hw : ∀ d ∈ tables_1, d.before a0 Z = true) (ws : List Jvm.Cond) (p1 : Int32)  (h0 : Heap) (n0 : Nat) (hn0 : n0 ≤ h0.size) :
    MetFree l (⟨"java/lang/StringLatin1", "toBytes", "(C)[B"⟩ : MethodName) (head1 (Jvm.Cond.code (⟨"java/lang/StringLatin1", "toBytes", "(C)[B"⟩ : MethodName) jdk_43_method_46_code 1 (some (.array .byte)) :: ws) ({ frames := 0, cells := 1, slots := 1, locals := 0 } : Room)) (fun a U => a = #[(.int p1)] ∧ Z.Warmed39 U.vm ∧ U.heap = h0) (fun _ _ _ _ _ => True) (fun _ U o U' => ∃ v L, o = .returned v ∧ (own_QT Z p1 h0 n0) v U'.heap L ∧ FrameEnd U o U' L ({ frames := 0, cells := 1, slots := 1, locals := 0 } : Room).cells ({ frames := 0, cells := 1, slots := 1, locals := 0 } : Room).slots) := by
  refine own_body (y := (⟨"java/lang/StringLatin1", "toBytes", "(C)[B"⟩ : MethodName)) (Q := own_QT Z p1 h0 n0) (rm := ({ frames := 0, cells := 1, slots := 1, locals := 0 } : Room)) (as' := #[(.int p1)]) (h0 := h0) (Z := Z) own_pnT ?_
  intro p e s m below meth c s₁ hx hby hml hown hnm hret hlk hZ X0 e0
  have hown : s.vm.findClass "java/lang/StringLatin1" = some m.cls := hown
  rw [own_efT]
  refine own_iconst X0 hx (hb hby dT_0) (v := (1 : Int32)) rfl (q := 1) rfl ?_
  refine own_newP X0 hx hZ (hw _ (List.mem_of_getElem? (i := 14) rfl)) e0 (hb hby dT_1) (N := 1) (rfl) (cap := 1) (by decide) (by decide) (by decide) (by decide) (q := 3) rfl ?_
  intro T1 h1_ b1 g1 X1 e1 E1 A1
  have o1 : h0.size ≤ b1 := by rw [g1]; exact (Nat.le_refl _)
  have z1_ : h0.size ≤ h1_.size := Nat.le_trans (Nat.le_refl _) E1.1
  have A1 : own_Arr Z h1_ b1 .byte 1 (fun i => .int (own_zero i)) := A1
  refine own_dup X1 hx (hb hby dT_3) rfl (q := 4) rfl ?_
  refine own_iconst X1 hx (hb hby dT_4) (v := (0 : Int32)) rfl (q := 5) rfl ?_
  refine own_iload_n X1 hx (hb hby dT_5) rfl (q := 6) rfl ?_
  refine own_i2b X1 hx (hb hby dT_6) (q := 7) rfl ?_
  refine own_stB X1 hx hZ e1 A1 (hb hby dT_7) (i := 0) (rfl) (by decide) (Fr.nil _) o1 (q := 8) rfl ?_
  intro T2 h2_ L2 X2 N2 e2 A2 W2
  have K2 := Keep.of_wr W2
  have z2_ : h0.size ≤ h2_.size := Nat.le_trans z1_ K2.1
  have KK : Keep h0 h2_ [] := ((Keep.refl _ _).ext E1).wr W2 (Or.inr o1)
  exact own_retA X2 hx rfl hret rfl hlk (hb hby dT_8) (by decide) (by decide) (by rw [e2]; exact ⟨_, rfl, Nat.le_trans hn0 o1, fun y hy => Nat.le_trans hn0 (N2 y hy), KK⟩)
theorem dS_0 : decode jdk_42_method_151_code 0 = .ok (.aload_n 0, 1) := by decide +kernel
theorem dS_1 : decode jdk_42_method_151_code 1 = .ok (.invokespecial 1, 3) := by decide +kernel
theorem dS_4 : decode jdk_42_method_151_code 4 = .ok (.aload_n 0, 1) := by decide +kernel
theorem dS_5 : decode jdk_42_method_151_code 5 = .ok (.aload_n 1, 1) := by decide +kernel
theorem dS_6 : decode jdk_42_method_151_code 6 = .ok (.putfield 9, 3) := by decide +kernel
theorem dS_9 : decode jdk_42_method_151_code 9 = .ok (.aload_n 0, 1) := by decide +kernel
theorem dS_10 : decode jdk_42_method_151_code 10 = .ok (.iload_n 2, 1) := by decide +kernel
theorem dS_11 : decode jdk_42_method_151_code 11 = .ok (.putfield 15, 3) := by decide +kernel
theorem dS_14 : decode jdk_42_method_151_code 14 = .ok (.return_, 1) := by decide +kernel
def own_QS (Z : State) (a1 : Addr) (a2 : Addr) (p1 : Int32) (h0 : Heap) (n0 : Nat) : Option Value → Heap → List Loc → Prop := fun v h L => v = none ∧ Fr n0 L ∧ Keep h0 h [a1]
theorem own_pnS : plainName "java/lang/String" = true := by first | (simp [plainName, overriddenIn]; done) | decide +kernel
theorem own_efS (m : MethodId) (a1 : Addr) (a2 : Addr) (p1 : Int32) : entryFrame m #[(.ref a1), (.ref a2), (.int p1)] 3 = mkF m 0 #[.val (.ref a1), .val (.ref a2), .val (.int p1)] [] := by first | (simp [entryFrame, mkF, argsToLocals, Value.category, maxLocals]; done) | rfl
set_option maxRecDepth 65536 in
set_option maxHeartbeats 40000000 in
theorem own_rmS (l : Launch) (Z : State) (a0 : Array Value) (hw : ∀ d ∈ tables_1, d.before a0 Z = true) (ws : List Jvm.Cond) (a1 : Addr) (a2 : Addr) (p1 : Int32)  (h0 : Heap) (n0 : Nat) (ha : n0 ≤ a1) (E : Exa Z h0 a1 "java/lang/String") (F1 : Fld Z h0 a1 "java/lang/String" "value" "[B" (.null)) (F2 : Fld Z h0 a1 "java/lang/String" "coder" "B" (.int 0)) (hp : p1 = 0) :
    MetFree l (⟨"java/lang/String", "<init>", "([BB)V"⟩ : MethodName) (head1 (Jvm.Cond.code (⟨"java/lang/String", "<init>", "([BB)V"⟩ : MethodName) jdk_42_method_151_code 3 none :: ws) ({ frames := 1, cells := 0, slots := 0, locals := 12 } : Room)) (fun a U => a = #[(.ref a1), (.ref a2), (.int p1)] ∧ Z.Warmed39 U.vm ∧ U.heap = h0) (fun _ _ _ _ _ => True) (fun _ U o U' => ∃ v L, o = .returned v ∧ (own_QS Z a1 a2 p1 h0 n0) v U'.heap L ∧ FrameEnd U o U' L ({ frames := 1, cells := 0, slots := 0, locals := 12 } : Room).cells ({ frames := 1, cells := 0, slots := 0, locals := 12 } : Room).slots) := by
  refine own_body (y := (⟨"java/lang/String", "<init>", "([BB)V"⟩ : MethodName)) (Q := own_QS Z a1 a2 p1 h0 n0) (rm := ({ frames := 1, cells := 0, slots := 0, locals := 12 } : Room)) (as' := #[(.ref a1), (.ref a2), (.int p1)]) (h0 := h0) (Z := Z) own_pnS ?_
  intro p e s m below meth c s₁ hx hby hml hown hnm hret hlk hZ X0 e0
  have hown : s.vm.findClass "java/lang/String" = some m.cls := hown
  rw [own_efS]
  subst hp
  refine own_aload_n X0 hx (hb hby dS_0) rfl rfl (q := 1) rfl ?_
  refine own_initO X0 hx hZ hown (hw _ (List.mem_of_getElem? (i := 19) rfl)) (hw _ (List.mem_of_getElem? (i := 20) rfl)) (hw _ (List.mem_of_getElem? (i := 21) rfl)) e0 (by rw [hml]; rfl) (hb hby dS_1) (by decide) (W := 0) rfl (by decide) (q := 4) rfl ?_
  intro T1 X1 e1
  refine own_aload_n X1 hx (hb hby dS_4) rfl rfl (q := 5) rfl ?_
  refine own_aload_n X1 hx (hb hby dS_5) rfl rfl (q := 6) rfl ?_
  refine own_putF X1 hx hZ hown (hw _ (List.mem_of_getElem? (i := 22) rfl)) e1 F1 E (Or.inr ⟨(hw _ (List.mem_of_getElem? (i := 23) rfl)), rfl, hnm⟩) (hw _ (List.mem_of_getElem? (i := 10) rfl)) (ft := (.array .byte)) (by decide) rfl rfl (hb hby dS_6) (Fr.nil n0) ha (q := 9) rfl ?_
  intro T2 h2_ L2 X2 N2 e2 W2
  have K2 := Keep.of_wr W2
  have E_2 := E.wr W2
  have F1_2 := F1.same W2
  have F2_2 := F2.other W2 (Or.inr (slot_ne (Or.inr (hw _ (List.mem_of_getElem? (i := 25) rfl))) (Or.inr (hw _ (List.mem_of_getElem? (i := 23) rfl))) (by decide) (t := .byte) (t' := (.array .byte)) (by decide) (by decide)))
  have z2_ : h0.size ≤ h2_.size := Nat.le_trans (Nat.le_refl _) K2.1
  refine own_aload_n X2 hx (hb hby dS_9) rfl rfl (q := 10) rfl ?_
  refine own_iload_n X2 hx (hb hby dS_10) rfl (q := 11) rfl ?_
  refine own_putF X2 hx hZ hown (hw _ (List.mem_of_getElem? (i := 24) rfl)) e2 F2_2 E_2 (Or.inr ⟨(hw _ (List.mem_of_getElem? (i := 25) rfl)), rfl, hnm⟩) (hw _ (List.mem_of_getElem? (i := 10) rfl)) (ft := .byte) (by decide) rfl rfl (hb hby dS_11) N2 ha (q := 14) rfl ?_
  intro T3 h3_ L3 X3 N3 e3 W3
  have K3 := Keep.of_wr W3
  have E_3 := E_2.wr W3
  have F1_3 := F1_2.other W3 (Or.inr (slot_ne (Or.inr (hw _ (List.mem_of_getElem? (i := 23) rfl))) (Or.inr (hw _ (List.mem_of_getElem? (i := 25) rfl))) (by decide) (t := (.array .byte)) (t' := .byte) (by decide) (by decide)))
  have F2_3 := F2_2.same W3
  have z3_ : h0.size ≤ h3_.size := Nat.le_trans z2_ K3.1
  have KK : Keep h0 h3_ [a1] := (((Keep.refl _ _).wr W2 (Or.inl (List.mem_of_getElem? (i := 0) rfl))).wr W3 (Or.inl (List.mem_of_getElem? (i := 0) rfl)))
  exact own_retV X3 hx hret hlk (hb hby dS_14) (by decide) (by decide) (by rw [e3]; unfold own_QS; exact ⟨rfl, N3, KK⟩)
theorem dV_0 : decode jdk_42_method_139_code 0 = .ok (.getstatic 38, 3) := by decide +kernel
theorem dV_3 : decode jdk_42_method_139_code 3 = .ok (.ifCond .eq 23, 3) := by decide +kernel
theorem dV_6 : decode jdk_42_method_139_code 6 = .ok (.iload_n 0, 1) := by decide +kernel
theorem dV_7 : decode jdk_42_method_139_code 7 = .ok (.invokestatic 1015, 3) := by decide +kernel
theorem dV_10 : decode jdk_42_method_139_code 10 = .ok (.ifCond .eq 16, 3) := by decide +kernel
theorem dV_13 : decode jdk_42_method_139_code 13 = .ok (.new 10, 3) := by decide +kernel
theorem dV_16 : decode jdk_42_method_139_code 16 = .ok (.dup, 1) := by decide +kernel
theorem dV_17 : decode jdk_42_method_139_code 17 = .ok (.iload_n 0, 1) := by decide +kernel
theorem dV_18 : decode jdk_42_method_139_code 18 = .ok (.invokestatic 1018, 3) := by decide +kernel
theorem dV_21 : decode jdk_42_method_139_code 21 = .ok (.iconst 0, 1) := by decide +kernel
theorem dV_22 : decode jdk_42_method_139_code 22 = .ok (.invokespecial 209, 3) := by decide +kernel
theorem dV_25 : decode jdk_42_method_139_code 25 = .ok (.areturn, 1) := by decide +kernel
def own_QV (Z : State) (p1 : Int32) (h0 : Heap) (n0 : Nat) : Option Value → Heap → List Loc → Prop := fun v h L => ∃ b, v = some (.ref b) ∧ n0 ≤ b ∧ Fr n0 L ∧ Keep h0 h []
theorem own_pnV : plainName "java/lang/String" = true := by first | (simp [plainName, overriddenIn]; done) | decide +kernel
theorem own_efV (m : MethodId) (p1 : Int32) : entryFrame m #[(.int p1)] 1 = mkF m 0 #[.val (.int p1)] [] := by first | (simp [entryFrame, mkF, argsToLocals, Value.category, maxLocals]; done) | rfl
set_option maxRecDepth 65536 in
set_option maxHeartbeats 40000000 in
theorem own_rmV (l : Launch) (Z : State) (a0 : Array Value) (hw : ∀ d ∈ tables_1, d.before a0 Z = true) (ws : List Jvm.Cond) (p1 : Int32) (G1 : Int32) (h0 : Heap) (n0 : Nat) (hn0 : n0 ≤ h0.size) (ST : Sta Z h0 "java/lang/String" "COMPACT_STRINGS" "Z" (.int G1)) (hG : G1.toInt ≠ 0) (hp : p1.toInt ≤ 255) :
    MetFree l (⟨"java/lang/String", "valueOf", "(C)Ljava/lang/String;"⟩ : MethodName) (head1 (Jvm.Cond.code (⟨"java/lang/String", "valueOf", "(C)Ljava/lang/String;"⟩ : MethodName) jdk_42_method_139_code 1 (some (.object "java/lang/String")) :: ws) ({ frames := 2, cells := 2, slots := 5, locals := 27 } : Room)) (fun a U => a = #[(.int p1)] ∧ Z.Warmed39 U.vm ∧ U.heap = h0) (fun _ _ _ _ _ => True) (fun _ U o U' => ∃ v L, o = .returned v ∧ (own_QV Z p1 h0 n0) v U'.heap L ∧ FrameEnd U o U' L ({ frames := 2, cells := 2, slots := 5, locals := 27 } : Room).cells ({ frames := 2, cells := 2, slots := 5, locals := 27 } : Room).slots) := by
  refine own_body (y := (⟨"java/lang/String", "valueOf", "(C)Ljava/lang/String;"⟩ : MethodName)) (Q := own_QV Z p1 h0 n0) (rm := ({ frames := 2, cells := 2, slots := 5, locals := 27 } : Room)) (as' := #[(.int p1)]) (h0 := h0) (Z := Z) own_pnV ?_
  intro p e s m below meth c s₁ hx hby hml hown hnm hret hlk hZ X0 e0
  have hown : s.vm.findClass "java/lang/String" = some m.cls := hown
  rw [own_efV]
  refine own_getS X0 hx hZ hown (hw _ (List.mem_of_getElem? (i := 4) rfl)) e0 ST (hb hby dV_0) (q := 3) rfl ?_
  intro T1 X1 e1
  refine own_if X1 hx (hb hby dV_3) (by decide) (q := 26) rfl (q' := 6) rfl (own_z_eq _) (fun h3 => ?_) (fun h3 => ?_)
  · replace h3 : G1.toInt = 0 := h3
    exfalso; omega
  · replace h3 : ¬ (G1.toInt = 0) := h3
    refine own_iload_n X1 hx (hb hby dV_6) rfl (q := 7) rfl ?_
    refine own_callSP X1 hx hZ hown (hw _ (List.mem_of_getElem? (i := 5) rfl)) (hw _ (List.mem_of_getElem? (i := 6) rfl)) (hw _ (List.mem_of_getElem? (i := 7) rfl)) (hw _ (List.mem_of_getElem? (i := 8) rfl)) (by decide) (own_rmC l Z a0 hw [] p1  h0 ) (by decide) (by decide) e1 (by rw [hml]; rfl) (argsL := [(.int p1)]) (rest := []) (lenOf own_pd0 rfl) rfl (W := 0) rfl (hb hby dV_7) (q := 10) rfl rfl rfl rfl (by decide) (by decide) ?_
    rintro _ T2 ⟨z2, rfl, hz2⟩ X2 e2
    refine own_if X2 hx (hb hby dV_10) (by decide) (q := 26) rfl (q' := 13) rfl (own_z_eq _) (fun h10 => ?_) (fun h10 => ?_)
    · replace h10 : z2.toInt = 0 := h10
      exfalso; omega
    · replace h10 : ¬ (z2.toInt = 0) := h10
      refine own_newO X2 hx hZ hown (hw _ (List.mem_of_getElem? (i := 9) rfl)) (hw _ (List.mem_of_getElem? (i := 10) rfl)) (hw _ (List.mem_of_getElem? (i := 2) rfl)) e2 (hb hby dV_13) (by decide) (by decide) (q := 16) rfl ?_
      intro T3 h3_ b3 g3 X3 e3 E3 A3 D3
      have ST_3 := ST.ext E3
      have o3 : h0.size ≤ b3 := by rw [g3]; exact (Nat.le_refl _)
      have z3_ : h0.size ≤ h3_.size := Nat.le_trans (Nat.le_refl _) E3.1
      have F3value : Fld Z h3_ b3 "java/lang/String" "value" "[B" (.null) := D3 (Or.inr (hw _ (List.mem_of_getElem? (i := 23) rfl))) (ty := (.array .byte)) (by decide)
      have F3coder : Fld Z h3_ b3 "java/lang/String" "coder" "B" (.int 0) := D3 (Or.inr (hw _ (List.mem_of_getElem? (i := 25) rfl))) (ty := .byte) (by decide)
      refine own_dup X3 hx (hb hby dV_16) rfl (q := 17) rfl ?_
      refine own_iload_n X3 hx (hb hby dV_17) rfl (q := 18) rfl ?_
      refine own_callS X3 hx hZ hown (hw _ (List.mem_of_getElem? (i := 11) rfl)) (hw _ (List.mem_of_getElem? (i := 12) rfl)) (hw _ (List.mem_of_getElem? (i := 7) rfl)) (hw _ (List.mem_of_getElem? (i := 13) rfl)) (by decide) (own_rmT l Z a0 hw [] p1  h3_ h0.size z3_) (by decide) (by decide) e3 (by rw [hml]; rfl) (argsL := [(.int p1)]) (rest := [(.ref b3), (.ref b3)]) (lenOf own_pd1 rfl) rfl (W := 2) rfl (hb hby dV_18) (q := 21) rfl rfl (by decide) (by decide) ?_
      rintro _ T4 L4 ⟨b4, rfl, o4, NL4, K4⟩ X4
      have N4 := Fr.app (Fr.nil _) NL4
      obtain ⟨h4_, e4⟩ : ∃ z, T4.heap = z := ⟨_, rfl⟩
      rw [e4] at K4
      have E4 := own_kext K4
      have A3_4 := A3.ext E4
      have F3value_4 := F3value.ext E4
      have F3coder_4 := F3coder.ext E4
      have z4_ : h0.size ≤ h4_.size := Nat.le_trans z3_ K4.1
      obtain ⟨LL4, eL4⟩ : ∃ z, [] ++ L4 = z := ⟨_, rfl⟩
      rw [eL4] at X4 N4
      show own_Go p e below s _ _ _ (T4.setTop (mkF m 21 #[.val (.int p1)] [(.ref b4), (.ref b3), (.ref b3)]))
      refine own_iconst X4 hx (hb hby dV_21) (v := (0 : Int32)) rfl (q := 22) rfl ?_
      refine own_callN X4 hx hZ rfl hown (hw _ (List.mem_of_getElem? (i := 15) rfl)) (hw _ (List.mem_of_getElem? (i := 16) rfl)) (hw _ (List.mem_of_getElem? (i := 2) rfl)) (hw _ (List.mem_of_getElem? (i := 18) rfl)) (by decide) (own_rmS l Z a0 hw [] b3 b4 (0 : Int32) h4_ h0.size o3 A3_4 F3value_4 F3coder_4 rfl) (by decide) (by decide) e4 (by rw [hml]; rfl) (argsL := [(.ref b4), (.int (0 : Int32))]) (rest := [(.ref b3)]) (lenOf own_pd2 rfl) rfl (W := 1) rfl (hb hby dV_22) (q := 25) rfl rfl (by decide) (by decide) ?_
      rintro _ T5 L5 ⟨rfl, NL5, K5⟩ X5
      have N5 := Fr.app N4 NL5
      obtain ⟨h5_, e5⟩ : ∃ z, T5.heap = z := ⟨_, rfl⟩
      rw [e5] at K5 
      have z5_ : h0.size ≤ h5_.size := Nat.le_trans z4_ K5.1
      obtain ⟨LL5, eL5⟩ : ∃ z, LL4 ++ L5 = z := ⟨_, rfl⟩
      rw [eL5] at X5 N5
      show own_Go p e below s _ _ _ (T5.setTop (mkF m 25 #[.val (.int p1)] [(.ref b3)]))
      have KK : Keep h0 h5_ [] := (((Keep.refl _ _).ext E3).trans K4 all0).trans K5 (allS (Or.inr o3) all0)
      exact own_retA X5 hx rfl hret rfl hlk (hb hby dV_25) (by decide) (by decide) (by rw [e5]; exact ⟨_, rfl, Nat.le_trans hn0 o3, fun y hy => Nat.le_trans hn0 (N5 y hy), KK⟩)
theorem dO_0 : decode prog_14_method_1_code 0 = .ok (.aload_n 0, 1) := by decide +kernel
theorem dO_1 : decode prog_14_method_1_code 1 = .ok (.invokespecial 1, 3) := by decide +kernel
theorem dO_4 : decode prog_14_method_1_code 4 = .ok (.aload_n 0, 1) := by decide +kernel
theorem dO_5 : decode prog_14_method_1_code 5 = .ok (.aload_n 1, 1) := by decide +kernel
theorem dO_6 : decode prog_14_method_1_code 6 = .ok (.putfield 7, 3) := by decide +kernel
theorem dO_9 : decode prog_14_method_1_code 9 = .ok (.aload_n 0, 1) := by decide +kernel
theorem dO_10 : decode prog_14_method_1_code 10 = .ok (.aload_n 2, 1) := by decide +kernel
theorem dO_11 : decode prog_14_method_1_code 11 = .ok (.putfield 13, 3) := by decide +kernel
theorem dO_14 : decode prog_14_method_1_code 14 = .ok (.aload_n 0, 1) := by decide +kernel
theorem dO_15 : decode prog_14_method_1_code 15 = .ok (.aload_n 3, 1) := by decide +kernel
theorem dO_16 : decode prog_14_method_1_code 16 = .ok (.putfield 16, 3) := by decide +kernel
theorem dO_19 : decode prog_14_method_1_code 19 = .ok (.aload_n 0, 1) := by decide +kernel
theorem dO_20 : decode prog_14_method_1_code 20 = .ok (.dload 4, 2) := by decide +kernel
theorem dO_22 : decode prog_14_method_1_code 22 = .ok (.putfield 19, 3) := by decide +kernel
theorem dO_25 : decode prog_14_method_1_code 25 = .ok (.aload_n 0, 1) := by decide +kernel
theorem dO_26 : decode prog_14_method_1_code 26 = .ok (.dload 6, 2) := by decide +kernel
theorem dO_28 : decode prog_14_method_1_code 28 = .ok (.putfield 23, 3) := by decide +kernel
theorem dO_31 : decode prog_14_method_1_code 31 = .ok (.return_, 1) := by decide +kernel
def own_QO (Z : State) (a1 : Addr) (a2 : Addr) (a3 : Addr) (a4 : Addr) (d1 : UInt64) (d2 : UInt64) (h0 : Heap) (n0 : Nat) : Option Value → Heap → List Loc → Prop := fun v h L => v = none ∧ Fr n0 L ∧ Keep h0 h [a1] ∧ Exa Z h a1 "com/example/stellwerk/stellwerk/core/Occupation" ∧ Fld Z h a1 "com/example/stellwerk/stellwerk/core/Occupation" "releasedAt" "D" (.double d2)
theorem own_pnO : plainName "com/example/stellwerk/stellwerk/core/Occupation" = true := by first | (simp [plainName, overriddenIn]; done) | decide +kernel
theorem own_efO (m : MethodId) (a1 : Addr) (a2 : Addr) (a3 : Addr) (a4 : Addr) (d1 : UInt64) (d2 : UInt64) : entryFrame m #[(.ref a1), (.ref a2), (.ref a3), (.ref a4), (.double d1), (.double d2)] 8 = mkF m 0 #[.val (.ref a1), .val (.ref a2), .val (.ref a3), .val (.ref a4), .val (.double d1), .second, .val (.double d2), .second] [] := by first | (simp [entryFrame, mkF, argsToLocals, Value.category, maxLocals]; done) | rfl
set_option maxRecDepth 65536 in
set_option maxHeartbeats 40000000 in
theorem own_rmO (l : Launch) (Z : State) (a0 : Array Value) (hw : ∀ d ∈ tables_1, d.before a0 Z = true) (ws : List Jvm.Cond) (a1 : Addr) (a2 : Addr) (a3 : Addr) (a4 : Addr) (d1 : UInt64) (d2 : UInt64)  (h0 : Heap) (n0 : Nat) (ha : n0 ≤ a1) (E : Exa Z h0 a1 "com/example/stellwerk/stellwerk/core/Occupation") (F0 : Fld Z h0 a1 "com/example/stellwerk/stellwerk/core/Occupation" "section" "Ljava/lang/String;" (.null)) (F1 : Fld Z h0 a1 "com/example/stellwerk/stellwerk/core/Occupation" "block" "Ljava/lang/String;" (.null)) (F2 : Fld Z h0 a1 "com/example/stellwerk/stellwerk/core/Occupation" "train" "Ljava/lang/String;" (.null)) (F3 : Fld Z h0 a1 "com/example/stellwerk/stellwerk/core/Occupation" "reservedFrom" "D" (.double 0)) (F4 : Fld Z h0 a1 "com/example/stellwerk/stellwerk/core/Occupation" "releasedAt" "D" (.double 0)) :
    MetFree l (⟨"com/example/stellwerk/stellwerk/core/Occupation", "<init>", "(Ljava/lang/String;Ljava/lang/String;Ljava/lang/String;DD)V"⟩ : MethodName) (head1 (Jvm.Cond.code (⟨"com/example/stellwerk/stellwerk/core/Occupation", "<init>", "(Ljava/lang/String;Ljava/lang/String;Ljava/lang/String;DD)V"⟩ : MethodName) prog_14_method_1_code 8 none :: ws) ({ frames := 2, cells := 0, slots := 0, locals := 24 } : Room)) (fun a U => a = #[(.ref a1), (.ref a2), (.ref a3), (.ref a4), (.double d1), (.double d2)] ∧ Z.Warmed39 U.vm ∧ U.heap = h0) (fun _ _ _ _ _ => True) (fun _ U o U' => ∃ v L, o = .returned v ∧ (own_QO Z a1 a2 a3 a4 d1 d2 h0 n0) v U'.heap L ∧ FrameEnd U o U' L ({ frames := 2, cells := 0, slots := 0, locals := 24 } : Room).cells ({ frames := 2, cells := 0, slots := 0, locals := 24 } : Room).slots) := by
  refine own_body (y := (⟨"com/example/stellwerk/stellwerk/core/Occupation", "<init>", "(Ljava/lang/String;Ljava/lang/String;Ljava/lang/String;DD)V"⟩ : MethodName)) (Q := own_QO Z a1 a2 a3 a4 d1 d2 h0 n0) (rm := ({ frames := 2, cells := 0, slots := 0, locals := 24 } : Room)) (as' := #[(.ref a1), (.ref a2), (.ref a3), (.ref a4), (.double d1), (.double d2)]) (h0 := h0) (Z := Z) own_pnO ?_
  intro p e s m below meth c s₁ hx hby hml hown hnm hret hlk hZ X0 e0
  have hown : s.vm.findClass "com/example/stellwerk/stellwerk/core/Occupation" = some m.cls := hown
  rw [own_efO]
  refine own_aload_n X0 hx (hb hby dO_0) rfl rfl (q := 1) rfl ?_
  refine own_callNP X0 hx hZ rfl hown (hw _ (List.mem_of_getElem? (i := 32) rfl)) (hw _ (List.mem_of_getElem? (i := 33) rfl)) (hw _ (List.mem_of_getElem? (i := 35) rfl)) (hw _ (List.mem_of_getElem? (i := 36) rfl)) (by decide) (own_rmR l Z a0 hw [] a1 h0) (by decide) (by decide) e0 (by rw [hml]; rfl) (argsL := []) (rest := []) (lenOf own_pd3 rfl) rfl (W := 0) rfl (hb hby dO_1) (q := 4) rfl rfl rfl rfl (by decide) (by decide) ?_
  intro T1 X1 e1
  refine own_aload_n X1 hx (hb hby dO_4) rfl rfl (q := 5) rfl ?_
  refine own_aload_n X1 hx (hb hby dO_5) rfl rfl (q := 6) rfl ?_
  refine own_putF X1 hx hZ hown (hw _ (List.mem_of_getElem? (i := 38) rfl)) e1 F0 E (Or.inr ⟨(hw _ (List.mem_of_getElem? (i := 39) rfl)), rfl, hnm⟩) (hw _ (List.mem_of_getElem? (i := 27) rfl)) (ft := (.object "java/lang/String")) (by decide) rfl rfl (hb hby dO_6) (Fr.nil n0) ha (q := 9) rfl ?_
  intro T2 h2_ L2 X2 N2 e2 W2
  have K2 := Keep.of_wr W2
  have E_2 := E.wr W2
  have F0_2 := F0.same W2
  have F1_2 := F1.other W2 (Or.inr (slot_ne (Or.inr (hw _ (List.mem_of_getElem? (i := 41) rfl))) (Or.inr (hw _ (List.mem_of_getElem? (i := 39) rfl))) (by decide) (t := (.object "java/lang/String")) (t' := (.object "java/lang/String")) (by decide) (by decide)))
  have F2_2 := F2.other W2 (Or.inr (slot_ne (Or.inr (hw _ (List.mem_of_getElem? (i := 43) rfl))) (Or.inr (hw _ (List.mem_of_getElem? (i := 39) rfl))) (by decide) (t := (.object "java/lang/String")) (t' := (.object "java/lang/String")) (by decide) (by decide)))
  have F3_2 := F3.other W2 (Or.inr (slot_ne (Or.inr (hw _ (List.mem_of_getElem? (i := 45) rfl))) (Or.inr (hw _ (List.mem_of_getElem? (i := 39) rfl))) (by decide) (t := .double) (t' := (.object "java/lang/String")) (by decide) (by decide)))
  have F4_2 := F4.other W2 (Or.inr (slot_ne (Or.inr (hw _ (List.mem_of_getElem? (i := 47) rfl))) (Or.inr (hw _ (List.mem_of_getElem? (i := 39) rfl))) (by decide) (t := .double) (t' := (.object "java/lang/String")) (by decide) (by decide)))
  have z2_ : h0.size ≤ h2_.size := Nat.le_trans (Nat.le_refl _) K2.1
  refine own_aload_n X2 hx (hb hby dO_9) rfl rfl (q := 10) rfl ?_
  refine own_aload_n X2 hx (hb hby dO_10) rfl rfl (q := 11) rfl ?_
  refine own_putF X2 hx hZ hown (hw _ (List.mem_of_getElem? (i := 40) rfl)) e2 F1_2 E_2 (Or.inr ⟨(hw _ (List.mem_of_getElem? (i := 41) rfl)), rfl, hnm⟩) (hw _ (List.mem_of_getElem? (i := 27) rfl)) (ft := (.object "java/lang/String")) (by decide) rfl rfl (hb hby dO_11) N2 ha (q := 14) rfl ?_
  intro T3 h3_ L3 X3 N3 e3 W3
  have K3 := Keep.of_wr W3
  have E_3 := E_2.wr W3
  have F0_3 := F0_2.other W3 (Or.inr (slot_ne (Or.inr (hw _ (List.mem_of_getElem? (i := 39) rfl))) (Or.inr (hw _ (List.mem_of_getElem? (i := 41) rfl))) (by decide) (t := (.object "java/lang/String")) (t' := (.object "java/lang/String")) (by decide) (by decide)))
  have F1_3 := F1_2.same W3
  have F2_3 := F2_2.other W3 (Or.inr (slot_ne (Or.inr (hw _ (List.mem_of_getElem? (i := 43) rfl))) (Or.inr (hw _ (List.mem_of_getElem? (i := 41) rfl))) (by decide) (t := (.object "java/lang/String")) (t' := (.object "java/lang/String")) (by decide) (by decide)))
  have F3_3 := F3_2.other W3 (Or.inr (slot_ne (Or.inr (hw _ (List.mem_of_getElem? (i := 45) rfl))) (Or.inr (hw _ (List.mem_of_getElem? (i := 41) rfl))) (by decide) (t := .double) (t' := (.object "java/lang/String")) (by decide) (by decide)))
  have F4_3 := F4_2.other W3 (Or.inr (slot_ne (Or.inr (hw _ (List.mem_of_getElem? (i := 47) rfl))) (Or.inr (hw _ (List.mem_of_getElem? (i := 41) rfl))) (by decide) (t := .double) (t' := (.object "java/lang/String")) (by decide) (by decide)))
  have z3_ : h0.size ≤ h3_.size := Nat.le_trans z2_ K3.1
  refine own_aload_n X3 hx (hb hby dO_14) rfl rfl (q := 15) rfl ?_
  refine own_aload_n X3 hx (hb hby dO_15) rfl rfl (q := 16) rfl ?_
  refine own_putF X3 hx hZ hown (hw _ (List.mem_of_getElem? (i := 42) rfl)) e3 F2_3 E_3 (Or.inr ⟨(hw _ (List.mem_of_getElem? (i := 43) rfl)), rfl, hnm⟩) (hw _ (List.mem_of_getElem? (i := 27) rfl)) (ft := (.object "java/lang/String")) (by decide) rfl rfl (hb hby dO_16) N3 ha (q := 19) rfl ?_
  intro T4 h4_ L4 X4 N4 e4 W4
  have K4 := Keep.of_wr W4
  have E_4 := E_3.wr W4
  have F0_4 := F0_3.other W4 (Or.inr (slot_ne (Or.inr (hw _ (List.mem_of_getElem? (i := 39) rfl))) (Or.inr (hw _ (List.mem_of_getElem? (i := 43) rfl))) (by decide) (t := (.object "java/lang/String")) (t' := (.object "java/lang/String")) (by decide) (by decide)))
  have F1_4 := F1_3.other W4 (Or.inr (slot_ne (Or.inr (hw _ (List.mem_of_getElem? (i := 41) rfl))) (Or.inr (hw _ (List.mem_of_getElem? (i := 43) rfl))) (by decide) (t := (.object "java/lang/String")) (t' := (.object "java/lang/String")) (by decide) (by decide)))
  have F2_4 := F2_3.same W4
  have F3_4 := F3_3.other W4 (Or.inr (slot_ne (Or.inr (hw _ (List.mem_of_getElem? (i := 45) rfl))) (Or.inr (hw _ (List.mem_of_getElem? (i := 43) rfl))) (by decide) (t := .double) (t' := (.object "java/lang/String")) (by decide) (by decide)))
  have F4_4 := F4_3.other W4 (Or.inr (slot_ne (Or.inr (hw _ (List.mem_of_getElem? (i := 47) rfl))) (Or.inr (hw _ (List.mem_of_getElem? (i := 43) rfl))) (by decide) (t := .double) (t' := (.object "java/lang/String")) (by decide) (by decide)))
  have z4_ : h0.size ≤ h4_.size := Nat.le_trans z3_ K4.1
  refine own_aload_n X4 hx (hb hby dO_19) rfl rfl (q := 20) rfl ?_
  refine own_dload X4 hx (hb hby dO_20) rfl (q := 22) rfl ?_
  refine own_putF X4 hx hZ hown (hw _ (List.mem_of_getElem? (i := 44) rfl)) e4 F3_4 E_4 (Or.inr ⟨(hw _ (List.mem_of_getElem? (i := 45) rfl)), rfl, hnm⟩) (hw _ (List.mem_of_getElem? (i := 27) rfl)) (ft := .double) (by decide) rfl rfl (hb hby dO_22) N4 ha (q := 25) rfl ?_
  intro T5 h5_ L5 X5 N5 e5 W5
  have K5 := Keep.of_wr W5
  have E_5 := E_4.wr W5
  have F0_5 := F0_4.other W5 (Or.inr (slot_ne (Or.inr (hw _ (List.mem_of_getElem? (i := 39) rfl))) (Or.inr (hw _ (List.mem_of_getElem? (i := 45) rfl))) (by decide) (t := (.object "java/lang/String")) (t' := .double) (by decide) (by decide)))
  have F1_5 := F1_4.other W5 (Or.inr (slot_ne (Or.inr (hw _ (List.mem_of_getElem? (i := 41) rfl))) (Or.inr (hw _ (List.mem_of_getElem? (i := 45) rfl))) (by decide) (t := (.object "java/lang/String")) (t' := .double) (by decide) (by decide)))
  have F2_5 := F2_4.other W5 (Or.inr (slot_ne (Or.inr (hw _ (List.mem_of_getElem? (i := 43) rfl))) (Or.inr (hw _ (List.mem_of_getElem? (i := 45) rfl))) (by decide) (t := (.object "java/lang/String")) (t' := .double) (by decide) (by decide)))
  have F3_5 := F3_4.same W5
  have F4_5 := F4_4.other W5 (Or.inr (slot_ne (Or.inr (hw _ (List.mem_of_getElem? (i := 47) rfl))) (Or.inr (hw _ (List.mem_of_getElem? (i := 45) rfl))) (by decide) (t := .double) (t' := .double) (by decide) (by decide)))
  have z5_ : h0.size ≤ h5_.size := Nat.le_trans z4_ K5.1
  refine own_aload_n X5 hx (hb hby dO_25) rfl rfl (q := 26) rfl ?_
  refine own_dload X5 hx (hb hby dO_26) rfl (q := 28) rfl ?_
  refine own_putF X5 hx hZ hown (hw _ (List.mem_of_getElem? (i := 46) rfl)) e5 F4_5 E_5 (Or.inr ⟨(hw _ (List.mem_of_getElem? (i := 47) rfl)), rfl, hnm⟩) (hw _ (List.mem_of_getElem? (i := 27) rfl)) (ft := .double) (by decide) rfl rfl (hb hby dO_28) N5 ha (q := 31) rfl ?_
  intro T6 h6_ L6 X6 N6 e6 W6
  have K6 := Keep.of_wr W6
  have E_6 := E_5.wr W6
  have F0_6 := F0_5.other W6 (Or.inr (slot_ne (Or.inr (hw _ (List.mem_of_getElem? (i := 39) rfl))) (Or.inr (hw _ (List.mem_of_getElem? (i := 47) rfl))) (by decide) (t := (.object "java/lang/String")) (t' := .double) (by decide) (by decide)))
  have F1_6 := F1_5.other W6 (Or.inr (slot_ne (Or.inr (hw _ (List.mem_of_getElem? (i := 41) rfl))) (Or.inr (hw _ (List.mem_of_getElem? (i := 47) rfl))) (by decide) (t := (.object "java/lang/String")) (t' := .double) (by decide) (by decide)))
  have F2_6 := F2_5.other W6 (Or.inr (slot_ne (Or.inr (hw _ (List.mem_of_getElem? (i := 43) rfl))) (Or.inr (hw _ (List.mem_of_getElem? (i := 47) rfl))) (by decide) (t := (.object "java/lang/String")) (t' := .double) (by decide) (by decide)))
  have F3_6 := F3_5.other W6 (Or.inr (slot_ne (Or.inr (hw _ (List.mem_of_getElem? (i := 45) rfl))) (Or.inr (hw _ (List.mem_of_getElem? (i := 47) rfl))) (by decide) (t := .double) (t' := .double) (by decide) (by decide)))
  have F4_6 := F4_5.same W6
  have z6_ : h0.size ≤ h6_.size := Nat.le_trans z5_ K6.1
  have KK : Keep h0 h6_ [a1] := ((((((Keep.refl _ _).wr W2 (Or.inl (List.mem_of_getElem? (i := 0) rfl))).wr W3 (Or.inl (List.mem_of_getElem? (i := 0) rfl))).wr W4 (Or.inl (List.mem_of_getElem? (i := 0) rfl))).wr W5 (Or.inl (List.mem_of_getElem? (i := 0) rfl))).wr W6 (Or.inl (List.mem_of_getElem? (i := 0) rfl)))
  exact own_retV X6 hx hret hlk (hb hby dO_31) (by decide) (by decide) (by rw [e6]; unfold own_QO; exact ⟨rfl, N6, KK, E_6, F4_6⟩)
theorem dL_0 : decode prog_14_method_4_code 0 = .ok (.aload_n 0, 1) := by decide +kernel
theorem dL_1 : decode prog_14_method_4_code 1 = .ok (.getfield 23, 3) := by decide +kernel
theorem dL_4 : decode prog_14_method_4_code 4 = .ok (.ldc2_w 36, 3) := by decide +kernel
theorem dL_7 : decode prog_14_method_4_code 7 = .ok (.dcmp .l, 1) := by decide +kernel
theorem dL_8 : decode prog_14_method_4_code 8 = .ok (.ifCond .eq 7, 3) := by decide +kernel
theorem dL_11 : decode prog_14_method_4_code 11 = .ok (.iconst 1, 1) := by decide +kernel
theorem dL_12 : decode prog_14_method_4_code 12 = .ok (.goto 4, 3) := by decide +kernel
theorem dL_15 : decode prog_14_method_4_code 15 = .ok (.iconst 0, 1) := by decide +kernel
theorem dL_16 : decode prog_14_method_4_code 16 = .ok (.ireturn, 1) := by decide +kernel
theorem own_pnL : plainName "com/example/stellwerk/stellwerk/core/Occupation" = true := by first | (simp [plainName, overriddenIn]; done) | decide +kernel
theorem own_efL (m : MethodId) (a1 : Addr) : entryFrame m #[(.ref a1)] 1 = mkF m 0 #[.val (.ref a1)] [] := by first | (simp [entryFrame, mkF, argsToLocals, Value.category, maxLocals]; done) | rfl
set_option maxRecDepth 65536 in
set_option maxHeartbeats 40000000 in
theorem own_rmL (l : Launch) (Z : State) (a0 : Array Value) (hw : ∀ d ∈ tables_1, d.before a0 Z = true) (ws : List Jvm.Cond) (a1 : Addr) (d2 : UInt64) (h0 : Heap) (F : Fld Z h0 a1 "com/example/stellwerk/stellwerk/core/Occupation" "releasedAt" "D" (.double d2)) (hd2 : d2 = (9218868437227405312 : UInt64) ∨ Jvm.Free.Fl.Fin64 d2) :
    MetFree l (⟨"com/example/stellwerk/stellwerk/core/Occupation", "released", "()Z"⟩ : MethodName) (head1 (Jvm.Cond.code (⟨"com/example/stellwerk/stellwerk/core/Occupation", "released", "()Z"⟩ : MethodName) prog_14_method_4_code 1 (some .boolean) :: ws) ({ frames := 0, cells := 0, slots := 0, locals := 0 } : Room)) (fun a U => a = #[(.ref a1)] ∧ Z.Warmed39 U.vm ∧ U.heap = h0) (fun _ _ _ _ _ => True) (fun _ U o U' => ∃ v L, o = .returned v ∧ (fun v h L => (∃ w, v = some w ∧ (fun w => ∃ z : Int32, w = .int z ∧ ((d2 = (9218868437227405312 : UInt64) ∧ z.toInt = 0) ∨ (Jvm.Free.Fl.Fin64 d2 ∧ z.toInt = 1))) w) ∧ L = [] ∧ h = h0) v U'.heap L ∧ FrameEnd U o U' L ({ frames := 0, cells := 0, slots := 0, locals := 0 } : Room).cells ({ frames := 0, cells := 0, slots := 0, locals := 0 } : Room).slots) := by
  refine own_body (y := (⟨"com/example/stellwerk/stellwerk/core/Occupation", "released", "()Z"⟩ : MethodName)) (Q := fun v h L => (∃ w, v = some w ∧ (fun w => ∃ z : Int32, w = .int z ∧ ((d2 = (9218868437227405312 : UInt64) ∧ z.toInt = 0) ∨ (Jvm.Free.Fl.Fin64 d2 ∧ z.toInt = 1))) w) ∧ L = [] ∧ h = h0) (rm := ({ frames := 0, cells := 0, slots := 0, locals := 0 } : Room)) (as' := #[(.ref a1)]) (h0 := h0) (Z := Z) own_pnL ?_
  intro p e s m below meth c s₁ hx hby hml hown hnm hret hlk hZ X0 e0
  have hown : s.vm.findClass "com/example/stellwerk/stellwerk/core/Occupation" = some m.cls := hown
  rw [own_efL]
  refine own_aload_n X0 hx (hb hby dL_0) rfl rfl (q := 1) rfl ?_
  refine own_getF X0 hx hZ hown (hw _ (List.mem_of_getElem? (i := 46) rfl)) e0 F (hb hby dL_1) (q := 4) rfl ?_
  intro T1 X1 e1
  refine own_ldcD X1 hx hZ hown (hw _ (List.mem_of_getElem? (i := 53) rfl)) (hb hby dL_4) (q := 7) rfl ?_
  obtain ⟨cv, hcv, hc2⟩ := own_cmpinf hd2
  refine own_dcmp X1 hx (hb hby dL_7) (v := cv) (hcv) (q := 8) rfl ?_
  refine own_if X1 hx (hb hby dL_8) (by decide) (q := 15) rfl (q' := 11) rfl (own_z_eq _) (fun h8 => ?_) (fun h8 => ?_)
  · replace h8 : cv.toInt = 0 := h8
    refine own_iconst X1 hx (hb hby dL_15) (v := (0 : Int32)) rfl (q := 16) rfl ?_
    exact own_retN X1 hx (t := .boolean) hret hlk (by simp) (hb hby dL_16) (by decide) (by decide) (w := (0 : Int32)) rfl ⟨⟨_, rfl, ⟨_, rfl, by have hc_ : (0 : Int32).toInt = 0 := rfl; rcases hc2 with ⟨q, r⟩ | ⟨q, r⟩ <;> first | (exfalso; omega) | exact Or.inl ⟨q, by omega⟩ | exact Or.inr ⟨q, by omega⟩⟩⟩, rfl, e1⟩
  · replace h8 : ¬ (cv.toInt = 0) := h8
    refine own_iconst X1 hx (hb hby dL_11) (v := (1 : Int32)) rfl (q := 12) rfl ?_
    refine own_goto X1 hx (hb hby dL_12) (by decide) (q := 16) rfl ?_
    exact own_retN X1 hx (t := .boolean) hret hlk (by simp) (hb hby dL_16) (by decide) (by decide) (w := (1 : Int32)) rfl ⟨⟨_, rfl, ⟨_, rfl, by have hc_ : (1 : Int32).toInt = 1 := rfl; rcases hc2 with ⟨q, r⟩ | ⟨q, r⟩ <;> first | (exfalso; omega) | exact Or.inl ⟨q, by omega⟩ | exact Or.inr ⟨q, by omega⟩⟩⟩, rfl, e1⟩
theorem own_pn0 : plainName "com/example/stellwerk/stellwerk/core/OccupationReleasedPinLaw" = true := by first | (simp [plainName, overriddenIn]; done) | decide +kernel
theorem own_ef0 (m : MethodId) (p1 : Int32) (p2 : Int32) (p3 : Int32) (p4 : Int32) : entryFrame m #[(.int p1), (.int p2), (.int p3), (.int p4)] maxLocals = mkF m 0 #[.val (.int p1), .val (.int p2), .val (.int p3), .val (.int p4), .unset, .unset, .unset, .unset, .unset, .unset, .unset, .unset] [] := by first | (simp [entryFrame, mkF, argsToLocals, Value.category, maxLocals]; done) | rfl
set_option maxRecDepth 65536 in
set_option maxHeartbeats 40000000 in
theorem own_rm0 (l : Launch) (Z : State) (a0 : Array Value) (hw : ∀ d ∈ tables_1, d.before a0 Z = true) (ws : List Jvm.Cond) (p1 : Int32) (p2 : Int32) (p3 : Int32) (p4 : Int32) (G1 : Int32) (h0 : Heap) (ST : Sta Z h0 "java/lang/String" "COMPACT_STRINGS" "Z" (.int G1)) (hG : G1.toInt ≠ 0) :
    MetFree l x (head1 (Jvm.Cond.code x code maxLocals ret :: ws) room_1) (fun a U => a = #[(.int p1), (.int p2), (.int p3), (.int p4)] ∧ Z.Warmed39 U.vm ∧ U.heap = h0) (fun _ _ _ _ _ => True) (fun _ U o U' => ∃ v L, o = .returned v ∧ (fun v h L => v = some (.int 1) ∧ Fr h0.size L) v U'.heap L ∧ FrameEnd U o U' L room_1.cells room_1.slots) := by
  refine own_body (y := x) (Q := fun v h L => v = some (.int 1) ∧ Fr h0.size L) (rm := room_1) (as' := #[(.int p1), (.int p2), (.int p3), (.int p4)]) (h0 := h0) (Z := Z) own_pn0 ?_
  intro p e s m below meth c s₁ hx hby hml hown hnm hret hlk hZ X0 e0
  have hown : s.vm.findClass "com/example/stellwerk/stellwerk/core/OccupationReleasedPinLaw" = some m.cls := hown
  rw [own_ef0]
  refine own_iload_n X0 hx (hb hby at_0) rfl (q := 1) rfl ?_
  refine own_iconst X0 hx (hb hby at_1) (v := (1 : Int32)) rfl (q := 2) rfl ?_
  refine own_iand X0 hx (hb hby at_2) (q := 3) rfl ?_
  have J11_1 : ∀ (nv : Int32) (g11_0 : nv.toInt = 0 ∨ nv.toInt = 1), own_Go p e below s room_1.cells room_1.slots (fun v h L => v = some (.int 1) ∧ Fr h0.size L) (s₁.setTop (mkF m 11 #[.val (.int p1), .val (.int p2), .val (.int p3), .val (.int p4), .unset, .unset, .unset, .unset, .unset, .unset, .unset, .unset] [(.int nv)])) := by
    intro nv g11_0
    refine own_istore X0 hx (hb hby at_11) (l' := #[.val (.int p1), .val (.int p2), .val (.int p3), .val (.int p4), .val (.int nv), .unset, .unset, .unset, .unset, .unset, .unset, .unset]) rfl (q := 13) rfl ?_
    refine own_iload X0 hx (hb hby at_13) rfl (q := 15) rfl ?_
    have J30_2 : ∀ (ra : UInt64) (g30_0 : (nv.toInt ≠ 0 ∧ ra = (9218868437227405312 : UInt64)) ∨ (nv.toInt = 0 ∧ Jvm.Free.Fl.Fin64 ra)), own_Go p e below s room_1.cells room_1.slots (fun v h L => v = some (.int 1) ∧ Fr h0.size L) (s₁.setTop (mkF m 30 #[.val (.int p1), .val (.int p2), .val (.int p3), .val (.int p4), .val (.int nv), .val (.double ra), .second, .unset, .unset, .unset, .unset, .unset] [])) := by
      intro ra g30_0
      refine own_iload_n X0 hx (hb hby at_30) rfl (q := 31) rfl ?_
      refine own_sipush X0 hx (hb hby at_31) (v := (255 : Int32)) rfl (q := 34) rfl ?_
      refine own_iand X0 hx (hb hby at_34) (q := 35) rfl ?_
      refine own_i2c X0 hx (hb hby at_35) (q := 36) rfl ?_
      refine own_callS X0 hx hZ hown (hw _ (List.mem_of_getElem? (i := 0) rfl)) (hw _ (List.mem_of_getElem? (i := 1) rfl)) (hw _ (List.mem_of_getElem? (i := 2) rfl)) (hw _ (List.mem_of_getElem? (i := 3) rfl)) (by decide) (own_rmV l Z a0 hw [] ((p4 &&& (255 : Int32)).toUInt32.toUInt16.toUInt32.toInt32) G1 h0 h0.size (Nat.le_refl _) ST hG (own_chr _)) (by decide) (by decide) e0 (by rw [hml]; rfl) (argsL := [(.int ((p4 &&& (255 : Int32)).toUInt32.toUInt16.toUInt32.toInt32))]) (rest := []) (lenOf own_pd4 rfl) rfl (W := 0) rfl (hb hby at_36) (q := 39) rfl rfl (by decide) (by decide) ?_
      rintro _ T3 L3 ⟨b3, rfl, o3, NL3, K3⟩ X3
      have N3 := Fr.app (Fr.nil _) NL3
      obtain ⟨h3_, e3⟩ : ∃ z, T3.heap = z := ⟨_, rfl⟩
      rw [e3] at K3
      have E3 := own_kext K3
      have ST_3 := ST.ext E3
      have z3_ : h0.size ≤ h3_.size := Nat.le_trans (Nat.le_refl _) K3.1
      obtain ⟨LL3, eL3⟩ : ∃ z, [] ++ L3 = z := ⟨_, rfl⟩
      rw [eL3] at X3 N3
      show own_Go p e below s _ _ _ (T3.setTop (mkF m 39 #[.val (.int p1), .val (.int p2), .val (.int p3), .val (.int p4), .val (.int nv), .val (.double ra), .second, .unset, .unset, .unset, .unset, .unset] [(.ref b3)]))
      refine own_astore X3 hx (hb hby at_39) rfl (l' := #[.val (.int p1), .val (.int p2), .val (.int p3), .val (.int p4), .val (.int nv), .val (.double ra), .second, .val (.ref b3), .unset, .unset, .unset, .unset]) rfl (q := 41) rfl ?_
      refine own_iload_n X3 hx (hb hby at_41) rfl (q := 42) rfl ?_
      refine own_bipush X3 hx (hb hby at_42) (v := (8 : Int32)) rfl (q := 44) rfl ?_
      refine own_iushr X3 hx (hb hby at_44) (q := 45) rfl ?_
      refine own_sipush X3 hx (hb hby at_45) (v := (255 : Int32)) rfl (q := 48) rfl ?_
      refine own_iand X3 hx (hb hby at_48) (q := 49) rfl ?_
      refine own_i2c X3 hx (hb hby at_49) (q := 50) rfl ?_
      refine own_callS X3 hx hZ hown (hw _ (List.mem_of_getElem? (i := 0) rfl)) (hw _ (List.mem_of_getElem? (i := 1) rfl)) (hw _ (List.mem_of_getElem? (i := 2) rfl)) (hw _ (List.mem_of_getElem? (i := 3) rfl)) (by decide) (own_rmV l Z a0 hw [] (((XT.ushr p4 (8 : Int32)) &&& (255 : Int32)).toUInt32.toUInt16.toUInt32.toInt32) G1 h3_ h0.size z3_ ST_3 hG (own_chr _)) (by decide) (by decide) e3 (by rw [hml]; rfl) (argsL := [(.int (((XT.ushr p4 (8 : Int32)) &&& (255 : Int32)).toUInt32.toUInt16.toUInt32.toInt32))]) (rest := []) (lenOf own_pd4 rfl) rfl (W := 0) rfl (hb hby at_50) (q := 53) rfl rfl (by decide) (by decide) ?_
      rintro _ T4 L4 ⟨b4, rfl, o4, NL4, K4⟩ X4
      have N4 := Fr.app N3 NL4
      obtain ⟨h4_, e4⟩ : ∃ z, T4.heap = z := ⟨_, rfl⟩
      rw [e4] at K4
      have E4 := own_kext K4
      have ST_4 := ST_3.ext E4
      have z4_ : h0.size ≤ h4_.size := Nat.le_trans z3_ K4.1
      obtain ⟨LL4, eL4⟩ : ∃ z, LL3 ++ L4 = z := ⟨_, rfl⟩
      rw [eL4] at X4 N4
      show own_Go p e below s _ _ _ (T4.setTop (mkF m 53 #[.val (.int p1), .val (.int p2), .val (.int p3), .val (.int p4), .val (.int nv), .val (.double ra), .second, .val (.ref b3), .unset, .unset, .unset, .unset] [(.ref b4)]))
      refine own_astore X4 hx (hb hby at_53) rfl (l' := #[.val (.int p1), .val (.int p2), .val (.int p3), .val (.int p4), .val (.int nv), .val (.double ra), .second, .val (.ref b3), .val (.ref b4), .unset, .unset, .unset]) rfl (q := 55) rfl ?_
      refine own_iload_n X4 hx (hb hby at_55) rfl (q := 56) rfl ?_
      refine own_bipush X4 hx (hb hby at_56) (v := (16 : Int32)) rfl (q := 58) rfl ?_
      refine own_iushr X4 hx (hb hby at_58) (q := 59) rfl ?_
      refine own_sipush X4 hx (hb hby at_59) (v := (255 : Int32)) rfl (q := 62) rfl ?_
      refine own_iand X4 hx (hb hby at_62) (q := 63) rfl ?_
      refine own_i2c X4 hx (hb hby at_63) (q := 64) rfl ?_
      refine own_callS X4 hx hZ hown (hw _ (List.mem_of_getElem? (i := 0) rfl)) (hw _ (List.mem_of_getElem? (i := 1) rfl)) (hw _ (List.mem_of_getElem? (i := 2) rfl)) (hw _ (List.mem_of_getElem? (i := 3) rfl)) (by decide) (own_rmV l Z a0 hw [] (((XT.ushr p4 (16 : Int32)) &&& (255 : Int32)).toUInt32.toUInt16.toUInt32.toInt32) G1 h4_ h0.size z4_ ST_4 hG (own_chr _)) (by decide) (by decide) e4 (by rw [hml]; rfl) (argsL := [(.int (((XT.ushr p4 (16 : Int32)) &&& (255 : Int32)).toUInt32.toUInt16.toUInt32.toInt32))]) (rest := []) (lenOf own_pd4 rfl) rfl (W := 0) rfl (hb hby at_64) (q := 67) rfl rfl (by decide) (by decide) ?_
      rintro _ T5 L5 ⟨b5, rfl, o5, NL5, K5⟩ X5
      have N5 := Fr.app N4 NL5
      obtain ⟨h5_, e5⟩ : ∃ z, T5.heap = z := ⟨_, rfl⟩
      rw [e5] at K5
      have E5 := own_kext K5
      have ST_5 := ST_4.ext E5
      have z5_ : h0.size ≤ h5_.size := Nat.le_trans z4_ K5.1
      obtain ⟨LL5, eL5⟩ : ∃ z, LL4 ++ L5 = z := ⟨_, rfl⟩
      rw [eL5] at X5 N5
      show own_Go p e below s _ _ _ (T5.setTop (mkF m 67 #[.val (.int p1), .val (.int p2), .val (.int p3), .val (.int p4), .val (.int nv), .val (.double ra), .second, .val (.ref b3), .val (.ref b4), .unset, .unset, .unset] [(.ref b5)]))
      refine own_astore X5 hx (hb hby at_67) rfl (l' := #[.val (.int p1), .val (.int p2), .val (.int p3), .val (.int p4), .val (.int nv), .val (.double ra), .second, .val (.ref b3), .val (.ref b4), .val (.ref b5), .unset, .unset]) rfl (q := 69) rfl ?_
      refine own_newO X5 hx hZ hown (hw _ (List.mem_of_getElem? (i := 26) rfl)) (hw _ (List.mem_of_getElem? (i := 27) rfl)) (hw _ (List.mem_of_getElem? (i := 28) rfl)) e5 (hb hby at_69) (by decide) (by decide) (q := 72) rfl ?_
      intro T6 h6_ b6 g6 X6 e6 E6 A6 D6
      have o6 : h0.size ≤ b6 := by rw [g6]; exact z5_
      have z6_ : h0.size ≤ h6_.size := Nat.le_trans z5_ E6.1
      have F6section : Fld Z h6_ b6 "com/example/stellwerk/stellwerk/core/Occupation" "section" "Ljava/lang/String;" (.null) := D6 (Or.inr (hw _ (List.mem_of_getElem? (i := 39) rfl))) (ty := (.object "java/lang/String")) (by decide)
      have F6block : Fld Z h6_ b6 "com/example/stellwerk/stellwerk/core/Occupation" "block" "Ljava/lang/String;" (.null) := D6 (Or.inr (hw _ (List.mem_of_getElem? (i := 41) rfl))) (ty := (.object "java/lang/String")) (by decide)
      have F6train : Fld Z h6_ b6 "com/example/stellwerk/stellwerk/core/Occupation" "train" "Ljava/lang/String;" (.null) := D6 (Or.inr (hw _ (List.mem_of_getElem? (i := 43) rfl))) (ty := (.object "java/lang/String")) (by decide)
      have F6reservedFrom : Fld Z h6_ b6 "com/example/stellwerk/stellwerk/core/Occupation" "reservedFrom" "D" (.double 0) := D6 (Or.inr (hw _ (List.mem_of_getElem? (i := 45) rfl))) (ty := .double) (by decide)
      have F6releasedAt : Fld Z h6_ b6 "com/example/stellwerk/stellwerk/core/Occupation" "releasedAt" "D" (.double 0) := D6 (Or.inr (hw _ (List.mem_of_getElem? (i := 47) rfl))) (ty := .double) (by decide)
      refine own_dup X6 hx (hb hby at_72) rfl (q := 73) rfl ?_
      refine own_aload X6 hx (hb hby at_73) rfl rfl (q := 75) rfl ?_
      refine own_aload X6 hx (hb hby at_75) rfl rfl (q := 77) rfl ?_
      refine own_aload X6 hx (hb hby at_77) rfl rfl (q := 79) rfl ?_
      refine own_iload_n X6 hx (hb hby at_79) rfl (q := 80) rfl ?_
      refine own_i2d X6 hx (hb hby at_80) (q := 81) rfl ?_
      refine own_dload X6 hx (hb hby at_81) rfl (q := 83) rfl ?_
      refine own_callN X6 hx hZ rfl hown (hw _ (List.mem_of_getElem? (i := 29) rfl)) (hw _ (List.mem_of_getElem? (i := 30) rfl)) (hw _ (List.mem_of_getElem? (i := 28) rfl)) (hw _ (List.mem_of_getElem? (i := 31) rfl)) (by decide) (own_rmO l Z a0 hw [] b6 b3 b4 b5 (FP.i2d p2) ra h6_ h0.size o6 A6 F6section F6block F6train F6reservedFrom F6releasedAt) (by decide) (by decide) e6 (by rw [hml]; rfl) (argsL := [(.ref b3), (.ref b4), (.ref b5), (.double (FP.i2d p2)), (.double ra)]) (rest := [(.ref b6)]) (lenOf own_pd5 rfl) rfl (W := 1) rfl (hb hby at_83) (q := 86) rfl rfl (by decide) (by decide) ?_
      rintro _ T7 L7 ⟨rfl, NL7, K7, A7, FR7⟩ X7
      have N7 := Fr.app N5 NL7
      obtain ⟨h7_, e7⟩ : ∃ z, T7.heap = z := ⟨_, rfl⟩
      rw [e7] at K7 A7 FR7
      have z7_ : h0.size ≤ h7_.size := Nat.le_trans z6_ K7.1
      obtain ⟨LL7, eL7⟩ : ∃ z, LL5 ++ L7 = z := ⟨_, rfl⟩
      rw [eL7] at X7 N7
      show own_Go p e below s _ _ _ (T7.setTop (mkF m 86 #[.val (.int p1), .val (.int p2), .val (.int p3), .val (.int p4), .val (.int nv), .val (.double ra), .second, .val (.ref b3), .val (.ref b4), .val (.ref b5), .unset, .unset] [(.ref b6)]))
      refine own_astore X7 hx (hb hby at_86) rfl (l' := #[.val (.int p1), .val (.int p2), .val (.int p3), .val (.int p4), .val (.int nv), .val (.double ra), .second, .val (.ref b3), .val (.ref b4), .val (.ref b5), .val (.ref b6), .unset]) rfl (q := 88) rfl ?_
      refine own_iload X7 hx (hb hby at_88) rfl (q := 90) rfl ?_
      have J98_8 : ∀ (ex : Int32) (g98_0 : (((nv.toInt = 0) ∧ ex.toInt = 1) ∨ (¬ (nv.toInt = 0) ∧ ex.toInt = 0))), own_Go p e below s room_1.cells room_1.slots (fun v h L => v = some (.int 1) ∧ Fr h0.size L) (T7.setTop (mkF m 98 #[.val (.int p1), .val (.int p2), .val (.int p3), .val (.int p4), .val (.int nv), .val (.double ra), .second, .val (.ref b3), .val (.ref b4), .val (.ref b5), .val (.ref b6), .unset] [(.int ex)])) := by
        intro ex g98_0
        refine own_istore X7 hx (hb hby at_98) (l' := #[.val (.int p1), .val (.int p2), .val (.int p3), .val (.int p4), .val (.int nv), .val (.double ra), .second, .val (.ref b3), .val (.ref b4), .val (.ref b5), .val (.ref b6), .val (.int ex)]) rfl (q := 100) rfl ?_
        refine own_aload X7 hx (hb hby at_100) rfl rfl (q := 102) rfl ?_
        refine own_callVP X7 hx hZ hown (hw _ (List.mem_of_getElem? (i := 48) rfl)) (hw _ (List.mem_of_getElem? (i := 49) rfl)) (hw _ (List.mem_of_getElem? (i := 51) rfl)) (hw _ (List.mem_of_getElem? (i := 50) rfl)) (hw _ (List.mem_of_getElem? (i := 52) rfl)) (hw _ (List.mem_of_getElem? (i := 28) rfl)) (by decide) (own_rmL l Z a0 hw [] b6 ra h7_ FR7 (by rcases g30_0 with q | q; exact Or.inl q.2; exact Or.inr q.2)) A7 (by decide) (by decide) e7 (by rw [hml]; rfl) (argsL := []) (rest := []) (lenOf own_pd6 rfl) rfl (W := 0) rfl (hb hby at_102) (q := 105) rfl rfl rfl rfl (by decide) (by decide) ?_
        rintro _ T9 ⟨z9, rfl, hz9⟩ X9 e9
        have hzR := hz9
        refine own_iload X9 hx (hb hby at_105) rfl (q := 107) rfl ?_
        refine own_icmp X9 hx (hb hby at_107) (by decide) (q := 114) rfl (q' := 110) rfl (own_h_ne _ _) (fun h107 => ?_) (fun h107 => ?_)
        · replace h107 : z9.toInt ≠ ex.toInt := h107
          exfalso; rcases g30_0 with ⟨q1, q2⟩ | ⟨q1, q2⟩ <;> rcases hzR with ⟨r1, r2⟩ | ⟨r1, r2⟩ <;> first | omega | exact own_inf_nf (q2 ▸ r1) | exact own_inf_nf (r1 ▸ q2)
        · replace h107 : ¬ (z9.toInt ≠ ex.toInt) := h107
          refine own_iconst X9 hx (hb hby at_110) (v := (1 : Int32)) rfl (q := 111) rfl ?_
          refine own_goto X9 hx (hb hby at_111) (by decide) (q := 115) rfl ?_
          exact own_retN X9 hx (t := .boolean) hret hlk (by simp) (hb hby at_115) (by decide) (by decide) (w := 1) rfl ⟨rfl, N7⟩
      refine own_if X7 hx (hb hby at_90) (by decide) (q := 97) rfl (q' := 93) rfl (own_z_ne _) (fun h90 => ?_) (fun h90 => ?_)
      · replace h90 : nv.toInt ≠ 0 := h90
        refine own_iconst X7 hx (hb hby at_97) (v := (0 : Int32)) rfl (q := 98) rfl ?_
        exact J98_8 (0 : Int32) (by have hc_0 : (0 : Int32).toInt = 0 := rfl; omega)
      · replace h90 : ¬ (nv.toInt ≠ 0) := h90
        refine own_iconst X7 hx (hb hby at_93) (v := (1 : Int32)) rfl (q := 94) rfl ?_
        refine own_goto X7 hx (hb hby at_94) (by decide) (q := 98) rfl ?_
        exact J98_8 (1 : Int32) (by have hc_0 : (1 : Int32).toInt = 1 := rfl; omega)
    refine own_if X0 hx (hb hby at_15) (by decide) (q := 26) rfl (q' := 18) rfl (own_z_eq _) (fun h15 => ?_) (fun h15 => ?_)
    · replace h15 : nv.toInt = 0 := h15
      refine own_iload_n X0 hx (hb hby at_26) rfl (q := 27) rfl ?_
      refine own_i2d X0 hx (hb hby at_27) (q := 28) rfl ?_
      refine own_dstore X0 hx (hb hby at_28) (l' := #[.val (.int p1), .val (.int p2), .val (.int p3), .val (.int p4), .val (.int nv), .val (.double (FP.i2d p1)), .second, .unset, .unset, .unset, .unset, .unset]) rfl (q := 30) rfl ?_
      exact J30_2 (FP.i2d p1) (by first | exact Or.inl ⟨by omega, rfl⟩ | exact Or.inr ⟨by omega, own_i2d_fin _⟩)
    · replace h15 : ¬ (nv.toInt = 0) := h15
      refine own_ldcD X0 hx hZ hown (hw _ (List.mem_of_getElem? (i := 54) rfl)) (hb hby at_18) (q := 21) rfl ?_
      refine own_dstore X0 hx (hb hby at_21) (l' := #[.val (.int p1), .val (.int p2), .val (.int p3), .val (.int p4), .val (.int nv), .val (.double (9218868437227405312 : UInt64)), .second, .unset, .unset, .unset, .unset, .unset]) rfl (q := 23) rfl ?_
      refine own_goto X0 hx (hb hby at_23) (by decide) (q := 30) rfl ?_
      exact J30_2 (9218868437227405312 : UInt64) (by first | exact Or.inl ⟨by omega, rfl⟩ | exact Or.inr ⟨by omega, own_i2d_fin _⟩)
  refine own_if X0 hx (hb hby at_3) (by decide) (q := 10) rfl (q' := 6) rfl (own_z_eq _) (fun h3 => ?_) (fun h3 => ?_)
  · replace h3 : (p3 &&& (1 : Int32)).toInt = 0 := h3
    refine own_iconst X0 hx (hb hby at_10) (v := (0 : Int32)) rfl (q := 11) rfl ?_
    exact J11_1 (0 : Int32) (by have hc_0 : (0 : Int32).toInt = 0 := rfl; omega)
  · replace h3 : ¬ ((p3 &&& (1 : Int32)).toInt = 0) := h3
    refine own_iconst X0 hx (hb hby at_6) (v := (1 : Int32)) rfl (q := 7) rfl ?_
    refine own_goto X0 hx (hb hby at_7) (by decide) (q := 11) rfl ?_
    exact J11_1 (1 : Int32) (by have hc_0 : (1 : Int32).toInt = 1 := rfl; omega)
set_option maxRecDepth 65536 in
set_option maxHeartbeats 40000000 in
theorem own_comes {Post : Tables → Env → Array Value → State → Outcome → State → Prop} (hpost : ∀ tb e args s v u, (limb_1_1.after args s (.returned v) u = true ∧ limb_1_2.after args s (.returned v) u = true ∧ True) → FrameEnd s (.returned v) u (Jvm.fieldLocs frame_1_writes args s ++ Jvm.arrayLocs frame_1_arrays args s ++ Jvm.staticLocs frame_1_statics s) 24 128 → Post tb e args s (.returned v) u) :
    ArmFor flags0 classFile x code maxLocals ret World_1 tables_1 room_1 Calls_1 rest_1 Pre_1 Post := by
  intro l hfl _ _ p e ha hc hk s m args below hf hA hF happ hP
  obtain ⟨hcalls, hrest, hpre⟩ := hP
  obtain ⟨-, -, -, hnamed, -, -, -, hat⟩ := (Spec.applies_iff hf).mp happ
  obtain ⟨hg, hn⟩ := and_e (Cond.before_iff.mp (show (Jvm.Cond.and given_1 narrow_1).before args s = true from hpre))
  obtain ⟨hcount, k0⟩ := and_e hg
  obtain ⟨w0, w1, w2, w3, rfl⟩ : ∃ w0 w1 w2 w3 : Value, args = #[w0, w1, w2, w3] := by
    have hs : args.size = 4 := by simpa [Cond.value, given_1] using hcount
    obtain ⟨L⟩ := args
    match L, hs with
    | [w0, w1, w2, w3], _ => exact ⟨w0, w1, w2, w3, rfl⟩
  have hw := fun d (hd : d ∈ tables_1) => atoms_spec (ws := Jvm.Cond.code x code maxLocals ret :: tables_1) hat d (List.mem_cons_of_mem _ hd)
  have hfit : Fit s := fun {y c} hc i hi => by
    obtain ⟨ha, rfl⟩ := Array.getElem?_eq_some_iff.mp hc
    have q := List.all_eq_true.mp ((Array.all_eq_true_iff_forall_mem.mp hF) _ (Array.getElem_mem ha)) i (List.mem_range.mpr hi)
    simpa [Array.getElem?_eq_getElem hi] using q
  obtain ⟨j0, k1⟩ := and_e k0
  obtain ⟨i0, e0⟩ := is_v j0
  obtain rfl : w0 = (.int i0) := Option.some.inj e0
  obtain ⟨j1, k2⟩ := and_e k1
  obtain ⟨i1, e1⟩ := is_v j1
  obtain rfl : w1 = (.int i1) := Option.some.inj e1
  obtain ⟨j2, k3⟩ := and_e k2
  obtain ⟨i2, e2⟩ := is_v j2
  obtain rfl : w2 = (.int i2) := Option.some.inj e2
  have j3 := k3
  obtain ⟨i3, e3⟩ := is_v j3
  obtain rfl : w3 = (.int i3) := Option.some.inj e3
  obtain ⟨hsets, hown0⟩ := atoms_of _ (rest_1_c_eq ▸ (show rest_1_c.before _ s = true from hrest))
  have n5 := not_v (Cond.before_iff.mp (hsets _ (List.mem_of_getElem? (i := 2) rfl)))
  obtain ⟨G1, eG⟩ := is_v (Cond.before_iff.mp (hsets _ (List.mem_of_getElem? (i := 1) rfl)))
  have ST : Sta s s.heap "java/lang/String" "COMPACT_STRINGS" "Z" (.int G1) := Sta.start eG (Or.inl (hsets _ (List.mem_of_getElem? (i := 0) rfl)))
  have hG0 : ¬ (G1 = (0 : Int32)) := gotF (Cond.eq_ints eG (Term.int_eval (0))) n5
  have hG : G1.toInt ≠ 0 := fun q => hG0 (Int32.toInt_inj.mp q)
  obtain ⟨n, o, h1, h2, h3, _, L, rfl, ⟨rfl, N⟩, hq⟩ := own_rm0 l s _ hw tables_1 i0 i1 i2 i3 G1 s.heap ST hG p e ha hc hk s m _ below hf ((Spec.applies_iff_loose hf).mp happ).1 ⟨rfl, State.Warmed39.refl s, rfl⟩ trivial
  refine ⟨n, _, h1, h2, h3, hpost _ _ _ _ _ _ ⟨Cond.after_iff.mpr rfl, Cond.after_iff.mpr (eq_i res_at (Term.int_eval (1)) rfl), trivial⟩ ⟨hq.1, hq.2.1, (hq.2.2.sift fun y hy => Or.inr (N y hy)).mono (by decide) (by decide)⟩⟩
theorem main_1_1 : Claimed_1_1 := own_comes fun _ _ _ _ _ _ h hF => ⟨h.1, hF⟩
theorem main_1_2 : Claimed_1_2 := own_comes fun _ _ _ _ _ _ h hF => ⟨h.2.1, hF⟩
end Jvm.Pilot.@@N@@
namespace Jvm.Pilot.@@N@@
open Jvm Jvm.ClassFile Sem Op Lib Jvm.Free Jvm.Stand Jvm.Pilot.@@N@@.Jvm.D
/-! MADE BY PROGRAM (witnessworld.py) out of the Statement's table words and the real class files: 18 classes; the members and pool entries that the words name. The judged class is class 1, her method 1. -/
namespace start1
open Jvm.ClassFile
def u (s : String) : CpInfo := .utf8 (stringToUtf16 s)
/-- a pool by its gaps: so many unusable entries, then the entry; so many at the end -/
def gap : Nat → List CpInfo → List CpInfo
  | 0, r => r
  | n + 1, r => .unusable :: gap n r
def poolList (es : List (Nat × CpInfo)) (last : Nat) : List CpInfo := es.foldr (fun e r => gap e.1 (e.2 :: r)) (gap last [])
def pool (es : List (Nat × CpInfo)) (last : Nat) : Array CpInfo := ⟨poolList es last⟩
def fileOf (pool : Array CpInfo) (this : Nat) (attrs : Array Attribute := #[]) (ms : Array MethodInfo := #[]) (fl : Nat := 33) (sup : Nat := 0) (ifs : Array Nat := #[]) (fds : Array FieldInfo := #[]) : ClassFile where
  minorVersion := 0
  majorVersion := 65
  constantPool := pool
  accessFlags := fl
  thisClass := this
  superClass := sup
  interfaces := ifs
  fields := fds
  methods := ms
  attributes := attrs
def plain (name : String) (sup : Option ClassId) : Class where
  name := name
  kind := .ordinary
  loader := none
  accessFlags := 33
  super := sup
  interfaces := #[]
  cf := none
  fields := #[]
  methods := #[]
  instanceTypes := #[]
  staticTypes := #[]
  resolved := #[]
  callSites := []
  init := .initialized
  statics := none
  mirror := none

def pool0 : Array CpInfo := pool [(5, u "<init>"), (0, u "()V"), (1, .class_ 10), (1, u "java/lang/Object")] 113

def k0c0 : Code := { maxStack := 0, maxLocals := 1, code := object_method_1_code, exceptionTable := #[], attributes := #[] }
def k0m0 : Method := { name := "<init>", desc := "()V", sig := { parameters := [], returnType := none }, accessFlags := 1, code := some k0c0 }
/-- java/lang/Object -/
def k0 : Class := { plain "java/lang/Object" none with
  accessFlags := 33
  interfaces := #[]
  cf := some (fileOf pool0 8 #[] #[{ accessFlags := 1, nameIndex := 5, descriptorIndex := 6, attributes := #[] }] 33 0 #[] #[])
  fields := #[]
  methods := #[k0m0]
  instanceTypes := #[]
  staticTypes := #[]
  resolved := Array.replicate 124 none
  statics := none }

def pool1 : Array CpInfo := pool [(2, .class_ 4), (1, u "java/lang/Object"), (0, u "<init>"), (0, u "()V"), (2, .double 9218868437227405312), (1, .methodref 12 13), (0, .class_ 14), (0, .nameAndType 15 16), (0, u "java/lang/String"), (0, u "valueOf"), (0, u "(C)Ljava/lang/String;"), (0, .class_ 18), (0, u "com/example/stellwerk/stellwerk/core/Occupation"), (0, .methodref 17 20), (0, .nameAndType 5 21), (0, u "(Ljava/lang/String;Ljava/lang/String;Ljava/lang/String;DD)V"), (0, .methodref 17 23), (0, .nameAndType 24 25), (0, u "released"), (0, u "()Z"), (0, .class_ 27), (0, u "com/example/stellwerk/stellwerk/core/OccupationReleasedPinLaw"), (2, u "law"), (0, u "(IIII)Z")] 3

def k1m0 : Method := { name := "<init>", desc := "()V", sig := { parameters := [], returnType := none }, accessFlags := 1, code := none }
def k1c1 : Code := { maxStack := 9, maxLocals := 12, code := code, exceptionTable := #[], attributes := #[] }
def k1m1 : Method := { name := "law", desc := "(IIII)Z", sig := { parameters := [.int, .int, .int, .int], returnType := some .boolean }, accessFlags := 9, code := some k1c1 }
/-- com/example/stellwerk/stellwerk/core/OccupationReleasedPinLaw -/
def k1 : Class := { plain "com/example/stellwerk/stellwerk/core/OccupationReleasedPinLaw" (some 0) with
  accessFlags := 49
  interfaces := #[]
  cf := some (fileOf pool1 26 #[] #[{ accessFlags := 1, nameIndex := 5, descriptorIndex := 6, attributes := #[] }, { accessFlags := 9, nameIndex := 30, descriptorIndex := 31, attributes := #[] }] 49 2 #[] #[])
  fields := #[]
  methods := #[k1m0, k1m1]
  instanceTypes := #[]
  staticTypes := #[]
  resolved := Array.replicate 35 none
  statics := none }

def pool2 : Array CpInfo := pool [(1, .class_ 2), (0, u "java/io/Serializable"), (0, .class_ 4), (0, u "java/lang/Object")] 2

/-- java/io/Serializable -/
def k2 : Class := { plain "java/io/Serializable" (some 0) with
  accessFlags := 1537
  interfaces := #[]
  cf := some (fileOf pool2 1 #[] #[] 1537 3 #[] #[])
  fields := #[]
  methods := #[]
  instanceTypes := #[]
  staticTypes := #[]
  resolved := Array.replicate 7 none
  statics := none }

def pool3 : Array CpInfo := pool [(1, .class_ 2), (0, u "java/lang/Comparable"), (0, .class_ 4), (0, u "java/lang/Object")] 7

/-- java/lang/Comparable -/
def k3 : Class := { plain "java/lang/Comparable" (some 0) with
  accessFlags := 1537
  interfaces := #[]
  cf := some (fileOf pool3 1 #[] #[] 1537 3 #[] #[])
  fields := #[]
  methods := #[]
  instanceTypes := #[]
  staticTypes := #[]
  resolved := Array.replicate 12 none
  statics := none }

def pool4 : Array CpInfo := pool [(2, .class_ 4), (1, u "java/lang/CharSequence"), (42, .class_ 48), (0, u "java/lang/CharSequence$1CodePointIterator"), (10, .class_ 60), (0, u "java/lang/CharSequence$1CharIterator"), (5, .class_ 67), (0, u "java/lang/Object")] 63

/-- java/lang/CharSequence -/
def k4 : Class := { plain "java/lang/CharSequence" (some 0) with
  accessFlags := 1537
  interfaces := #[]
  cf := some (fileOf pool4 2 #[.nestMembers #[47, 59]] #[] 1537 66 #[] #[])
  fields := #[]
  methods := #[]
  instanceTypes := #[]
  staticTypes := #[]
  resolved := Array.replicate 131 none
  statics := none }

def pool5 : Array CpInfo := pool [(1, .class_ 2), (0, u "java/lang/constant/Constable"), (0, .class_ 4), (0, u "java/lang/Object")] 6

/-- java/lang/constant/Constable -/
def k5 : Class := { plain "java/lang/constant/Constable" (some 0) with
  accessFlags := 1537
  interfaces := #[]
  cf := some (fileOf pool5 1 #[] #[] 1537 3 #[] #[])
  fields := #[]
  methods := #[]
  instanceTypes := #[]
  staticTypes := #[]
  resolved := Array.replicate 11 none
  statics := none }

def pool6 : Array CpInfo := pool [(1, .class_ 2), (0, u "java/lang/constant/ConstantDesc"), (0, .class_ 4), (0, u "java/lang/Object")] 32

/-- java/lang/constant/ConstantDesc -/
def k6 : Class := { plain "java/lang/constant/ConstantDesc" (some 0) with
  accessFlags := 1537
  interfaces := #[]
  cf := some (fileOf pool6 1 #[] #[] 1537 3 #[] #[])
  fields := #[]
  methods := #[]
  instanceTypes := #[]
  staticTypes := #[]
  resolved := Array.replicate 37 none
  statics := none }

def pool7 : Array CpInfo := pool [(1, .methodref 2 3), (0, .class_ 4), (0, .nameAndType 5 6), (0, u "java/lang/Object"), (0, u "<init>"), (0, u "()V"), (2, .fieldref 10 11), (0, .class_ 12), (0, .nameAndType 13 14), (0, u "java/lang/String"), (0, u "value"), (0, u "[B"), (0, .fieldref 10 16), (0, .nameAndType 17 18), (0, u "coder"), (0, u "B"), (2, u "hash"), (0, u "I"), (2, u "hashIsZero"), (0, u "Z"), (11, .fieldref 10 39), (0, .nameAndType 40 26), (0, u "COMPACT_STRINGS"), (12, u "toBytes"), (53, .class_ 109), (1, u "java/lang/StringLatin1"), (99, .methodref 10 210), (0, .nameAndType 5 211), (0, u "([BB)V"), (157, u "(C)Z"), (205, .class_ 576), (0, u "java/lang/CharSequence"), (22, u "CASE_INSENSITIVE_ORDER"), (0, u "Ljava/util/Comparator;"), (181, u "valueOf"), (0, u "(C)Ljava/lang/String;"), (231, .methodref 107 1016), (0, .nameAndType 1017 369), (0, u "canEncode"), (0, .methodref 107 1019), (0, .nameAndType 53 1020), (0, u "(C)[B"), (80, u "serialPersistentFields"), (0, u "[Ljava/io/ObjectStreamField;"), (0, .class_ 1104), (0, u "java/lang/String$CaseInsensitiveComparator"), (1, .class_ 1107), (0, u "java/io/Serializable"), (0, .class_ 1109), (0, u "java/lang/Comparable"), (0, .class_ 1111), (0, u "java/lang/constant/Constable"), (0, .class_ 1113), (0, u "java/lang/constant/ConstantDesc"), (2, u "serialVersionUID"), (0, u "J"), (3, u "REPL"), (0, u "C"), (2, u "LATIN1"), (1, u "UTF16")] 323

def k7m0 : Method := { name := "<init>", desc := "()V", sig := { parameters := [], returnType := none }, accessFlags := 1, code := none }
def k7c1 : Code := { maxStack := 4, maxLocals := 1, code := jdk_42_method_139_code, exceptionTable := #[], attributes := #[] }
def k7m1 : Method := { name := "valueOf", desc := "(C)Ljava/lang/String;", sig := { parameters := [.char], returnType := some (.object "java/lang/String") }, accessFlags := 9, code := some k7c1 }
def k7c2 : Code := { maxStack := 2, maxLocals := 3, code := jdk_42_method_151_code, exceptionTable := #[], attributes := #[] }
def k7m2 : Method := { name := "<init>", desc := "([BB)V", sig := { parameters := [(.array .byte), .byte], returnType := none }, accessFlags := 0, code := some k7c2 }
/-- java/lang/String -/
def k7 : Class := { plain "java/lang/String" (some 0) with
  accessFlags := 49
  interfaces := #[2, 3, 4, 5, 6]
  cf := some (fileOf pool7 10 #[.nestMembers #[1103]] #[{ accessFlags := 1, nameIndex := 5, descriptorIndex := 6, attributes := #[] }, { accessFlags := 9, nameIndex := 782, descriptorIndex := 783, attributes := #[] }, { accessFlags := 0, nameIndex := 5, descriptorIndex := 211, attributes := #[] }] 49 2 #[1106, 1108, 575, 1110, 1112] #[{ accessFlags := 18, nameIndex := 13, descriptorIndex := 14, attributes := #[] }, { accessFlags := 18, nameIndex := 17, descriptorIndex := 18, attributes := #[] }, { accessFlags := 2, nameIndex := 21, descriptorIndex := 22, attributes := #[] }, { accessFlags := 2, nameIndex := 25, descriptorIndex := 26, attributes := #[] }, { accessFlags := 26, nameIndex := 1116, descriptorIndex := 1117, attributes := #[] }, { accessFlags := 24, nameIndex := 40, descriptorIndex := 26, attributes := #[] }, { accessFlags := 26, nameIndex := 1101, descriptorIndex := 1102, attributes := #[] }, { accessFlags := 26, nameIndex := 1121, descriptorIndex := 1122, attributes := #[] }, { accessFlags := 25, nameIndex := 599, descriptorIndex := 600, attributes := #[] }, { accessFlags := 24, nameIndex := 1125, descriptorIndex := 18, attributes := #[] }, { accessFlags := 24, nameIndex := 1127, descriptorIndex := 18, attributes := #[] }])
  fields := #[{ name := "value", type := (.array .byte), accessFlags := 18, slot := 0, constantValue := 0 }, { name := "coder", type := .byte, accessFlags := 18, slot := 1, constantValue := 0 }, { name := "hash", type := .int, accessFlags := 2, slot := 2, constantValue := 0 }, { name := "hashIsZero", type := .boolean, accessFlags := 2, slot := 3, constantValue := 0 }, { name := "serialVersionUID", type := .long, accessFlags := 26, slot := 0, constantValue := 0 }, { name := "COMPACT_STRINGS", type := .boolean, accessFlags := 24, slot := 1, constantValue := 0 }, { name := "serialPersistentFields", type := (.array (.object "java/io/ObjectStreamField")), accessFlags := 26, slot := 2, constantValue := 0 }, { name := "REPL", type := .char, accessFlags := 26, slot := 3, constantValue := 0 }, { name := "CASE_INSENSITIVE_ORDER", type := (.object "java/util/Comparator"), accessFlags := 25, slot := 4, constantValue := 0 }, { name := "LATIN1", type := .byte, accessFlags := 24, slot := 5, constantValue := 0 }, { name := "UTF16", type := .byte, accessFlags := 24, slot := 6, constantValue := 0 }]
  methods := #[k7m0, k7m1, k7m2]
  instanceTypes := #[(.array .byte), .byte, .int, .boolean]
  staticTypes := #[.long, .boolean, (.array (.object "java/io/ObjectStreamField")), .char, (.object "java/util/Comparator"), .byte, .byte]
  resolved := Array.replicate 1451 none
  statics := some 0 }

def pool8 : Array CpInfo := pool [(4, .class_ 6), (1, u "java/lang/Object"), (0, u "<init>"), (0, u "()V"), (5, .class_ 16), (1, u "java/lang/StringLatin1"), (73, u "canEncode"), (14, u "(C)Z"), (15, u "$assertionsDisabled"), (0, u "Z"), (98, .class_ 223), (1, u "java/lang/StringLatin1$LinesSpliterator"), (156, u "toBytes"), (1, u "(C)[B"), (7, .class_ 391), (0, u "java/lang/StringLatin1$CharsSpliterator")] 3

def k8m0 : Method := { name := "<init>", desc := "()V", sig := { parameters := [], returnType := none }, accessFlags := 0, code := none }
def k8c1 : Code := { maxStack := 2, maxLocals := 1, code := jdk_43_method_3_code, exceptionTable := #[], attributes := #[] }
def k8m1 : Method := { name := "canEncode", desc := "(C)Z", sig := { parameters := [.char], returnType := some .boolean }, accessFlags := 9, code := some k8c1 }
def k8c2 : Code := { maxStack := 4, maxLocals := 1, code := jdk_43_method_46_code, exceptionTable := #[], attributes := #[] }
def k8m2 : Method := { name := "toBytes", desc := "(C)[B", sig := { parameters := [.char], returnType := some (.array .byte) }, accessFlags := 9, code := some k8c2 }
/-- java/lang/StringLatin1 -/
def k8 : Class := { plain "java/lang/StringLatin1" (some 0) with
  accessFlags := 48
  interfaces := #[]
  cf := some (fileOf pool8 14 #[.nestMembers #[390, 221]] #[{ accessFlags := 0, nameIndex := 7, descriptorIndex := 8, attributes := #[] }, { accessFlags := 9, nameIndex := 90, descriptorIndex := 105, attributes := #[] }, { accessFlags := 9, nameIndex := 380, descriptorIndex := 382, attributes := #[] }] 48 4 #[] #[{ accessFlags := 4120, nameIndex := 121, descriptorIndex := 122, attributes := #[] }])
  fields := #[{ name := "$assertionsDisabled", type := .boolean, accessFlags := 4120, slot := 0, constantValue := 0 }]
  methods := #[k8m0, k8m1, k8m2]
  instanceTypes := #[]
  staticTypes := #[.boolean]
  resolved := Array.replicate 395 none
  statics := none }

def pool9 : Array CpInfo := pool [(1, .methodref 2 3), (0, .class_ 4), (0, .nameAndType 5 6), (0, u "java/lang/Object"), (0, u "<init>"), (0, u "()V"), (0, .class_ 8), (0, u "java/lang/Record")] 13

def k9c0 : Code := { maxStack := 1, maxLocals := 1, code := jdk_30_method_1_code, exceptionTable := #[], attributes := #[] }
def k9m0 : Method := { name := "<init>", desc := "()V", sig := { parameters := [], returnType := none }, accessFlags := 4, code := some k9c0 }
/-- java/lang/Record -/
def k9 : Class := { plain "java/lang/Record" (some 0) with
  accessFlags := 1057
  interfaces := #[]
  cf := some (fileOf pool9 7 #[] #[{ accessFlags := 4, nameIndex := 5, descriptorIndex := 6, attributes := #[] }] 1057 2 #[] #[])
  fields := #[]
  methods := #[k9m0]
  instanceTypes := #[]
  staticTypes := #[]
  resolved := Array.replicate 22 none
  statics := none }

def pool10 : Array CpInfo := pool [(1, .methodref 2 3), (0, .class_ 4), (0, .nameAndType 5 6), (0, u "java/lang/Record"), (0, u "<init>"), (0, u "()V"), (0, .fieldref 8 9), (0, .class_ 10), (0, .nameAndType 11 12), (0, u "com/example/stellwerk/stellwerk/core/Occupation"), (0, u "section"), (0, u "Ljava/lang/String;"), (0, .fieldref 8 14), (0, .nameAndType 15 12), (0, u "block"), (0, .fieldref 8 17), (0, .nameAndType 18 12), (0, u "train"), (0, .fieldref 8 20), (0, .nameAndType 21 22), (0, u "reservedFrom"), (0, u "D"), (0, .fieldref 8 24), (0, .nameAndType 25 22), (0, u "releasedAt"), (10, .double 9218868437227405312), (40, u "()Z"), (57, u "(Ljava/lang/String;Ljava/lang/String;Ljava/lang/String;DD)V"), (3, u "released")] 48

def k10c0 : Code := { maxStack := 3, maxLocals := 8, code := prog_14_method_1_code, exceptionTable := #[], attributes := #[] }
def k10m0 : Method := { name := "<init>", desc := "(Ljava/lang/String;Ljava/lang/String;Ljava/lang/String;DD)V", sig := { parameters := [(.object "java/lang/String"), (.object "java/lang/String"), (.object "java/lang/String"), .double, .double], returnType := none }, accessFlags := 1, code := some k10c0 }
def k10c1 : Code := { maxStack := 4, maxLocals := 1, code := prog_14_method_4_code, exceptionTable := #[], attributes := #[] }
def k10m1 : Method := { name := "released", desc := "()Z", sig := { parameters := [], returnType := some .boolean }, accessFlags := 1, code := some k10c1 }
/-- com/example/stellwerk/stellwerk/core/Occupation -/
def k10 : Class := { plain "com/example/stellwerk/stellwerk/core/Occupation" (some 9) with
  accessFlags := 49
  interfaces := #[]
  cf := some (fileOf pool10 8 #[] #[{ accessFlags := 1, nameIndex := 5, descriptorIndex := 135, attributes := #[] }, { accessFlags := 1, nameIndex := 139, descriptorIndex := 77, attributes := #[] }] 49 2 #[] #[{ accessFlags := 18, nameIndex := 11, descriptorIndex := 12, attributes := #[] }, { accessFlags := 18, nameIndex := 15, descriptorIndex := 12, attributes := #[] }, { accessFlags := 18, nameIndex := 18, descriptorIndex := 12, attributes := #[] }, { accessFlags := 18, nameIndex := 21, descriptorIndex := 22, attributes := #[] }, { accessFlags := 18, nameIndex := 25, descriptorIndex := 22, attributes := #[] }])
  fields := #[{ name := "section", type := (.object "java/lang/String"), accessFlags := 18, slot := 0, constantValue := 0 }, { name := "block", type := (.object "java/lang/String"), accessFlags := 18, slot := 1, constantValue := 0 }, { name := "train", type := (.object "java/lang/String"), accessFlags := 18, slot := 2, constantValue := 0 }, { name := "reservedFrom", type := .double, accessFlags := 18, slot := 3, constantValue := 0 }, { name := "releasedAt", type := .double, accessFlags := 18, slot := 4, constantValue := 0 }]
  methods := #[k10m0, k10m1]
  instanceTypes := #[(.object "java/lang/String"), (.object "java/lang/String"), (.object "java/lang/String"), .double, .double]
  staticTypes := #[]
  resolved := Array.replicate 188 none
  statics := none }

def pool11 : Array CpInfo := pool [(2, .class_ 4), (1, u "java/lang/Object"), (0, u "<init>"), (0, u "()V"), (17, .class_ 26), (1, u "jdk/internal/util/Preconditions"), (28, .class_ 56), (0, u "jdk/internal/util/Preconditions$4"), (57, .class_ 115), (0, u "jdk/internal/util/Preconditions$1"), (7, u "SIOOBE_FORMATTER"), (0, u "Ljava/util/function/BiFunction;"), (0, .class_ 126), (0, u "jdk/internal/util/Preconditions$2"), (3, u "AIOOBE_FORMATTER"), (0, .class_ 132), (0, u "jdk/internal/util/Preconditions$3"), (3, u "IOOBE_FORMATTER")] 57

def k11m0 : Method := { name := "<init>", desc := "()V", sig := { parameters := [], returnType := none }, accessFlags := 1, code := none }
/-- jdk/internal/util/Preconditions -/
def k11 : Class := { plain "jdk/internal/util/Preconditions" (some 0) with
  accessFlags := 33
  interfaces := #[]
  cf := some (fileOf pool11 24 #[.nestMembers #[55, 131, 125, 114]] #[{ accessFlags := 1, nameIndex := 5, descriptorIndex := 6, attributes := #[] }] 33 2 #[] #[{ accessFlags := 25, nameIndex := 123, descriptorIndex := 124, attributes := #[] }, { accessFlags := 25, nameIndex := 130, descriptorIndex := 124, attributes := #[] }, { accessFlags := 25, nameIndex := 136, descriptorIndex := 124, attributes := #[] }])
  fields := #[{ name := "SIOOBE_FORMATTER", type := (.object "java/util/function/BiFunction"), accessFlags := 25, slot := 0, constantValue := 0 }, { name := "AIOOBE_FORMATTER", type := (.object "java/util/function/BiFunction"), accessFlags := 25, slot := 1, constantValue := 0 }, { name := "IOOBE_FORMATTER", type := (.object "java/util/function/BiFunction"), accessFlags := 25, slot := 2, constantValue := 0 }]
  methods := #[k11m0]
  instanceTypes := #[]
  staticTypes := #[(.object "java/util/function/BiFunction"), (.object "java/util/function/BiFunction"), (.object "java/util/function/BiFunction")]
  resolved := Array.replicate 194 none
  statics := some 1 }

def pool12 : Array CpInfo := pool [(9, u "<init>"), (6, .class_ 18), (1, u "java/lang/Object"), (0, u "()V"), (1, .class_ 23), (1, u "jdk/internal/util/ArraysSupport"), (0, u "LOG2_ARRAY_LONG_INDEX_SCALE"), (0, u "I"), (2, u "U"), (0, u "Ljdk/internal/misc/Unsafe;"), (8, u "BIG_ENDIAN"), (0, u "Z"), (8, u "LOG2_BYTE_BIT_SIZE"), (4, u "LOG2_ARRAY_INT_INDEX_SCALE"), (54, u "JLA"), (0, u "Ljdk/internal/access/JavaLangAccess;"), (11, u "LOG2_ARRAY_BOOLEAN_INDEX_SCALE"), (9, u "LOG2_ARRAY_BYTE_INDEX_SCALE"), (5, u "LOG2_ARRAY_CHAR_INDEX_SCALE"), (5, u "LOG2_ARRAY_SHORT_INDEX_SCALE"), (18, u "LOG2_ARRAY_FLOAT_INDEX_SCALE"), (24, u "LOG2_ARRAY_DOUBLE_INDEX_SCALE"), (89, u "T_BOOLEAN"), (2, u "T_CHAR"), (1, u "T_FLOAT"), (1, u "T_DOUBLE"), (1, u "T_BYTE"), (1, u "T_SHORT"), (1, u "T_INT"), (1, u "T_LONG"), (1, u "SOFT_MAX_ARRAY_LENGTH")] 83

def k12m0 : Method := { name := "<init>", desc := "()V", sig := { parameters := [], returnType := none }, accessFlags := 2, code := none }
/-- jdk/internal/util/ArraysSupport -/
def k12 : Class := { plain "jdk/internal/util/ArraysSupport" (some 0) with
  accessFlags := 33
  interfaces := #[]
  cf := some (fileOf pool12 21 #[] #[{ accessFlags := 2, nameIndex := 9, descriptorIndex := 19, attributes := #[] }] 33 16 #[] #[{ accessFlags := 24, nameIndex := 28, descriptorIndex := 29, attributes := #[] }, { accessFlags := 26, nameIndex := 38, descriptorIndex := 39, attributes := #[] }, { accessFlags := 25, nameIndex := 121, descriptorIndex := 25, attributes := #[] }, { accessFlags := 25, nameIndex := 131, descriptorIndex := 25, attributes := #[] }, { accessFlags := 25, nameIndex := 137, descriptorIndex := 25, attributes := #[] }, { accessFlags := 25, nameIndex := 143, descriptorIndex := 25, attributes := #[] }, { accessFlags := 25, nameIndex := 53, descriptorIndex := 25, attributes := #[] }, { accessFlags := 25, nameIndex := 24, descriptorIndex := 25, attributes := #[] }, { accessFlags := 25, nameIndex := 162, descriptorIndex := 25, attributes := #[] }, { accessFlags := 25, nameIndex := 187, descriptorIndex := 25, attributes := #[] }, { accessFlags := 26, nameIndex := 48, descriptorIndex := 25, attributes := #[] }, { accessFlags := 25, nameIndex := 277, descriptorIndex := 25, attributes := #[] }, { accessFlags := 25, nameIndex := 280, descriptorIndex := 25, attributes := #[] }, { accessFlags := 25, nameIndex := 282, descriptorIndex := 25, attributes := #[] }, { accessFlags := 25, nameIndex := 284, descriptorIndex := 25, attributes := #[] }, { accessFlags := 25, nameIndex := 286, descriptorIndex := 25, attributes := #[] }, { accessFlags := 25, nameIndex := 288, descriptorIndex := 25, attributes := #[] }, { accessFlags := 25, nameIndex := 290, descriptorIndex := 25, attributes := #[] }, { accessFlags := 25, nameIndex := 292, descriptorIndex := 25, attributes := #[] }, { accessFlags := 26, nameIndex := 108, descriptorIndex := 109, attributes := #[] }, { accessFlags := 25, nameIndex := 294, descriptorIndex := 25, attributes := #[] }])
  fields := #[{ name := "U", type := (.object "jdk/internal/misc/Unsafe"), accessFlags := 24, slot := 0, constantValue := 0 }, { name := "BIG_ENDIAN", type := .boolean, accessFlags := 26, slot := 1, constantValue := 0 }, { name := "LOG2_ARRAY_BOOLEAN_INDEX_SCALE", type := .int, accessFlags := 25, slot := 2, constantValue := 0 }, { name := "LOG2_ARRAY_BYTE_INDEX_SCALE", type := .int, accessFlags := 25, slot := 3, constantValue := 0 }, { name := "LOG2_ARRAY_CHAR_INDEX_SCALE", type := .int, accessFlags := 25, slot := 4, constantValue := 0 }, { name := "LOG2_ARRAY_SHORT_INDEX_SCALE", type := .int, accessFlags := 25, slot := 5, constantValue := 0 }, { name := "LOG2_ARRAY_INT_INDEX_SCALE", type := .int, accessFlags := 25, slot := 6, constantValue := 0 }, { name := "LOG2_ARRAY_LONG_INDEX_SCALE", type := .int, accessFlags := 25, slot := 7, constantValue := 0 }, { name := "LOG2_ARRAY_FLOAT_INDEX_SCALE", type := .int, accessFlags := 25, slot := 8, constantValue := 0 }, { name := "LOG2_ARRAY_DOUBLE_INDEX_SCALE", type := .int, accessFlags := 25, slot := 9, constantValue := 0 }, { name := "LOG2_BYTE_BIT_SIZE", type := .int, accessFlags := 26, slot := 10, constantValue := 0 }, { name := "T_BOOLEAN", type := .int, accessFlags := 25, slot := 11, constantValue := 0 }, { name := "T_CHAR", type := .int, accessFlags := 25, slot := 12, constantValue := 0 }, { name := "T_FLOAT", type := .int, accessFlags := 25, slot := 13, constantValue := 0 }, { name := "T_DOUBLE", type := .int, accessFlags := 25, slot := 14, constantValue := 0 }, { name := "T_BYTE", type := .int, accessFlags := 25, slot := 15, constantValue := 0 }, { name := "T_SHORT", type := .int, accessFlags := 25, slot := 16, constantValue := 0 }, { name := "T_INT", type := .int, accessFlags := 25, slot := 17, constantValue := 0 }, { name := "T_LONG", type := .int, accessFlags := 25, slot := 18, constantValue := 0 }, { name := "JLA", type := (.object "jdk/internal/access/JavaLangAccess"), accessFlags := 26, slot := 19, constantValue := 0 }, { name := "SOFT_MAX_ARRAY_LENGTH", type := .int, accessFlags := 25, slot := 20, constantValue := 0 }]
  methods := #[k12m0]
  instanceTypes := #[]
  staticTypes := #[(.object "jdk/internal/misc/Unsafe"), .boolean, .int, .int, .int, .int, .int, .int, .int, .int, .int, .int, .int, .int, .int, .int, .int, .int, .int, (.object "jdk/internal/access/JavaLangAccess"), .int]
  resolved := Array.replicate 378 none
  statics := none }

def pool13 : Array CpInfo := pool [(1, u "java/lang/Cloneable"), (0, .class_ 1), (0, u "java/lang/Object"), (0, .class_ 3)] 3

/-- java/lang/Cloneable -/
def k13 : Class := { plain "java/lang/Cloneable" (some 0) with
  accessFlags := 1537
  interfaces := #[]
  cf := some (fileOf pool13 2 #[] #[] 1537 4 #[] #[])
  fields := #[]
  methods := #[]
  instanceTypes := #[]
  staticTypes := #[]
  resolved := Array.replicate 8 none
  statics := none }

/-- the primitive byte -/
def k14 : Class := { plain "byte" none with kind := .primitive 'B', accessFlags := 0x411 }
/-- [B -/
def k15 : Class := { plain "[B" (some 0) with kind := .array 14 .byte, interfaces := #[13, 2], accessFlags := 1041 }

/-- the primitive int -/
def k16 : Class := { plain "int" none with kind := .primitive 'I', accessFlags := 0x411 }
/-- [I -/
def k17 : Class := { plain "[I" (some 0) with kind := .array 16 .int, interfaces := #[13, 2], accessFlags := 1041 }

def heap : Heap := #[{ cls := 7, slots := #[.long 0, .int 1, .null, .int 0, .null, .int 0, .int 0], vm := .statics 7 },
  { cls := 11, slots := #[.null, .null, .null], vm := .statics 11 }]
def classes : Array Class := #[k0, k1, k2, k3, k4, k5, k6, k7, k8, k9, k10, k11, k12, k13, k14, k15, k16, k17]
def interned : List (Array UInt16 × Addr) := []
def slotsUsed : Nat := 10
def theMethod : MethodId := ⟨1, 1⟩
def args0 : Array Value := #[.int 5, .int 7, .int 1, .int 3]
def aboutOver (below : List Frame) : State where
  vm := { classes := classes, interned := interned.toArray }
  heap := heap
  slotsUsed := slotsUsed
  threads := #[{ frames := .invoking theMethod args0 :: below }]
def below0 : List Frame := [.native { method := ⟨0, 0⟩, args := #[] }]
def about1 : State := aboutOver below0
def p0 : Program := .bare "" "" ""
def e0 : Env := launch0.env 0 0 0
theorem w_frames : about1.frames = Frame.invoking theMethod args0 :: below0 := rfl
set_option maxRecDepth 65536 in
theorem w_args : argsFit about1.vm theMethod args0 = true := by decide +kernel
set_option maxRecDepth 65536 in
theorem w_heap : heapFits about1 = true := by decide +kernel
set_option maxRecDepth 65536 in
theorem w_runnable : about1.curStatus? = some .runnable := by decide +kernel
set_option maxRecDepth 65536 in
theorem w_alone : about1.alone = true := by decide +kernel
set_option maxRecDepth 65536 in
theorem w_named : about1.methodNamed? x = some theMethod := by decide +kernel
set_option maxRecDepth 65536 in
theorem w_hears : about1.hears theMethod below0 = true := by decide +kernel
set_option maxRecDepth 65536 in
theorem w_ripe : about1.ripe theMethod args0 below0 = true := by decide +kernel
theorem w_running : about1.status = .running := rfl
set_option maxRecDepth 65536 in
theorem w_room : about1.hasRoom e0.platform room_1 = true :=
  launch0.hasRoom_least _ room_1 (by decide +kernel) (by decide +kernel) (by decide +kernel) (by decide +kernel) (by decide +kernel) (by decide +kernel)
theorem allAtoms_all (ts : List Jvm.Cond) (a : Array Jvm.Value) (st : Jvm.State) : (allAtoms ts).before a st = ts.all (fun c => c.before a st) := by
  induction ts with
  | nil => rfl
  | cons c t ih =>
    show (Jvm.Cond.and c (allAtoms t)).before a st = _
    rw [Jvm.Cond.before_and, ih, List.all_cons]
def words1 : List Jvm.Cond := Jvm.Cond.code x code maxLocals ret :: tables_1
/-- a 'code' word, met by the world's own term for the bytes: nothing is compared byte by byte -/
theorem code_word {y : MethodName} {bytes : ByteArray} {mx : Nat} {rt : Option FieldType} {a : Array Value} {s : State} {m : MethodId} {meth : Method} {c : Code} (h1 : s.methodNamed? y = some m) (h2 : s.vm.method? m = some meth) (h3 : meth.code = some c) (h4 : c.code = bytes)
    (h5 : (c.maxLocals == mx && c.exceptionTable.isEmpty && decide (c.maxStack ≤ mostOperands) && decide (meth.sig.returnType = rt) && !meth.locks && decide (parseMethodDescriptor y.desc = some meth.sig)) = true) : (Jvm.Cond.code y bytes mx rt).before a s = true := by
  simp only [Bool.and_eq_true, beq_iff_eq, Bool.not_eq_true', decide_eq_true_eq] at h5
  obtain ⟨⟨⟨⟨⟨g1, g2⟩, g3⟩, g4⟩, g5⟩, g6⟩ := h5
  simp [Cond.before, Cond.holds, Cond.value, h1, h2, h3, h4, g1, g2, g3, g4, g5, g6]
def isCode : Jvm.Cond → Bool
  | .code _ _ _ _ => true
  | _ => false
theorem all_split {L : List Jvm.Cond} {P : Jvm.Cond → Bool} (h1 : L.all (fun c => isCode c || P c) = true) (h2 : ∀ c ∈ L.filter isCode, P c = true) : L.all P = true := by
  refine List.all_eq_true.mpr fun c hc => ?_
  have h := List.all_eq_true.mp h1 c hc
  rcases Bool.eq_false_or_eq_true (isCode c) with hi | hi
  · exact h2 c (List.mem_filter.mpr ⟨hc, hi⟩)
  · simpa [hi] using h
set_option maxRecDepth 65536 in
theorem w_c0 : (Jvm.Cond.code x code maxLocals ret).before args0 about1 = true := code_word (m := ⟨1, 1⟩) (meth := k1m1) (c := k1c1) (by decide +kernel) rfl rfl rfl (by decide +kernel)
set_option maxRecDepth 65536 in
theorem w_c1 : (Jvm.Cond.code ({ cls := "java/lang/String", name := "valueOf", desc := "(C)Ljava/lang/String;" } : Jvm.MethodName) jdk_42_method_139_code (1 : Nat) (Option.some (Jvm.ClassFile.FieldType.object "java/lang/String"))).before args0 about1 = true := code_word (m := ⟨7, 1⟩) (meth := k7m1) (c := k7c1) (by decide +kernel) rfl rfl rfl (by decide +kernel)
set_option maxRecDepth 65536 in
theorem w_c2 : (Jvm.Cond.code ({ cls := "java/lang/StringLatin1", name := "canEncode", desc := "(C)Z" } : Jvm.MethodName) jdk_43_method_3_code (1 : Nat) (Option.some Jvm.ClassFile.FieldType.boolean)).before args0 about1 = true := code_word (m := ⟨8, 1⟩) (meth := k8m1) (c := k8c1) (by decide +kernel) rfl rfl rfl (by decide +kernel)
set_option maxRecDepth 65536 in
theorem w_c3 : (Jvm.Cond.code ({ cls := "java/lang/StringLatin1", name := "toBytes", desc := "(C)[B" } : Jvm.MethodName) jdk_43_method_46_code (1 : Nat) (Option.some (Jvm.ClassFile.FieldType.array Jvm.ClassFile.FieldType.byte))).before args0 about1 = true := code_word (m := ⟨8, 2⟩) (meth := k8m2) (c := k8c2) (by decide +kernel) rfl rfl rfl (by decide +kernel)
set_option maxRecDepth 65536 in
theorem w_c4 : (Jvm.Cond.code ({ cls := "java/lang/String", name := "<init>", desc := "([BB)V" } : Jvm.MethodName) jdk_42_method_151_code (3 : Nat) (Option.none : Option Jvm.ClassFile.FieldType)).before args0 about1 = true := code_word (m := ⟨7, 2⟩) (meth := k7m2) (c := k7c2) (by decide +kernel) rfl rfl rfl (by decide +kernel)
set_option maxRecDepth 65536 in
theorem w_c5 : (Jvm.Cond.code ({ cls := "java/lang/Object", name := "<init>", desc := "()V" } : Jvm.MethodName) object_method_1_code (1 : Nat) (Option.none : Option Jvm.ClassFile.FieldType)).before args0 about1 = true := code_word (m := ⟨0, 0⟩) (meth := k0m0) (c := k0c0) (by decide +kernel) rfl rfl rfl (by decide +kernel)
set_option maxRecDepth 65536 in
theorem w_c6 : (Jvm.Cond.code ({ cls := "com/example/stellwerk/stellwerk/core/Occupation", name := "<init>", desc := "(Ljava/lang/String;Ljava/lang/String;Ljava/lang/String;DD)V" } : Jvm.MethodName) prog_14_method_1_code (8 : Nat) (Option.none : Option Jvm.ClassFile.FieldType)).before args0 about1 = true := code_word (m := ⟨10, 0⟩) (meth := k10m0) (c := k10c0) (by decide +kernel) rfl rfl rfl (by decide +kernel)
set_option maxRecDepth 65536 in
theorem w_c7 : (Jvm.Cond.code ({ cls := "java/lang/Record", name := "<init>", desc := "()V" } : Jvm.MethodName) jdk_30_method_1_code (1 : Nat) (Option.none : Option Jvm.ClassFile.FieldType)).before args0 about1 = true := code_word (m := ⟨9, 0⟩) (meth := k9m0) (c := k9c0) (by decide +kernel) rfl rfl rfl (by decide +kernel)
set_option maxRecDepth 65536 in
theorem w_c8 : (Jvm.Cond.code ({ cls := "com/example/stellwerk/stellwerk/core/Occupation", name := "released", desc := "()Z" } : Jvm.MethodName) prog_14_method_4_code (1 : Nat) (Option.some Jvm.ClassFile.FieldType.boolean)).before args0 about1 = true := code_word (m := ⟨10, 1⟩) (meth := k10m1) (c := k10c1) (by decide +kernel) rfl rfl rfl (by decide +kernel)
def codes1 : List Jvm.Cond := [Jvm.Cond.code x code maxLocals ret, Jvm.Cond.code ({ cls := "java/lang/String", name := "valueOf", desc := "(C)Ljava/lang/String;" } : Jvm.MethodName) jdk_42_method_139_code (1 : Nat) (Option.some (Jvm.ClassFile.FieldType.object "java/lang/String")), Jvm.Cond.code ({ cls := "java/lang/StringLatin1", name := "canEncode", desc := "(C)Z" } : Jvm.MethodName) jdk_43_method_3_code (1 : Nat) (Option.some Jvm.ClassFile.FieldType.boolean), Jvm.Cond.code ({ cls := "java/lang/StringLatin1", name := "toBytes", desc := "(C)[B" } : Jvm.MethodName) jdk_43_method_46_code (1 : Nat) (Option.some (Jvm.ClassFile.FieldType.array Jvm.ClassFile.FieldType.byte)), Jvm.Cond.code ({ cls := "java/lang/String", name := "<init>", desc := "([BB)V" } : Jvm.MethodName) jdk_42_method_151_code (3 : Nat) (Option.none : Option Jvm.ClassFile.FieldType), Jvm.Cond.code ({ cls := "java/lang/Object", name := "<init>", desc := "()V" } : Jvm.MethodName) object_method_1_code (1 : Nat) (Option.none : Option Jvm.ClassFile.FieldType), Jvm.Cond.code ({ cls := "com/example/stellwerk/stellwerk/core/Occupation", name := "<init>", desc := "(Ljava/lang/String;Ljava/lang/String;Ljava/lang/String;DD)V" } : Jvm.MethodName) prog_14_method_1_code (8 : Nat) (Option.none : Option Jvm.ClassFile.FieldType), Jvm.Cond.code ({ cls := "java/lang/Record", name := "<init>", desc := "()V" } : Jvm.MethodName) jdk_30_method_1_code (1 : Nat) (Option.none : Option Jvm.ClassFile.FieldType), Jvm.Cond.code ({ cls := "com/example/stellwerk/stellwerk/core/Occupation", name := "released", desc := "()Z" } : Jvm.MethodName) prog_14_method_4_code (1 : Nat) (Option.some Jvm.ClassFile.FieldType.boolean)]
set_option maxRecDepth 65536 in
theorem codes_eq : words1.filter isCode = codes1 := rfl
theorem w_codes : ∀ c ∈ words1.filter isCode, c.before args0 about1 = true := by
  rw [codes_eq]
  intro c hc
  simp only [codes1, List.mem_cons, List.not_mem_nil, or_false] at hc
  rcases hc with rfl | rfl | rfl | rfl | rfl | rfl | rfl | rfl | rfl
  · exact w_c0
  · exact w_c1
  · exact w_c2
  · exact w_c3
  · exact w_c4
  · exact w_c5
  · exact w_c6
  · exact w_c7
  · exact w_c8
set_option maxRecDepth 65536 in
theorem w_t1 : (words1.take 24).all (fun c => isCode c || c.before args0 about1) = true := by decide +kernel
set_option maxRecDepth 65536 in
theorem w_t2 : ((words1.drop 24).take 24).all (fun c => isCode c || c.before args0 about1) = true := by decide +kernel
set_option maxRecDepth 65536 in
theorem w_t3 : ((words1.drop 24).drop 24).all (fun c => isCode c || c.before args0 about1) = true := by decide +kernel
theorem w_tables : (allAtoms (Jvm.Cond.code x code maxLocals ret :: tables_1)).before args0 about1 = true := by
  rw [allAtoms_all]
  show words1.all (fun c => c.before args0 about1) = true
  refine all_split ?_ w_codes
  rw [← List.take_append_drop 24 words1, List.all_append, w_t1, ← List.take_append_drop 24 (words1.drop 24), List.all_append, w_t2, w_t3]
  rfl
set_option maxRecDepth 65536 in
theorem w_rest : rest_1_c.before args0 about1 = true := by decide +kernel
set_option maxRecDepth 65536 in
theorem w_case : (Jvm.Cond.and given_1 narrow_1).before args0 about1 = true := by decide +kernel
theorem w_applies : (headSpec (Jvm.Cond.code x code maxLocals ret :: tables_1) room_1).applies x e0.platform about1 = true :=
  (Spec.applies_iff w_frames).mpr ⟨w_running, w_runnable, w_alone, w_named, w_hears, w_ripe, w_room, w_tables⟩
theorem atStart : AtStart classFile x code maxLocals ret World_1 tables_1 room_1 Calls_1 rest_1 Pre_1 launch0 p0 e0 about1 theMethod args0 below0 :=
  ⟨lists_1, trivial, launch0.admits_env _ _ _, launch0.least_env, fairChoices_fair.cas, fairChoices_fair.clock, w_frames, w_args, w_heap, w_applies, trivial, w_rest, w_case⟩
end start1
theorem witness_1 : WitnessClaimed_1 := ⟨start1.p0, start1.e0, start1.about1, start1.theMethod, start1.args0, start1.below0, start1.atStart⟩
end Jvm.Pilot.@@N@@
