import JvmDerived
import JvmDerived.Pilot.@@N@@Statement
import JvmDerived.Pilot.@@N@@Code
set_option linter.unusedVariables false
set_option linter.unusedSimpArgs false
namespace Jvm.Pilot.@@N@@
open Jvm Jvm.ClassFile Sem Op Lib Jvm.Free Jvm.Stand Jvm.LawKit Jvm.RoadKit Bundle Jvm.Pilot.@@N@@.Jvm.D
section Own
variable {p : Program} {l : Launch} {e : Env} {R : Room} {s : State} {m : MethodId} {args : Array Value} {below : List Frame} {meth : Method} {c : Code} {T : State} {locs : List Loc} {cells slots : Nat} {k n : Nat} {Q : Option Value → Heap → List Loc → Prop} {FF : State → Option Value → Prop} {pc q q' : Nat} {Ls l' : Array Slot} {st rest : List Value}
/-- from U the run comes to a return that FF allows -/
def own_G (p : Program) (e : Env) (below : List Frame) (FF : State → Option Value → Prop) (U : State) : Prop :=
  ∃ s₂ v, Steps p.tables e below U s₂ ∧ s₂.status = .running ∧ Ended s₂ below (.returned v) ∧ FF s₂ v
/-- .. that Q allows, with at most k cells and n slots made since s -/
def own_En (s : State) (k n : Nat) (Q : Option Value → Heap → List Loc → Prop) : State → Option Value → Prop := fun s₂ v => ∃ L, Q v s₂.heap L ∧ FrameEnd s (.returned v) s₂ L k n
theorem own_G.via {U U' : State} (g : own_G p e below FF U') (h : ∀ t, Steps p.tables e below U' t → Steps p.tables e below U t) : own_G p e below FF U := by
  obtain ⟨s₂, o, h1, h2⟩ := g
  exact ⟨s₂, o, h _ h1, h2⟩
theorem own_retI (X : Stand p l e R s m args below meth c T locs cells slots) (hx : p.tables.exec = Jvm.exec) {z : Int32} (hret : meth.sig.returnType = some .int) (hlk : meth.locks = false) (hd : decode c.code pc = .ok (.ireturn, 1)) (hk : cells ≤ k) (hn : slots ≤ n) (hq : Q (some (.int z)) T.heap locs) :
    own_G p e below (own_En s k n Q) (T.setTop (mkF m pc Ls [.int z])) := by
  obtain ⟨fs, hr, hrun, hended, hW, hsame⟩ := X.leave (v := some (.int z)) (fun h => by rw [hret] at h; cases h) hlk
  exact ⟨_, _, X.ireturnOut hx hret rfl (Or.inl rfl) hd hr, hrun, hended, _, hq, ⟨_, rfl⟩, hW, hsame.mono hk hn⟩
theorem own_retN (X : Stand p l e R s m args below meth c T locs cells slots) (hx : p.tables.exec = Jvm.exec) {z w : Int32} {t : FieldType} (hret : meth.sig.returnType = some t) (hlk : meth.locks = false) (ht : t = .boolean ∨ t = .byte ∨ t = .char ∨ t = .short) (hd : decode c.code pc = .ok (.ireturn, 1)) (hk : cells ≤ k) (hn : slots ≤ n) (hz : nar t z = w) (hq : Q (some (.int w)) T.heap locs) :
    own_G p e below (own_En s k n Q) (T.setTop (mkF m pc Ls [.int z])) := by
  subst hz
  obtain ⟨fs, hr, hrun, hended, hW, hsame⟩ := X.leave (v := some (.int (nar t z))) (fun h => by rw [hret] at h; cases h) hlk
  exact ⟨_, _, retN X hx hret ht hd hr, hrun, hended, _, hq, ⟨_, rfl⟩, hW, hsame.mono hk hn⟩
theorem own_retL (X : Stand p l e R s m args below meth c T locs cells slots) (hx : p.tables.exec = Jvm.exec) {z : Int64} (hret : meth.sig.returnType = some .long) (hlk : meth.locks = false) (hd : decode c.code pc = .ok (.lreturn, 1)) (hk : cells ≤ k) (hn : slots ≤ n) (hq : Q (some (.long z)) T.heap locs) :
    own_G p e below (own_En s k n Q) (T.setTop (mkF m pc Ls [.long z])) := by
  obtain ⟨fs, hr, hrun, hended, hW, hsame⟩ := X.leave (v := some (.long z)) (fun h => by rw [hret] at h; cases h) hlk
  exact ⟨_, _, X.lreturnOut hx hret hd hr, hrun, hended, _, hq, ⟨_, rfl⟩, hW, hsame.mono hk hn⟩
theorem own_retV (X : Stand p l e R s m args below meth c T locs cells slots) (hx : p.tables.exec = Jvm.exec) (hret : meth.sig.returnType = none) (hlk : meth.locks = false) (hd : decode c.code pc = .ok (.return_, 1)) (hk : cells ≤ k) (hn : slots ≤ n) (hq : Q none T.heap locs) :
    own_G p e below (own_En s k n Q) (T.setTop (mkF m pc Ls [])) := by
  obtain ⟨fs, hr, hrun, hended, hW, hsame⟩ := X.leave (v := none) (fun _ => rfl) hlk
  exact ⟨_, _, X.returnOut hx hret hd hr, hrun, hended, _, hq, ⟨_, rfl⟩, hW, hsame.mono hk hn⟩
theorem own_body {y : MethodName} {bytes : ByteArray} {maxL : Nat} {ret : Option FieldType} {ws : List Jvm.Cond} {rm : Room} {as' : Array Value} {h0 : Heap} {Z : State} (hpn : plainFor y = true)
    (body : ∀ (p : Program) (e : Env) (s : State) (m : MethodId) (below : List Frame) (meth : Method) (c : Code) (s₁ : State), p.tables.exec = Jvm.exec → c.code = bytes → c.maxLocals = maxL → s.vm.findClass y.cls = some m.cls → meth.name = y.name → meth.sig.returnType = ret → meth.locks = false → Z.Warmed39 s.vm →
      Stand p l e rm s m as' below meth c s₁ [] 0 0 → s₁.heap = h0 → own_G p e below (own_En s rm.cells rm.slots Q) (s₁.setTop (entryFrame m as' maxL))) :
    MetFree l y (head1 (Jvm.Cond.code y bytes maxL ret :: ws) rm) (fun a U => a = as' ∧ Z.Warmed39 U.vm ∧ U.heap = h0) (fun _ _ _ _ _ => True) (fun _ U o U' => ∃ v L, o = .returned v ∧ Q v U'.heap L ∧ FrameEnd U o U' L rm.cells rm.slots) := by
  refine MetFree.of_bodySF hpn hisR ?_
  intro p e s m args below meth c s₁ Bd hml0 hP hK
  obtain ⟨rfl, hZ, hh⟩ := hP
  obtain ⟨s₂, v, h1, h2, h3, L, hq, hf⟩ := body p e s m below meth c s₁ Bd.exec Bd.bytes hml0 (findClass_of_methodNamed Bd.named) (name_of_methodNamed Bd.named Bd.method).1 Bd.returns Bd.notSynchronized hZ (Stand.of_body Bd) (by rw [← hh, Bd.state]; rfl)
  exact ⟨s₂, _, h1, h2, h3, v, L, rfl, hq, hf⟩
/-- a static call by the callee's contract -/
theorem own_callS {Z : State} {a0 : Array Value} {h : Heap} (X : Stand p l e R s m args below meth c T locs cells slots) (hx : p.tables.exec = Jvm.exec) (hZ : Z.Warmed39 s.vm) {own : String} {index : Nat} {y : MethodName} {bytes : ByteArray} {maxL : Nat} {ret : Option FieldType}
    (hown : s.vm.findClass own = some m.cls) (w1 : (Jvm.Cond.methodLink own index y).before a0 Z = true) (w2 : (Jvm.Cond.static y).before a0 Z = true) (w3 : (Jvm.Cond.initialized y.cls).before a0 Z = true) (w4 : (Jvm.Cond.code y bytes maxL ret).before a0 Z = true)
    (hy : y.cls ≠ "java/lang/invoke/MethodHandle" ∧ y.cls ≠ "java/lang/invoke/VarHandle") {rm : Room} {as' : Array Value} {Q' : Option Value → Heap → List Loc → Prop} {W : Nat}
    (hM : MetFree l y (head1 [Jvm.Cond.code y bytes maxL ret] rm) (fun a U => a = as' ∧ Z.Warmed39 U.vm ∧ U.heap = h) (fun _ _ _ _ _ => True) (fun _ U o U' => ∃ v L, o = .returned v ∧ Q' v U'.heap L ∧ FrameEnd U o U' L rm.cells rm.slots))
    (hf : rm.frames + 1 ≤ R.frames) (hl : W + (maxL + 11) + rm.locals ≤ R.locals) (eT : T.heap = h) (hsize : Ls.size = c.maxLocals) {argsL : List Value}
    (hlen : ∀ sig, parseMethodDescriptor y.desc = some sig → argsL.length = sig.parameters.length) (hst : st = argsL.reverse ++ rest) (hW : (rest.map fun v => v.category).sum = W) (hd : decode c.code pc = .ok (.invokestatic index, 3)) (hq : pc + 3 = q) (has : argsL.toArray = as') (hc : cells + rm.cells ≤ R.cells) (hs : slots + rm.slots ≤ R.slots)
    (g : ∀ v T' L, Q' v T'.heap L → Stand p l e R s m args below meth c T' (locs ++ L) (cells + rm.cells) (slots + rm.slots) → own_G p e below FF (T'.setTop (mkF m q Ls (v.toList ++ rest)))) :
    own_G p e below FF (T.setTop (mkF m pc Ls st)) := by
  subst hq hst
  obtain ⟨v, _, ⟨T7, L7, k7, n7⟩, -, X7, ⟨Lc7, hQ7, l7, y7, z7⟩, st7⟩ := Jvm.LawKit.callS X hx hown (mvT hZ w1) (mvT hZ w2) (mvT hZ w3) (mvT hZ w4) hy (backOf (W := W) hM hZ w4 w3 hf hl) (g := mkF m pc Ls (argsL.reverse ++ rest)) rfl hsize hlen rfl (by show 2 * 0 + _ ≤ _; rw [hW]; omega) hd (fun _ _ => ⟨has, eT, hc, hs⟩)
  dsimp only [Pt.U, Pt.locs, Pt.cells, Pt.slots] at X7 l7 y7 z7 st7 hQ7
  subst l7 y7 z7
  exact (g v T7 Lc7 hQ7 X7).via fun t => st7 t
/-- a static call that leaves the heap as it was -/
theorem own_callSP {Z : State} {a0 : Array Value} {h : Heap} (X : Stand p l e R s m args below meth c T locs cells slots) (hx : p.tables.exec = Jvm.exec) (hZ : Z.Warmed39 s.vm) {own : String} {index : Nat} {y : MethodName} {bytes : ByteArray} {maxL : Nat} {ret : Option FieldType}
    (hown : s.vm.findClass own = some m.cls) (w1 : (Jvm.Cond.methodLink own index y).before a0 Z = true) (w2 : (Jvm.Cond.static y).before a0 Z = true) (w3 : (Jvm.Cond.initialized y.cls).before a0 Z = true) (w4 : (Jvm.Cond.code y bytes maxL ret).before a0 Z = true)
    (hy : y.cls ≠ "java/lang/invoke/MethodHandle" ∧ y.cls ≠ "java/lang/invoke/VarHandle") {rm : Room} {as' : Array Value} {P : Value → Prop} {W : Nat}
    (hM : MetFree l y (head1 [Jvm.Cond.code y bytes maxL ret] rm) (fun a U => a = as' ∧ Z.Warmed39 U.vm ∧ U.heap = h) (fun _ _ _ _ _ => True) (fun _ U o U' => ∃ v L, o = .returned v ∧ ((∃ w, v = some w ∧ P w) ∧ L = [] ∧ U'.heap = h) ∧ FrameEnd U o U' L rm.cells rm.slots))
    (hf : rm.frames + 1 ≤ R.frames) (hl : W + (maxL + 11) + rm.locals ≤ R.locals) (eT : T.heap = h) (hsize : Ls.size = c.maxLocals) {argsL : List Value}
    (hlen : ∀ sig, parseMethodDescriptor y.desc = some sig → argsL.length = sig.parameters.length) (hst : st = argsL.reverse ++ rest) (hW : (rest.map fun v => v.category).sum = W) (hd : decode c.code pc = .ok (.invokestatic index, 3)) (hq : pc + 3 = q) (has : argsL.toArray = as') (hc : rm.cells = 0) (hs : rm.slots = 0) (hcc : cells ≤ R.cells) (hss : slots ≤ R.slots)
    (g : ∀ w T', P w → Stand p l e R s m args below meth c T' locs cells slots → T'.heap = h → own_G p e below FF (T'.setTop (mkF m q Ls (w :: rest)))) :
    own_G p e below FF (T.setTop (mkF m pc Ls st)) := by
  refine own_callS (Q' := fun v U L => (∃ w, v = some w ∧ P w) ∧ L = [] ∧ U = h) X hx hZ hown w1 w2 w3 w4 hy hM hf hl eT hsize hlen hst hW hd hq has (by rw [hc]; exact hcc) (by rw [hs]; exact hss) ?_
  rintro v T' L ⟨⟨w, rfl, hP⟩, rfl, e'⟩ X'
  rw [List.append_nil, hc, hs] at X'
  exact g w T' hP X' e'
/-- a virtual call by the callee's contract; the receiver is exactly of class C -/
theorem own_callV {Z : State} {a0 : Array Value} {h : Heap} (X : Stand p l e R s m args below meth c T locs cells slots) (hx : p.tables.exec = Jvm.exec) (hZ : Z.Warmed39 s.vm) {own C : String} {index : Nat} {y : MethodName} {bytes : ByteArray} {maxL : Nat} {ret : Option FieldType}
    (hown : s.vm.findClass own = some m.cls) (w1 : (Jvm.Cond.methodLink own index y).before a0 Z = true) (w2 : (Jvm.Cond.declares y).before a0 Z = true) (w3 : (Jvm.Cond.selects C y y).before a0 Z = true) (w4 : (Jvm.Cond.instanceMethod y).before a0 Z = true) (w5 : (Jvm.Cond.code y bytes maxL ret).before a0 Z = true) (w6 : (Jvm.Cond.initialized y.cls).before a0 Z = true)
    (hy : y.cls ≠ "java/lang/invoke/MethodHandle" ∧ y.cls ≠ "java/lang/invoke/VarHandle") {rm : Room} {as' : Array Value} {Q' : Option Value → Heap → List Loc → Prop} {W : Nat}
    (hM : MetFree l y (head1 [Jvm.Cond.code y bytes maxL ret] rm) (fun a U => a = as' ∧ Z.Warmed39 U.vm ∧ U.heap = h) (fun _ _ _ _ _ => True) (fun _ U o U' => ∃ v L, o = .returned v ∧ Q' v U'.heap L ∧ FrameEnd U o U' L rm.cells rm.slots))
    {b : Addr} (E : Exa Z h b C)
    (hf : rm.frames + 1 ≤ R.frames) (hl : W + (maxL + 11) + rm.locals ≤ R.locals) (eT : T.heap = h) (hsize : Ls.size = c.maxLocals) {argsL : List Value}
    (hlen : ∀ sig, parseMethodDescriptor y.desc = some sig → argsL.length = sig.parameters.length) (hst : st = argsL.reverse ++ .ref b :: rest) (hW : (rest.map fun v => v.category).sum = W) (hd : decode c.code pc = .ok (.invokevirtual index, 3)) (hq : pc + 3 = q) (has : (.ref b :: argsL).toArray = as') (hc : cells + rm.cells ≤ R.cells) (hs : slots + rm.slots ≤ R.slots)
    (g : ∀ v T' L, Q' v T'.heap L → Stand p l e R s m args below meth c T' (locs ++ L) (cells + rm.cells) (slots + rm.slots) → own_G p e below FF (T'.setTop (mkF m q Ls (v.toList ++ rest)))) :
    own_G p e below FF (T.setTop (mkF m pc Ls st)) := by
  subst hq hst
  obtain ⟨cq, kq, qa, qb, qc⟩ := isOf hZ eT E
  obtain ⟨v, _, ⟨T7, L7, k7, n7⟩, -, X7, ⟨Lc7, hQ7, l7, y7, z7⟩, st7⟩ := X.virtualBack hx hown (mvT hZ w1) (mvT hZ w2) (notFace_of_selects (args := #[]) (mvT hZ w3)) (mvT hZ w3) (mvT hZ w4) hy (backOf (W := W) hM hZ w5 w6 hf hl) qa qc (g := mkF m pc Ls (argsL.reverse ++ .ref b :: rest)) rfl hsize (Steps.refl _) (argsL := argsL) (rest := rest) hlen rfl (by show 2 * 0 + _ ≤ _; rw [hW]; omega) hd (fun _ _ => ⟨has, eT, hc, hs⟩)
  dsimp only [Pt.U, Pt.locs, Pt.cells, Pt.slots] at X7 l7 y7 z7 st7 hQ7
  subst l7 y7 z7
  exact (g v T7 Lc7 hQ7 X7).via fun t hh => st7.trans hh
/-- a constructor's call by its contract -/
theorem own_callN {Z : State} {a0 : Array Value} {h : Heap} (X : Stand p l e R s m args below meth c T locs cells slots) (hx : p.tables.exec = Jvm.exec) (hZ : Z.Warmed39 s.vm) {own : String} {index : Nat} {y : MethodName} {bytes : ByteArray} {maxL : Nat}
    (hyn : y.name = "<init>") (hown : s.vm.findClass own = some m.cls) (w1 : (Jvm.Cond.methodLink own index y).before a0 Z = true) (w2 : (Jvm.Cond.instanceMethod y).before a0 Z = true) (w3 : (Jvm.Cond.initialized y.cls).before a0 Z = true) (w4 : (Jvm.Cond.code y bytes maxL none).before a0 Z = true)
    (hy : y.cls ≠ "java/lang/invoke/MethodHandle" ∧ y.cls ≠ "java/lang/invoke/VarHandle") {rm : Room} {as' : Array Value} {Q' : Option Value → Heap → List Loc → Prop} {W : Nat}
    (hM : MetFree l y (head1 [Jvm.Cond.code y bytes maxL none] rm) (fun a U => a = as' ∧ Z.Warmed39 U.vm ∧ U.heap = h) (fun _ _ _ _ _ => True) (fun _ U o U' => ∃ v L, o = .returned v ∧ Q' v U'.heap L ∧ FrameEnd U o U' L rm.cells rm.slots))
    {b : Addr} (hf : rm.frames + 1 ≤ R.frames) (hl : W + (maxL + 11) + rm.locals ≤ R.locals) (eT : T.heap = h) (hsize : Ls.size = c.maxLocals) {argsL : List Value}
    (hlen : ∀ sig, parseMethodDescriptor y.desc = some sig → argsL.length = sig.parameters.length) (hst : st = argsL.reverse ++ .ref b :: rest) (hW : (rest.map fun v => v.category).sum = W) (hd : decode c.code pc = .ok (.invokespecial index, 3)) (hq : pc + 3 = q) (has : (.ref b :: argsL).toArray = as') (hc : cells + rm.cells ≤ R.cells) (hs : slots + rm.slots ≤ R.slots)
    (g : ∀ v T' L, Q' v T'.heap L → Stand p l e R s m args below meth c T' (locs ++ L) (cells + rm.cells) (slots + rm.slots) → own_G p e below FF (T'.setTop (mkF m q Ls (v.toList ++ rest)))) :
    own_G p e below FF (T.setTop (mkF m pc Ls st)) := by
  subst hq hst
  obtain ⟨v, _, ⟨T7, L7, k7, n7⟩, -, X7, ⟨Lc7, hQ7, l7, y7, z7⟩, st7⟩ := X.specialBack hx hyn hown (mvT hZ w1) (mvT hZ w2) (mvT hZ w4) hy (backOf (W := W) hM hZ w4 w3 hf hl) (g := mkF m pc Ls (argsL.reverse ++ .ref b :: rest)) rfl hsize (Steps.refl _) (a := b) (argsL := argsL) (rest := rest) hlen rfl (by show 2 * 0 + _ ≤ _; rw [hW]; omega) hd (fun _ _ => ⟨has, eT, hc, hs⟩)
  dsimp only [Pt.U, Pt.locs, Pt.cells, Pt.slots] at X7 l7 y7 z7 st7 hQ7
  subst l7 y7 z7
  exact (g v T7 Lc7 hQ7 X7).via fun t hh => st7.trans hh
theorem own_ldcI {Z : State} {a0 : Array Value} (X : Stand p l e R s m args below meth c T locs cells slots) (hx : p.tables.exec = Jvm.exec) (hZ : Z.Warmed39 s.vm) {own : String} {index : Nat} {v : Int32} (hown : s.vm.findClass own = some m.cls) (w : (Jvm.Cond.constant own index v).before a0 Z = true) (hd : decode c.code pc = .ok (.ldc index, 2)) (hq : pc + 2 = q)
    (g : own_G p e below FF (T.setTop (mkF m q Ls (.int v :: st)))) : own_G p e below FF (T.setTop (mkF m pc Ls st)) := by
  subst hq; exact g.via fun t => X.ldcInt hx hown (mvT hZ w) (g := mkF m pc Ls st) rfl hd t
theorem own_ldcL {Z : State} {a0 : Array Value} (X : Stand p l e R s m args below meth c T locs cells slots) (hx : p.tables.exec = Jvm.exec) (hZ : Z.Warmed39 s.vm) {own : String} {index : Nat} {v : Int64} (hown : s.vm.findClass own = some m.cls) (w : (Jvm.Cond.constantLong own index v).before a0 Z = true) (hd : decode c.code pc = .ok (.ldc2_w index, 3)) (hq : pc + 3 = q)
    (g : own_G p e below FF (T.setTop (mkF m q Ls (.long v :: st)))) : own_G p e below FF (T.setTop (mkF m pc Ls st)) := by
  subst hq; exact g.via fun t => X.ldc2Long hx hown (mvT hZ w) (g := mkF m pc Ls st) rfl hd t
theorem own_iadd (X : Stand p l e R s m args below meth c T locs cells slots) (hx : p.tables.exec = Jvm.exec) {x y : Int32} (hd : decode c.code pc = .ok (.iadd, 1))  (hq : pc + 1 = q) (g : own_G p e below FF (T.setTop (mkF m q Ls (.int (x + y) :: rest)))) : own_G p e below FF (T.setTop (mkF m pc Ls (.int y :: .int x :: rest))) := by
  subst hq; exact g.via fun _ hr_ => XS.iadd (g := mkF m pc Ls (.int y :: .int x :: rest)) X.here hx rfl hd rfl hr_
theorem own_isub (X : Stand p l e R s m args below meth c T locs cells slots) (hx : p.tables.exec = Jvm.exec) {x y : Int32} (hd : decode c.code pc = .ok (.isub, 1))  (hq : pc + 1 = q) (g : own_G p e below FF (T.setTop (mkF m q Ls (.int (x - y) :: rest)))) : own_G p e below FF (T.setTop (mkF m pc Ls (.int y :: .int x :: rest))) := by
  subst hq; exact g.via fun _ hr_ => XS.isub (g := mkF m pc Ls (.int y :: .int x :: rest)) X.here hx rfl hd rfl hr_
theorem own_imul (X : Stand p l e R s m args below meth c T locs cells slots) (hx : p.tables.exec = Jvm.exec) {x y : Int32} (hd : decode c.code pc = .ok (.imul, 1))  (hq : pc + 1 = q) (g : own_G p e below FF (T.setTop (mkF m q Ls (.int (x * y) :: rest)))) : own_G p e below FF (T.setTop (mkF m pc Ls (.int y :: .int x :: rest))) := by
  subst hq; exact g.via fun _ hr_ => XS.imul (g := mkF m pc Ls (.int y :: .int x :: rest)) X.here hx rfl hd rfl hr_
theorem own_iand (X : Stand p l e R s m args below meth c T locs cells slots) (hx : p.tables.exec = Jvm.exec) {x y : Int32} (hd : decode c.code pc = .ok (.iand, 1))  (hq : pc + 1 = q) (g : own_G p e below FF (T.setTop (mkF m q Ls (.int (x &&& y) :: rest)))) : own_G p e below FF (T.setTop (mkF m pc Ls (.int y :: .int x :: rest))) := by
  subst hq; exact g.via fun _ hr_ => XS.iand (g := mkF m pc Ls (.int y :: .int x :: rest)) X.here hx rfl hd rfl hr_
theorem own_ixor (X : Stand p l e R s m args below meth c T locs cells slots) (hx : p.tables.exec = Jvm.exec) {x y : Int32} (hd : decode c.code pc = .ok (.ixor, 1))  (hq : pc + 1 = q) (g : own_G p e below FF (T.setTop (mkF m q Ls (.int (x ^^^ y) :: rest)))) : own_G p e below FF (T.setTop (mkF m pc Ls (.int y :: .int x :: rest))) := by
  subst hq; exact g.via fun _ hr_ => XT.ixor (g := mkF m pc Ls (.int y :: .int x :: rest)) X.here hx rfl hd rfl hr_
theorem own_ior (X : Stand p l e R s m args below meth c T locs cells slots) (hx : p.tables.exec = Jvm.exec) {x y : Int32} (hd : decode c.code pc = .ok (.ior, 1))  (hq : pc + 1 = q) (g : own_G p e below FF (T.setTop (mkF m q Ls (.int (x ||| y) :: rest)))) : own_G p e below FF (T.setTop (mkF m pc Ls (.int y :: .int x :: rest))) := by
  subst hq; exact g.via fun _ hr_ => XT.ior (g := mkF m pc Ls (.int y :: .int x :: rest)) X.here hx rfl hd rfl hr_
theorem own_ishl (X : Stand p l e R s m args below meth c T locs cells slots) (hx : p.tables.exec = Jvm.exec) {x y : Int32} (hd : decode c.code pc = .ok (.ishl, 1))  (hq : pc + 1 = q) (g : own_G p e below FF (T.setTop (mkF m q Ls (.int (x <<< (y &&& 31)) :: rest)))) : own_G p e below FF (T.setTop (mkF m pc Ls (.int y :: .int x :: rest))) := by
  subst hq; exact g.via fun _ hr_ => XT.ishl (g := mkF m pc Ls (.int y :: .int x :: rest)) X.here hx rfl hd rfl hr_
theorem own_ishr (X : Stand p l e R s m args below meth c T locs cells slots) (hx : p.tables.exec = Jvm.exec) {x y : Int32} (hd : decode c.code pc = .ok (.ishr, 1))  (hq : pc + 1 = q) (g : own_G p e below FF (T.setTop (mkF m q Ls (.int (x >>> (y &&& 31)) :: rest)))) : own_G p e below FF (T.setTop (mkF m pc Ls (.int y :: .int x :: rest))) := by
  subst hq; exact g.via fun _ hr_ => XT.ishr (g := mkF m pc Ls (.int y :: .int x :: rest)) X.here hx rfl hd rfl hr_
theorem own_iushr (X : Stand p l e R s m args below meth c T locs cells slots) (hx : p.tables.exec = Jvm.exec) {x y : Int32} (hd : decode c.code pc = .ok (.iushr, 1))  (hq : pc + 1 = q) (g : own_G p e below FF (T.setTop (mkF m q Ls (.int (XT.ushr x y) :: rest)))) : own_G p e below FF (T.setTop (mkF m pc Ls (.int y :: .int x :: rest))) := by
  subst hq; exact g.via fun _ hr_ => XT.iushr (g := mkF m pc Ls (.int y :: .int x :: rest)) X.here hx rfl hd rfl hr_
theorem own_idiv (X : Stand p l e R s m args below meth c T locs cells slots) (hx : p.tables.exec = Jvm.exec) {x y : Int32} (hd : decode c.code pc = .ok (.idiv, 1)) (hy : y ≠ 0) (hq : pc + 1 = q) (g : own_G p e below FF (T.setTop (mkF m q Ls (.int (x / y) :: rest)))) : own_G p e below FF (T.setTop (mkF m pc Ls (.int y :: .int x :: rest))) := by
  subst hq; exact g.via fun _ hr_ => XS.idiv (g := mkF m pc Ls (.int y :: .int x :: rest)) X.here hx rfl hd rfl hy hr_
theorem own_irem (X : Stand p l e R s m args below meth c T locs cells slots) (hx : p.tables.exec = Jvm.exec) {x y : Int32} (hd : decode c.code pc = .ok (.irem, 1)) (hy : y ≠ 0) (hq : pc + 1 = q) (g : own_G p e below FF (T.setTop (mkF m q Ls (.int (x - (x / y) * y) :: rest)))) : own_G p e below FF (T.setTop (mkF m pc Ls (.int y :: .int x :: rest))) := by
  subst hq; exact g.via fun _ hr_ => XS.irem (g := mkF m pc Ls (.int y :: .int x :: rest)) X.here hx rfl hd rfl hy hr_
theorem own_ladd (X : Stand p l e R s m args below meth c T locs cells slots) (hx : p.tables.exec = Jvm.exec) {x y : Int64} (hd : decode c.code pc = .ok (.ladd, 1))  (hq : pc + 1 = q) (g : own_G p e below FF (T.setTop (mkF m q Ls (.long (x + y) :: rest)))) : own_G p e below FF (T.setTop (mkF m pc Ls (.long y :: .long x :: rest))) := by
  subst hq; exact g.via fun _ hr_ => XT.ladd (g := mkF m pc Ls (.long y :: .long x :: rest)) X.here hx rfl hd rfl hr_
theorem own_lsub (X : Stand p l e R s m args below meth c T locs cells slots) (hx : p.tables.exec = Jvm.exec) {x y : Int64} (hd : decode c.code pc = .ok (.lsub, 1))  (hq : pc + 1 = q) (g : own_G p e below FF (T.setTop (mkF m q Ls (.long (x - y) :: rest)))) : own_G p e below FF (T.setTop (mkF m pc Ls (.long y :: .long x :: rest))) := by
  subst hq; exact g.via fun _ hr_ => XT.lsub (g := mkF m pc Ls (.long y :: .long x :: rest)) X.here hx rfl hd rfl hr_
theorem own_lmul (X : Stand p l e R s m args below meth c T locs cells slots) (hx : p.tables.exec = Jvm.exec) {x y : Int64} (hd : decode c.code pc = .ok (.lmul, 1))  (hq : pc + 1 = q) (g : own_G p e below FF (T.setTop (mkF m q Ls (.long (x * y) :: rest)))) : own_G p e below FF (T.setTop (mkF m pc Ls (.long y :: .long x :: rest))) := by
  subst hq; exact g.via fun _ hr_ => XT.lmul (g := mkF m pc Ls (.long y :: .long x :: rest)) X.here hx rfl hd rfl hr_
theorem own_land (X : Stand p l e R s m args below meth c T locs cells slots) (hx : p.tables.exec = Jvm.exec) {x y : Int64} (hd : decode c.code pc = .ok (.land, 1))  (hq : pc + 1 = q) (g : own_G p e below FF (T.setTop (mkF m q Ls (.long (x &&& y) :: rest)))) : own_G p e below FF (T.setTop (mkF m pc Ls (.long y :: .long x :: rest))) := by
  subst hq; exact g.via fun _ hr_ => XT.land (g := mkF m pc Ls (.long y :: .long x :: rest)) X.here hx rfl hd rfl hr_
theorem own_lor (X : Stand p l e R s m args below meth c T locs cells slots) (hx : p.tables.exec = Jvm.exec) {x y : Int64} (hd : decode c.code pc = .ok (.lor, 1))  (hq : pc + 1 = q) (g : own_G p e below FF (T.setTop (mkF m q Ls (.long (x ||| y) :: rest)))) : own_G p e below FF (T.setTop (mkF m pc Ls (.long y :: .long x :: rest))) := by
  subst hq; exact g.via fun _ hr_ => XT.lor (g := mkF m pc Ls (.long y :: .long x :: rest)) X.here hx rfl hd rfl hr_
theorem own_lxor (X : Stand p l e R s m args below meth c T locs cells slots) (hx : p.tables.exec = Jvm.exec) {x y : Int64} (hd : decode c.code pc = .ok (.lxor, 1))  (hq : pc + 1 = q) (g : own_G p e below FF (T.setTop (mkF m q Ls (.long (x ^^^ y) :: rest)))) : own_G p e below FF (T.setTop (mkF m pc Ls (.long y :: .long x :: rest))) := by
  subst hq; exact g.via fun _ hr_ => XT.lxor (g := mkF m pc Ls (.long y :: .long x :: rest)) X.here hx rfl hd rfl hr_
theorem own_ldiv (X : Stand p l e R s m args below meth c T locs cells slots) (hx : p.tables.exec = Jvm.exec) {x y : Int64} (hd : decode c.code pc = .ok (.ldiv, 1)) (hy : y ≠ 0) (hq : pc + 1 = q) (g : own_G p e below FF (T.setTop (mkF m q Ls (.long (x / y) :: rest)))) : own_G p e below FF (T.setTop (mkF m pc Ls (.long y :: .long x :: rest))) := by
  subst hq; exact g.via fun _ hr_ => XT.ldiv (g := mkF m pc Ls (.long y :: .long x :: rest)) X.here hx rfl hd rfl hy hr_
theorem own_lrem (X : Stand p l e R s m args below meth c T locs cells slots) (hx : p.tables.exec = Jvm.exec) {x y : Int64} (hd : decode c.code pc = .ok (.lrem, 1)) (hy : y ≠ 0) (hq : pc + 1 = q) (g : own_G p e below FF (T.setTop (mkF m q Ls (.long (x - (x / y) * y) :: rest)))) : own_G p e below FF (T.setTop (mkF m pc Ls (.long y :: .long x :: rest))) := by
  subst hq; exact g.via fun _ hr_ => XT.lrem (g := mkF m pc Ls (.long y :: .long x :: rest)) X.here hx rfl hd rfl hy hr_
theorem own_lcmp (X : Stand p l e R s m args below meth c T locs cells slots) (hx : p.tables.exec = Jvm.exec) {x y : Int64} (hd : decode c.code pc = .ok (.lcmp, 1))  (hq : pc + 1 = q) (g : own_G p e below FF (T.setTop (mkF m q Ls (.int (XT.cmpL x y) :: rest)))) : own_G p e below FF (T.setTop (mkF m pc Ls (.long y :: .long x :: rest))) := by
  subst hq; exact g.via fun _ hr_ => XT.lcmp (g := mkF m pc Ls (.long y :: .long x :: rest)) X.here hx rfl hd rfl hr_
theorem own_lshl (X : Stand p l e R s m args below meth c T locs cells slots) (hx : p.tables.exec = Jvm.exec) {x : Int64} {y : Int32} (hd : decode c.code pc = .ok (.lshl, 1))  (hq : pc + 1 = q) (g : own_G p e below FF (T.setTop (mkF m q Ls (.long (x <<< (y.toInt64 &&& 63)) :: rest)))) : own_G p e below FF (T.setTop (mkF m pc Ls (.int y :: .long x :: rest))) := by
  subst hq; exact g.via fun _ hr_ => XT.lshl (g := mkF m pc Ls (.int y :: .long x :: rest)) X.here hx rfl hd rfl hr_
theorem own_lshr (X : Stand p l e R s m args below meth c T locs cells slots) (hx : p.tables.exec = Jvm.exec) {x : Int64} {y : Int32} (hd : decode c.code pc = .ok (.lshr, 1))  (hq : pc + 1 = q) (g : own_G p e below FF (T.setTop (mkF m q Ls (.long (x >>> (y.toInt64 &&& 63)) :: rest)))) : own_G p e below FF (T.setTop (mkF m pc Ls (.int y :: .long x :: rest))) := by
  subst hq; exact g.via fun _ hr_ => XT.lshr (g := mkF m pc Ls (.int y :: .long x :: rest)) X.here hx rfl hd rfl hr_
theorem own_lushr (X : Stand p l e R s m args below meth c T locs cells slots) (hx : p.tables.exec = Jvm.exec) {x : Int64} {y : Int32} (hd : decode c.code pc = .ok (.lushr, 1))  (hq : pc + 1 = q) (g : own_G p e below FF (T.setTop (mkF m q Ls (.long (XT.ushrL x y) :: rest)))) : own_G p e below FF (T.setTop (mkF m pc Ls (.int y :: .long x :: rest))) := by
  subst hq; exact g.via fun _ hr_ => XT.lushr (g := mkF m pc Ls (.int y :: .long x :: rest)) X.here hx rfl hd rfl hr_
theorem own_ineg (X : Stand p l e R s m args below meth c T locs cells slots) (hx : p.tables.exec = Jvm.exec) {x : Int32} (hd : decode c.code pc = .ok (.ineg, 1))  (hq : pc + 1 = q) (g : own_G p e below FF (T.setTop (mkF m q Ls (.int (-x) :: rest)))) : own_G p e below FF (T.setTop (mkF m pc Ls (.int x :: rest))) := by
  subst hq; exact g.via fun _ hr_ => XS.ineg (g := mkF m pc Ls (.int x :: rest)) X.here hx rfl hd rfl hr_
theorem own_lneg (X : Stand p l e R s m args below meth c T locs cells slots) (hx : p.tables.exec = Jvm.exec) {x : Int64} (hd : decode c.code pc = .ok (.lneg, 1))  (hq : pc + 1 = q) (g : own_G p e below FF (T.setTop (mkF m q Ls (.long (-x) :: rest)))) : own_G p e below FF (T.setTop (mkF m pc Ls (.long x :: rest))) := by
  subst hq; exact g.via fun _ hr_ => XT.lneg (g := mkF m pc Ls (.long x :: rest)) X.here hx rfl hd rfl hr_
theorem own_i2l (X : Stand p l e R s m args below meth c T locs cells slots) (hx : p.tables.exec = Jvm.exec) {x : Int32} (hd : decode c.code pc = .ok (.i2l, 1))  (hq : pc + 1 = q) (g : own_G p e below FF (T.setTop (mkF m q Ls (.long (x.toInt64) :: rest)))) : own_G p e below FF (T.setTop (mkF m pc Ls (.int x :: rest))) := by
  subst hq; exact g.via fun _ hr_ => XT.i2l (g := mkF m pc Ls (.int x :: rest)) X.here hx rfl hd rfl hr_
theorem own_l2i (X : Stand p l e R s m args below meth c T locs cells slots) (hx : p.tables.exec = Jvm.exec) {x : Int64} (hd : decode c.code pc = .ok (.l2i, 1))  (hq : pc + 1 = q) (g : own_G p e below FF (T.setTop (mkF m q Ls (.int (x.toInt32) :: rest)))) : own_G p e below FF (T.setTop (mkF m pc Ls (.long x :: rest))) := by
  subst hq; exact g.via fun _ hr_ => XT.l2i (g := mkF m pc Ls (.long x :: rest)) X.here hx rfl hd rfl hr_
theorem own_i2b (X : Stand p l e R s m args below meth c T locs cells slots) (hx : p.tables.exec = Jvm.exec) {x : Int32} (hd : decode c.code pc = .ok (.i2b, 1))  (hq : pc + 1 = q) (g : own_G p e below FF (T.setTop (mkF m q Ls (.int (x.toInt8.toInt32) :: rest)))) : own_G p e below FF (T.setTop (mkF m pc Ls (.int x :: rest))) := by
  subst hq; exact g.via fun _ hr_ => XT.i2b (g := mkF m pc Ls (.int x :: rest)) X.here hx rfl hd rfl hr_
theorem own_i2c (X : Stand p l e R s m args below meth c T locs cells slots) (hx : p.tables.exec = Jvm.exec) {x : Int32} (hd : decode c.code pc = .ok (.i2c, 1))  (hq : pc + 1 = q) (g : own_G p e below FF (T.setTop (mkF m q Ls (.int (x.toUInt32.toUInt16.toUInt32.toInt32) :: rest)))) : own_G p e below FF (T.setTop (mkF m pc Ls (.int x :: rest))) := by
  subst hq; exact g.via fun _ hr_ => XT.i2c (g := mkF m pc Ls (.int x :: rest)) X.here hx rfl hd rfl hr_
theorem own_iconst (X : Stand p l e R s m args below meth c T locs cells slots) (hx : p.tables.exec = Jvm.exec) {i : Int} {v : Int32} (hd : decode c.code pc = .ok (.iconst i, 1)) (hv : Int32.ofInt i = v) (hq : pc + 1 = q) (g : own_G p e below FF (T.setTop (mkF m q Ls (.int v :: st)))) : own_G p e below FF (T.setTop (mkF m pc Ls (st))) := by
  subst hq; subst hv; exact g.via fun _ hr_ => XS.iconst (g := mkF m pc Ls (st)) X.here hx rfl hd  hr_
theorem own_bipush (X : Stand p l e R s m args below meth c T locs cells slots) (hx : p.tables.exec = Jvm.exec) {i : Int} {v : Int32} (hd : decode c.code pc = .ok (.bipush i, 2)) (hv : (Int8.ofInt i).toInt32 = v) (hq : pc + 2 = q) (g : own_G p e below FF (T.setTop (mkF m q Ls (.int v :: st)))) : own_G p e below FF (T.setTop (mkF m pc Ls (st))) := by
  subst hq; subst hv; exact g.via fun _ hr_ => XS.bipush (g := mkF m pc Ls (st)) X.here hx rfl hd  hr_
theorem own_sipush (X : Stand p l e R s m args below meth c T locs cells slots) (hx : p.tables.exec = Jvm.exec) {i : Int} {v : Int32} (hd : decode c.code pc = .ok (.sipush i, 3)) (hv : (Int16.ofInt i).toInt32 = v) (hq : pc + 3 = q) (g : own_G p e below FF (T.setTop (mkF m q Ls (.int v :: st)))) : own_G p e below FF (T.setTop (mkF m pc Ls (st))) := by
  subst hq; subst hv; exact g.via fun _ hr_ => XS.sipush (g := mkF m pc Ls (st)) X.here hx rfl hd  hr_
theorem own_lconst (X : Stand p l e R s m args below meth c T locs cells slots) (hx : p.tables.exec = Jvm.exec) {i : Fin 2} {v : Int64} (hd : decode c.code pc = .ok (.lconst i, 1)) (hv : Int64.ofNat i = v) (hq : pc + 1 = q) (g : own_G p e below FF (T.setTop (mkF m q Ls (.long v :: st)))) : own_G p e below FF (T.setTop (mkF m pc Ls (st))) := by
  subst hq; subst hv; exact g.via fun _ hr_ => XT.lconst (g := mkF m pc Ls (st)) X.here hx rfl hd  hr_
theorem own_aconst_null (X : Stand p l e R s m args below meth c T locs cells slots) (hx : p.tables.exec = Jvm.exec)  (hd : decode c.code pc = .ok (.aconst_null, 1))  (hq : pc + 1 = q) (g : own_G p e below FF (T.setTop (mkF m q Ls (.null :: st)))) : own_G p e below FF (T.setTop (mkF m pc Ls (st))) := by
  subst hq; exact g.via fun _ hr_ => XS.aconstNull (g := mkF m pc Ls (st)) X.here hx rfl hd  hr_
theorem own_iload_n (X : Stand p l e R s m args below meth c T locs cells slots) (hx : p.tables.exec = Jvm.exec) {i : Fin 4} {v : Int32} (hd : decode c.code pc = .ok (.iload_n i, 1)) (hl : Ls[i.val]? = some (.val (.int v))) (hq : pc + 1 = q) (g : own_G p e below FF (T.setTop (mkF m q Ls (.int v :: st)))) : own_G p e below FF (T.setTop (mkF m pc Ls (st))) := by
  subst hq; exact g.via fun _ hr_ => XS.iloadN (g := mkF m pc Ls (st)) X.here hx rfl hd hl hr_
theorem own_iload (X : Stand p l e R s m args below meth c T locs cells slots) (hx : p.tables.exec = Jvm.exec) {i : Nat} {v : Int32} (hd : decode c.code pc = .ok (.iload i, 2)) (hl : Ls[i]? = some (.val (.int v))) (hq : pc + 2 = q) (g : own_G p e below FF (T.setTop (mkF m q Ls (.int v :: st)))) : own_G p e below FF (T.setTop (mkF m pc Ls (st))) := by
  subst hq; exact g.via fun _ hr_ => XS.iload (g := mkF m pc Ls (st)) X.here hx rfl hd hl hr_
theorem own_lload_n (X : Stand p l e R s m args below meth c T locs cells slots) (hx : p.tables.exec = Jvm.exec) {i : Fin 4} {v : Int64} (hd : decode c.code pc = .ok (.lload_n i, 1)) (hl : Ls[i.val]? = some (.val (.long v))) (hq : pc + 1 = q) (g : own_G p e below FF (T.setTop (mkF m q Ls (.long v :: st)))) : own_G p e below FF (T.setTop (mkF m pc Ls (st))) := by
  subst hq; exact g.via fun _ hr_ => XT.lloadN (g := mkF m pc Ls (st)) X.here hx rfl hd hl hr_
theorem own_lload (X : Stand p l e R s m args below meth c T locs cells slots) (hx : p.tables.exec = Jvm.exec) {i : Nat} {v : Int64} (hd : decode c.code pc = .ok (.lload i, 2)) (hl : Ls[i]? = some (.val (.long v))) (hq : pc + 2 = q) (g : own_G p e below FF (T.setTop (mkF m q Ls (.long v :: st)))) : own_G p e below FF (T.setTop (mkF m pc Ls (st))) := by
  subst hq; exact g.via fun _ hr_ => XT.lload (g := mkF m pc Ls (st)) X.here hx rfl hd hl hr_
theorem own_aload_n (X : Stand p l e R s m args below meth c T locs cells slots) (hx : p.tables.exec = Jvm.exec) {i : Fin 4} {v : Value} (hd : decode c.code pc = .ok (.aload_n i, 1)) (hl : Ls[i.val]? = some (.val v)) (hr : v.isRef = true) (hq : pc + 1 = q) (g : own_G p e below FF (T.setTop (mkF m q Ls (v :: st)))) : own_G p e below FF (T.setTop (mkF m pc Ls (st))) := by
  subst hq; exact g.via fun _ hr_ => XS.aloadN (g := mkF m pc Ls (st)) X.here hx rfl hd hl hr hr_
theorem own_aload (X : Stand p l e R s m args below meth c T locs cells slots) (hx : p.tables.exec = Jvm.exec) {i : Nat} {v : Value} (hd : decode c.code pc = .ok (.aload i, 2)) (hl : Ls[i]? = some (.val v)) (hr : v.isRef = true) (hq : pc + 2 = q) (g : own_G p e below FF (T.setTop (mkF m q Ls (v :: st)))) : own_G p e below FF (T.setTop (mkF m pc Ls (st))) := by
  subst hq; exact g.via fun _ hr_ => XS.aload (g := mkF m pc Ls (st)) X.here hx rfl hd hl hr hr_
theorem own_istore_n (X : Stand p l e R s m args below meth c T locs cells slots) (hx : p.tables.exec = Jvm.exec) {i : Fin 4} {v : Int32} (hd : decode c.code pc = .ok (.istore_n i, 1)) (hl : storeLocals Ls i.val (.int v) = some l') (hq : pc + 1 = q) (g : own_G p e below FF (T.setTop (mkF m q l' (rest)))) : own_G p e below FF (T.setTop (mkF m pc Ls (.int v :: rest))) := by
  subst hq; exact g.via fun _ hr_ => XS.istoreN (g := mkF m pc Ls (.int v :: rest)) X.here hx rfl hd rfl hl hr_
theorem own_istore (X : Stand p l e R s m args below meth c T locs cells slots) (hx : p.tables.exec = Jvm.exec) {i : Nat} {v : Int32} (hd : decode c.code pc = .ok (.istore i, 2)) (hl : storeLocals Ls i (.int v) = some l') (hq : pc + 2 = q) (g : own_G p e below FF (T.setTop (mkF m q l' (rest)))) : own_G p e below FF (T.setTop (mkF m pc Ls (.int v :: rest))) := by
  subst hq; exact g.via fun _ hr_ => XS.istore (g := mkF m pc Ls (.int v :: rest)) X.here hx rfl hd rfl hl hr_
theorem own_lstore_n (X : Stand p l e R s m args below meth c T locs cells slots) (hx : p.tables.exec = Jvm.exec) {i : Fin 4} {v : Int64} (hd : decode c.code pc = .ok (.lstore_n i, 1)) (hl : storeLocals Ls i.val (.long v) = some l') (hq : pc + 1 = q) (g : own_G p e below FF (T.setTop (mkF m q l' (rest)))) : own_G p e below FF (T.setTop (mkF m pc Ls (.long v :: rest))) := by
  subst hq; exact g.via fun _ hr_ => XT.lstoreN (g := mkF m pc Ls (.long v :: rest)) X.here hx rfl hd rfl hl hr_
theorem own_lstore (X : Stand p l e R s m args below meth c T locs cells slots) (hx : p.tables.exec = Jvm.exec) {i : Nat} {v : Int64} (hd : decode c.code pc = .ok (.lstore i, 2)) (hl : storeLocals Ls i (.long v) = some l') (hq : pc + 2 = q) (g : own_G p e below FF (T.setTop (mkF m q l' (rest)))) : own_G p e below FF (T.setTop (mkF m pc Ls (.long v :: rest))) := by
  subst hq; exact g.via fun _ hr_ => XT.lstore (g := mkF m pc Ls (.long v :: rest)) X.here hx rfl hd rfl hl hr_
theorem own_astore_n (X : Stand p l e R s m args below meth c T locs cells slots) (hx : p.tables.exec = Jvm.exec) {i : Fin 4} {v : Value} (hd : decode c.code pc = .ok (.astore_n i, 1)) (hr : v.isRef = true) (hl : storeLocals Ls i.val v = some l') (hq : pc + 1 = q) (g : own_G p e below FF (T.setTop (mkF m q l' (rest)))) : own_G p e below FF (T.setTop (mkF m pc Ls (v :: rest))) := by
  subst hq; exact g.via fun _ hr_ => XS.astoreN (g := mkF m pc Ls (v :: rest)) X.here hx rfl hd rfl hr hl hr_
theorem own_astore (X : Stand p l e R s m args below meth c T locs cells slots) (hx : p.tables.exec = Jvm.exec) {i : Nat} {v : Value} (hd : decode c.code pc = .ok (.astore i, 2)) (hr : v.isRef = true) (hl : storeLocals Ls i v = some l') (hq : pc + 2 = q) (g : own_G p e below FF (T.setTop (mkF m q l' (rest)))) : own_G p e below FF (T.setTop (mkF m pc Ls (v :: rest))) := by
  subst hq; exact g.via fun _ hr_ => XS.astore (g := mkF m pc Ls (v :: rest)) X.here hx rfl hd rfl hr hl hr_
theorem own_iinc (X : Stand p l e R s m args below meth c T locs cells slots) (hx : p.tables.exec = Jvm.exec) {i : Nat} {cst : Int} {v w : Int32} (hd : decode c.code pc = .ok (.iinc i cst, 3)) (hl : Ls[i]? = some (.val (.int v))) (hv : v + Int32.ofInt cst = w) (hs : storeLocals Ls i (.int w) = some l') (hq : pc + 3 = q) (g : own_G p e below FF (T.setTop (mkF m q l' (st)))) : own_G p e below FF (T.setTop (mkF m pc Ls (st))) := by
  subst hq; subst hv; exact g.via fun _ hr_ => XS.iinc (g := mkF m pc Ls (st)) X.here hx rfl hd hl hs hr_
theorem own_dup (X : Stand p l e R s m args below meth c T locs cells slots) (hx : p.tables.exec = Jvm.exec) {v : Value} (hd : decode c.code pc = .ok (.dup, 1)) (hc : v.category = 1) (hq : pc + 1 = q) (g : own_G p e below FF (T.setTop (mkF m q Ls (v :: v :: rest)))) : own_G p e below FF (T.setTop (mkF m pc Ls (v :: rest))) := by
  subst hq; exact g.via fun _ hr_ => XS.dup (g := mkF m pc Ls (v :: rest)) X.here hx rfl hd rfl hc hr_
theorem own_pop (X : Stand p l e R s m args below meth c T locs cells slots) (hx : p.tables.exec = Jvm.exec) {v : Value} (hd : decode c.code pc = .ok (.pop, 1)) (hc : v.category = 1) (hq : pc + 1 = q) (g : own_G p e below FF (T.setTop (mkF m q Ls (rest)))) : own_G p e below FF (T.setTop (mkF m pc Ls (v :: rest))) := by
  subst hq; exact g.via fun _ hr_ => XT.pop (g := mkF m pc Ls (v :: rest)) X.here hx rfl hd rfl hc hr_
theorem own_dup2L (X : Stand p l e R s m args below meth c T locs cells slots) (hx : p.tables.exec = Jvm.exec) {x : Int64} (hd : decode c.code pc = .ok (.dup2, 1))  (hq : pc + 1 = q) (g : own_G p e below FF (T.setTop (mkF m q Ls (.long x :: .long x :: rest)))) : own_G p e below FF (T.setTop (mkF m pc Ls (.long x :: rest))) := by
  subst hq; exact g.via fun _ hr_ => XT.dup2L (g := mkF m pc Ls (.long x :: rest)) X.here hx rfl hd rfl hr_
theorem own_dup2 (X : Stand p l e R s m args below meth c T locs cells slots) (hx : p.tables.exec = Jvm.exec) {v w : Value} (hd : decode c.code pc = .ok (.dup2, 1)) (hc : v.category = 1) (hc' : w.category = 1) (hq : pc + 1 = q) (g : own_G p e below FF (T.setTop (mkF m q Ls (v :: w :: v :: w :: rest)))) : own_G p e below FF (T.setTop (mkF m pc Ls (v :: w :: rest))) := by
  subst hq; exact g.via fun _ hr_ => XT.dup2 (g := mkF m pc Ls (v :: w :: rest)) X.here hx rfl hd rfl hc hc' hr_
theorem own_dup_x1 (X : Stand p l e R s m args below meth c T locs cells slots) (hx : p.tables.exec = Jvm.exec) {v w : Value} (hd : decode c.code pc = .ok (.dup_x1, 1)) (hc : v.category = 1) (hc' : w.category = 1) (hq : pc + 1 = q) (g : own_G p e below FF (T.setTop (mkF m q Ls (v :: w :: v :: rest)))) : own_G p e below FF (T.setTop (mkF m pc Ls (v :: w :: rest))) := by
  subst hq; exact g.via fun _ hr_ => XT.dupX1 (g := mkF m pc Ls (v :: w :: rest)) X.here hx rfl hd rfl hc hc' hr_
theorem own_goto (X : Stand p l e R s m args below meth c T locs cells slots) (hx : p.tables.exec = Jvm.exec) {o : Int} (hd : decode c.code pc = .ok (.goto o, 3)) (ho : 0 ≤ (pc : Int) + o) (hp : ((pc : Int) + o).toNat = q) (g : own_G p e below FF (T.setTop (mkF m q Ls st))) : own_G p e below FF (T.setTop (mkF m pc Ls st)) :=
  g.via fun _ hr => XS.goto (g := mkF m pc Ls st) X.here hx rfl (pc0 := pc) rfl hd ho hp hr
theorem own_if (X : Stand p l e R s m args below meth c T locs cells slots) (hx : p.tables.exec = Jvm.exec) {cd : ClassFile.Cond} {x : Int32} {o : Int} {P : Prop} [Decidable P] (hd : decode c.code pc = .ok (.ifCond cd o, 3)) (ho : 0 ≤ (pc : Int) + o) (hp : ((pc : Int) + o).toNat = q) (hq : pc + 3 = q') (hP : ifCond.holds cd x = decide P) (gy : P → own_G p e below FF (T.setTop (mkF m q Ls rest))) (gn : ¬ P → own_G p e below FF (T.setTop (mkF m q' Ls rest))) : own_G p e below FF (T.setTop (mkF m pc Ls (.int x :: rest))) := by
  by_cases h : P
  · exact (gy h).via fun _ hr => XS.ifYes (g := mkF m pc Ls (.int x :: rest)) X.here hx rfl (pc0 := pc) rfl hd rfl (by rw [hP]; exact decide_eq_true h) ho hp hr
  · subst hq; exact (gn h).via fun _ hr => XS.ifNo (g := mkF m pc Ls (.int x :: rest)) X.here hx rfl hd rfl (by rw [hP]; exact decide_eq_false h) hr
theorem own_icmp (X : Stand p l e R s m args below meth c T locs cells slots) (hx : p.tables.exec = Jvm.exec) {cd : ClassFile.Cond} {x y : Int32} {o : Int} {P : Prop} [Decidable P] (hd : decode c.code pc = .ok (.if_icmp cd o, 3)) (ho : 0 ≤ (pc : Int) + o) (hp : ((pc : Int) + o).toNat = q) (hq : pc + 3 = q') (hP : if_icmp.holds cd x y = decide P) (gy : P → own_G p e below FF (T.setTop (mkF m q Ls rest))) (gn : ¬ P → own_G p e below FF (T.setTop (mkF m q' Ls rest))) : own_G p e below FF (T.setTop (mkF m pc Ls (.int y :: .int x :: rest))) := by
  by_cases h : P
  · exact (gy h).via fun _ hr => XS.icmpYes (g := mkF m pc Ls (.int y :: .int x :: rest)) X.here hx rfl (pc0 := pc) rfl hd rfl (by rw [hP]; exact decide_eq_true h) ho hp hr
  · subst hq; exact (gn h).via fun _ hr => XS.icmpNo (g := mkF m pc Ls (.int y :: .int x :: rest)) X.here hx rfl hd rfl (by rw [hP]; exact decide_eq_false h) hr
theorem own_h_eq (x y : Int32) : if_icmp.holds .eq x y = decide (x.toInt = y.toInt) := by
  by_cases h : x = y
  · rw [(teq h).1, h]; simp
  · rw [(feq h).1]; symm; exact decide_eq_false fun q => h (Int32.toInt_inj.mp q)
theorem own_h_ne (x y : Int32) : if_icmp.holds .ne x y = decide (x.toInt ≠ y.toInt) := by
  by_cases h : x = y
  · rw [(teq h).2, h]; simp
  · rw [(feq h).2]; symm; exact decide_eq_true fun q => h (Int32.toInt_inj.mp q)
theorem own_h_lt (x y : Int32) : if_icmp.holds .lt x y = decide (x.toInt < y.toInt) := by
  by_cases h : x < y
  · rw [(tlt h).1]; symm; exact decide_eq_true (Int32.lt_iff_toInt_lt.mp h)
  · rw [(flt h).1]; symm; exact decide_eq_false fun q => h (Int32.lt_iff_toInt_lt.mpr q)
theorem own_h_ge (x y : Int32) : if_icmp.holds .ge x y = decide (y.toInt ≤ x.toInt) := by
  by_cases h : x < y
  · rw [(tlt h).2.1]; symm; exact decide_eq_false fun q => absurd (Int32.lt_iff_toInt_lt.mp h) (by omega)
  · rw [(flt h).2.1]; symm; exact decide_eq_true (Int.not_lt.mp fun q => h (Int32.lt_iff_toInt_lt.mpr q))
theorem own_h_gt (x y : Int32) : if_icmp.holds .gt x y = decide (y.toInt < x.toInt) := by
  by_cases h : y < x
  · rw [(tlt h).2.2.1]; symm; exact decide_eq_true (Int32.lt_iff_toInt_lt.mp h)
  · rw [(flt h).2.2.1]; symm; exact decide_eq_false fun q => h (Int32.lt_iff_toInt_lt.mpr q)
theorem own_h_le (x y : Int32) : if_icmp.holds .le x y = decide (x.toInt ≤ y.toInt) := by
  by_cases h : y < x
  · rw [(tlt h).2.2.2]; symm; exact decide_eq_false fun q => absurd (Int32.lt_iff_toInt_lt.mp h) (by omega)
  · rw [(flt h).2.2.2]; symm; exact decide_eq_true (Int.not_lt.mp fun q => h (Int32.lt_iff_toInt_lt.mpr q))
theorem own_z_eq (x : Int32) : ifCond.holds .eq x = decide (x.toInt = 0) := (if0 _ _).trans (own_h_eq x 0)
theorem own_z_ne (x : Int32) : ifCond.holds .ne x = decide (x.toInt ≠ 0) := (if0 _ _).trans (own_h_ne x 0)
theorem own_z_lt (x : Int32) : ifCond.holds .lt x = decide (x.toInt < 0) := (if0 _ _).trans (own_h_lt x 0)
theorem own_z_ge (x : Int32) : ifCond.holds .ge x = decide (0 ≤ x.toInt) := (if0 _ _).trans (own_h_ge x 0)
theorem own_z_gt (x : Int32) : ifCond.holds .gt x = decide (0 < x.toInt) := (if0 _ _).trans (own_h_gt x 0)
theorem own_z_le (x : Int32) : ifCond.holds .le x = decide (x.toInt ≤ 0) := (if0 _ _).trans (own_h_le x 0)
theorem own_cmpL (x y : Int64) : (x.toInt < y.toInt ∧ (XT.cmpL x y).toInt = -1) ∨ (x.toInt = y.toInt ∧ (XT.cmpL x y).toInt = 0) ∨ (y.toInt < x.toInt ∧ (XT.cmpL x y).toInt = 1) := by
  unfold XT.cmpL
  by_cases h1 : y < x
  · rw [if_pos h1]; exact Or.inr (Or.inr ⟨Int64.lt_iff_toInt_lt.mp h1, rfl⟩)
  · rw [if_neg h1]
    by_cases h2 : x = y
    · rw [if_pos h2]; exact Or.inr (Or.inl ⟨by rw [h2], rfl⟩)
    · rw [if_neg h2]
      have h3 : ¬ y.toInt < x.toInt := fun q => h1 (Int64.lt_iff_toInt_lt.mpr q)
      have h4 : ¬ x.toInt = y.toInt := fun q => h2 (Int64.toInt_inj.mp q)
      exact Or.inl ⟨by omega, rfl⟩
theorem own_l_eq (x y : Int64) : ifCond.holds .eq (XT.cmpL x y) = decide (x.toInt = y.toInt) := by
  rw [own_z_eq]; rcases own_cmpL x y with ⟨h, q⟩ | ⟨h, q⟩ | ⟨h, q⟩ <;> rw [q] <;> simp <;> omega
theorem own_l_ne (x y : Int64) : ifCond.holds .ne (XT.cmpL x y) = decide (x.toInt ≠ y.toInt) := by
  rw [own_z_ne]; rcases own_cmpL x y with ⟨h, q⟩ | ⟨h, q⟩ | ⟨h, q⟩ <;> rw [q] <;> simp <;> omega
theorem own_l_lt (x y : Int64) : ifCond.holds .lt (XT.cmpL x y) = decide (x.toInt < y.toInt) := by
  rw [own_z_lt]; rcases own_cmpL x y with ⟨h, q⟩ | ⟨h, q⟩ | ⟨h, q⟩ <;> rw [q] <;> simp <;> omega
theorem own_l_ge (x y : Int64) : ifCond.holds .ge (XT.cmpL x y) = decide (y.toInt ≤ x.toInt) := by
  rw [own_z_ge]; rcases own_cmpL x y with ⟨h, q⟩ | ⟨h, q⟩ | ⟨h, q⟩ <;> rw [q] <;> simp <;> omega
theorem own_l_gt (x y : Int64) : ifCond.holds .gt (XT.cmpL x y) = decide (y.toInt < x.toInt) := by
  rw [own_z_gt]; rcases own_cmpL x y with ⟨h, q⟩ | ⟨h, q⟩ | ⟨h, q⟩ <;> rw [q] <;> simp <;> omega
theorem own_l_le (x y : Int64) : ifCond.holds .le (XT.cmpL x y) = decide (x.toInt ≤ y.toInt) := by
  rw [own_z_le]; rcases own_cmpL x y with ⟨h, q⟩ | ⟨h, q⟩ | ⟨h, q⟩ <;> rw [q] <;> simp <;> omega
theorem own_addI (x y : Int32) (h1 : -2147483648 ≤ x.toInt + y.toInt) (h2 : x.toInt + y.toInt < 2147483648) : (x + y).toInt = x.toInt + y.toInt := by
  have := c_iadd x y; have := rng32 (x + y); omega
theorem own_subI (x y : Int32) (h1 : -2147483648 ≤ x.toInt - y.toInt) (h2 : x.toInt - y.toInt < 2147483648) : (x - y).toInt = x.toInt - y.toInt := by
  have := c_isub x y; have := rng32 (x - y); omega
theorem own_mulI (x y : Int32) (h1 : -2147483648 ≤ x.toInt * y.toInt) (h2 : x.toInt * y.toInt < 2147483648) : (x * y).toInt = x.toInt * y.toInt := by
  have := c_imul x y; have := rng32 (x * y); omega
theorem own_rem (x y : Int32) (h0 : 0 ≤ x.toInt) (hy : 0 < y.toInt) : (x - (x / y) * y).toInt = x.toInt % y.toInt := by
  have hne : y ≠ -1 := fun q => by rw [q] at hy; exact absurd hy (by decide)
  have h1 := (c_idiv x y y.toInt rfl hne).1 h0
  have h2 := c_imul (x / y) y
  rw [h1] at h2
  have h3 := c_isub x ((x / y) * y)
  have h4 := rng32 (x - (x / y) * y)
  have h5 := Int.emod_def x.toInt y.toInt
  rw [Int.mul_comm] at h5
  have h6 := Int.emod_nonneg x.toInt (Int.ne_of_gt hy)
  have h7 := Int.emod_lt_of_pos x.toInt hy
  have h8 := rng32 y
  generalize x.toInt / y.toInt * y.toInt = P at *
  generalize x.toInt % y.toInt = M at *
  omega
end Own
section Own2
variable {p : Program} {l : Launch} {e : Env} {R : Room} {s : State} {m : MethodId} {args : Array Value} {below : List Frame} {meth : Method} {c : Code} {T : State} {locs : List Loc} {cells slots : Nat} {k n : Nat} {Q : Option Value → Heap → List Loc → Prop} {FF : State → Option Value → Prop} {pc q q' : Nat} {Ls l' : Array Slot} {st rest : List Value}
variable {Z : State} {a0 : Array Value} {h h' : Heap} {a b : Addr} {ty : FieldType} {N i : Nat} {f : Nat → Value} {v : Value} {ws : List Addr} {sl n0 : Nat} {j x : Int32}
/-- an array of N places that hold f 0 .. f (N - 1) -/
def own_Arr (Z : State) (h : Heap) (a : Addr) (ty : FieldType) (N : Nat) (f : Nat → Value) : Prop := ∃ c : Cell, Arr Z h a c ty ∧ c.slots.size = N ∧ N < 2 ^ 31 ∧ ∀ i, i < N → c.slots[i]? = some (f i)
def own_upd (f : Nat → Value) (j : Nat) (v : Value) : Nat → Value := fun i => if i = j then v else f i
theorem own_upd_same (f : Nat → Value) (j : Nat) (v : Value) : own_upd f j v j = v := if_pos rfl
theorem own_upd_ne (f : Nat → Value) {i j : Nat} (v : Value) (q : i ≠ j) : own_upd f j v i = f i := if_neg q
def own_updI (f : Nat → Int32) (j : Nat) (v : Int32) : Nat → Int32 := fun i => if i = j then v else f i
def own_zero : Nat → Int32 := fun _ => 0
theorem own_updI_same (f : Nat → Int32) (j : Nat) (v : Int32) : own_updI f j v j = v := if_pos rfl
theorem own_updI_ne (f : Nat → Int32) {i j : Nat} (v : Int32) (q : i ≠ j) : own_updI f j v i = f i := if_neg q
theorem own_upd_I (f : Nat → Int32) (j : Nat) (v : Int32) : own_upd (fun i => .int (f i)) j (.int v) = fun i => .int (own_updI f j v i) := by
  funext i
  show (if i = j then Value.int v else Value.int (f i)) = Value.int (if i = j then v else f i)
  split <;> rfl
theorem own_Arr.ext (F : own_Arr Z h a ty N f) (E : Ext h h') : own_Arr Z h' a ty N f := by obtain ⟨c, A, r⟩ := F; exact ⟨c, A.ext E, r⟩
theorem own_Arr.keep (F : own_Arr Z h a ty N f) (K : Keep h h' ws) (q : a ∉ ws) : own_Arr Z h' a ty N f := by obtain ⟨c, A, r⟩ := F; exact ⟨c, ⟨K.2.1 a c A.1 q, A.2⟩, r⟩
theorem own_Arr.lt (F : own_Arr Z h a ty N f) : a < h.size := by obtain ⟨c, A, -⟩ := F; exact A.lt
theorem own_Arr.set (F : own_Arr Z h a ty N f) (W : Wr h h' a i v) : own_Arr Z h' a ty N (own_upd f i v) := by
  obtain ⟨c, A, S, hN, H⟩ := F
  refine ⟨_, Arr.same W A, by rw [sz_set]; exact S, hN, fun t ht => ?_⟩
  show (c.slots.setIfInBounds i v)[t]? = _
  rw [Array.getElem?_setIfInBounds]
  by_cases q : t = i
  · subst q; simp [own_upd, S, ht]
  · rw [if_neg (fun z => q z.symm), own_upd, if_neg q]; exact H t ht
theorem own_idx (hj : j.toInt = (i : Int)) (hi : i < N) : ¬ (j < 0 ∨ N ≤ j.toNatClampNeg) ∧ j.toNatClampNeg = i := by
  have h1 : j.toNatClampNeg = i := by show j.toInt.toNat = i; omega
  refine ⟨fun q => ?_, h1⟩
  rcases q with q | q
  · have := Int32.lt_iff_toInt_lt.mp q; have : (0 : Int32).toInt = 0 := rfl; omega
  · omega
theorem own_newP (X : Stand p l e R s m args below meth c T locs cells slots) (hx : p.tables.exec = Jvm.exec) (hZ : Z.Warmed39 s.vm) {aty : ArrayType} (w : (Jvm.Cond.arrayClass (newarray.typeOf aty)).before a0 Z = true) (eT : T.heap = h) (hd : decode c.code pc = .ok (.newarray aty, 2)) (hn : j.toInt = (N : Int)) {cap : Nat} (hcap : N ≤ cap) (hb : cap * 8 ≤ 536870912) (hc : cells + 1 ≤ R.cells) (hl : slots + cap ≤ R.slots) (hq : pc + 2 = q)
    (g : ∀ T' h' b, b = h.size → Stand p l e R s m args below meth c T' locs (cells + 1) (slots + cap) → T'.heap = h' → Ext h h' → own_Arr Z h' b (newarray.typeOf aty) N (fun _ => defaultValue (newarray.typeOf aty)) → own_G p e below FF (T'.setTop (mkF m q Ls (.ref b :: rest)))) :
    own_G p e below FF (T.setTop (mkF m pc Ls (.int j :: rest))) := by
  subst hq
  have hN : j.toNatClampNeg = N := by show j.toInt.toNat = N; omega
  have hn0 : ¬ j < 0 := fun q => by have := Int32.lt_iff_toInt_lt.mp q; have : (0 : Int32).toInt = 0 := rfl; omega
  obtain ⟨T', h', cA, X', e', E, A, st⟩ := newP X hx hZ w eT (g := mkF m pc Ls (.int j :: rest)) rfl hd rfl hn0 (cap := cap) (by rw [hN]; exact hcap) hb hc hl
  refine (g T' h' h.size rfl X' e' E ⟨_, A, by rw [sz_new]; exact hN, ?_, fun t ht => ?_⟩).via st
  · have := (back32 hn0).2; omega
  · show (Array.replicate j.toNatClampNeg _)[t]? = _
    rw [Array.getElem?_replicate, if_pos (by omega)]
theorem own_stB (X : Stand p l e R s m args below meth c T locs cells slots) (hx : p.tables.exec = Jvm.exec) (hZ : Z.Warmed39 s.vm) (eT : T.heap = h) {fi : Nat → Int32} (A : own_Arr Z h a .byte N (fun i => .int (fi i))) (hd : decode c.code pc = .ok (.bastore, 1)) (hj : j.toInt = (i : Int)) (hi : i < N) (Nf : Fr n0 locs) (ha : n0 ≤ a) (hq : pc + 1 = q)
    (g : ∀ T' h' L', Stand p l e R s m args below meth c T' L' cells slots → Fr n0 L' → T'.heap = h' → own_Arr Z h' a .byte N (fun t => .int (own_updI fi i (x.toInt8.toInt32) t)) → Wr h h' a i (.int (x.toInt8.toInt32)) → own_G p e below FF (T'.setTop (mkF m q Ls rest))) :
    own_G p e below FF (T.setTop (mkF m pc Ls (.int x :: .int j :: .ref a :: rest))) := by
  subst hq
  have A0 := A
  obtain ⟨cl, Ar, S, hN, H⟩ := A
  obtain ⟨h1, h2⟩ := own_idx (N := cl.slots.size) hj (by omega)
  obtain ⟨T', h', X', e', W, st⟩ := stB X hx hZ eT Ar (j := j) (x := x) h1 (g := mkF m pc Ls (.int x :: .int j :: .ref a :: rest)) rfl rfl hd
  have N' := Fr.snoc X' Nf ha
  rw [h2] at W
  have A1 := A0.set W
  rw [show (Value.int (nar .byte x)) = .int (x.toInt8.toInt32) from rfl, own_upd_I] at A1
  exact (g T' h' _ X' N' e' A1 W).via st
theorem own_baload (X : Stand p l e R s m args below meth c T locs cells slots) (hx : p.tables.exec = Jvm.exec) (hZ : Z.Warmed39 s.vm) (eT : T.heap = h) (A : own_Arr Z h a .byte N f) (hd : decode c.code pc = .ok (.baload, 1)) (hj : j.toInt = (i : Int)) (hi : i < N) (hv : f i = v) (hq : pc + 1 = q)
    (g : own_G p e below FF (T.setTop (mkF m q Ls (v :: rest)))) :
    own_G p e below FF (T.setTop (mkF m pc Ls (.int j :: .ref a :: rest))) := by
  subst hq
  obtain ⟨cl, Ar, S, hN, H⟩ := A
  obtain ⟨h1, h2⟩ := own_idx (N := cl.slots.size) hj (by omega)
  exact g.via fun t => X.baloadBytes hx (j := j) (v := v) (by rw [eT]; exact Ar.1) (State.isArrayOf_alike hZ.alike Ar.2.1) Ar.2.2 h1 (by rw [h2, ← hv]; exact H i hi) (g := mkF m pc Ls (.int j :: .ref a :: rest)) rfl rfl hd t
theorem own_zaload (X : Stand p l e R s m args below meth c T locs cells slots) (hx : p.tables.exec = Jvm.exec) (hZ : Z.Warmed39 s.vm) (eT : T.heap = h) (A : own_Arr Z h a .boolean N f) (hd : decode c.code pc = .ok (.baload, 1)) (hj : j.toInt = (i : Int)) (hi : i < N) (hv : f i = v) (hq : pc + 1 = q)
    (g : own_G p e below FF (T.setTop (mkF m q Ls (v :: rest)))) :
    own_G p e below FF (T.setTop (mkF m pc Ls (.int j :: .ref a :: rest))) := by
  subst hq
  obtain ⟨cl, Ar, S, hN, H⟩ := A
  obtain ⟨h1, h2⟩ := own_idx (N := cl.slots.size) hj (by omega)
  exact g.via fun t => X.baloadBooleans hx (j := j) (v := v) (by rw [eT]; exact Ar.1) (State.isArrayOf_alike hZ.alike Ar.2.1) Ar.2.2 h1 (by rw [h2, ← hv]; exact H i hi) (g := mkF m pc Ls (.int j :: .ref a :: rest)) rfl rfl hd t
theorem own_newO (X : Stand p l e R s m args below meth c T locs cells slots) (hx : p.tables.exec = Jvm.exec) (hZ : Z.Warmed39 s.vm) {own C : String} {index sz : Nat} (hown : s.vm.findClass own = some m.cls) (w : (Jvm.Cond.classLink own index C).before a0 Z = true) (wi : (Jvm.Cond.instantiable C sz).before a0 Z = true) (wz : (Jvm.Cond.initialized C).before a0 Z = true) (eT : T.heap = h) (hd : decode c.code pc = .ok (.new index, 3)) (hc : cells + 1 ≤ R.cells) (hl : slots + sz ≤ R.slots) (hq : pc + 3 = q)
    (g : ∀ T' h' b, b = h.size → Stand p l e R s m args below meth c T' locs (cells + 1) (slots + sz) → T'.heap = h' → Ext h h' → Exa Z h' b C → (∀ {O nm d : String} {ty : FieldType}, Laid Z a0 C O nm d → parseFieldDescriptor d = some ty → Fld Z h' b O nm d (defaultValue ty)) → own_G p e below FF (T'.setTop (mkF m q Ls (.ref b :: st)))) :
    own_G p e below FF (T.setTop (mkF m pc Ls st)) := by
  subst hq
  obtain ⟨T', h', X', e', E, A, D, -, stp⟩ := newO X hx hZ hown w wi wz eT (g := mkF m pc Ls st) rfl hd hc hl
  exact (g T' h' h.size rfl X' e' E A D).via stp
theorem own_initO (X : Stand p l e R s m args below meth c T locs cells slots) (hx : p.tables.exec = Jvm.exec) (hZ : Z.Warmed39 s.vm) {own : String} {idx : Nat} (hown : s.vm.findClass own = some m.cls) (w1 : (Jvm.Cond.methodLink own idx Lib.objectInit).before a0 Z = true) (w2 : (Jvm.Cond.instanceMethod Lib.objectInit).before a0 Z = true)
    (w3 : (Jvm.Cond.code Lib.objectInit ⟨#[0xb1]⟩ 1 none).before a0 Z = true) (eT : T.heap = h) (hsize : Ls.size = c.maxLocals) (hd : decode c.code pc = .ok (.invokespecial idx, 3)) (hf : 1 ≤ R.frames) {W : Nat} (hW : (rest.map fun v => v.category).sum = W) (hl : W + 12 ≤ R.locals) (hq : pc + 3 = q)
    (g : ∀ T', Stand p l e R s m args below meth c T' locs cells slots → T'.heap = h → own_G p e below FF (T'.setTop (mkF m q Ls rest))) :
    own_G p e below FF (T.setTop (mkF m pc Ls (.ref a :: rest))) := by
  subst hq
  obtain ⟨T', X', e', st⟩ := initO X hx hZ hown w1 w2 w3 eT (g := mkF m pc Ls (.ref a :: rest)) rfl hsize rfl hd hf (W := W) (by show 2 * 0 + _ ≤ _; rw [hW]; omega) hl
  exact (g T' X' e').via st
theorem own_putF (X : Stand p l e R s m args below meth c T locs cells slots) (hx : p.tables.exec = Jvm.exec) (hZ : Z.Warmed39 s.vm) {own O nm d C : String} {index kk : Nat} {ft : FieldType} (hown : s.vm.findClass own = some m.cls) (w : (Jvm.Cond.fieldLink own index O nm d).before a0 Z = true)
    (eT : T.heap = h) {old : Value} (F : Fld Z h a O nm d old) (E : Exa Z h a C) (L : (Jvm.Cond.lays C O nm d).before a0 Z = true ∨ ((Jvm.Cond.laysFinal C O nm d).before a0 Z = true ∧ own = O ∧ meth.name = "<init>")) (wi : (Jvm.Cond.instantiable C kk).before a0 Z = true)
    (hty : parseFieldDescriptor d = some ft) (hn : narrow ft v = v) (hf : fits ft v = true) (hd : decode c.code pc = .ok (.putfield index, 3)) (Nf : Fr n0 locs) (ha : n0 ≤ a) (hq : pc + 3 = q)
    (g : ∀ T' h' L', Stand p l e R s m args below meth c T' L' cells slots → Fr n0 L' → T'.heap = h' → Wr h h' a (Jvm.RoadKit.slotOf Z O nm d) v → own_G p e below FF (T'.setTop (mkF m q Ls rest))) :
    own_G p e below FF (T.setTop (mkF m pc Ls (v :: .ref a :: rest))) := by
  subst hq
  obtain ⟨T', h', X', e', W, st⟩ := putF X hx hZ hown (host := "") (Or.inl w) Via.refl eT F E L wi hty hn hf (g := mkF m pc Ls (v :: .ref a :: rest)) rfl rfl hd
  exact (g T' h' _ X' (Fr.snoc X' Nf ha) e' W).via st
theorem own_getF (X : Stand p l e R s m args below meth c T locs cells slots) (hx : p.tables.exec = Jvm.exec) (hZ : Z.Warmed39 s.vm) {own O nm d : String} {index : Nat} (hown : s.vm.findClass own = some m.cls) (w : (Jvm.Cond.fieldLink own index O nm d).before a0 Z = true)
    (eT : T.heap = h) (F : Fld Z h a O nm d v) (hd : decode c.code pc = .ok (.getfield index, 3)) (hq : pc + 3 = q)
    (g : ∀ T', Stand p l e R s m args below meth c T' locs cells slots → T'.heap = h → own_G p e below FF (T'.setTop (mkF m q Ls (v :: rest)))) :
    own_G p e below FF (T.setTop (mkF m pc Ls (.ref a :: rest))) := by
  subst hq
  obtain ⟨T', X', e', st⟩ := getF X hx hZ hown (host := "") (Or.inl w) Via.refl eT F (g := mkF m pc Ls (.ref a :: rest)) rfl rfl hd
  exact (g T' X' e').via st
theorem own_getS (X : Stand p l e R s m args below meth c T locs cells slots) (hx : p.tables.exec = Jvm.exec) (hZ : Z.Warmed39 s.vm) {own O nm d : String} {index : Nat} (hown : s.vm.findClass own = some m.cls) (w : (Jvm.Cond.fieldLink own index O nm d).before a0 Z = true)
    (eT : T.heap = h) (F : Sta Z h O nm d v) (hd : decode c.code pc = .ok (.getstatic index, 3)) (hq : pc + 3 = q)
    (g : ∀ T', Stand p l e R s m args below meth c T' locs cells slots → T'.heap = h → own_G p e below FF (T'.setTop (mkF m q Ls (v :: st)))) :
    own_G p e below FF (T.setTop (mkF m pc Ls st)) := by
  subst hq
  obtain ⟨T', X', e', stp⟩ := getS X hx hZ (host := "") hown w Via.refl eT F (g := mkF m pc Ls st) rfl hd
  exact (g T' X' e').via stp
theorem own_retA (X : Stand p l e R s m args below meth c T locs cells slots) (hx : p.tables.exec = Jvm.exec) {t : FieldType} (hv : v.isRef = true) (hret : meth.sig.returnType = some t) (ht : t.isReference = true) (hlk : meth.locks = false) (hd : decode c.code pc = .ok (.areturn, 1)) (hk : cells ≤ k) (hn : slots ≤ n) (hq : Q (some v) T.heap locs) :
    own_G p e below (own_En s k n Q) (T.setTop (mkF m pc Ls [v])) := by
  obtain ⟨fs, hr, hrun, hended, hW, hsame⟩ := X.leave (v := some v) (fun h => by rw [hret] at h; cases h) hlk
  exact ⟨_, _, X.areturnOut hx hv hret ht hd hr, hrun, hended, _, hq, ⟨_, rfl⟩, hW, hsame.mono hk hn⟩
theorem own_newR (X : Stand p l e R s m args below meth c T locs cells slots) (hx : p.tables.exec = Jvm.exec) (hZ : Z.Warmed39 s.vm) {own C : String} {index : Nat} (hown : s.vm.findClass own = some m.cls) (w1 : (Jvm.Cond.classLink own index C).before a0 Z = true) (w2 : (Jvm.Cond.arrayOver (.object C)).before a0 Z = true) (eT : T.heap = h) (hd : decode c.code pc = .ok (.anewarray index, 3)) (hn : j.toInt = (N : Int)) {cap : Nat} (hcap : N ≤ cap) (hb : cap * 8 ≤ 536870912) (hc : cells + 1 ≤ R.cells) (hl : slots + cap ≤ R.slots) (hq : pc + 3 = q)
    (g : ∀ T' h' b, b = h.size → Stand p l e R s m args below meth c T' locs (cells + 1) (slots + cap) → T'.heap = h' → Ext h h' → own_Arr Z h' b (.object C) N (fun _ => .null) → (∃ cl, Arr Z h' b cl (.object C) ∧ Ovr Z cl.cls C) → own_G p e below FF (T'.setTop (mkF m q Ls (.ref b :: rest)))) :
    own_G p e below FF (T.setTop (mkF m pc Ls (.int j :: rest))) := by
  subst hq
  have hN : j.toNatClampNeg = N := by show j.toInt.toNat = N; omega
  have hn0 : ¬ j < 0 := fun q => by have := Int32.lt_iff_toInt_lt.mp q; have : (0 : Int32).toInt = 0 := rfl; omega
  obtain ⟨T', h', cA, X', e', E, A, O, st⟩ := newR X hx hZ hown w1 w2 eT (g := mkF m pc Ls (.int j :: rest)) rfl hd rfl hn0 (cap := cap) (by rw [hN]; exact hcap) hb hc hl
  refine (g T' h' h.size rfl X' e' E ⟨_, A, by rw [sz_new]; exact hN, ?_, fun t ht => ?_⟩ ⟨_, A, O⟩).via st
  · have := (back32 hn0).2; omega
  · show (Array.replicate j.toNatClampNeg _)[t]? = _
    rw [Array.getElem?_replicate, if_pos (by omega)]; rfl
theorem own_ovr_keep {C : String} (F : ∃ cl : Cell, Arr Z h a cl (.object C) ∧ Ovr Z cl.cls C) (W : Wr h h' a i v) : ∃ cl : Cell, Arr Z h' a cl (.object C) ∧ Ovr Z cl.cls C := by
  obtain ⟨cl, A, O⟩ := F
  exact ⟨_, Arr.same W A, O⟩
theorem own_stR {C : String} (X : Stand p l e R s m args below meth c T locs cells slots) (hx : p.tables.exec = Jvm.exec) (hZ : Z.Warmed39 s.vm) (eT : T.heap = h) (A : own_Arr Z h a (.object C) N f) (O : ∃ cl : Cell, Arr Z h a cl (.object C) ∧ Ovr Z cl.cls C) (I : Ins Z h b C true) (hd : decode c.code pc = .ok (.aastore, 1)) (hj : j.toInt = (i : Int)) (hi : i < N) (Nf : Fr n0 locs) (ha : n0 ≤ a) (hq : pc + 1 = q)
    (g : ∀ T' h' L', Stand p l e R s m args below meth c T' L' cells slots → Fr n0 L' → T'.heap = h' → own_Arr Z h' a (.object C) N (own_upd f i (.ref b)) → (∃ cl : Cell, Arr Z h' a cl (.object C) ∧ Ovr Z cl.cls C) → Wr h h' a i (.ref b) → own_G p e below FF (T'.setTop (mkF m q Ls rest))) :
    own_G p e below FF (T.setTop (mkF m pc Ls (.ref b :: .int j :: .ref a :: rest))) := by
  subst hq
  have A0 := A
  have O0 := O
  obtain ⟨cl, Ar, S, hN, H⟩ := A
  obtain ⟨cl', Ar', Ov⟩ := O
  cases Ar.1.symm.trans Ar'.1
  obtain ⟨h1, h2⟩ := own_idx (N := cl.slots.size) hj (by omega)
  obtain ⟨T', h', X', e', W, st⟩ := stR X hx hZ eT Ar (j := j) (v := .ref b) h1 rfl (Sto.of Ar Ov I) (g := mkF m pc Ls (.ref b :: .int j :: .ref a :: rest)) rfl rfl hd
  have N' := Fr.snoc X' Nf ha
  rw [h2] at W
  exact (g T' h' _ X' N' e' (A0.set W) (own_ovr_keep O0 W) W).via st
theorem own_aaload {C : String} (X : Stand p l e R s m args below meth c T locs cells slots) (hx : p.tables.exec = Jvm.exec) (hZ : Z.Warmed39 s.vm) (eT : T.heap = h) (A : own_Arr Z h a (.object C) N f) (hd : decode c.code pc = .ok (.aaload, 1)) (hj : j.toInt = (i : Int)) (hi : i < N) (hv : f i = v) (hq : pc + 1 = q)
    (g : own_G p e below FF (T.setTop (mkF m q Ls (v :: rest)))) :
    own_G p e below FF (T.setTop (mkF m pc Ls (.int j :: .ref a :: rest))) := by
  subst hq
  obtain ⟨cl, Ar, S, hN, H⟩ := A
  obtain ⟨h1, h2⟩ := own_idx (N := cl.slots.size) hj (by omega)
  exact g.via fun t => X.aaload hx (j := j) (v := v) (by rw [eT]; exact Ar.1) (State.isArrayOf_alike hZ.alike Ar.2.1) rfl Ar.2.2 h1 (by rw [h2, ← hv]; exact H i hi) (g := mkF m pc Ls (.int j :: .ref a :: rest)) rfl rfl hd t
theorem own_acmp (X : Stand p l e R s m args below meth c T locs cells slots) (hx : p.tables.exec = Jvm.exec) {cd : ClassFile.ACond} {o : Int} {P : Prop} [Decidable P] {u v : Value} (hd : decode c.code pc = .ok (.if_acmp cd o, 3)) (ho : 0 ≤ (pc : Int) + o) (hp : ((pc : Int) + o).toNat = q) (hq : pc + 3 = q') (hu : u.isRef = true) (hv : v.isRef = true) (hP : XT.acmp cd u v = decide P) (gy : P → own_G p e below FF (T.setTop (mkF m q Ls rest))) (gn : ¬ P → own_G p e below FF (T.setTop (mkF m q' Ls rest))) : own_G p e below FF (T.setTop (mkF m pc Ls (v :: u :: rest))) := by
  by_cases h : P
  · exact (gy h).via fun _ hr => XT.acmpYes (g := mkF m pc Ls (v :: u :: rest)) X.here hx rfl (pc0 := pc) rfl hd rfl hu hv (by rw [hP]; exact decide_eq_true h) ho hp hr
  · subst hq; exact (gn h).via fun _ hr => XT.acmpNo (g := mkF m pc Ls (v :: u :: rest)) X.here hx rfl hd rfl hu hv (by rw [hP]; exact decide_eq_false h) hr
theorem own_callVP {C own : String} {index : Nat} {y : MethodName} {bytes : ByteArray} {maxL : Nat} {ret : Option FieldType} (X : Stand p l e R s m args below meth c T locs cells slots) (hx : p.tables.exec = Jvm.exec) (hZ : Z.Warmed39 s.vm)
    (hown : s.vm.findClass own = some m.cls) (w1 : (Jvm.Cond.methodLink own index y).before a0 Z = true) (w2 : (Jvm.Cond.declares y).before a0 Z = true) (w3 : (Jvm.Cond.selects C y y).before a0 Z = true) (w4 : (Jvm.Cond.instanceMethod y).before a0 Z = true) (w5 : (Jvm.Cond.code y bytes maxL ret).before a0 Z = true) (w6 : (Jvm.Cond.initialized y.cls).before a0 Z = true)
    (hy : y.cls ≠ "java/lang/invoke/MethodHandle" ∧ y.cls ≠ "java/lang/invoke/VarHandle") {rm : Room} {as' : Array Value} {P : Value → Prop} {W : Nat}
    (hM : MetFree l y (head1 [Jvm.Cond.code y bytes maxL ret] rm) (fun a U => a = as' ∧ Z.Warmed39 U.vm ∧ U.heap = h) (fun _ _ _ _ _ => True) (fun _ U o U' => ∃ v L, o = .returned v ∧ ((∃ w, v = some w ∧ P w) ∧ L = [] ∧ U'.heap = h) ∧ FrameEnd U o U' L rm.cells rm.slots))
    (E : Exa Z h b C) (hf : rm.frames + 1 ≤ R.frames) (hl : W + (maxL + 11) + rm.locals ≤ R.locals) (eT : T.heap = h) (hsize : Ls.size = c.maxLocals) {argsL : List Value}
    (hlen : ∀ sig, parseMethodDescriptor y.desc = some sig → argsL.length = sig.parameters.length) (hst : st = argsL.reverse ++ .ref b :: rest) (hW : (rest.map fun v => v.category).sum = W) (hd : decode c.code pc = .ok (.invokevirtual index, 3)) (hq : pc + 3 = q) (has : (.ref b :: argsL).toArray = as') (hc : rm.cells = 0) (hs : rm.slots = 0) (hcc : cells ≤ R.cells) (hss : slots ≤ R.slots)
    (g : ∀ w T', P w → Stand p l e R s m args below meth c T' locs cells slots → T'.heap = h → own_G p e below FF (T'.setTop (mkF m q Ls (w :: rest)))) :
    own_G p e below FF (T.setTop (mkF m pc Ls st)) := by
  refine own_callV (Q' := fun v U L => (∃ w, v = some w ∧ P w) ∧ L = [] ∧ U = h) X hx hZ hown w1 w2 w3 w4 w5 w6 hy hM E hf hl eT hsize hlen hst hW hd hq has (by rw [hc]; exact hcc) (by rw [hs]; exact hss) ?_
  rintro v T' L ⟨⟨w, rfl, hP⟩, rfl, e'⟩ X'
  rw [List.append_nil, hc, hs] at X'
  exact g w T' hP X' e'
/-- a private method by invokevirtual, the heap left as it was -/
theorem own_callPP {C own : String} {index kk : Nat} {y : MethodName} {bytes : ByteArray} {maxL : Nat} {ret : Option FieldType} (X : Stand p l e R s m args below meth c T locs cells slots) (hx : p.tables.exec = Jvm.exec) (hZ : Z.Warmed39 s.vm)
    (hown : s.vm.findClass own = some m.cls) (w1 : (Jvm.Cond.methodLink own index y).before a0 Z = true) (w2 : (Jvm.Cond.privateMethod y).before a0 Z = true) (w3 : (Jvm.Cond.instantiable y.cls kk).before a0 Z = true) (w4 : (Jvm.Cond.instanceMethod y).before a0 Z = true) (w5 : (Jvm.Cond.code y bytes maxL ret).before a0 Z = true) (w6 : (Jvm.Cond.initialized y.cls).before a0 Z = true)
    (hy : y.cls ≠ "java/lang/invoke/MethodHandle" ∧ y.cls ≠ "java/lang/invoke/VarHandle") {rm : Room} {as' : Array Value} {P : Value → Prop} {W : Nat}
    (hM : MetFree l y (head1 [Jvm.Cond.code y bytes maxL ret] rm) (fun a U => a = as' ∧ Z.Warmed39 U.vm ∧ U.heap = h) (fun _ _ _ _ _ => True) (fun _ U o U' => ∃ v L, o = .returned v ∧ ((∃ w, v = some w ∧ P w) ∧ L = [] ∧ U'.heap = h) ∧ FrameEnd U o U' L rm.cells rm.slots))
    (E : Exa Z h b C) (hf : rm.frames + 1 ≤ R.frames) (hl : W + (maxL + 11) + rm.locals ≤ R.locals) (eT : T.heap = h) (hsize : Ls.size = c.maxLocals) {argsL : List Value}
    (hlen : ∀ sig, parseMethodDescriptor y.desc = some sig → argsL.length = sig.parameters.length) (hst : st = argsL.reverse ++ .ref b :: rest) (hW : (rest.map fun v => v.category).sum = W) (hd : decode c.code pc = .ok (.invokevirtual index, 3)) (hq : pc + 3 = q) (has : (.ref b :: argsL).toArray = as') (hc : rm.cells = 0) (hs : rm.slots = 0) (hcc : cells ≤ R.cells) (hss : slots ≤ R.slots)
    (g : ∀ w T', P w → Stand p l e R s m args below meth c T' locs cells slots → T'.heap = h → own_G p e below FF (T'.setTop (mkF m q Ls (w :: rest)))) :
    own_G p e below FF (T.setTop (mkF m pc Ls st)) := by
  subst hq hst
  obtain ⟨cq, q1, q2⟩ := E.cell
  have hi := mvT (args := args) hZ w4
  have hp := Cond.privateMethod_at (mvP (args := #[]) hZ w2)
  obtain ⟨ci, ki, f1, f2, -, f3, -⟩ := Cond.instantiable_spec (mvT (args := args) hZ w3)
  have hsel := selects_self_of_private f1 f2 (Bool.or_eq_false_iff.mp f3).1 hp hi hy
  obtain ⟨v, _, ⟨T7, L7, k7, n7⟩, -, X7, ⟨Lc7, hQ7, l7, y7, z7⟩, st7⟩ := X.privateBack hx hown (mvT hZ w1) hi hsel hp (mvT hZ w5) hy (backOf (W := W) (Q := fun v U L => (∃ w, v = some w ∧ P w) ∧ L = [] ∧ U = h) hM hZ w5 w6 hf hl) (g := mkF m pc Ls (argsL.reverse ++ .ref b :: rest)) rfl hsize (Steps.refl _) (a := b) (by rw [eT]; exact q1) q2 (argsL := argsL) (rest := rest) hlen rfl (by show 2 * 0 + _ ≤ _; rw [hW]; omega) hd (fun _ _ => ⟨has, eT, by rw [hc]; exact hcc, by rw [hs]; exact hss⟩)
  dsimp only [Pt.U, Pt.locs, Pt.cells, Pt.slots] at X7 l7 y7 z7 st7 hQ7
  obtain ⟨⟨w, rfl, hP⟩, rfl, e'⟩ := hQ7
  rw [List.append_nil] at l7
  rw [hc] at y7
  rw [hs] at z7
  subst l7 y7 z7
  exact (g w T7 hP X7 e').via fun t hh => st7.trans hh
/-- a constructor that leaves the heap as it was (Record's, say) -/
theorem own_callNP {own : String} {index : Nat} {y : MethodName} {bytes : ByteArray} {maxL : Nat} (X : Stand p l e R s m args below meth c T locs cells slots) (hx : p.tables.exec = Jvm.exec) (hZ : Z.Warmed39 s.vm)
    (hyn : y.name = "<init>") (hown : s.vm.findClass own = some m.cls) (w1 : (Jvm.Cond.methodLink own index y).before a0 Z = true) (w2 : (Jvm.Cond.instanceMethod y).before a0 Z = true) (w3 : (Jvm.Cond.initialized y.cls).before a0 Z = true) (w4 : (Jvm.Cond.code y bytes maxL none).before a0 Z = true)
    (hy : y.cls ≠ "java/lang/invoke/MethodHandle" ∧ y.cls ≠ "java/lang/invoke/VarHandle") {rm : Room} {as' : Array Value} {W : Nat}
    (hM : MetFree l y (head1 [Jvm.Cond.code y bytes maxL none] rm) (fun a U => a = as' ∧ Z.Warmed39 U.vm ∧ U.heap = h) (fun _ _ _ _ _ => True) (fun _ U o U' => ∃ v L, o = .returned v ∧ (v = none ∧ L = [] ∧ U'.heap = h) ∧ FrameEnd U o U' L rm.cells rm.slots))
    (hf : rm.frames + 1 ≤ R.frames) (hl : W + (maxL + 11) + rm.locals ≤ R.locals) (eT : T.heap = h) (hsize : Ls.size = c.maxLocals) {argsL : List Value}
    (hlen : ∀ sig, parseMethodDescriptor y.desc = some sig → argsL.length = sig.parameters.length) (hst : st = argsL.reverse ++ .ref b :: rest) (hW : (rest.map fun v => v.category).sum = W) (hd : decode c.code pc = .ok (.invokespecial index, 3)) (hq : pc + 3 = q) (has : (.ref b :: argsL).toArray = as') (hc : rm.cells = 0) (hs : rm.slots = 0) (hcc : cells ≤ R.cells) (hss : slots ≤ R.slots)
    (g : ∀ T', Stand p l e R s m args below meth c T' locs cells slots → T'.heap = h → own_G p e below FF (T'.setTop (mkF m q Ls rest))) :
    own_G p e below FF (T.setTop (mkF m pc Ls st)) := by
  refine own_callN (Q' := fun v U L => v = none ∧ L = [] ∧ U = h) (b := b) X hx hZ hyn hown w1 w2 w3 w4 hy hM hf hl eT hsize hlen hst hW hd hq has (by rw [hc]; exact hcc) (by rw [hs]; exact hss) ?_
  rintro v T' L ⟨rfl, rfl, e'⟩ X'
  rw [List.append_nil, hc, hs] at X'
  exact g T' X' e'
theorem own_addL (x y : Int64) (h1 : -9223372036854775808 ≤ x.toInt + y.toInt) (h2 : x.toInt + y.toInt < 9223372036854775808) : (x + y).toInt = x.toInt + y.toInt := by
  have := c_ladd x y; have := rng64 (x + y); omega
theorem own_subL (x y : Int64) (h1 : -9223372036854775808 ≤ x.toInt - y.toInt) (h2 : x.toInt - y.toInt < 9223372036854775808) : (x - y).toInt = x.toInt - y.toInt := by
  have := c_lsub x y; have := rng64 (x - y); omega
theorem own_mulL (x y : Int64) (h1 : -9223372036854775808 ≤ x.toInt * y.toInt) (h2 : x.toInt * y.toInt < 9223372036854775808) : (x * y).toInt = x.toInt * y.toInt := by
  have := c_lmul x y; have := rng64 (x * y); omega
theorem own_nb (z : Int32) (h : z.toInt = 0 ∨ z.toInt = 1) : nar .boolean z = z := by
  rcases h with h | h
  · rw [show z = 0 from Int32.toInt_inj.mp h]; rfl
  · rw [show z = 1 from Int32.toInt_inj.mp h]; rfl
theorem own_rngU {f : Nat → Int32} (hf : ∀ j, -128 ≤ (f j).toInt ∧ (f j).toInt < 128) (i : Nat) (x : Int32) : ∀ j, -128 ≤ (own_updI f i (x.toInt8.toInt32) j).toInt ∧ (own_updI f i (x.toInt8.toInt32) j).toInt < 128 := by
  intro j
  by_cases q : j = i
  · subst q; rw [own_updI_same]; exact (c_i2b x).2
  · rw [own_updI_ne _ _ q]; exact hf j
theorem own_rng0 : ∀ j, -128 ≤ (own_zero j).toInt ∧ (own_zero j).toInt < 128 := fun _ => ⟨show (-128 : Int) ≤ (0 : Int32).toInt by decide, show (0 : Int32).toInt < (128 : Int) by decide⟩
end Own2
theorem own_kext {h h' : Heap} (K : Keep h h' []) : Ext h h' := ⟨K.1, fun x c q => K.2.1 x c q nin0⟩
section OwnAl
variable {p : Program} {l : Launch} {e : Env} {R : Room} {s : State} {m : MethodId} {args : Array Value} {below : List Frame} {meth : Method} {c : Code} {T : State} {locs : List Loc} {cells slots : Nat} {k n : Nat} {Q : Option Value → Heap → List Loc → Prop} {FF : State → Option Value → Prop} {pc q q' : Nat} {Ls l' : Array Slot} {st rest : List Value} {Z : State} {a0 : Array Value} {h h' : Heap} {ws : List Addr} {a : Addr} {ty : FieldType} {N i n0 : Nat} {f : Nat → Value} {j : Int32}
theorem own_arraylength (X : Stand p l e R s m args below meth c T locs cells slots) (hx : p.tables.exec = Jvm.exec) (hZ : Z.Warmed39 s.vm) (eT : T.heap = h) (A : own_Arr Z h a ty N f) (hd : decode c.code pc = .ok (.arraylength, 1)) {v : Int32} (hv : N.toInt32 = v) (hq : pc + 1 = q)
    (g : own_G p e below FF (T.setTop (mkF m q Ls (.int v :: rest)))) :
    own_G p e below FF (T.setTop (mkF m pc Ls (.ref a :: rest))) := by
  subst hq hv
  obtain ⟨cl, Ar, S, hN, H⟩ := A
  subst S
  exact g.via fun t => X.arraylength hx (by rw [eT]; exact Ar.1) (State.isArrayOf_alike hZ.alike Ar.2.1) (g := mkF m pc Ls (.ref a :: rest)) rfl rfl hd t
end OwnAl
section OwnW
variable {p : Program} {l : Launch} {e : Env} {R : Room} {s : State} {vm0 : Vm} {m : MethodId} {args : Array Value} {below : List Frame} {meth : Method} {c : Code} {T : State} {locs : List Loc} {cells slots : Nat} {k n : Nat} {Q : Option Value → Heap → List Loc → Prop} {FF : State → Option Value → Prop} {pc q q' : Nat} {Ls l' : Array Slot} {st rest : List Value}
variable {Z : State} {a0 : Array Value} {EL : List (String × Nat)} {h h' : Heap} {a b : Addr} {v : Value} {ws : List Addr} {k0 : Nat}
/-- the wide end: String constants may have been loaded -/
def own_FW (Z : State) (EL : List (String × Nat)) (s : State) (k n : Nat) (Q : Option Value → Heap → List Loc → Prop) : State → Option Value → Prop := fun s₂ v => ∃ L, Q v s₂.heap L ∧ CHr Z EL s.vm s.heap s₂.vm s₂.heap ∧ ReturnedEndW s (.returned v) s₂ L k n
/-- .. and what is booked is not said -/
def own_FV (s : State) (k n : Nat) (Q : Option Value → Heap → List Loc → Prop) : State → Option Value → Prop := fun s₂ v => ∃ L, Q v s₂.heap L ∧ ReturnedEndW s (.returned v) s₂ L k n
theorem own_endW (X : Stand p l e R (s.setVm vm0) m args below meth c T locs cells slots) (hZ : Z.Warmed39 vm0) (hEL : EW Z a0 EL) (eT : T.heap = h) (HC : CHr Z EL s.vm s.heap vm0 h) : CHr Z EL s.vm s.heap T.vm T.heap := by
  have q := HC.trans (CHv.at X hZ hEL HC.1)
  rw [← eT] at q; exact q
theorem own_WretA (X : Stand p l e R (s.setVm vm0) m args below meth c T locs cells slots) (hx : p.tables.exec = Jvm.exec) (hZ : Z.Warmed39 vm0) (hEL : EW Z a0 EL) (hS : s.Since vm0 k0) (hk0 : k0 ≤ h.size) (HC : CHr Z EL s.vm s.heap vm0 h) (eT : T.heap = h) {t : FieldType} (hv : v.isRef = true) (hret : meth.sig.returnType = some t) (ht : t.isReference = true) (hlk : meth.locks = false) (hd : decode c.code pc = .ok (.areturn, 1)) (hk : cells ≤ k) (hn : slots ≤ n) (hq : Q (some v) T.heap locs) :
    own_G p e below (own_FW Z EL s k n Q) (T.setTop (mkF m pc Ls [v])) := by
  obtain ⟨fs, hr, hrun, hended, h1, h2, h3, h4⟩ := X.leaveW hS (by rw [eT]; exact hk0) (v := some v) (fun h => by rw [hret] at h; cases h) hlk
  exact ⟨_, _, X.areturnOut hx hv hret ht hd hr, hrun, hended, _, hq, (show CHr Z EL s.vm s.heap T.vm T.heap from own_endW X hZ hEL eT HC), h1, h2, h3, h4.mono hk hn⟩
theorem own_WretN (X : Stand p l e R (s.setVm vm0) m args below meth c T locs cells slots) (hx : p.tables.exec = Jvm.exec) (hZ : Z.Warmed39 vm0) (hEL : EW Z a0 EL) (hS : s.Since vm0 k0) (hk0 : k0 ≤ h.size) (HC : CHr Z EL s.vm s.heap vm0 h) (eT : T.heap = h) {z w : Int32} {t : FieldType} (hret : meth.sig.returnType = some t) (hlk : meth.locks = false) (ht : t = .boolean ∨ t = .byte ∨ t = .char ∨ t = .short) (hd : decode c.code pc = .ok (.ireturn, 1)) (hk : cells ≤ k) (hn : slots ≤ n) (hz : nar t z = w) (hq : Q (some (.int w)) T.heap locs) :
    own_G p e below (own_FW Z EL s k n Q) (T.setTop (mkF m pc Ls [.int z])) := by
  subst hz
  obtain ⟨fs, hr, hrun, hended, h1, h2, h3, h4⟩ := X.leaveW hS (by rw [eT]; exact hk0) (v := some (.int (nar t z))) (fun h => by rw [hret] at h; cases h) hlk
  exact ⟨_, _, retN X hx hret ht hd hr, hrun, hended, _, hq, (show CHr Z EL s.vm s.heap T.vm T.heap from own_endW X hZ hEL eT HC), h1, h2, h3, h4.mono hk hn⟩
theorem own_VretN (X : Stand p l e R (s.setVm vm0) m args below meth c T locs cells slots) (hx : p.tables.exec = Jvm.exec) (hS : s.Since vm0 k0) (hk0 : k0 ≤ h.size) (eT : T.heap = h) {z w : Int32} {t : FieldType} (hret : meth.sig.returnType = some t) (hlk : meth.locks = false) (ht : t = .boolean ∨ t = .byte ∨ t = .char ∨ t = .short) (hd : decode c.code pc = .ok (.ireturn, 1)) (hk : cells ≤ k) (hn : slots ≤ n) (hz : nar t z = w) (hq : Q (some (.int w)) T.heap locs) :
    own_G p e below (own_FV s k n Q) (T.setTop (mkF m pc Ls [.int z])) := by
  subst hz
  obtain ⟨fs, hr, hrun, hended, h1, h2, h3, h4⟩ := X.leaveW hS (by rw [eT]; exact hk0) (v := some (.int (nar t z))) (fun h => by rw [hret] at h; cases h) hlk
  exact ⟨_, _, retN X hx hret ht hd hr, hrun, hended, _, hq, h1, h2, h3, h4.mono hk hn⟩
theorem own_WretV (X : Stand p l e R (s.setVm vm0) m args below meth c T locs cells slots) (hx : p.tables.exec = Jvm.exec) (hZ : Z.Warmed39 vm0) (hEL : EW Z a0 EL) (hS : s.Since vm0 k0) (hk0 : k0 ≤ h.size) (HC : CHr Z EL s.vm s.heap vm0 h) (eT : T.heap = h) (hret : meth.sig.returnType = none) (hlk : meth.locks = false) (hd : decode c.code pc = .ok (.return_, 1)) (hk : cells ≤ k) (hn : slots ≤ n) (hq : Q none T.heap locs) :
    own_G p e below (own_FW Z EL s k n Q) (T.setTop (mkF m pc Ls [])) := by
  obtain ⟨fs, hr, hrun, hended, h1, h2, h3, h4⟩ := X.leaveW hS (by rw [eT]; exact hk0) (v := none) (fun _ => rfl) hlk
  exact ⟨_, _, X.returnOut hx hret hd hr, hrun, hended, _, hq, (show CHr Z EL s.vm s.heap T.vm T.heap from own_endW X hZ hEL eT HC), h1, h2, h3, h4.mono hk hn⟩
theorem own_Wbody {y : MethodName} {bytes : ByteArray} {maxL : Nat} {ret : Option FieldType} {ws : List Jvm.Cond} {rm : Room} {as' : Array Value} {h0 : Heap} {sf : List Addr} (hpn : plainFor y = true)
    (body : ∀ (p : Program) (e : Env) (s : State) (m : MethodId) (below : List Frame) (meth : Method) (c : Code) (s₁ : State), p.tables.exec = Jvm.exec → c.code = bytes → c.maxLocals = maxL → s.vm.findClass y.cls = some m.cls → meth.name = y.name → meth.sig.returnType = ret → meth.locks = false → Z.Warmed39 s.vm →
      Stand p l e rm (s.setVm s.vm) m as' below meth c s₁ [] 0 0 → s₁.heap = h0 → s.Since s.vm h0.size → h0.size ≤ h0.size → CHr Z EL s.vm s.heap s.vm h0 → (∀ x ∈ sf, Safe Z EL s.vm h0 x) → own_G p e below (own_FW Z EL s rm.cells rm.slots Q) (s₁.setTop (entryFrame m as' maxL))) :
    MetFree l y (head1 (Jvm.Cond.code y bytes maxL ret :: ws) rm) (fun a U => a = as' ∧ Z.Warmed39 U.vm ∧ U.heap = h0 ∧ CHv Z EL U.vm h0 ∧ ∀ x ∈ sf, Safe Z EL U.vm h0 x) (fun _ _ _ _ _ => True) (fun _ U o U' => ∃ v L, o = .returned v ∧ Q v U'.heap L ∧ CHr Z EL U.vm U.heap U'.vm U'.heap ∧ ReturnedEndW U o U' L rm.cells rm.slots) := by
  refine MetFree.of_bodySF hpn hisR ?_
  intro p e s m args below meth c s₁ Bd hml0 hP hK
  obtain ⟨rfl, hZ, hh, hC, hsf⟩ := hP
  have X0 : Stand p l e rm s m args below meth c s₁ [] 0 0 := Stand.of_body Bd
  obtain ⟨s₂, v, h1, h2, h3, L, hq, hf⟩ := body p e s m below meth c s₁ Bd.exec Bd.bytes hml0 (findClass_of_methodNamed Bd.named) (name_of_methodNamed Bd.named Bd.method).1 Bd.returns Bd.notSynchronized hZ X0 (by rw [← hh, Bd.state]; rfl) ((State.WarmedH.refl s).since _) (Nat.le_refl _) (by rw [hh]; exact CHr.refl hC) hsf
  exact ⟨s₂, _, h1, h2, h3, v, L, rfl, hq, hf⟩
theorem own_Vbody {y : MethodName} {bytes : ByteArray} {maxL : Nat} {ret : Option FieldType} {ws : List Jvm.Cond} {rm : Room} {as' : Array Value} {h0 : Heap} {sf : List Addr} (hpn : plainFor y = true)
    (body : ∀ (p : Program) (e : Env) (s : State) (m : MethodId) (below : List Frame) (meth : Method) (c : Code) (s₁ : State), p.tables.exec = Jvm.exec → c.code = bytes → c.maxLocals = maxL → s.vm.findClass y.cls = some m.cls → meth.name = y.name → meth.sig.returnType = ret → meth.locks = false → Z.Warmed39 s.vm →
      Stand p l e rm (s.setVm s.vm) m as' below meth c s₁ [] 0 0 → s₁.heap = h0 → s.Since s.vm h0.size → h0.size ≤ h0.size → CHr Z EL s.vm s.heap s.vm h0 → (∀ x ∈ sf, Safe Z EL s.vm h0 x) → own_G p e below (own_FV s rm.cells rm.slots Q) (s₁.setTop (entryFrame m as' maxL))) :
    MetFree l y (head1 (Jvm.Cond.code y bytes maxL ret :: ws) rm) (fun a U => a = as' ∧ Z.Warmed39 U.vm ∧ U.heap = h0 ∧ CHv Z EL U.vm h0 ∧ ∀ x ∈ sf, Safe Z EL U.vm h0 x) (fun _ _ _ _ _ => True) (fun _ U o U' => ∃ v L, o = .returned v ∧ Q v U'.heap L ∧ ReturnedEndW U o U' L rm.cells rm.slots) := by
  refine MetFree.of_bodySF hpn hisR ?_
  intro p e s m args below meth c s₁ Bd hml0 hP hK
  obtain ⟨rfl, hZ, hh, hC, hsf⟩ := hP
  have X0 : Stand p l e rm s m args below meth c s₁ [] 0 0 := Stand.of_body Bd
  obtain ⟨s₂, v, h1, h2, h3, L, hq, hf⟩ := body p e s m below meth c s₁ Bd.exec Bd.bytes hml0 (findClass_of_methodNamed Bd.named) (name_of_methodNamed Bd.named Bd.method).1 Bd.returns Bd.notSynchronized hZ X0 (by rw [← hh, Bd.state]; rfl) ((State.WarmedH.refl s).since _) (Nat.le_refl _) (by rw [hh]; exact CHr.refl hC) hsf
  exact ⟨s₂, _, h1, h2, h3, v, L, rfl, hq, hf⟩
/-- the i-th byte of a text -/
def own_tx (text : String) (i : Nat) : Int32 := Jvm.Lit.byteI (text.toList.getD i 'A').toNat.toUInt16
theorem own_arv {text : String} {kk : ClassId} {z : Int32} {N : Nat} (A : Arv Z h b kk .byte z (text.toList.map fun c => Value.int (Jvm.Lit.byteI c.toNat.toUInt16)) (.int 0)) (hz : z.toNatClampNeg = N) (hN : text.toList.length = N) (hb : N < 2 ^ 31) : own_Arr Z h b .byte N (fun i => .int (own_tx text i)) := by
  obtain ⟨cl, A1, -, A2, -, A3, -⟩ := A
  refine ⟨cl, A1, A2.trans hz, hb, fun i hi => ?_⟩
  rw [A3 i (by rw [A2, hz]; exact hi)]
  have hi' : i < text.toList.length := by rw [hN]; exact hi
  simp [own_tx, List.getD_eq_getElem?_getD, List.getElem?_map, List.getElem?_eq_getElem hi']
/-- ldc of a String constant of EL, its text read -/
theorem own_Wldc (X : Stand p l e R (s.setVm vm0) m args below meth c T locs cells slots) (hx : p.tables.exec = Jvm.exec) (hZ : Z.Warmed39 vm0) {own text : String} {index : Nat} (hown : vm0.findClass own = some m.cls) (w : (Jvm.Cond.stringLink own index text).before a0 Z = true) (wS : ∀ a ∈ Bundle.stringAtoms, a.before a0 Z = true)
    (eT : T.heap = h) (hS : s.Since vm0 k0) (hk : k0 ≤ h.size) (hEL : EW Z a0 EL) (hmem : (own, index) ∈ EL) (HC : CHr Z EL s.vm s.heap vm0 h) (ht : ∀ c ∈ text.toList, c.toNat < 256) {N : Nat} {z : Int32} (hN : text.toList.length = N) (hz0 : ¬ z < 0) (hz : z.toNatClampNeg = N) (hb : N < 2 ^ 31)
    (hd : decode c.code pc = .ok (.ldc index, 2)) {n' : Nat} (hn : 4 * N ≤ n') (hbig : n' ≤ 536870912) (hc : cells + 2 ≤ R.cells) (hl : slots + (n' + 4) ≤ R.slots) (hq : pc + 2 = q)
    (g : ∀ (T' : State) (h' : Heap) (k1 : Nat) (a b : Addr), Stand p l e R (s.setVm T'.vm) m args below meth c T' locs (cells + 2) (slots + (n' + 4)) → T'.heap = h' → Ext h h' → s.Since T'.vm k1 → k1 ≤ h'.size → Z.Warmed39 T'.vm → T'.vm.findClass own = some m.cls →
      Exa Z h' a "java/lang/String" → Fld Z h' a "java/lang/String" "coder" "B" (.int 0) → Fld Z h' a "java/lang/String" "value" "[B" (.ref b) → own_Arr Z h' b .byte N (fun i => .int (own_tx text i)) → CHr Z EL s.vm s.heap T'.vm h' → Lit (s.setVm T'.vm) own index a → (∀ x, x < h.size → Safe Z EL vm0 h x → Safe Z EL T'.vm h' x ∧ x ≠ a ∧ x ≠ b) → own_G p e below FF (T'.setTop (mkF m q Ls (.ref a :: st)))) :
    own_G p e below FF (T.setTop (mkF m pc Ls st)) := by
  subst hq
  obtain ⟨a, T', h', k1, b, kk, X', e', E, hS', hk', hZ', hf', Q1, Q2, Q3, Q4, -, -, HC', hL, hsf, stp⟩ := ldcCH X hx hZ hown w wS eT hS hk hEL hmem HC.1 (z := z) ⟨ht, rfl⟩ hz0 (by rw [hz, List.length_map, hN]) (g := mkF m pc Ls st) rfl hd (n := n') (by rw [hN]; exact hn) hbig hc hl
  exact (g T' h' k1 a b X' e' E hS' hk' hZ' hf' Q1 Q2 Q3 (own_arv Q4 hz hN hb) (HC.trans HC') hL (fun x hxx S => have S' := HC'.safe hxx S; ⟨S', hsf x S'⟩)).via stp
/-- a second load -/
theorem own_Wagain (X : Stand p l e R (s.setVm vm0) m args below meth c T locs cells slots) (hx : p.tables.exec = Jvm.exec) (hZ : Z.Warmed39 vm0) {own text : String} {index : Nat} (hown : vm0.findClass own = some m.cls) (w : (Jvm.Cond.stringLink own index text).before a0 Z = true) (L : Lit (s.setVm vm0) own index a) (hd : decode c.code pc = .ok (.ldc index, 2)) (hq : pc + 2 = q)
    (g : own_G p e below FF (T.setTop (mkF m q Ls (.ref a :: st)))) : own_G p e below FF (T.setTop (mkF m pc Ls st)) := by
  subst hq
  exact g.via (ldcAgain X hx hZ hown w L (g := mkF m pc Ls st) rfl hd)
/-- RW14's 'backOfSH', with places of the caller's that hold no constant -/
theorem own_backW {y : MethodName} {bytes : ByteArray} {maxL : Nat} {ret : Option FieldType} {rm : Room} {len W : Nat} {as' : Array Value} {Q : Option Value → Heap → List Loc → Prop} {sf : List Addr}
    (hM : MetFree l y (head1 [Jvm.Cond.code y bytes maxL ret] rm) (fun a U => a = as' ∧ Z.Warmed39 U.vm ∧ U.heap = h ∧ CHv Z EL U.vm h ∧ ∀ x ∈ sf, Safe Z EL U.vm h x) (fun _ _ _ _ _ => True) (fun _ U o U' => ∃ v L, o = .returned v ∧ Q v U'.heap L ∧ CHr Z EL U.vm U.heap U'.vm U'.heap ∧ ReturnedEndW U o U' L rm.cells rm.slots))
    (hZ : Z.Warmed39 vm0) (wc : (Jvm.Cond.code y bytes maxL ret).before a0 Z = true) (wz : (Jvm.Cond.initialized y.cls).before a0 Z = true) (hf : rm.frames + 1 ≤ R.frames) (hl : W + (maxL + 11) + rm.locals ≤ R.locals) (hEL : EW Z a0 EL) (H : CHv Z EL vm0 h) (hsf : ∀ x ∈ sf, x < h.size ∧ Safe Z EL vm0 h x) :
    BackS l R p e below (s.setVm vm0) args y len W (fun A a => a = as' ∧ A.U.heap = h ∧ A.cells + rm.cells ≤ R.cells ∧ A.slots + rm.slots ≤ R.slots)
      (fun A _ v B => ∃ L, Q v B.U.heap L ∧ B.locs = A.locs ++ L ∧ B.cells = A.cells + rm.cells ∧ B.slots = A.slots + rm.slots ∧ CHr Z EL vm0 h B.U.vm B.U.heap) :=
  BackS.of_freeW (bytes := bytes) (maxL := maxL) (ret := ret) (E := fun _ first o t L k n => k = rm.cells ∧ n = rm.slots ∧ (∃ v, o = .returned v ∧ Q v t.heap L) ∧ CHr Z EL first.vm first.heap t.vm t.heap) hM hf hl
    (fun m meth c A a Y hp => have hU : Z.Warmed39 A.U.vm := wtrans (s := s.setVm vm0) hZ Y.warmed
      ⟨by show (Jvm.Cond.and _ .tt).before a A.U = true; rw [Cond.before_and, mv hU wc]; rfl, mv hU wc, mv hU wz, hp.2.2.1, hp.2.2.2⟩)
    (fun m meth c A a g mk Y hp => have HH := CHv.at Y hZ hEL H; ⟨hp.1, wtrans (s := s.setVm vm0) hZ Y.warmed, hp.2.1, HH.1, fun x hx => HH.safe (hsf x hx).1 (hsf x hx).2⟩) (fun _ _ _ _ _ _ _ _ _ => trivial)
    (fun _ _ _ _ ⟨v, L, h1, h2, h3, h4⟩ => ⟨L, _, _, h4, rfl, rfl, ⟨v, h1, h2⟩, h3⟩)
    (fun m meth c A a g mk v t L k n Y hp _ _ ⟨e1, e2, ⟨v', e3, e4⟩, e5⟩ => by
      cases e3; subst e1 e2
      refine ⟨L, e4, rfl, rfl, rfl, (CHv.at Y hZ hEL H).trans ?_⟩
      rw [← hp.2.1]; exact e5)
/-- a static call of a callee that may load constants -/
theorem own_WcallS (X : Stand p l e R (s.setVm vm0) m args below meth c T locs cells slots) (hx : p.tables.exec = Jvm.exec) (hZ : Z.Warmed39 vm0) {own : String} {index : Nat} {y : MethodName} {bytes : ByteArray} {maxL : Nat} {ret : Option FieldType}
    (hown : vm0.findClass own = some m.cls) (w1 : (Jvm.Cond.methodLink own index y).before a0 Z = true) (w2 : (Jvm.Cond.static y).before a0 Z = true) (w3 : (Jvm.Cond.initialized y.cls).before a0 Z = true) (w4 : (Jvm.Cond.code y bytes maxL ret).before a0 Z = true)
    (hy : y.cls ≠ "java/lang/invoke/MethodHandle" ∧ y.cls ≠ "java/lang/invoke/VarHandle") {rm : Room} {as' : Array Value} {Q' : Option Value → Heap → List Loc → Prop} {sf : List Addr} {W : Nat}
    (hM : MetFree l y (head1 [Jvm.Cond.code y bytes maxL ret] rm) (fun a U => a = as' ∧ Z.Warmed39 U.vm ∧ U.heap = h ∧ CHv Z EL U.vm h ∧ ∀ x ∈ sf, Safe Z EL U.vm h x) (fun _ _ _ _ _ => True) (fun _ U o U' => ∃ v L, o = .returned v ∧ Q' v U'.heap L ∧ CHr Z EL U.vm U.heap U'.vm U'.heap ∧ ReturnedEndW U o U' L rm.cells rm.slots))
    (hf : rm.frames + 1 ≤ R.frames) (hl : W + (maxL + 11) + rm.locals ≤ R.locals) (hS : s.Since vm0 k0) (hk : k0 ≤ h.size) (hEL : EW Z a0 EL) (HC : CHr Z EL s.vm s.heap vm0 h) (hsf : ∀ x ∈ sf, x < h.size ∧ Safe Z EL vm0 h x) (eT : T.heap = h) (hsize : Ls.size = c.maxLocals) {argsL : List Value}
    (hlen : ∀ sig, parseMethodDescriptor y.desc = some sig → argsL.length = sig.parameters.length) (hst : st = argsL.reverse ++ rest) (hW : (rest.map fun v => v.category).sum = W) (hd : decode c.code pc = .ok (.invokestatic index, 3)) (hq : pc + 3 = q) (has : argsL.toArray = as') (hc : cells + rm.cells ≤ R.cells) (hs : slots + rm.slots ≤ R.slots)
    (g : ∀ (v : Option Value) (T' : State) (L : List Loc) (h' : Heap) (k1 : Nat), Q' v h' L → Stand p l e R (s.setVm T'.vm) m args below meth c T' (locs ++ L) (cells + rm.cells) (slots + rm.slots) → T'.heap = h' → s.Since T'.vm k1 → k1 ≤ h'.size → Z.Warmed39 T'.vm → T'.vm.findClass own = some m.cls → CHr Z EL s.vm s.heap T'.vm h' → (∀ x, x < h.size → Safe Z EL vm0 h x → Safe Z EL T'.vm h' x) → own_G p e below FF (T'.setTop (mkF m q Ls (v.toList ++ rest)))) :
    own_G p e below FF (T.setTop (mkF m pc Ls st)) := by
  subst hq hst
  have hZ0 : Z.Warmed39 (s.setVm vm0).vm := hZ
  obtain ⟨v, _, ⟨T7, L7, k7, n7⟩, -, X7, hS7, hg7, ⟨Lc7, hQ7, l7, y7, z7, C7⟩, st7⟩ := callSS X hx (own := own) hown (mvT hZ0 w1) (mvT hZ0 w2) (mvT hZ0 w3) (mvT hZ0 w4) hy (own_backW (s := s) (W := W) hM hZ w4 w3 hf hl hEL HC.1 hsf) (g := mkF m pc Ls (argsL.reverse ++ rest)) rfl hsize hlen rfl (by show 2 * 0 + _ ≤ _; rw [hW]; omega) hd (fun _ _ => ⟨has, eT, hc, hs⟩)
  dsimp only [Pt.U, Pt.locs, Pt.cells, Pt.slots] at X7 l7 y7 z7 st7 hQ7 hS7 hg7 C7
  subst l7 y7 z7
  rw [eT] at hg7
  exact (g v T7 Lc7 T7.heap T7.heap.size hQ7 X7 rfl (hS.trans hS7 (Nat.le_trans hk hg7)) (Nat.le_refl _) (State.Warmed39.trans (t := s.setVm vm0) hZ hS7.1) (by rw [hS7.1.alike.findClass]; exact hown) (HC.trans C7) (fun x hxx S => C7.safe hxx S)).via fun t hh => st7.trans hh
/-- a constructor that may load constants -/
theorem own_WcallN (X : Stand p l e R (s.setVm vm0) m args below meth c T locs cells slots) (hx : p.tables.exec = Jvm.exec) (hZ : Z.Warmed39 vm0) {own : String} {index : Nat} {y : MethodName} {bytes : ByteArray} {maxL : Nat}
    (hyn : y.name = "<init>") (hown : vm0.findClass own = some m.cls) (w1 : (Jvm.Cond.methodLink own index y).before a0 Z = true) (w2 : (Jvm.Cond.instanceMethod y).before a0 Z = true) (w3 : (Jvm.Cond.initialized y.cls).before a0 Z = true) (w4 : (Jvm.Cond.code y bytes maxL none).before a0 Z = true)
    (hy : y.cls ≠ "java/lang/invoke/MethodHandle" ∧ y.cls ≠ "java/lang/invoke/VarHandle") {rm : Room} {as' : Array Value} {Q' : Option Value → Heap → List Loc → Prop} {sf : List Addr} {W : Nat}
    (hM : MetFree l y (head1 [Jvm.Cond.code y bytes maxL none] rm) (fun a U => a = as' ∧ Z.Warmed39 U.vm ∧ U.heap = h ∧ CHv Z EL U.vm h ∧ ∀ x ∈ sf, Safe Z EL U.vm h x) (fun _ _ _ _ _ => True) (fun _ U o U' => ∃ v L, o = .returned v ∧ Q' v U'.heap L ∧ CHr Z EL U.vm U.heap U'.vm U'.heap ∧ ReturnedEndW U o U' L rm.cells rm.slots))
    (hf : rm.frames + 1 ≤ R.frames) (hl : W + (maxL + 11) + rm.locals ≤ R.locals) (hS : s.Since vm0 k0) (hk : k0 ≤ h.size) (hEL : EW Z a0 EL) (HC : CHr Z EL s.vm s.heap vm0 h) (hsf : ∀ x ∈ sf, x < h.size ∧ Safe Z EL vm0 h x) (eT : T.heap = h) (hsize : Ls.size = c.maxLocals) {argsL : List Value}
    (hlen : ∀ sig, parseMethodDescriptor y.desc = some sig → argsL.length = sig.parameters.length) (hst : st = argsL.reverse ++ .ref b :: rest) (hW : (rest.map fun v => v.category).sum = W) (hd : decode c.code pc = .ok (.invokespecial index, 3)) (hq : pc + 3 = q) (has : (.ref b :: argsL).toArray = as') (hc : cells + rm.cells ≤ R.cells) (hs : slots + rm.slots ≤ R.slots)
    (g : ∀ (v : Option Value) (T' : State) (L : List Loc) (h' : Heap) (k1 : Nat), Q' v h' L → Stand p l e R (s.setVm T'.vm) m args below meth c T' (locs ++ L) (cells + rm.cells) (slots + rm.slots) → T'.heap = h' → s.Since T'.vm k1 → k1 ≤ h'.size → Z.Warmed39 T'.vm → T'.vm.findClass own = some m.cls → CHr Z EL s.vm s.heap T'.vm h' → (∀ x, x < h.size → Safe Z EL vm0 h x → Safe Z EL T'.vm h' x) → own_G p e below FF (T'.setTop (mkF m q Ls (v.toList ++ rest)))) :
    own_G p e below FF (T.setTop (mkF m pc Ls st)) := by
  subst hq hst
  have hZ0 : Z.Warmed39 (s.setVm vm0).vm := hZ
  obtain ⟨v, _, ⟨T7, L7, k7, n7⟩, -, X7, hS7, hg7, ⟨Lc7, hQ7, l7, y7, z7, C7⟩, st7⟩ := X.specialBackS hx hyn (own := own) hown (mvT hZ0 w1) (mvT hZ0 w2) (mvT hZ0 w4) hy (own_backW (s := s) (W := W) hM hZ w4 w3 hf hl hEL HC.1 hsf) (g := mkF m pc Ls (argsL.reverse ++ .ref b :: rest)) rfl hsize (Steps.refl _) (a := b) (argsL := argsL) (rest := rest) hlen rfl (by show 2 * 0 + _ ≤ _; rw [hW]; omega) hd (fun _ _ => ⟨has, eT, hc, hs⟩)
  dsimp only [Pt.U, Pt.locs, Pt.cells, Pt.slots] at X7 l7 y7 z7 st7 hQ7 hS7 hg7 C7
  subst l7 y7 z7
  rw [eT] at hg7
  exact (g v T7 Lc7 T7.heap T7.heap.size hQ7 X7 rfl (hS.trans hS7 (Nat.le_trans hk hg7)) (Nat.le_refl _) (State.Warmed39.trans (t := s.setVm vm0) hZ hS7.1) (by rw [hS7.1.alike.findClass]; exact hown) (HC.trans C7) (fun x hxx S => C7.safe hxx S)).via fun t hh => st7.trans hh
theorem own_sta_keep {C nm d : String} {w : Value} (F : Sta Z h C nm d w) (K : Keep h h' ws) (hns : ∀ x ∈ ws, ∀ cell : Cell, h[x]? = some cell → cell.vm.isStatics = false) : Sta Z h' C nm d w := by
  obtain ⟨cf, i, kk, f, sa, cell, h1, h2, h3, h4, h5, h6, r⟩ := F
  exact ⟨cf, i, kk, f, sa, cell, h1, h2, h3, h4, K.2.1 _ _ h5 (fun hm => by have := hns _ hm _ h5; rw [h6] at this; cases this), h6, r⟩
theorem own_arr_ns {ty : FieldType} {N : Nat} {f : Nat → Value} (A : own_Arr Z h a ty N f) : ∀ cell : Cell, h[a]? = some cell → cell.vm.isStatics = false := fun cell q => by
  obtain ⟨cl, A1, -⟩ := A
  cases A1.1.symm.trans q
  exact A1.plain
/-- a place's own array or object differs from a constant's -/
theorem own_kp_any {ws' : List Addr} (K : Keep h h' ws) (q : ∀ x ∈ ws, x ∈ ws') : Keep h h' ws' := ⟨K.1, fun x cl h1 h2 => K.2.1 x cl h1 (fun hm => h2 (q x hm)), K.2.2⟩
theorem own_stC {x j : Int32} {N i n0 : Nat} (X : Stand p l e R s m args below meth c T locs cells slots) (hx : p.tables.exec = Jvm.exec) (hZ : Z.Warmed39 s.vm) (eT : T.heap = h) {fi : Nat → Int32} (A : own_Arr Z h a .char N (fun i => .int (fi i))) (hd : decode c.code pc = .ok (.castore, 1)) (hj : j.toInt = (i : Int)) (hi : i < N) (Nf : Fr n0 locs) (ha : n0 ≤ a) (hq : pc + 1 = q)
    (g : ∀ T' h' L', Stand p l e R s m args below meth c T' L' cells slots → Fr n0 L' → T'.heap = h' → own_Arr Z h' a .char N (fun t => .int (own_updI fi i (nar .char x) t)) → Wr h h' a i (.int (nar .char x)) → own_G p e below FF (T'.setTop (mkF m q Ls rest))) :
    own_G p e below FF (T.setTop (mkF m pc Ls (.int x :: .int j :: .ref a :: rest))) := by
  subst hq
  have A0 := A
  obtain ⟨cl, Ar, S, hN, H⟩ := A
  obtain ⟨h1, h2⟩ := own_idx (N := cl.slots.size) hj (by omega)
  obtain ⟨T', h', X', e', W, st⟩ := stC X hx hZ eT Ar (j := j) (x := x) h1 (g := mkF m pc Ls (.int x :: .int j :: .ref a :: rest)) rfl rfl hd
  have N' := Fr.snoc X' Nf ha
  rw [h2] at W
  have A1 := A0.set W
  rw [own_upd_I] at A1
  exact (g T' h' _ X' N' e' A1 W).via st
theorem own_caload {f : Nat → Value} {j : Int32} {N i : Nat} (X : Stand p l e R s m args below meth c T locs cells slots) (hx : p.tables.exec = Jvm.exec) (hZ : Z.Warmed39 s.vm) (eT : T.heap = h) (A : own_Arr Z h a .char N f) (hd : decode c.code pc = .ok (.caload, 1)) (hj : j.toInt = (i : Int)) (hi : i < N) (hv : f i = v) (hq : pc + 1 = q)
    (g : own_G p e below FF (T.setTop (mkF m q Ls (v :: rest)))) :
    own_G p e below FF (T.setTop (mkF m pc Ls (.int j :: .ref a :: rest))) := by
  subst hq
  obtain ⟨cl, Ar, S, hN, H⟩ := A
  obtain ⟨h1, h2⟩ := own_idx (N := cl.slots.size) hj (by omega)
  exact g.via fun t => X.caload hx (j := j) (v := v) (by rw [eT]; exact Ar.1) (State.isArrayOf_alike hZ.alike Ar.2.1) Ar.2.2 h1 (by rw [h2, ← hv]; exact H i hi) (g := mkF m pc Ls (.int j :: .ref a :: rest)) rfl rfl hd t
theorem own_ifnullN (X : Stand p l e R s m args below meth c T locs cells slots) (hx : p.tables.exec = Jvm.exec) {o : Int} (hd : decode c.code pc = .ok (.ifnull o, 3)) (hq : pc + 3 = q) (g : own_G p e below FF (T.setTop (mkF m q Ls rest))) : own_G p e below FF (T.setTop (mkF m pc Ls (.ref a :: rest))) := by
  subst hq; exact g.via fun _ hr => XS.ifnullNo (g := mkF m pc Ls (.ref a :: rest)) X.here hx rfl hd rfl hr
theorem own_ifnullY (X : Stand p l e R s m args below meth c T locs cells slots) (hx : p.tables.exec = Jvm.exec) {o : Int} (hd : decode c.code pc = .ok (.ifnull o, 3)) (ho : 0 ≤ (pc : Int) + o) (hp : ((pc : Int) + o).toNat = q) (g : own_G p e below FF (T.setTop (mkF m q Ls rest))) : own_G p e below FF (T.setTop (mkF m pc Ls (.null :: rest))) :=
  g.via fun _ hr => XS.ifnullYes (g := mkF m pc Ls (.null :: rest)) X.here hx rfl (pc0 := pc) rfl hd rfl ho hp hr
theorem own_ifnonnullY (X : Stand p l e R s m args below meth c T locs cells slots) (hx : p.tables.exec = Jvm.exec) {o : Int} (hd : decode c.code pc = .ok (.ifnonnull o, 3)) (ho : 0 ≤ (pc : Int) + o) (hp : ((pc : Int) + o).toNat = q) (g : own_G p e below FF (T.setTop (mkF m q Ls rest))) : own_G p e below FF (T.setTop (mkF m pc Ls (.ref a :: rest))) :=
  g.via fun _ hr => XT.ifnonnullYes (g := mkF m pc Ls (.ref a :: rest)) X.here hx rfl (pc0 := pc) rfl hd rfl ho hp hr
theorem own_ifnonnullN (X : Stand p l e R s m args below meth c T locs cells slots) (hx : p.tables.exec = Jvm.exec) {o : Int} (hd : decode c.code pc = .ok (.ifnonnull o, 3)) (hq : pc + 3 = q) (g : own_G p e below FF (T.setTop (mkF m q Ls rest))) : own_G p e below FF (T.setTop (mkF m pc Ls (.null :: rest))) := by
  subst hq; exact g.via fun _ hr => XT.ifnonnullNo (g := mkF m pc Ls (.null :: rest)) X.here hx rfl hd rfl hr
theorem own_rngC {f : Nat → Int32} (hf : ∀ j, 0 ≤ (f j).toInt ∧ (f j).toInt ≤ 255) (i : Nat) (x : Int32) : ∀ j, 0 ≤ (own_updI f i (nar .char ((x &&& (255 : Int32)).toUInt32.toUInt16.toUInt32.toInt32)) j).toInt ∧ (own_updI f i (nar .char ((x &&& (255 : Int32)).toUInt32.toUInt16.toUInt32.toInt32)) j).toInt ≤ 255 := by
  intro j
  by_cases q : j = i
  · subst q; rw [own_updI_same, i2c_mask]
    show 0 ≤ ((x &&& (255 : Int32)).toUInt32.toUInt16.toUInt32.toInt32).toInt ∧ ((x &&& (255 : Int32)).toUInt32.toUInt16.toUInt32.toInt32).toInt ≤ 255
    rw [i2c_mask]
    have e : (x &&& (255 : Int32)).toInt = x.toInt % 256 := c_mask x 255 8 (by decide) (by decide)
    omega
  · rw [own_updI_ne _ _ q]; exact hf j
theorem own_rngC0 : ∀ j, 0 ≤ (own_zero j).toInt ∧ (own_zero j).toInt ≤ 255 := fun _ => ⟨show (0 : Int) ≤ (0 : Int32).toInt by decide, show (0 : Int32).toInt ≤ (255 : Int) by decide⟩
end OwnW
theorem own_pd0 : parseMethodDescriptor "(IILjava/util/function/BiFunction;)I" = some ⟨[.int, .int, (.object "java/util/function/BiFunction")], (some .int)⟩ := by decide +kernel
theorem own_pd1 : parseMethodDescriptor "(II)V" = some ⟨[.int, .int], none⟩ := by decide +kernel
theorem own_pd2 : parseMethodDescriptor "()Z" = some ⟨[], (some .boolean)⟩ := by decide +kernel
theorem own_pd3 : parseMethodDescriptor "([BI)C" = some ⟨[(.array .byte), .int], (some .char)⟩ := by decide +kernel
theorem own_pd4 : parseMethodDescriptor "(B)Z" = some ⟨[.byte], (some .boolean)⟩ := by decide +kernel
theorem own_pd5 : parseMethodDescriptor "(I)C" = some ⟨[.int], (some .char)⟩ := by decide +kernel
theorem own_pd6 : parseMethodDescriptor "(JI)B" = some ⟨[.long, .int], (some .byte)⟩ := by decide +kernel
theorem own_pd7 : parseMethodDescriptor "([BIII)I" = some ⟨[(.array .byte), .int, .int, .int], (some .int)⟩ := by decide +kernel
theorem own_EW {Z : State} {a0 : Array Value} (hw : ∀ d ∈ tables_1, d.before a0 Z = true) : EW Z a0 consts_1 := (EW.cons (hw _ (List.mem_of_getElem? (i := 5) rfl)) (by decide) EW.nil)
theorem own_wS {Z : State} {a0 : Array Value} (hw : ∀ d ∈ tables_1, d.before a0 Z = true) : ∀ a ∈ Bundle.stringAtoms, a.before a0 Z = true := by
  intro d hd
  simp only [Bundle.stringAtoms, List.mem_cons, List.not_mem_nil, or_false] at hd
  rcases hd with rfl | rfl | rfl | rfl | rfl | rfl | rfl
  · exact (hw _ (List.mem_of_getElem? (i := 6) rfl))
  · exact (hw _ (List.mem_of_getElem? (i := 7) rfl))
  · exact (hw _ (List.mem_of_getElem? (i := 0) rfl))
  · exact (hw _ (List.mem_of_getElem? (i := 8) rfl))
  · exact (hw _ (List.mem_of_getElem? (i := 9) rfl))
  · exact (hw _ (List.mem_of_getElem? (i := 10) rfl))
  · exact (hw _ (List.mem_of_getElem? (i := 11) rfl))
section OwnM
variable {p : Program} {l : Launch} {e : Env} {R : Room} {s : State} {vm0 : Vm} {m : MethodId} {args : Array Value} {below : List Frame} {meth : Method} {c : Code} {T : State} {locs : List Loc} {cells slots : Nat} {FF : State → Option Value → Prop} {pc q : Nat} {Ls : Array Slot} {st rest : List Value}
variable {Z : State} {a0 : Array Value} {EL : List (String × Nat)} {h h' : Heap} {b1 : Addr} {k0 : Nat} {wm : Bool}
/-- the constant has been loaded: it is known, and it isn't b1 -/
def own_Wm (Z : State) (h : Heap) (vm : Vm) (b1 : Addr) : Prop := ∃ a b : Addr, Lit (Z.setVm vm) "com/example/pillbug/pillbug/core/Base64RunsRunOfAtLeastPinLaw" 23 a ∧ Exa Z h a "java/lang/String" ∧ Fld Z h a "java/lang/String" "coder" "B" (.int 0) ∧ Fld Z h a "java/lang/String" "value" "[B" (.ref b) ∧ own_Arr Z h b .byte 66 (fun i => .int (own_tx "ABCDEFGHIJKLMNOPQRSTUVWXYZabcdefghijklmnopqrstuvwxyz0123456789+/-_" i)) ∧ b1 ≠ a ∧ b1 ≠ b
/-- before a call: cold or warm -/
def own_MI (Z : State) (EL : List (String × Nat)) (b1 : Addr) (wm : Bool) (vm : Vm) (h : Heap) : Prop := (wm = false ∧ CHv Z EL vm h ∧ Safe Z EL vm h b1) ∨ (wm = true ∧ own_Wm Z h vm b1)
/-- behind it, with what it cost -/
def own_MO (Z : State) (EL : List (String × Nat)) (b1 : Addr) (wm : Bool) (k n : Nat) (vm : Vm) (h : Heap) : Prop := (k = 0 ∧ n = 0 ∧ own_MI Z EL b1 wm vm h) ∨ (wm = false ∧ k = 2 ∧ n = 268 ∧ own_Wm Z h vm b1)
theorem own_Wm.at (X : Stand p l e R (s.setVm vm0) m args below meth c T locs cells slots) (D : own_Wm Z h vm0 b1) : own_Wm Z h T.vm b1 := by
  obtain ⟨a, b, L, r⟩ := D
  exact ⟨a, b, show Lit (s.setVm T.vm) _ _ a from Lit.stays (show Lit (s.setVm vm0) _ _ a from L) X.warmed.wide, r⟩
theorem own_MI.at (X : Stand p l e R (s.setVm vm0) m args below meth c T locs cells slots) (hZ : Z.Warmed39 vm0) (hEL : EW Z a0 EL) (hb : b1 < h.size) (D : own_MI Z EL b1 wm vm0 h) : own_MI Z EL b1 wm T.vm h := by
  rcases D with ⟨h1, h2, h3⟩ | ⟨h1, h2⟩
  · have q := CHv.at X hZ hEL h2
    exact Or.inl ⟨h1, q.1, q.safe hb h3⟩
  · exact Or.inr ⟨h1, h2.at X⟩
def own_FM (Z : State) (EL : List (String × Nat)) (b1 : Addr) (wm : Bool) (s : State) : State → Option Value → Prop := fun s₂ v => ∃ z k n, v = some (.int z) ∧ ReturnedEndW s (.returned v) s₂ [] k n ∧ Ext s.heap s₂.heap ∧ own_MO Z EL b1 wm k n s₂.vm s₂.heap
theorem own_MretN (X : Stand p l e R (s.setVm vm0) m args below meth c T [] cells slots) (hx : p.tables.exec = Jvm.exec) (hZ : Z.Warmed39 vm0) (hEL : EW Z a0 EL) (hS : s.Since vm0 k0) (hk0 : k0 ≤ h.size) (eT : T.heap = h) {z : Int32} {t : FieldType} (hret : meth.sig.returnType = some t) (hlk : meth.locks = false) (ht : t = .boolean ∨ t = .byte ∨ t = .char ∨ t = .short) (hd : decode c.code pc = .ok (.ireturn, 1)) (hE : Ext s.heap h) (hb : b1 < h.size) (hD : own_MO Z EL b1 wm cells slots vm0 h) :
    own_G p e below (own_FM Z EL b1 wm s) (T.setTop (mkF m pc Ls [.int z])) := by
  obtain ⟨fs, hr, hrun, hended, hend⟩ := X.leaveW hS (by rw [eT]; exact hk0) (v := some (.int (nar t z))) (fun h => by rw [hret] at h; cases h) hlk
  refine ⟨_, _, retN X hx hret ht hd hr, hrun, hended, _, _, _, rfl, hend, by show Ext s.heap T.heap; rw [eT]; exact hE, ?_⟩
  show own_MO Z EL b1 wm cells slots T.vm T.heap
  rw [eT]
  rcases hD with ⟨h1, h2, h3⟩ | ⟨h1, h2, h3, h4⟩
  · exact Or.inl ⟨h1, h2, h3.at X hZ hEL hb⟩
  · exact Or.inr ⟨h1, h2, h3, h4.at X⟩
def own_MP (Z : State) (EL : List (String × Nat)) (b1 : Addr) (wm : Bool) (as' : Array Value) (h : Heap) : Array Value → State → Prop := fun a U => a = as' ∧ Z.Warmed39 U.vm ∧ U.heap = h ∧ own_MI Z EL b1 wm U.vm h
def own_MQ (Z : State) (EL : List (String × Nat)) (b1 : Addr) (wm : Bool) : Array Value → State → Outcome → State → Prop := fun _ U o U' => ∃ z k n, o = .returned (some (.int z)) ∧ ReturnedEndW U o U' [] k n ∧ Ext U.heap U'.heap ∧ own_MO Z EL b1 wm k n U'.vm U'.heap
theorem own_Mbody {y : MethodName} {bytes : ByteArray} {maxL : Nat} {ret : Option FieldType} {ws : List Jvm.Cond} {rm : Room} {as' : Array Value} {h0 : Heap} (hpn : plainFor y = true)
    (body : ∀ (p : Program) (e : Env) (s : State) (m : MethodId) (below : List Frame) (meth : Method) (c : Code) (s₁ : State), p.tables.exec = Jvm.exec → c.code = bytes → c.maxLocals = maxL → s.vm.findClass y.cls = some m.cls → meth.name = y.name → meth.sig.returnType = ret → meth.locks = false → Z.Warmed39 s.vm →
      Stand p l e rm (s.setVm s.vm) m as' below meth c s₁ [] 0 0 → s₁.heap = h0 → s.heap = h0 → s.Since s.vm h0.size → h0.size ≤ h0.size → own_MI Z EL b1 wm s.vm h0 → own_G p e below (own_FM Z EL b1 wm s) (s₁.setTop (entryFrame m as' maxL))) :
    MetFree l y (head1 (Jvm.Cond.code y bytes maxL ret :: ws) rm) (own_MP Z EL b1 wm as' h0) (fun _ _ _ _ _ => True) (own_MQ Z EL b1 wm) := by
  refine MetFree.of_bodySF hpn hisR ?_
  intro p e s m args below meth c s₁ Bd hml0 hP hK
  obtain ⟨rfl, hZ, hh, hD⟩ := hP
  have X0 : Stand p l e rm s m args below meth c s₁ [] 0 0 := Stand.of_body Bd
  obtain ⟨s₂, v, h1, h2, h3, z, k, n, rfl, q2, q3, q4⟩ := body p e s m below meth c s₁ Bd.exec Bd.bytes hml0 (findClass_of_methodNamed Bd.named) (name_of_methodNamed Bd.named Bd.method).1 Bd.returns Bd.notSynchronized hZ X0 (by rw [← hh, Bd.state]; rfl) hh ((State.WarmedH.refl s).since _) (Nat.le_refl _) hD
  exact ⟨s₂, _, h1, h2, h3, z, k, n, rfl, q2, q3, q4⟩
theorem own_backM {y : MethodName} {bytes : ByteArray} {maxL : Nat} {ret : Option FieldType} {rm : Room} {len W : Nat} {as' : Array Value}
    (hM : MetFree l y (head1 [Jvm.Cond.code y bytes maxL ret] rm) (own_MP Z EL b1 wm as' h) (fun _ _ _ _ _ => True) (own_MQ Z EL b1 wm))
    (hZ : Z.Warmed39 vm0) (wc : (Jvm.Cond.code y bytes maxL ret).before a0 Z = true) (wz : (Jvm.Cond.initialized y.cls).before a0 Z = true) (hf : rm.frames + 1 ≤ R.frames) (hl : W + (maxL + 11) + rm.locals ≤ R.locals) (hEL : EW Z a0 EL) (hb : b1 < h.size) (D : own_MI Z EL b1 wm vm0 h) :
    BackS l R p e below (s.setVm vm0) args y len W (fun A a => a = as' ∧ A.U.heap = h ∧ A.cells + rm.cells ≤ R.cells ∧ A.slots + rm.slots ≤ R.slots)
      (fun A _ v B => ∃ z k n, v = some (.int z) ∧ B.locs = A.locs ++ [] ∧ B.cells = A.cells + k ∧ B.slots = A.slots + n ∧ Ext h B.U.heap ∧ own_MO Z EL b1 wm k n B.U.vm B.U.heap) :=
  BackS.of_freeW (bytes := bytes) (maxL := maxL) (ret := ret) (E := fun _ first o t L k n => L = [] ∧ (∃ z, o = .returned (some (.int z))) ∧ Ext first.heap t.heap ∧ own_MO Z EL b1 wm k n t.vm t.heap) hM hf hl
    (fun m meth c A a Y hp => have hU : Z.Warmed39 A.U.vm := wtrans (s := s.setVm vm0) hZ Y.warmed
      ⟨by show (Jvm.Cond.and _ .tt).before a A.U = true; rw [Cond.before_and, mv hU wc]; rfl, mv hU wc, mv hU wz, hp.2.2.1, hp.2.2.2⟩)
    (fun m meth c A a g mk Y hp => ⟨hp.1, wtrans (s := s.setVm vm0) hZ Y.warmed, hp.2.1, (show own_MI Z EL b1 wm A.U.vm h from D.at Y hZ hEL hb)⟩) (fun _ _ _ _ _ _ _ _ _ => trivial)
    (fun _ _ _ _ ⟨z, k, n, h1, h2, h3, h4⟩ => ⟨[], k, n, h2, rfl, ⟨z, h1⟩, h3, h4⟩)
    (fun m meth c A a g mk v t L k n Y hp _ _ ⟨e1, ⟨z, e2⟩, e3, e4⟩ => by
      cases e2; subst e1
      refine ⟨z, k, n, rfl, rfl, rfl, rfl, ?_, e4⟩
      rw [← hp.2.1]; exact e3)
/-- the law's own state: nothing loaded yet (one cell of 6 places made), or loaded once -/
def own_LS (Z : State) (EL : List (String × Nat)) (b1 : Addr) (vm : Vm) (h : Heap) (cells slots : Nat) : Prop := (cells = 1 ∧ slots = 6 ∧ own_MI Z EL b1 false vm h) ∨ (cells = 3 ∧ slots = 274 ∧ own_MI Z EL b1 true vm h)
theorem own_Wm.wr {i : Nat} {v : Value} (D : own_Wm Z h vm0 b1) (W : Wr h h' b1 i v) : own_Wm Z h' vm0 b1 := by
  obtain ⟨a, b, L, Q, C, V, A, n1, n2⟩ := D
  have K := Keep.of_wr W
  exact ⟨a, b, L, Q.wr W, C.keep K (ninS n1.symm nin0), V.keep K (ninS n1.symm nin0), A.keep K (ninS n2.symm nin0), n1, n2⟩
theorem own_LS.wr {i : Nat} {v : Value} (D : own_LS Z EL b1 vm0 h cells slots) (W : Wr h h' b1 i v) : own_LS Z EL b1 vm0 h' cells slots := by
  have key : ∀ wm, own_MI Z EL b1 wm vm0 h → own_MI Z EL b1 wm vm0 h' := fun wm q => by
    rcases q with ⟨h1, h2, h3⟩ | ⟨h1, h2⟩
    · exact Or.inl ⟨h1, h2.wr W h3, Safe.wr W h3 h2 h3⟩
    · exact Or.inr ⟨h1, h2.wr W⟩
  rcases D with ⟨h1, h2, h3⟩ | ⟨h1, h2, h3⟩
  · exact Or.inl ⟨h1, h2, key _ h3⟩
  · exact Or.inr ⟨h1, h2, key _ h3⟩
theorem own_McallS (X : Stand p l e R (s.setVm vm0) m args below meth c T locs cells slots) (hx : p.tables.exec = Jvm.exec) (hZ : Z.Warmed39 vm0) {own : String} {index : Nat} {y : MethodName} {bytes : ByteArray} {maxL : Nat} {ret : Option FieldType}
    (hown : vm0.findClass own = some m.cls) (w1 : (Jvm.Cond.methodLink own index y).before a0 Z = true) (w2 : (Jvm.Cond.static y).before a0 Z = true) (w3 : (Jvm.Cond.initialized y.cls).before a0 Z = true) (w4 : (Jvm.Cond.code y bytes maxL ret).before a0 Z = true)
    (hy : y.cls ≠ "java/lang/invoke/MethodHandle" ∧ y.cls ≠ "java/lang/invoke/VarHandle") {rm : Room} {as' : Array Value} {W : Nat}
    (hM : ∀ wm, MetFree l y (head1 [Jvm.Cond.code y bytes maxL ret] rm) (own_MP Z EL b1 wm as' h) (fun _ _ _ _ _ => True) (own_MQ Z EL b1 wm)) (hrc : rm.cells = 2) (hrs : rm.slots = 268) (hR : 5 ≤ R.cells) (hR2 : 6 + 2 * 268 ≤ R.slots)
    (hf : rm.frames + 1 ≤ R.frames) (hl : W + (maxL + 11) + rm.locals ≤ R.locals) (hS : s.Since vm0 k0) (hk : k0 ≤ h.size) (hEL : EW Z a0 EL) (hb : b1 < h.size) (LS : own_LS Z EL b1 vm0 h cells slots) (eT : T.heap = h) (hsize : Ls.size = c.maxLocals) {argsL : List Value}
    (hlen : ∀ sig, parseMethodDescriptor y.desc = some sig → argsL.length = sig.parameters.length) (hst : st = argsL.reverse ++ rest) (hW : (rest.map fun v => v.category).sum = W) (hd : decode c.code pc = .ok (.invokestatic index, 3)) (hq : pc + 3 = q) (has : argsL.toArray = as')
    (g : ∀ (z : Int32) (T' : State) (h' : Heap) (k1 cells' slots' : Nat), Stand p l e R (s.setVm T'.vm) m args below meth c T' locs cells' slots' → T'.heap = h' → Ext h h' → s.Since T'.vm k1 → k1 ≤ h'.size → Z.Warmed39 T'.vm → T'.vm.findClass own = some m.cls → own_LS Z EL b1 T'.vm h' cells' slots' → own_G p e below FF (T'.setTop (mkF m q Ls (.int z :: rest)))) :
    own_G p e below FF (T.setTop (mkF m pc Ls st)) := by
  subst hq hst
  have hZ0 : Z.Warmed39 (s.setVm vm0).vm := hZ
  have main : ∀ wm, own_MI Z EL b1 wm vm0 h → cells + 2 ≤ R.cells → slots + 268 ≤ R.slots → (∀ k n vm1 h1, own_MO Z EL b1 wm k n vm1 h1 → own_LS Z EL b1 vm1 h1 (cells + k) (slots + n)) → own_G p e below FF (T.setTop (mkF m pc Ls (argsL.reverse ++ rest))) := fun wm D hc1 hc2 hgo => by
    obtain ⟨v, _, ⟨T7, L7, k7, n7⟩, -, X7, hS7, hg7, ⟨z, k, n, hv, l7, y7, z7, E7, M7⟩, st7⟩ := callSS X hx (own := own) hown (mvT hZ0 w1) (mvT hZ0 w2) (mvT hZ0 w3) (mvT hZ0 w4) hy (own_backM (s := s) (W := W) (hM wm) hZ w4 w3 hf hl hEL hb D) (g := mkF m pc Ls (argsL.reverse ++ rest)) rfl hsize hlen rfl (by show 2 * 0 + _ ≤ _; rw [hW]; omega) hd (fun _ _ => ⟨has, eT, by rw [hrc]; exact hc1, by rw [hrs]; exact hc2⟩)
    dsimp only [Pt.U, Pt.locs, Pt.cells, Pt.slots] at X7 l7 y7 z7 st7 hS7 hg7 E7 M7
    rw [List.append_nil] at l7
    subst l7 y7 z7 hv
    rw [eT] at hg7
    exact (g z T7 T7.heap T7.heap.size _ _ X7 rfl E7 (hS.trans hS7 (Nat.le_trans hk hg7)) (Nat.le_refl _) (State.Warmed39.trans (t := s.setVm vm0) hZ hS7.1) (by rw [hS7.1.alike.findClass]; exact hown) (hgo _ _ _ _ M7)).via fun t hh => st7.trans hh
  rcases LS with ⟨c1, c2, D⟩ | ⟨c1, c2, D⟩
  · refine main false D (by omega) (by omega) fun k n vm1 h1 q => ?_
    rcases q with ⟨q1, q2, q3⟩ | ⟨-, q1, q2, q3⟩
    · exact Or.inl ⟨by omega, by omega, q3⟩
    · exact Or.inr ⟨by omega, by omega, Or.inr ⟨rfl, q3⟩⟩
  · refine main true D (by omega) (by omega) fun k n vm1 h1 q => ?_
    rcases q with ⟨q1, q2, q3⟩ | ⟨q0, -⟩
    · exact Or.inr ⟨by omega, by omega, q3⟩
    · cases q0
/-- from here on: the dearer of the two -/
theorem own_LS.mono (X : Stand p l e R (s.setVm vm0) m args below meth c T locs cells slots) (LS : own_LS Z EL b1 vm0 h cells slots) : Stand p l e R (s.setVm vm0) m args below meth c T locs 3 274 := by
  rcases LS with ⟨c1, c2, -⟩ | ⟨c1, c2, -⟩
  · exact X.mono (by omega) (by omega)
  · exact X.mono (by omega) (by omega)
end OwnM
section OwnT
variable {args : Array Value} {s : State} {t : Term} {a : Addr} {cl : Cell} {F : Nat → Int32} {v : Int32}
theorem own_fold (g : Option Bool → Nat → Option Bool) (f : Nat → Option Bool) (h1 : ∀ i, g (some true) i = f i) (h2 : ∀ x i, x ≠ some true → g x i = x) (n : Nat) (h : (List.range n).foldl g (some true) = some true) : ∀ i, i < n → f i = some true := by
  induction n with
  | zero => intro i hi; exact absurd hi (Nat.not_lt_zero _)
  | succ n ih =>
    rw [List.range_succ, List.foldl_append, List.foldl_cons, List.foldl_nil] at h
    by_cases hp : (List.range n).foldl g (some true) = some true
    · rw [hp, h1] at h
      intro i hi
      by_cases q : i = n
      · subst q; exact h
      · exact ih hp i (by omega)
    · rw [h2 _ _ hp] at h; exact absurd h hp
theorem own_all {c : Jvm.Cond} (ht : t.eval args s none [] s = some (.ref a)) (ha : s.arrayAt? a = some cl) (h : (Jvm.Cond.all t c).value args s none s [] = some true) : ∀ j, j < cl.slots.size → c.value args s none s [j] = some true := by
  intro j hj
  simp only [Cond.value, ht, ha] at h
  exact own_fold _ (fun i => c.value args s none s [i]) (fun _ => rfl) (fun x _ hx => by
    cases x with
    | none => rfl
    | some b => cases b <;> first | rfl | exact absurd rfl hx) cl.slots.size h j hj
theorem own_idxv {j : Nat} (hj : j < 2 ^ 31) : (j.toInt32).toInt = (j : Int) ∧ ¬ j.toInt32 < 0 ∧ j.toInt32.toNatClampNeg = j := by
  have h1 : (j.toInt32).toInt = (j : Int) := len_toInt hj
  refine ⟨h1, fun q => ?_, by show (j.toInt32).toInt.toNat = j; omega⟩
  have := Int32.lt_iff_toInt_lt.mp q; have : (0 : Int32).toInt = 0 := rfl; omega
theorem own_t_at {j : Nat} {u : Term} {k : Int32} {idx : List Nat} (ev : ∀ idx, t.eval args s none idx s = some (.ref a)) (ha : s.arrayAt? a = some cl) (hF : ∀ i, i < cl.slots.size → cl.slots[i]? = some (.int (F i))) (hu : u.eval args s none idx s = some (.int k)) (hk : k.toInt = (j : Int)) (hj : j < cl.slots.size) : (Term.elem t u).eval args s none idx s = some (.int (F j)) := by
  obtain ⟨h1, h2⟩ := own_idx (N := cl.slots.size) hk hj
  rw [elem_f (ev idx) hu ha (fun q => h1 (Or.inl q)), h2]; exact hF j hj
theorem own_tE {k : Int32} {i : Nat} (ev : ∀ idx, t.eval args s none idx s = some (.ref a)) (ha : s.arrayAt? a = some cl) (hF : ∀ i, i < cl.slots.size → cl.slots[i]? = some (.int (F i))) (h : (Jvm.Cond.eq (.elem t (.int k)) (.int v)).value args s none s [] = some true) (hk : k.toInt = (i : Int)) (hi : i < cl.slots.size) : ∀ j, j ≠ i ∨ F j = v := by
  intro j
  by_cases q : j = i
  · subst q; exact Or.inr (gotT (Cond.eq_ints (own_t_at ev ha hF rfl hk hi) rfl) h)
  · exact Or.inl q
theorem own_tA {x : Int32} (ev : ∀ idx, t.eval args s none idx s = some (.ref a)) (ha : s.arrayAt? a = some cl) (hsz : cl.slots.size < 2 ^ 31) (hF : ∀ i, i < cl.slots.size → cl.slots[i]? = some (.int (F i))) (h : (Jvm.Cond.all t (.or (.le (.int x) (.index 0)) (.eq (.elem t (.index 0)) (.int v)))).value args s none s [] = some true) : ∀ j, j < cl.slots.size → x.toInt ≤ (j : Int) ∨ F j = v := by
  intro j hj
  obtain ⟨q1, q2, q3⟩ := own_idxv (Nat.lt_trans hj hsz)
  have e1 : (Term.index 0).eval args s none [j] s = some (.int j.toInt32) := rfl
  rcases or_e2 (Cond.le_ints (s := s) rfl e1) (Cond.eq_ints (own_t_at ev ha hF e1 q1 hj) rfl) (own_all (ev []) ha h j hj) with q | q
  · have := Int32.le_iff_toInt_le.mp q; rw [q1] at this; exact Or.inl this
  · exact Or.inr q
theorem own_tC {x : Int32} (ev : ∀ idx, t.eval args s none idx s = some (.ref a)) (ha : s.arrayAt? a = some cl) (hsz : cl.slots.size < 2 ^ 31) (hF : ∀ i, i < cl.slots.size → cl.slots[i]? = some (.int (F i))) (h : (Jvm.Cond.all t (.or (.lt (.index 0) (.int x)) (.eq (.elem t (.index 0)) (.int v)))).value args s none s [] = some true) : ∀ j, j < cl.slots.size → (j : Int) < x.toInt ∨ F j = v := by
  intro j hj
  obtain ⟨q1, q2, q3⟩ := own_idxv (Nat.lt_trans hj hsz)
  have e1 : (Term.index 0).eval args s none [j] s = some (.int j.toInt32) := rfl
  rcases or_e2 (Cond.lt_ints (s := s) e1 rfl) (Cond.eq_ints (own_t_at ev ha hF e1 q1 hj) rfl) (own_all (ev []) ha h j hj) with q | q
  · have := Int32.lt_iff_toInt_lt.mp q; rw [q1] at this; exact Or.inl this
  · exact Or.inr q
theorem own_or2 {P R : Prop} [Decidable P] [Decidable R] {c d : Jvm.Cond} {idx : List Nat} (h1 : c.value args s none s idx = some (decide P)) (h2 : d.value args s none s idx = some (decide R)) : (Jvm.Cond.or c d).value args s none s idx = some (decide (P ∨ R)) := by
  by_cases p : P <;> by_cases r : R <;> simp [Cond.value, h1, h2, p, r]
theorem own_tB {x y : Int32} (ev : ∀ idx, t.eval args s none idx s = some (.ref a)) (ha : s.arrayAt? a = some cl) (hsz : cl.slots.size < 2 ^ 31) (hF : ∀ i, i < cl.slots.size → cl.slots[i]? = some (.int (F i))) (h : (Jvm.Cond.all t (.or (.lt (.index 0) (.int x)) (.or (.le (.int y) (.index 0)) (.eq (.elem t (.index 0)) (.int v))))).value args s none s [] = some true) : ∀ j, j < cl.slots.size → (j : Int) < x.toInt ∨ y.toInt ≤ (j : Int) ∨ F j = v := by
  intro j hj
  obtain ⟨q1, q2, q3⟩ := own_idxv (Nat.lt_trans hj hsz)
  have e1 : (Term.index 0).eval args s none [j] s = some (.int j.toInt32) := rfl
  rcases gotT (own_or2 (Cond.lt_ints (s := s) e1 rfl) (own_or2 (Cond.le_ints (s := s) rfl e1) (Cond.eq_ints (own_t_at ev ha hF e1 q1 hj) rfl))) (own_all (ev []) ha h j hj) with q | q | q
  · have := Int32.lt_iff_toInt_lt.mp q; rw [q1] at this; exact Or.inl this
  · have := Int32.le_iff_toInt_le.mp q; rw [q1] at this; exact Or.inr (Or.inl this)
  · exact Or.inr (Or.inr q)
theorem own_t_len {z : Int32} {n : Nat} (ht : t.eval args s none [] s = some (.ref a)) (ha : s.arrayAt? a = some cl) (h : (Jvm.Cond.eq (.length t) (.int z)).value args s none s [] = some true) (hz : z.toInt = (n : Int)) : cl.slots.size = n ∧ cl.slots.size < 2 ^ 31 := by
  by_cases hl : cl.slots.size < 2 ^ 31
  · have h1 := gotT (Cond.eq_ints (len_f ht ha hl) rfl) h
    have h2 := len_toInt hl
    rw [h1, hz] at h2
    exact ⟨by omega, hl⟩
  · have h3 : (Term.length t).eval args s none [] s = none := by simp [Term.eval, ht, ha, hl]
    simp [Cond.value, h3] at h
def own_atF (cl : Cell) (i : Nat) : Int32 := match cl.slots[i]? with | some (.int x) => x | _ => 0
theorem own_t_F {ty : FieldType} (hfit : Fit s) (A : Arr s s.heap a cl ty) (hty : ty = .int ∨ ty = .boolean ∨ ty = .byte ∨ ty = .char ∨ ty = .short) (hsz : cl.slots.size < 2 ^ 31) : ∀ i, i < cl.slots.size → cl.slots[i]? = some (.int (own_atF cl i)) := by
  intro i hi
  obtain ⟨q1, q2, q3⟩ := own_idxv (Nat.lt_trans hi hsz)
  obtain ⟨h1, h2⟩ := own_idx (N := cl.slots.size) q1 hi
  obtain ⟨w, hw, hf⟩ := elem_fit hfit A h1
  obtain ⟨x, rfl⟩ := fit_I hf hty
  rw [h2] at hw
  rw [hw, own_atF, hw]
end OwnT
/-- a byte of Base64's signs -/
def own_dg (x : Int) : Prop := (65 ≤ x ∧ x ≤ 90) ∨ (97 ≤ x ∧ x ≤ 122) ∨ (48 ≤ x ∧ x ≤ 57) ∨ x = 43 ∨ x = 47 ∨ x = 45 ∨ x = 95
/-- m signs from i, all before d -/
def own_Wd (D : Nat → Prop) (d m i : Nat) : Prop := i + m ≤ d ∧ ∀ j, i ≤ j → j < i + m → D j
/-- r is the first such place from a on, or -1 -/
def own_Res (D : Nat → Prop) (a d m : Nat) (r : Int) : Prop := (∃ i : Nat, a ≤ i ∧ own_Wd D d m i ∧ (∀ i', a ≤ i' → i' < i → ¬ own_Wd D d m i') ∧ r = (i : Int)) ∨ ((∀ i, a ≤ i → ¬ own_Wd D d m i) ∧ r = -1)
theorem own_Res_uniq {D : Nat → Prop} {a d m : Nat} {r r' : Int} (h : own_Res D a d m r) (h' : own_Res D a d m r') : r = r' := by
  rcases h with ⟨i, h1, h2, h3, rfl⟩ | ⟨h1, rfl⟩ <;> rcases h' with ⟨j, k1, k2, k3, rfl⟩ | ⟨k1, rfl⟩
  · rcases Nat.lt_trichotomy i j with q | q | q
    · exact absurd h2 (k3 i h1 q)
    · rw [q]
    · exact absurd k2 (h3 j k1 q)
  · exact absurd h2 (k1 i h1)
  · exact absurd k2 (h1 j k1)
  · rfl
/-- r is the length of the run of signs at k -/
def own_Rn (D : Nat → Prop) (d k : Nat) (r : Int) : Prop := 0 ≤ r ∧ (∀ j : Nat, k ≤ j → (j : Int) < k + r → j < d ∧ D j) ∧ (∀ j : Nat, (j : Int) = k + r → ¬ (j < d ∧ D j))
theorem own_Rn_0 {D : Nat → Prop} {d k : Nat} (h : ¬ (k < d ∧ D k)) : own_Rn D d k 0 := ⟨Int.le_refl _, fun j q1 q2 => absurd q2 (by omega), fun j q => by rw [show j = k by omega]; exact h⟩
theorem own_Rn_s {D : Nat → Prop} {d k : Nat} {r : Int} (h1 : k < d) (h2 : D k) (h : own_Rn D d (k + 1) r) : own_Rn D d k (r + 1) := by
  obtain ⟨a, b, c⟩ := h
  refine ⟨by omega, fun j q1 q2 => ?_, fun j q => c j (by omega)⟩
  rcases Nat.eq_or_lt_of_le q1 with q | q
  · subst q; exact ⟨h1, h2⟩
  · exact b j q (by omega)
theorem own_Rn_W {D : Nat → Prop} {d k m : Nat} {r : Int} (hm : 0 < m) (h : own_Rn D d k r) : own_Wd D d m k ↔ (m : Int) ≤ r := by
  obtain ⟨a, b, c⟩ := h
  constructor
  · rintro ⟨h1, h2⟩
    rcases Int.lt_or_le r m with q | q
    · exfalso
      exact c (k + r.toNat) (by omega) ⟨by omega, h2 _ (by omega) (by omega)⟩
    · exact q
  · intro h1
    refine ⟨?_, fun j q1 q2 => (b j q1 (by omega)).2⟩
    have := (b (k + m - 1) (by omega) (by omega)).1
    omega
/-- no such place in [a, k) -/
def own_NW (D : Nat → Prop) (a d m k : Nat) : Prop := ∀ i, a ≤ i → i < k → ¬ own_Wd D d m i
theorem own_NW_0 {D : Nat → Prop} {a d m : Nat} : own_NW D a d m 0 := fun i _ q => absurd q (by omega)
theorem own_NW_a {D : Nat → Prop} {a d m k : Nat} (h : own_NW D a d m k) (q : k < a) : own_NW D a d m (k + 1) := fun i h1 h2 => absurd h2 (by omega)
theorem own_NW_s {D : Nat → Prop} {a d m k : Nat} {r : Int} (hm : 0 < m) (h : own_NW D a d m k) (R : own_Rn D d k r) (q : r < (m : Int)) : own_NW D a d m (k + 1) := fun i h1 h2 w => by
  rcases Nat.lt_or_ge i k with z | z
  · exact h i h1 z w
  · have e : i = k := by omega
    subst e
    have := (own_Rn_W hm R).mp w
    omega
theorem own_NW_y {D : Nat → Prop} {a d m k : Nat} {r : Int} (hm : 0 < m) (h : own_NW D a d m k) (ha : a ≤ k) (R : own_Rn D d k r) (q : (m : Int) ≤ r) : own_Res D a d m (k : Int) := Or.inl ⟨k, ha, (own_Rn_W hm R).mpr q, h, rfl⟩
theorem own_NW_n {D : Nat → Prop} {a d m : Nat} (hm : 0 < m) (h : own_NW D a d m 6) (hd : d ≤ 6) : own_Res D a d m (-1) := Or.inr ⟨fun i h1 w => by
  rcases Nat.lt_or_ge i 6 with z | z
  · exact h i h1 z w
  · have := w.1; omega, rfl⟩
/-- the walk's own state: last is the window's last place, st the place found -/
def own_In (D : Nat → Prop) (a d m : Nat) (st last : Int) : Prop := (st = -1 ∧ (a : Int) + m - 1 ≤ last ∧ ∀ i : Nat, a ≤ i → (i : Int) + m - 1 < last → ¬ own_Wd D d m i) ∨ (0 ≤ st ∧ own_Res D a d m st)
theorem own_In_0 {D : Nat → Prop} {a d m : Nat} : own_In D a d m (-1) ((a : Int) + m - 1) := Or.inl ⟨rfl, Int.le_refl _, fun i h1 h2 => absurd h2 (by omega)⟩
theorem own_In_res {D : Nat → Prop} {a d m : Nat} {st last : Int} (h : own_In D a d m st last) (q : 0 ≤ st ∨ (d : Int) ≤ last) : own_Res D a d m st := by
  rcases h with ⟨h1, h2, h3⟩ | ⟨h1, h2⟩
  · refine Or.inr ⟨fun i hi w => ?_, h1⟩
    have := w.1
    exact h3 i hi (by omega) w
  · exact h2
theorem own_In_neg {D : Nat → Prop} {a d m : Nat} {st last : Int} (h : own_In D a d m st last) (q : st < 0) : st = -1 ∧ (a : Int) + m - 1 ≤ last ∧ ∀ i : Nat, a ≤ i → (i : Int) + m - 1 < last → ¬ own_Wd D d m i := by
  rcases h with h | ⟨h1, h2⟩
  · exact h
  · omega
/-- a place that is no sign: the window goes on -/
theorem own_In_go {D : Nat → Prop} {a d m : Nat} {last : Int} {t : Nat} (h1 : (a : Int) + m - 1 ≤ last) (h2 : ∀ i : Nat, a ≤ i → (i : Int) + m - 1 < last → ¬ own_Wd D d m i) (q1 : last - m < t) (q2 : (t : Int) ≤ last) (q3 : ¬ D t) : own_In D a d m (-1) ((t : Int) + m) := by
  refine Or.inl ⟨rfl, by omega, fun i hi q w => ?_⟩
  rcases Int.lt_or_le ((i : Int) + m - 1) last with z | z
  · exact h2 i hi z w
  · exact q3 (w.2 t (by omega) (by omega))
/-- the window is full: found -/
theorem own_In_fd {D : Nat → Prop} {a d m : Nat} {last l2 : Int} {t : Nat} (hm : 0 < m) (h1 : (a : Int) + m - 1 ≤ last) (h2 : ∀ i : Nat, a ≤ i → (i : Int) + m - 1 < last → ¬ own_Wd D d m i) (q0 : (t : Int) = last - m + 1) (q1 : last < d) (q3 : ∀ j : Nat, (t : Int) ≤ j → (j : Int) ≤ last → D j) : own_In D a d m (t : Int) l2 :=
  Or.inr ⟨by omega, Or.inl ⟨t, by omega, ⟨by omega, fun j k1 k2 => q3 j (by omega) (by omega)⟩, fun i k1 k2 => h2 i k1 (by omega), rfl⟩⟩
/-- .. and the place before it is no sign -/
theorem own_In_bf {D : Nat → Prop} {a d m : Nat} {last : Int} {t : Nat} (hm : 0 < m) (h2 : ∀ i : Nat, a ≤ i → (i : Int) + m - 1 < last → ¬ own_Wd D d m i) (q0 : (t : Int) = last - m) (q1 : last < d) (q3 : ∀ j : Nat, (t : Int) < j → (j : Int) ≤ last → D j) (ha : a ≤ t) : ¬ D t := fun w => by
  refine h2 t ha (by omega) ⟨by omega, fun j k1 k2 => ?_⟩
  rcases Nat.eq_or_lt_of_le k1 with z | z
  · subst z; exact w
  · exact q3 j (by omega) (by omega)
def own_Df (f : Nat → Int32) : Nat → Prop := fun j => own_dg (f j).toInt
theorem own_kind (x : Int32) (g : Nat → Int32) (h1 : -128 ≤ x.toInt) (h2 : x.toInt < 128) (hT : ∀ i : Nat, i < 256 → ((((65 ≤ i ∧ i ≤ 90) ∨ (97 ≤ i ∧ i ≤ 122) ∨ (48 ≤ i ∧ i ≤ 57) ∨ i = 43 ∨ i = 47 ∨ i = 45 ∨ i = 95) ∧ (g i).toInt = 1) ∨ (¬ ((65 ≤ i ∧ i ≤ 90) ∨ (97 ≤ i ∧ i ≤ 122) ∨ (48 ≤ i ∧ i ≤ 57) ∨ i = 43 ∨ i = 47 ∨ i = 45 ∨ i = 95) ∧ (g i).toInt ≠ 1))) : ∃ u : Nat, (x &&& (255 : Int32)).toInt = (u : Int) ∧ u < 256 ∧ ((own_dg x.toInt ∧ (g u).toInt = 1) ∨ (¬ own_dg x.toInt ∧ (g u).toInt ≠ 1)) := by
  have e : (x &&& (255 : Int32)).toInt = x.toInt % 256 := c_mask x 255 8 (by decide) (by decide)
  refine ⟨(x.toInt % 256).toNat, by omega, by omega, ?_⟩
  have := hT (x.toInt % 256).toNat (by omega)
  generalize g (x.toInt % 256).toNat = G at *
  unfold own_dg
  omega
theorem own_kn {P : Prop} {G : Int} (hw : (P ∧ G = 1) ∨ (¬ P ∧ G ≠ 1)) (h : G ≠ 1) : ¬ P := by rcases hw with ⟨_, q⟩ | ⟨q, _⟩; exact absurd q h; exact q
theorem own_ky {P : Prop} {G : Int} (hw : (P ∧ G = 1) ∨ (¬ P ∧ G ≠ 1)) (h : G = 1) : P := by rcases hw with ⟨q, _⟩ | ⟨_, q⟩; exact q; exact absurd h q
theorem own_no {P : Prop} {z : Int} (hz : (P ∧ z = 1) ∨ (¬ P ∧ z = 0)) (h : z = 0) : ¬ P := by rcases hz with ⟨_, q⟩ | ⟨q, _⟩; omega; exact q
theorem own_ye {P : Prop} {z : Int} (hz : (P ∧ z = 1) ∨ (¬ P ∧ z = 0)) (h : ¬ z = 0) : P := by rcases hz with ⟨q, _⟩ | ⟨_, q⟩; exact q; exact absurd q h
theorem dP_0 : decode jdk_41_method_11_code 0 = .ok (.iload_n 0, 1) := by decide +kernel
theorem dP_1 : decode jdk_41_method_11_code 1 = .ok (.ifCond .lt 8, 3) := by decide +kernel
theorem dP_4 : decode jdk_41_method_11_code 4 = .ok (.iload_n 0, 1) := by decide +kernel
theorem dP_5 : decode jdk_41_method_11_code 5 = .ok (.iload_n 1, 1) := by decide +kernel
theorem dP_6 : decode jdk_41_method_11_code 6 = .ok (.if_icmp .lt 10, 3) := by decide +kernel
theorem dP_16 : decode jdk_41_method_11_code 16 = .ok (.iload_n 0, 1) := by decide +kernel
theorem dP_17 : decode jdk_41_method_11_code 17 = .ok (.ireturn, 1) := by decide +kernel
theorem own_pnP : plainFor (⟨"jdk/internal/util/Preconditions", "checkIndex", "(IILjava/util/function/BiFunction;)I"⟩ : MethodName) = true := plainFor_of_name (show plainName "jdk/internal/util/Preconditions" = true by first | (simp [plainName, overriddenIn]; done) | decide +kernel)
theorem own_efP (m : MethodId) (p1 : Int32) (p2 : Int32) (G3 : Value) (hG3 : G3.isRef = true) : entryFrame m #[(.int p1), (.int p2), G3] 3 = mkF m 0 #[.val (.int p1), .val (.int p2), .val G3] [] := by rcases XT.refc hG3 with rfl | ⟨_, rfl⟩ <;> (first | (simp [entryFrame, mkF, argsToLocals, Value.category, maxLocals]; done) | rfl)
set_option maxRecDepth 65536 in
set_option maxHeartbeats 40000000 in
theorem own_rmP (l : Launch) (Z : State) (a0 : Array Value) (hw : ∀ d ∈ tables_1, d.before a0 Z = true) (ws : List Jvm.Cond) (p1 : Int32) (p2 : Int32) (G3 : Value)  (h0 : Heap) (hG3 : G3.isRef = true) (h1 : 0 ≤ p1.toInt) (h2 : p1.toInt < p2.toInt) :
    MetFree l (⟨"jdk/internal/util/Preconditions", "checkIndex", "(IILjava/util/function/BiFunction;)I"⟩ : MethodName) (head1 (Jvm.Cond.code (⟨"jdk/internal/util/Preconditions", "checkIndex", "(IILjava/util/function/BiFunction;)I"⟩ : MethodName) jdk_41_method_11_code 3 (some .int) :: ws) ({ frames := 0, cells := 0, slots := 0, locals := 0 } : Room)) (fun a U => a = #[(.int p1), (.int p2), G3] ∧ Z.Warmed39 U.vm ∧ U.heap = h0) (fun _ _ _ _ _ => True) (fun _ U o U' => ∃ v L, o = .returned v ∧ (fun v h L => (∃ w, v = some w ∧ (fun w => w = .int p1) w) ∧ L = [] ∧ h = h0) v U'.heap L ∧ FrameEnd U o U' L ({ frames := 0, cells := 0, slots := 0, locals := 0 } : Room).cells ({ frames := 0, cells := 0, slots := 0, locals := 0 } : Room).slots) := by
  refine own_body (y := (⟨"jdk/internal/util/Preconditions", "checkIndex", "(IILjava/util/function/BiFunction;)I"⟩ : MethodName)) (Q := fun v h L => (∃ w, v = some w ∧ (fun w => w = .int p1) w) ∧ L = [] ∧ h = h0) (rm := ({ frames := 0, cells := 0, slots := 0, locals := 0 } : Room)) (as' := #[(.int p1), (.int p2), G3]) (h0 := h0) (Z := Z) own_pnP ?_
  intro p e s m below meth c s₁ hx hby hml hown hnm hret hlk hZ X0 e0
  have hown : s.vm.findClass "jdk/internal/util/Preconditions" = some m.cls := hown
  rw [own_efP m p1 p2 G3 hG3]
  refine own_iload_n X0 hx (hb hby dP_0) rfl (q := 1) rfl ?_
  refine own_if X0 hx (hb hby dP_1) (by decide) (q := 9) rfl (q' := 4) rfl (own_z_lt _) (fun h1 => ?_) (fun h1 => ?_)
  · replace h1 : p1.toInt < 0 := h1
    exfalso; omega
  · replace h1 : ¬ (p1.toInt < 0) := h1
    refine own_iload_n X0 hx (hb hby dP_4) rfl (q := 5) rfl ?_
    refine own_iload_n X0 hx (hb hby dP_5) rfl (q := 6) rfl ?_
    refine own_icmp X0 hx (hb hby dP_6) (by decide) (q := 16) rfl (q' := 9) rfl (own_h_lt _ _) (fun h6 => ?_) (fun h6 => ?_)
    · replace h6 : p1.toInt < p2.toInt := h6
      refine own_iload_n X0 hx (hb hby dP_16) rfl (q := 17) rfl ?_
      exact own_retI X0 hx hret hlk (hb hby dP_17) (by decide) (by decide) ⟨⟨_, rfl, rfl⟩, rfl, e0⟩
    · replace h6 : ¬ (p1.toInt < p2.toInt) := h6
      exfalso; omega
theorem dX_0 : decode jdk_42_method_155_code 0 = .ok (.iload_n 0, 1) := by decide +kernel
theorem dX_1 : decode jdk_42_method_155_code 1 = .ok (.iload_n 1, 1) := by decide +kernel
theorem dX_2 : decode jdk_42_method_155_code 2 = .ok (.getstatic 1053, 3) := by decide +kernel
theorem dX_5 : decode jdk_42_method_155_code 5 = .ok (.invokestatic 1059, 3) := by decide +kernel
theorem dX_8 : decode jdk_42_method_155_code 8 = .ok (.pop, 1) := by decide +kernel
theorem dX_9 : decode jdk_42_method_155_code 9 = .ok (.return_, 1) := by decide +kernel
theorem own_pnX : plainFor (⟨"java/lang/String", "checkIndex", "(II)V"⟩ : MethodName) = true := plainFor_of_name (show plainName "java/lang/String" = true by first | (simp [plainName, overriddenIn]; done) | decide +kernel)
theorem own_efX (m : MethodId) (p1 : Int32) (p2 : Int32)  : entryFrame m #[(.int p1), (.int p2)] 2 = mkF m 0 #[.val (.int p1), .val (.int p2)] [] := by first | (simp [entryFrame, mkF, argsToLocals, Value.category, maxLocals]; done) | rfl
set_option maxRecDepth 65536 in
set_option maxHeartbeats 40000000 in
theorem own_rmX (l : Launch) (Z : State) (a0 : Array Value) (hw : ∀ d ∈ tables_1, d.before a0 Z = true) (ws : List Jvm.Cond) (p1 : Int32) (p2 : Int32) (G3 : Value) (h0 : Heap) (ST3 : Sta Z h0 "jdk/internal/util/Preconditions" "SIOOBE_FORMATTER" "Ljava/util/function/BiFunction;" G3) (hG3 : G3.isRef = true) (h1 : 0 ≤ p1.toInt) (h2 : p1.toInt < p2.toInt) :
    MetFree l (⟨"java/lang/String", "checkIndex", "(II)V"⟩ : MethodName) (head1 (Jvm.Cond.code (⟨"java/lang/String", "checkIndex", "(II)V"⟩ : MethodName) jdk_42_method_155_code 2 none :: ws) ({ frames := 1, cells := 0, slots := 0, locals := 14 } : Room)) (fun a U => a = #[(.int p1), (.int p2)] ∧ Z.Warmed39 U.vm ∧ U.heap = h0) (fun _ _ _ _ _ => True) (fun _ U o U' => ∃ v L, o = .returned v ∧ (fun v h L => v = none ∧ L = [] ∧ h = h0) v U'.heap L ∧ FrameEnd U o U' L ({ frames := 1, cells := 0, slots := 0, locals := 14 } : Room).cells ({ frames := 1, cells := 0, slots := 0, locals := 14 } : Room).slots) := by
  refine own_body (y := (⟨"java/lang/String", "checkIndex", "(II)V"⟩ : MethodName)) (Q := fun v h L => v = none ∧ L = [] ∧ h = h0) (rm := ({ frames := 1, cells := 0, slots := 0, locals := 14 } : Room)) (as' := #[(.int p1), (.int p2)]) (h0 := h0) (Z := Z) own_pnX ?_
  intro p e s m below meth c s₁ hx hby hml hown hnm hret hlk hZ X0 e0
  have hown : s.vm.findClass "java/lang/String" = some m.cls := hown
  rw [own_efX]
  refine own_iload_n X0 hx (hb hby dX_0) rfl (q := 1) rfl ?_
  refine own_iload_n X0 hx (hb hby dX_1) rfl (q := 2) rfl ?_
  refine own_getS X0 hx hZ hown (hw _ (List.mem_of_getElem? (i := 32) rfl)) e0 ST3 (hb hby dX_2) (q := 5) rfl ?_
  intro T1 X1 e1
  refine own_callSP X1 hx hZ hown (hw _ (List.mem_of_getElem? (i := 34) rfl)) (hw _ (List.mem_of_getElem? (i := 35) rfl)) (hw _ (List.mem_of_getElem? (i := 33) rfl)) (hw _ (List.mem_of_getElem? (i := 36) rfl)) (by decide) (own_rmP l Z a0 hw [] p1 p2 G3  h0 hG3 h1 h2) (by decide) (by decide) e1 (by rw [hml]; rfl) (argsL := [(.int p1), (.int p2), G3]) (rest := []) (lenOf own_pd0 rfl) rfl (W := 0) rfl (hb hby dX_5) (q := 8) rfl rfl rfl rfl (by decide) (by decide) ?_
  rintro _ T2 rfl X2 e2
  refine own_pop X2 hx (hb hby dX_8) rfl (q := 9) rfl ?_
  exact own_retV X2 hx hret hlk (hb hby dX_9) (by decide) (by decide) ⟨rfl, rfl, e2⟩
theorem dL_0 : decode jdk_43_method_2_code 0 = .ok (.iload_n 1, 1) := by decide +kernel
theorem dL_1 : decode jdk_43_method_2_code 1 = .ok (.aload_n 0, 1) := by decide +kernel
theorem dL_2 : decode jdk_43_method_2_code 2 = .ok (.arraylength, 1) := by decide +kernel
theorem dL_3 : decode jdk_43_method_2_code 3 = .ok (.invokestatic 9, 3) := by decide +kernel
theorem dL_6 : decode jdk_43_method_2_code 6 = .ok (.aload_n 0, 1) := by decide +kernel
theorem dL_7 : decode jdk_43_method_2_code 7 = .ok (.iload_n 1, 1) := by decide +kernel
theorem dL_8 : decode jdk_43_method_2_code 8 = .ok (.baload, 1) := by decide +kernel
theorem dL_9 : decode jdk_43_method_2_code 9 = .ok (.sipush 255, 3) := by decide +kernel
theorem dL_12 : decode jdk_43_method_2_code 12 = .ok (.iand, 1) := by decide +kernel
theorem dL_13 : decode jdk_43_method_2_code 13 = .ok (.i2c, 1) := by decide +kernel
theorem dL_14 : decode jdk_43_method_2_code 14 = .ok (.ireturn, 1) := by decide +kernel
theorem own_pnL : plainFor (⟨"java/lang/StringLatin1", "charAt", "([BI)C"⟩ : MethodName) = true := plainFor_of_name (show plainName "java/lang/StringLatin1" = true by first | (simp [plainName, overriddenIn]; done) | decide +kernel)
theorem own_efL (m : MethodId) (a1 : Addr) (p1 : Int32)  : entryFrame m #[(.ref a1), (.int p1)] 2 = mkF m 0 #[.val (.ref a1), .val (.int p1)] [] := by first | (simp [entryFrame, mkF, argsToLocals, Value.category, maxLocals]; done) | rfl
set_option maxRecDepth 65536 in
set_option maxHeartbeats 40000000 in
theorem own_rmL (l : Launch) (Z : State) (a0 : Array Value) (hw : ∀ d ∈ tables_1, d.before a0 Z = true) (ws : List Jvm.Cond) (a1 : Addr) (p1 : Int32) (f : Nat → Int32) (n : Nat) (G3 : Value) (h0 : Heap) (AB : own_Arr Z h0 a1 .byte 66 (fun i => .int (f i))) (hn : p1.toInt = (n : Int)) (hN : n < 66) (ST3 : Sta Z h0 "jdk/internal/util/Preconditions" "SIOOBE_FORMATTER" "Ljava/util/function/BiFunction;" G3) (hG3 : G3.isRef = true) :
    MetFree l (⟨"java/lang/StringLatin1", "charAt", "([BI)C"⟩ : MethodName) (head1 (Jvm.Cond.code (⟨"java/lang/StringLatin1", "charAt", "([BI)C"⟩ : MethodName) jdk_43_method_2_code 2 (some .char) :: ws) ({ frames := 2, cells := 0, slots := 0, locals := 27 } : Room)) (fun a U => a = #[(.ref a1), (.int p1)] ∧ Z.Warmed39 U.vm ∧ U.heap = h0) (fun _ _ _ _ _ => True) (fun _ U o U' => ∃ v L, o = .returned v ∧ (fun v h L => (∃ w, v = some w ∧ (fun w => ∃ z : Int32, w = .int z) w) ∧ L = [] ∧ h = h0) v U'.heap L ∧ FrameEnd U o U' L ({ frames := 2, cells := 0, slots := 0, locals := 27 } : Room).cells ({ frames := 2, cells := 0, slots := 0, locals := 27 } : Room).slots) := by
  refine own_body (y := (⟨"java/lang/StringLatin1", "charAt", "([BI)C"⟩ : MethodName)) (Q := fun v h L => (∃ w, v = some w ∧ (fun w => ∃ z : Int32, w = .int z) w) ∧ L = [] ∧ h = h0) (rm := ({ frames := 2, cells := 0, slots := 0, locals := 27 } : Room)) (as' := #[(.ref a1), (.int p1)]) (h0 := h0) (Z := Z) own_pnL ?_
  intro p e s m below meth c s₁ hx hby hml hown hnm hret hlk hZ X0 e0
  have hown : s.vm.findClass "java/lang/StringLatin1" = some m.cls := hown
  rw [own_efL]
  refine own_iload_n X0 hx (hb hby dL_0) rfl (q := 1) rfl ?_
  refine own_aload_n X0 hx (hb hby dL_1) rfl rfl (q := 2) rfl ?_
  refine own_arraylength X0 hx hZ e0 AB (hb hby dL_2) (v := (66 : Int32)) rfl (q := 3) rfl ?_
  refine own_callS (Q' := fun v U L => v = none ∧ L = [] ∧ U = h0) X0 hx hZ hown (hw _ (List.mem_of_getElem? (i := 29) rfl)) (hw _ (List.mem_of_getElem? (i := 30) rfl)) (hw _ (List.mem_of_getElem? (i := 6) rfl)) (hw _ (List.mem_of_getElem? (i := 31) rfl)) (by decide) (own_rmX l Z a0 hw [] p1 (66 : Int32) G3 h0 ST3 hG3 (by omega) (show p1.toInt < (66 : Int) by omega)) (by decide) (by decide) e0 (by rw [hml]; rfl) (argsL := [(.int p1), (.int (66 : Int32))]) (rest := []) (lenOf own_pd1 rfl) rfl (W := 0) rfl (hb hby dL_3) (q := 6) rfl rfl (by decide) (by decide) ?_
  rintro _ T1 L1 ⟨rfl, rfl, e1⟩ X1
  rw [List.append_nil] at X1
  show own_G p e below _ (T1.setTop (mkF m 6 #[.val (.ref a1), .val (.int p1)] []))
  refine own_aload_n X1 hx (hb hby dL_6) rfl rfl (q := 7) rfl ?_
  refine own_iload_n X1 hx (hb hby dL_7) rfl (q := 8) rfl ?_
  refine own_baload X1 hx hZ e1 AB (hb hby dL_8) (i := n) (hn) (by omega) (v := .int (f n)) rfl (q := 9) rfl ?_
  refine own_sipush X1 hx (hb hby dL_9) (v := (255 : Int32)) rfl (q := 12) rfl ?_
  refine own_iand X1 hx (hb hby dL_12) (q := 13) rfl ?_
  refine own_i2c X1 hx (hb hby dL_13) (q := 14) rfl ?_
  exact own_retN X1 hx (t := .char) hret hlk (by simp) (hb hby dL_14) (by decide) (by decide) rfl ⟨⟨_, rfl, ⟨_, rfl⟩⟩, rfl, e1⟩
theorem dI_0 : decode jdk_42_method_154_code 0 = .ok (.getstatic 38, 3) := by decide +kernel
theorem dI_3 : decode jdk_42_method_154_code 3 = .ok (.ifCond .eq 14, 3) := by decide +kernel
theorem dI_6 : decode jdk_42_method_154_code 6 = .ok (.aload_n 0, 1) := by decide +kernel
theorem dI_7 : decode jdk_42_method_154_code 7 = .ok (.getfield 15, 3) := by decide +kernel
theorem dI_10 : decode jdk_42_method_154_code 10 = .ok (.ifCond .ne 7, 3) := by decide +kernel
theorem dI_13 : decode jdk_42_method_154_code 13 = .ok (.iconst 1, 1) := by decide +kernel
theorem dI_14 : decode jdk_42_method_154_code 14 = .ok (.goto 4, 3) := by decide +kernel
theorem dI_18 : decode jdk_42_method_154_code 18 = .ok (.ireturn, 1) := by decide +kernel
theorem own_pnI : plainFor (⟨"java/lang/String", "isLatin1", "()Z"⟩ : MethodName) = true := plainFor_of_name (show plainName "java/lang/String" = true by first | (simp [plainName, overriddenIn]; done) | decide +kernel)
theorem own_efI (m : MethodId) (a1 : Addr)  : entryFrame m #[(.ref a1)] 1 = mkF m 0 #[.val (.ref a1)] [] := by first | (simp [entryFrame, mkF, argsToLocals, Value.category, maxLocals]; done) | rfl
set_option maxRecDepth 65536 in
set_option maxHeartbeats 40000000 in
theorem own_rmI (l : Launch) (Z : State) (a0 : Array Value) (hw : ∀ d ∈ tables_1, d.before a0 Z = true) (ws : List Jvm.Cond) (a1 : Addr) (G1 : Int32) (h0 : Heap) (C : Fld Z h0 a1 "java/lang/String" "coder" "B" (.int 0)) (ST1 : Sta Z h0 "java/lang/String" "COMPACT_STRINGS" "Z" (.int G1)) (hG : G1.toInt ≠ 0) :
    MetFree l (⟨"java/lang/String", "isLatin1", "()Z"⟩ : MethodName) (head1 (Jvm.Cond.code (⟨"java/lang/String", "isLatin1", "()Z"⟩ : MethodName) jdk_42_method_154_code 1 (some .boolean) :: ws) ({ frames := 0, cells := 0, slots := 0, locals := 0 } : Room)) (fun a U => a = #[(.ref a1)] ∧ Z.Warmed39 U.vm ∧ U.heap = h0) (fun _ _ _ _ _ => True) (fun _ U o U' => ∃ v L, o = .returned v ∧ (fun v h L => (∃ w, v = some w ∧ (fun w => w = .int 1) w) ∧ L = [] ∧ h = h0) v U'.heap L ∧ FrameEnd U o U' L ({ frames := 0, cells := 0, slots := 0, locals := 0 } : Room).cells ({ frames := 0, cells := 0, slots := 0, locals := 0 } : Room).slots) := by
  refine own_body (y := (⟨"java/lang/String", "isLatin1", "()Z"⟩ : MethodName)) (Q := fun v h L => (∃ w, v = some w ∧ (fun w => w = .int 1) w) ∧ L = [] ∧ h = h0) (rm := ({ frames := 0, cells := 0, slots := 0, locals := 0 } : Room)) (as' := #[(.ref a1)]) (h0 := h0) (Z := Z) own_pnI ?_
  intro p e s m below meth c s₁ hx hby hml hown hnm hret hlk hZ X0 e0
  have hown : s.vm.findClass "java/lang/String" = some m.cls := hown
  rw [own_efI]
  refine own_getS X0 hx hZ hown (hw _ (List.mem_of_getElem? (i := 22) rfl)) e0 ST1 (hb hby dI_0) (q := 3) rfl ?_
  intro T1 X1 e1
  refine own_if X1 hx (hb hby dI_3) (by decide) (q := 17) rfl (q' := 6) rfl (own_z_eq _) (fun h3 => ?_) (fun h3 => ?_)
  · replace h3 : G1.toInt = 0 := h3
    exfalso; omega
  · replace h3 : ¬ (G1.toInt = 0) := h3
    refine own_aload_n X1 hx (hb hby dI_6) rfl rfl (q := 7) rfl ?_
    refine own_getF X1 hx hZ hown (hw _ (List.mem_of_getElem? (i := 23) rfl)) e1 C (hb hby dI_7) (q := 10) rfl ?_
    intro T2 X2 e2
    refine own_if X2 hx (hb hby dI_10) (by decide) (q := 17) rfl (q' := 13) rfl (own_z_ne _) (fun h10 => ?_) (fun h10 => ?_)
    · replace h10 : (0 : Int) ≠ 0 := h10
      exact absurd h10 (by decide)
    · replace h10 : ¬ ((0 : Int) ≠ 0) := h10
      refine own_iconst X2 hx (hb hby dI_13) (v := (1 : Int32)) rfl (q := 14) rfl ?_
      refine own_goto X2 hx (hb hby dI_14) (by decide) (q := 18) rfl ?_
      exact own_retN X2 hx (t := .boolean) hret hlk (by simp) (hb hby dI_18) (by decide) (by decide) (w := (1 : Int32)) rfl ⟨⟨_, rfl, rfl⟩, rfl, e2⟩
theorem dC_0 : decode jdk_42_method_56_code 0 = .ok (.aload_n 0, 1) := by decide +kernel
theorem dC_1 : decode jdk_42_method_56_code 1 = .ok (.invokevirtual 492, 3) := by decide +kernel
theorem dC_4 : decode jdk_42_method_56_code 4 = .ok (.ifCond .eq 12, 3) := by decide +kernel
theorem dC_7 : decode jdk_42_method_56_code 7 = .ok (.aload_n 0, 1) := by decide +kernel
theorem dC_8 : decode jdk_42_method_56_code 8 = .ok (.getfield 9, 3) := by decide +kernel
theorem dC_11 : decode jdk_42_method_56_code 11 = .ok (.iload_n 1, 1) := by decide +kernel
theorem dC_12 : decode jdk_42_method_56_code 12 = .ok (.invokestatic 495, 3) := by decide +kernel
theorem dC_15 : decode jdk_42_method_56_code 15 = .ok (.ireturn, 1) := by decide +kernel
theorem own_pnC : plainFor (⟨"java/lang/String", "charAt", "(I)C"⟩ : MethodName) = true := plainFor_of_name (show plainName "java/lang/String" = true by first | (simp [plainName, overriddenIn]; done) | decide +kernel)
theorem own_efC (m : MethodId) (a1 : Addr) (p1 : Int32)  : entryFrame m #[(.ref a1), (.int p1)] 2 = mkF m 0 #[.val (.ref a1), .val (.int p1)] [] := by first | (simp [entryFrame, mkF, argsToLocals, Value.category, maxLocals]; done) | rfl
set_option maxRecDepth 65536 in
set_option maxHeartbeats 40000000 in
theorem own_rmC (l : Launch) (Z : State) (a0 : Array Value) (hw : ∀ d ∈ tables_1, d.before a0 Z = true) (ws : List Jvm.Cond) (a1 : Addr) (p1 : Int32) (b : Addr) (f : Nat → Int32) (n : Nat) (G1 : Int32) (G3 : Value) (h0 : Heap) (E : Exa Z h0 a1 "java/lang/String") (C : Fld Z h0 a1 "java/lang/String" "coder" "B" (.int 0)) (V : Fld Z h0 a1 "java/lang/String" "value" "[B" (.ref b)) (AB : own_Arr Z h0 b .byte 66 (fun i => .int (f i))) (hn : p1.toInt = (n : Int)) (hN : n < 66) (ST1 : Sta Z h0 "java/lang/String" "COMPACT_STRINGS" "Z" (.int G1)) (hG : G1.toInt ≠ 0) (ST3 : Sta Z h0 "jdk/internal/util/Preconditions" "SIOOBE_FORMATTER" "Ljava/util/function/BiFunction;" G3) (hG3 : G3.isRef = true) :
    MetFree l (⟨"java/lang/String", "charAt", "(I)C"⟩ : MethodName) (head1 (Jvm.Cond.code (⟨"java/lang/String", "charAt", "(I)C"⟩ : MethodName) jdk_42_method_56_code 2 (some .char) :: ws) ({ frames := 3, cells := 0, slots := 0, locals := 40 } : Room)) (fun a U => a = #[(.ref a1), (.int p1)] ∧ Z.Warmed39 U.vm ∧ U.heap = h0) (fun _ _ _ _ _ => True) (fun _ U o U' => ∃ v L, o = .returned v ∧ (fun v h L => (∃ w, v = some w ∧ (fun w => ∃ z : Int32, w = .int z) w) ∧ L = [] ∧ h = h0) v U'.heap L ∧ FrameEnd U o U' L ({ frames := 3, cells := 0, slots := 0, locals := 40 } : Room).cells ({ frames := 3, cells := 0, slots := 0, locals := 40 } : Room).slots) := by
  refine own_body (y := (⟨"java/lang/String", "charAt", "(I)C"⟩ : MethodName)) (Q := fun v h L => (∃ w, v = some w ∧ (fun w => ∃ z : Int32, w = .int z) w) ∧ L = [] ∧ h = h0) (rm := ({ frames := 3, cells := 0, slots := 0, locals := 40 } : Room)) (as' := #[(.ref a1), (.int p1)]) (h0 := h0) (Z := Z) own_pnC ?_
  intro p e s m below meth c s₁ hx hby hml hown hnm hret hlk hZ X0 e0
  have hown : s.vm.findClass "java/lang/String" = some m.cls := hown
  rw [own_efC]
  refine own_aload_n X0 hx (hb hby dC_0) rfl rfl (q := 1) rfl ?_
  refine own_callVP X0 hx hZ hown (hw _ (List.mem_of_getElem? (i := 17) rfl)) (hw _ (List.mem_of_getElem? (i := 18) rfl)) (hw _ (List.mem_of_getElem? (i := 20) rfl)) (hw _ (List.mem_of_getElem? (i := 19) rfl)) (hw _ (List.mem_of_getElem? (i := 21) rfl)) (hw _ (List.mem_of_getElem? (i := 6) rfl)) (by decide) (own_rmI l Z a0 hw [] a1 G1 h0 C ST1 hG) E (by decide) (by decide) e0 (by rw [hml]; rfl) (argsL := []) (rest := []) (lenOf own_pd2 rfl) rfl (W := 0) rfl (hb hby dC_1) (q := 4) rfl rfl rfl rfl (by decide) (by decide) ?_
  rintro _ T1 rfl X1 e1
  refine own_if X1 hx (hb hby dC_4) (by decide) (q := 16) rfl (q' := 7) rfl (own_z_eq _) (fun h4 => ?_) (fun h4 => ?_)
  · replace h4 : (1 : Int) = 0 := h4
    exact absurd h4 (by decide)
  · replace h4 : ¬ ((1 : Int) = 0) := h4
    refine own_aload_n X1 hx (hb hby dC_7) rfl rfl (q := 8) rfl ?_
    refine own_getF X1 hx hZ hown (hw _ (List.mem_of_getElem? (i := 24) rfl)) e1 V (hb hby dC_8) (q := 11) rfl ?_
    intro T2 X2 e2
    refine own_iload_n X2 hx (hb hby dC_11) rfl (q := 12) rfl ?_
    refine own_callSP X2 hx hZ hown (hw _ (List.mem_of_getElem? (i := 25) rfl)) (hw _ (List.mem_of_getElem? (i := 26) rfl)) (hw _ (List.mem_of_getElem? (i := 27) rfl)) (hw _ (List.mem_of_getElem? (i := 28) rfl)) (by decide) (own_rmL l Z a0 hw [] b p1 f n G3 h0 AB hn hN ST3 hG3) (by decide) (by decide) e2 (by rw [hml]; rfl) (argsL := [(.ref b), (.int p1)]) (rest := []) (lenOf own_pd3 rfl) rfl (W := 0) rfl (hb hby dC_12) (q := 15) rfl rfl rfl rfl (by decide) (by decide) ?_
    rintro _ T3 ⟨z3, rfl⟩ X3 e3
    exact own_retN X3 hx (t := .char) hret hlk (by simp) (hb hby dC_15) (by decide) (by decide) rfl ⟨⟨_, rfl, ⟨_, rfl⟩⟩, rfl, e3⟩
theorem dD_0 : decode method_4_code 0 = .ok (.iload_n 0, 1) := by decide +kernel
theorem dD_1 : decode method_4_code 1 = .ok (.sipush 255, 3) := by decide +kernel
theorem dD_4 : decode method_4_code 4 = .ok (.iand, 1) := by decide +kernel
theorem dD_5 : decode method_4_code 5 = .ok (.istore_n 1, 1) := by decide +kernel
theorem dD_6 : decode method_4_code 6 = .ok (.iload_n 1, 1) := by decide +kernel
theorem dD_7 : decode method_4_code 7 = .ok (.bipush 65, 2) := by decide +kernel
theorem dD_9 : decode method_4_code 9 = .ok (.if_icmp .lt 9, 3) := by decide +kernel
theorem dD_12 : decode method_4_code 12 = .ok (.iload_n 1, 1) := by decide +kernel
theorem dD_13 : decode method_4_code 13 = .ok (.bipush 90, 2) := by decide +kernel
theorem dD_15 : decode method_4_code 15 = .ok (.if_icmp .le 51, 3) := by decide +kernel
theorem dD_18 : decode method_4_code 18 = .ok (.iload_n 1, 1) := by decide +kernel
theorem dD_19 : decode method_4_code 19 = .ok (.bipush 97, 2) := by decide +kernel
theorem dD_21 : decode method_4_code 21 = .ok (.if_icmp .lt 9, 3) := by decide +kernel
theorem dD_24 : decode method_4_code 24 = .ok (.iload_n 1, 1) := by decide +kernel
theorem dD_25 : decode method_4_code 25 = .ok (.bipush 122, 2) := by decide +kernel
theorem dD_27 : decode method_4_code 27 = .ok (.if_icmp .le 39, 3) := by decide +kernel
theorem dD_30 : decode method_4_code 30 = .ok (.iload_n 1, 1) := by decide +kernel
theorem dD_31 : decode method_4_code 31 = .ok (.bipush 48, 2) := by decide +kernel
theorem dD_33 : decode method_4_code 33 = .ok (.if_icmp .lt 9, 3) := by decide +kernel
theorem dD_36 : decode method_4_code 36 = .ok (.iload_n 1, 1) := by decide +kernel
theorem dD_37 : decode method_4_code 37 = .ok (.bipush 57, 2) := by decide +kernel
theorem dD_39 : decode method_4_code 39 = .ok (.if_icmp .le 27, 3) := by decide +kernel
theorem dD_42 : decode method_4_code 42 = .ok (.iload_n 1, 1) := by decide +kernel
theorem dD_43 : decode method_4_code 43 = .ok (.bipush 43, 2) := by decide +kernel
theorem dD_45 : decode method_4_code 45 = .ok (.if_icmp .eq 21, 3) := by decide +kernel
theorem dD_48 : decode method_4_code 48 = .ok (.iload_n 1, 1) := by decide +kernel
theorem dD_49 : decode method_4_code 49 = .ok (.bipush 47, 2) := by decide +kernel
theorem dD_51 : decode method_4_code 51 = .ok (.if_icmp .eq 15, 3) := by decide +kernel
theorem dD_54 : decode method_4_code 54 = .ok (.iload_n 1, 1) := by decide +kernel
theorem dD_55 : decode method_4_code 55 = .ok (.bipush 45, 2) := by decide +kernel
theorem dD_57 : decode method_4_code 57 = .ok (.if_icmp .eq 9, 3) := by decide +kernel
theorem dD_60 : decode method_4_code 60 = .ok (.iload_n 1, 1) := by decide +kernel
theorem dD_61 : decode method_4_code 61 = .ok (.bipush 95, 2) := by decide +kernel
theorem dD_63 : decode method_4_code 63 = .ok (.if_icmp .ne 7, 3) := by decide +kernel
theorem dD_66 : decode method_4_code 66 = .ok (.iconst 1, 1) := by decide +kernel
theorem dD_67 : decode method_4_code 67 = .ok (.goto 4, 3) := by decide +kernel
theorem dD_70 : decode method_4_code 70 = .ok (.iconst 0, 1) := by decide +kernel
theorem dD_71 : decode method_4_code 71 = .ok (.ireturn, 1) := by decide +kernel
theorem own_pnD : plainFor (⟨"com/example/pillbug/pillbug/core/Base64RunsRunOfAtLeastPinLaw", "isDigit", "(B)Z"⟩ : MethodName) = true := plainFor_of_name (show plainName "com/example/pillbug/pillbug/core/Base64RunsRunOfAtLeastPinLaw" = true by first | (simp [plainName, overriddenIn]; done) | decide +kernel)
theorem own_efD (m : MethodId) (p1 : Int32)  : entryFrame m #[(.int p1)] 2 = mkF m 0 #[.val (.int p1), .unset] [] := by first | (simp [entryFrame, mkF, argsToLocals, Value.category, maxLocals]; done) | rfl
set_option maxRecDepth 65536 in
set_option maxHeartbeats 40000000 in
theorem own_rmD (l : Launch) (Z : State) (a0 : Array Value) (hw : ∀ d ∈ tables_1, d.before a0 Z = true) (ws : List Jvm.Cond) (p1 : Int32)  (h0 : Heap) (h1 : -128 ≤ p1.toInt) (h2 : p1.toInt < 128) :
    MetFree l (⟨"com/example/pillbug/pillbug/core/Base64RunsRunOfAtLeastPinLaw", "isDigit", "(B)Z"⟩ : MethodName) (head1 (Jvm.Cond.code (⟨"com/example/pillbug/pillbug/core/Base64RunsRunOfAtLeastPinLaw", "isDigit", "(B)Z"⟩ : MethodName) method_4_code 2 (some .boolean) :: ws) ({ frames := 0, cells := 0, slots := 0, locals := 0 } : Room)) (fun a U => a = #[(.int p1)] ∧ Z.Warmed39 U.vm ∧ U.heap = h0) (fun _ _ _ _ _ => True) (fun _ U o U' => ∃ v L, o = .returned v ∧ (fun v h L => (∃ w, v = some w ∧ (fun w => ∃ z : Int32, w = .int z ∧ (((own_dg p1.toInt) ∧ z.toInt = 1) ∨ (¬ (own_dg p1.toInt) ∧ z.toInt = 0))) w) ∧ L = [] ∧ h = h0) v U'.heap L ∧ FrameEnd U o U' L ({ frames := 0, cells := 0, slots := 0, locals := 0 } : Room).cells ({ frames := 0, cells := 0, slots := 0, locals := 0 } : Room).slots) := by
  refine own_body (y := (⟨"com/example/pillbug/pillbug/core/Base64RunsRunOfAtLeastPinLaw", "isDigit", "(B)Z"⟩ : MethodName)) (Q := fun v h L => (∃ w, v = some w ∧ (fun w => ∃ z : Int32, w = .int z ∧ (((own_dg p1.toInt) ∧ z.toInt = 1) ∨ (¬ (own_dg p1.toInt) ∧ z.toInt = 0))) w) ∧ L = [] ∧ h = h0) (rm := ({ frames := 0, cells := 0, slots := 0, locals := 0 } : Room)) (as' := #[(.int p1)]) (h0 := h0) (Z := Z) own_pnD ?_
  intro p e s m below meth c s₁ hx hby hml hown hnm hret hlk hZ X0 e0
  have hown : s.vm.findClass "com/example/pillbug/pillbug/core/Base64RunsRunOfAtLeastPinLaw" = some m.cls := hown
  rw [own_efD]
  refine own_iload_n X0 hx (hb hby dD_0) rfl (q := 1) rfl ?_
  refine own_sipush X0 hx (hb hby dD_1) (v := (255 : Int32)) rfl (q := 4) rfl ?_
  refine own_iand X0 hx (hb hby dD_4) (q := 5) rfl ?_
  have em : (p1 &&& (255 : Int32)).toInt = p1.toInt % 256 := c_mask p1 255 8 (by decide) (by decide)
  obtain ⟨cc, ecc⟩ : ∃ z, z = (p1 &&& (255 : Int32)) := ⟨_, rfl⟩
  rw [← ecc] at em ⊢
  refine own_istore_n X0 hx (hb hby dD_5) (l' := #[.val (.int p1), .val (.int cc)]) rfl (q := 6) rfl ?_
  refine own_iload_n X0 hx (hb hby dD_6) rfl (q := 7) rfl ?_
  refine own_bipush X0 hx (hb hby dD_7) (v := (65 : Int32)) rfl (q := 9) rfl ?_
  have J18_1 : ∀ (g18_0 : ¬ (65 ≤ cc.toInt ∧ cc.toInt ≤ 90)), own_G p e below (own_En s ({ frames := 0, cells := 0, slots := 0, locals := 0 } : Room).cells ({ frames := 0, cells := 0, slots := 0, locals := 0 } : Room).slots (fun v h L => (∃ w, v = some w ∧ (fun w => ∃ z : Int32, w = .int z ∧ (((own_dg p1.toInt) ∧ z.toInt = 1) ∨ (¬ (own_dg p1.toInt) ∧ z.toInt = 0))) w) ∧ L = [] ∧ h = h0)) (s₁.setTop (mkF m 18 #[.val (.int p1), .val (.int cc)] [])) := by
    intro g18_0
    refine own_iload_n X0 hx (hb hby dD_18) rfl (q := 19) rfl ?_
    refine own_bipush X0 hx (hb hby dD_19) (v := (97 : Int32)) rfl (q := 21) rfl ?_
    have J30_2 : ∀ (g30_0 : ¬ (97 ≤ cc.toInt ∧ cc.toInt ≤ 122)), own_G p e below (own_En s ({ frames := 0, cells := 0, slots := 0, locals := 0 } : Room).cells ({ frames := 0, cells := 0, slots := 0, locals := 0 } : Room).slots (fun v h L => (∃ w, v = some w ∧ (fun w => ∃ z : Int32, w = .int z ∧ (((own_dg p1.toInt) ∧ z.toInt = 1) ∨ (¬ (own_dg p1.toInt) ∧ z.toInt = 0))) w) ∧ L = [] ∧ h = h0)) (s₁.setTop (mkF m 30 #[.val (.int p1), .val (.int cc)] [])) := by
      intro g30_0
      refine own_iload_n X0 hx (hb hby dD_30) rfl (q := 31) rfl ?_
      refine own_bipush X0 hx (hb hby dD_31) (v := (48 : Int32)) rfl (q := 33) rfl ?_
      have J42_3 : ∀ (g42_0 : ¬ (48 ≤ cc.toInt ∧ cc.toInt ≤ 57)), own_G p e below (own_En s ({ frames := 0, cells := 0, slots := 0, locals := 0 } : Room).cells ({ frames := 0, cells := 0, slots := 0, locals := 0 } : Room).slots (fun v h L => (∃ w, v = some w ∧ (fun w => ∃ z : Int32, w = .int z ∧ (((own_dg p1.toInt) ∧ z.toInt = 1) ∨ (¬ (own_dg p1.toInt) ∧ z.toInt = 0))) w) ∧ L = [] ∧ h = h0)) (s₁.setTop (mkF m 42 #[.val (.int p1), .val (.int cc)] [])) := by
        intro g42_0
        refine own_iload_n X0 hx (hb hby dD_42) rfl (q := 43) rfl ?_
        refine own_bipush X0 hx (hb hby dD_43) (v := (43 : Int32)) rfl (q := 45) rfl ?_
        refine own_icmp X0 hx (hb hby dD_45) (by decide) (q := 66) rfl (q' := 48) rfl (own_h_eq _ _) (fun h45 => ?_) (fun h45 => ?_)
        · replace h45 : cc.toInt = (43 : Int) := h45
          refine own_iconst X0 hx (hb hby dD_66) (v := (1 : Int32)) rfl (q := 67) rfl ?_
          refine own_goto X0 hx (hb hby dD_67) (by decide) (q := 71) rfl ?_
          exact own_retN X0 hx (t := .boolean) hret hlk (by simp) (hb hby dD_71) (by decide) (by decide) (w := (1 : Int32)) rfl ⟨⟨_, rfl, ⟨_, rfl, by have hc_ : (1 : Int32).toInt = (1 : Int) := rfl; unfold own_dg; omega⟩⟩, rfl, e0⟩
        · replace h45 : ¬ (cc.toInt = (43 : Int)) := h45
          refine own_iload_n X0 hx (hb hby dD_48) rfl (q := 49) rfl ?_
          refine own_bipush X0 hx (hb hby dD_49) (v := (47 : Int32)) rfl (q := 51) rfl ?_
          refine own_icmp X0 hx (hb hby dD_51) (by decide) (q := 66) rfl (q' := 54) rfl (own_h_eq _ _) (fun h51 => ?_) (fun h51 => ?_)
          · replace h51 : cc.toInt = (47 : Int) := h51
            refine own_iconst X0 hx (hb hby dD_66) (v := (1 : Int32)) rfl (q := 67) rfl ?_
            refine own_goto X0 hx (hb hby dD_67) (by decide) (q := 71) rfl ?_
            exact own_retN X0 hx (t := .boolean) hret hlk (by simp) (hb hby dD_71) (by decide) (by decide) (w := (1 : Int32)) rfl ⟨⟨_, rfl, ⟨_, rfl, by have hc_ : (1 : Int32).toInt = (1 : Int) := rfl; unfold own_dg; omega⟩⟩, rfl, e0⟩
          · replace h51 : ¬ (cc.toInt = (47 : Int)) := h51
            refine own_iload_n X0 hx (hb hby dD_54) rfl (q := 55) rfl ?_
            refine own_bipush X0 hx (hb hby dD_55) (v := (45 : Int32)) rfl (q := 57) rfl ?_
            refine own_icmp X0 hx (hb hby dD_57) (by decide) (q := 66) rfl (q' := 60) rfl (own_h_eq _ _) (fun h57 => ?_) (fun h57 => ?_)
            · replace h57 : cc.toInt = (45 : Int) := h57
              refine own_iconst X0 hx (hb hby dD_66) (v := (1 : Int32)) rfl (q := 67) rfl ?_
              refine own_goto X0 hx (hb hby dD_67) (by decide) (q := 71) rfl ?_
              exact own_retN X0 hx (t := .boolean) hret hlk (by simp) (hb hby dD_71) (by decide) (by decide) (w := (1 : Int32)) rfl ⟨⟨_, rfl, ⟨_, rfl, by have hc_ : (1 : Int32).toInt = (1 : Int) := rfl; unfold own_dg; omega⟩⟩, rfl, e0⟩
            · replace h57 : ¬ (cc.toInt = (45 : Int)) := h57
              refine own_iload_n X0 hx (hb hby dD_60) rfl (q := 61) rfl ?_
              refine own_bipush X0 hx (hb hby dD_61) (v := (95 : Int32)) rfl (q := 63) rfl ?_
              refine own_icmp X0 hx (hb hby dD_63) (by decide) (q := 70) rfl (q' := 66) rfl (own_h_ne _ _) (fun h63 => ?_) (fun h63 => ?_)
              · replace h63 : cc.toInt ≠ (95 : Int) := h63
                refine own_iconst X0 hx (hb hby dD_70) (v := (0 : Int32)) rfl (q := 71) rfl ?_
                exact own_retN X0 hx (t := .boolean) hret hlk (by simp) (hb hby dD_71) (by decide) (by decide) (w := (0 : Int32)) rfl ⟨⟨_, rfl, ⟨_, rfl, by have hc_ : (0 : Int32).toInt = (0 : Int) := rfl; unfold own_dg; omega⟩⟩, rfl, e0⟩
              · replace h63 : ¬ (cc.toInt ≠ (95 : Int)) := h63
                refine own_iconst X0 hx (hb hby dD_66) (v := (1 : Int32)) rfl (q := 67) rfl ?_
                refine own_goto X0 hx (hb hby dD_67) (by decide) (q := 71) rfl ?_
                exact own_retN X0 hx (t := .boolean) hret hlk (by simp) (hb hby dD_71) (by decide) (by decide) (w := (1 : Int32)) rfl ⟨⟨_, rfl, ⟨_, rfl, by have hc_ : (1 : Int32).toInt = (1 : Int) := rfl; unfold own_dg; omega⟩⟩, rfl, e0⟩
      refine own_icmp X0 hx (hb hby dD_33) (by decide) (q := 42) rfl (q' := 36) rfl (own_h_lt _ _) (fun h33 => ?_) (fun h33 => ?_)
      · replace h33 : cc.toInt < (48 : Int) := h33
        exact J42_3 (by omega)
      · replace h33 : ¬ (cc.toInt < (48 : Int)) := h33
        refine own_iload_n X0 hx (hb hby dD_36) rfl (q := 37) rfl ?_
        refine own_bipush X0 hx (hb hby dD_37) (v := (57 : Int32)) rfl (q := 39) rfl ?_
        refine own_icmp X0 hx (hb hby dD_39) (by decide) (q := 66) rfl (q' := 42) rfl (own_h_le _ _) (fun h39 => ?_) (fun h39 => ?_)
        · replace h39 : cc.toInt ≤ (57 : Int) := h39
          refine own_iconst X0 hx (hb hby dD_66) (v := (1 : Int32)) rfl (q := 67) rfl ?_
          refine own_goto X0 hx (hb hby dD_67) (by decide) (q := 71) rfl ?_
          exact own_retN X0 hx (t := .boolean) hret hlk (by simp) (hb hby dD_71) (by decide) (by decide) (w := (1 : Int32)) rfl ⟨⟨_, rfl, ⟨_, rfl, by have hc_ : (1 : Int32).toInt = (1 : Int) := rfl; unfold own_dg; omega⟩⟩, rfl, e0⟩
        · replace h39 : ¬ (cc.toInt ≤ (57 : Int)) := h39
          exact J42_3 (by omega)
    refine own_icmp X0 hx (hb hby dD_21) (by decide) (q := 30) rfl (q' := 24) rfl (own_h_lt _ _) (fun h21 => ?_) (fun h21 => ?_)
    · replace h21 : cc.toInt < (97 : Int) := h21
      exact J30_2 (by omega)
    · replace h21 : ¬ (cc.toInt < (97 : Int)) := h21
      refine own_iload_n X0 hx (hb hby dD_24) rfl (q := 25) rfl ?_
      refine own_bipush X0 hx (hb hby dD_25) (v := (122 : Int32)) rfl (q := 27) rfl ?_
      refine own_icmp X0 hx (hb hby dD_27) (by decide) (q := 66) rfl (q' := 30) rfl (own_h_le _ _) (fun h27 => ?_) (fun h27 => ?_)
      · replace h27 : cc.toInt ≤ (122 : Int) := h27
        refine own_iconst X0 hx (hb hby dD_66) (v := (1 : Int32)) rfl (q := 67) rfl ?_
        refine own_goto X0 hx (hb hby dD_67) (by decide) (q := 71) rfl ?_
        exact own_retN X0 hx (t := .boolean) hret hlk (by simp) (hb hby dD_71) (by decide) (by decide) (w := (1 : Int32)) rfl ⟨⟨_, rfl, ⟨_, rfl, by have hc_ : (1 : Int32).toInt = (1 : Int) := rfl; unfold own_dg; omega⟩⟩, rfl, e0⟩
      · replace h27 : ¬ (cc.toInt ≤ (122 : Int)) := h27
        exact J30_2 (by omega)
  refine own_icmp X0 hx (hb hby dD_9) (by decide) (q := 18) rfl (q' := 12) rfl (own_h_lt _ _) (fun h9 => ?_) (fun h9 => ?_)
  · replace h9 : cc.toInt < (65 : Int) := h9
    exact J18_1 (by omega)
  · replace h9 : ¬ (cc.toInt < (65 : Int)) := h9
    refine own_iload_n X0 hx (hb hby dD_12) rfl (q := 13) rfl ?_
    refine own_bipush X0 hx (hb hby dD_13) (v := (90 : Int32)) rfl (q := 15) rfl ?_
    refine own_icmp X0 hx (hb hby dD_15) (by decide) (q := 66) rfl (q' := 18) rfl (own_h_le _ _) (fun h15 => ?_) (fun h15 => ?_)
    · replace h15 : cc.toInt ≤ (90 : Int) := h15
      refine own_iconst X0 hx (hb hby dD_66) (v := (1 : Int32)) rfl (q := 67) rfl ?_
      refine own_goto X0 hx (hb hby dD_67) (by decide) (q := 71) rfl ?_
      exact own_retN X0 hx (t := .boolean) hret hlk (by simp) (hb hby dD_71) (by decide) (by decide) (w := (1 : Int32)) rfl ⟨⟨_, rfl, ⟨_, rfl, by have hc_ : (1 : Int32).toInt = (1 : Int) := rfl; unfold own_dg; omega⟩⟩, rfl, e0⟩
    · replace h15 : ¬ (cc.toInt ≤ (90 : Int)) := h15
      exact J18_1 (by omega)
theorem dR_0 : decode prog_7_method_14_code 0 = .ok (.iconst (-1), 1) := by decide +kernel
theorem dR_1 : decode prog_7_method_14_code 1 = .ok (.istore 4, 2) := by decide +kernel
theorem dR_3 : decode prog_7_method_14_code 3 = .ok (.iload_n 1, 1) := by decide +kernel
theorem dR_4 : decode prog_7_method_14_code 4 = .ok (.iload_n 3, 1) := by decide +kernel
theorem dR_5 : decode prog_7_method_14_code 5 = .ok (.iadd, 1) := by decide +kernel
theorem dR_6 : decode prog_7_method_14_code 6 = .ok (.iconst 1, 1) := by decide +kernel
theorem dR_7 : decode prog_7_method_14_code 7 = .ok (.isub, 1) := by decide +kernel
theorem dR_8 : decode prog_7_method_14_code 8 = .ok (.istore 5, 2) := by decide +kernel
theorem dR_10 : decode prog_7_method_14_code 10 = .ok (.iload 4, 2) := by decide +kernel
theorem dR_12 : decode prog_7_method_14_code 12 = .ok (.ifCond .ge 96, 3) := by decide +kernel
theorem dR_15 : decode prog_7_method_14_code 15 = .ok (.iload 5, 2) := by decide +kernel
theorem dR_17 : decode prog_7_method_14_code 17 = .ok (.iload_n 2, 1) := by decide +kernel
theorem dR_18 : decode prog_7_method_14_code 18 = .ok (.if_icmp .ge 90, 3) := by decide +kernel
theorem dR_21 : decode prog_7_method_14_code 21 = .ok (.iload 5, 2) := by decide +kernel
theorem dR_23 : decode prog_7_method_14_code 23 = .ok (.istore 6, 2) := by decide +kernel
theorem dR_25 : decode prog_7_method_14_code 25 = .ok (.iload 6, 2) := by decide +kernel
theorem dR_27 : decode prog_7_method_14_code 27 = .ok (.iload 5, 2) := by decide +kernel
theorem dR_29 : decode prog_7_method_14_code 29 = .ok (.iload_n 3, 1) := by decide +kernel
theorem dR_30 : decode prog_7_method_14_code 30 = .ok (.isub, 1) := by decide +kernel
theorem dR_31 : decode prog_7_method_14_code 31 = .ok (.if_icmp .le 25, 3) := by decide +kernel
theorem dR_34 : decode prog_7_method_14_code 34 = .ok (.getstatic 1, 3) := by decide +kernel
theorem dR_37 : decode prog_7_method_14_code 37 = .ok (.aload_n 0, 1) := by decide +kernel
theorem dR_38 : decode prog_7_method_14_code 38 = .ok (.iload 6, 2) := by decide +kernel
theorem dR_40 : decode prog_7_method_14_code 40 = .ok (.baload, 1) := by decide +kernel
theorem dR_41 : decode prog_7_method_14_code 41 = .ok (.sipush 255, 3) := by decide +kernel
theorem dR_44 : decode prog_7_method_14_code 44 = .ok (.iand, 1) := by decide +kernel
theorem dR_45 : decode prog_7_method_14_code 45 = .ok (.baload, 1) := by decide +kernel
theorem dR_46 : decode prog_7_method_14_code 46 = .ok (.iconst 1, 1) := by decide +kernel
theorem dR_47 : decode prog_7_method_14_code 47 = .ok (.if_icmp .ne 9, 3) := by decide +kernel
theorem dR_50 : decode prog_7_method_14_code 50 = .ok (.iinc 6 (-1), 3) := by decide +kernel
theorem dR_53 : decode prog_7_method_14_code 53 = .ok (.goto (-28), 3) := by decide +kernel
theorem dR_56 : decode prog_7_method_14_code 56 = .ok (.iload 6, 2) := by decide +kernel
theorem dR_58 : decode prog_7_method_14_code 58 = .ok (.iload 5, 2) := by decide +kernel
theorem dR_60 : decode prog_7_method_14_code 60 = .ok (.iload_n 3, 1) := by decide +kernel
theorem dR_61 : decode prog_7_method_14_code 61 = .ok (.isub, 1) := by decide +kernel
theorem dR_62 : decode prog_7_method_14_code 62 = .ok (.if_icmp .ne 37, 3) := by decide +kernel
theorem dR_65 : decode prog_7_method_14_code 65 = .ok (.iload 6, 2) := by decide +kernel
theorem dR_67 : decode prog_7_method_14_code 67 = .ok (.iload_n 1, 1) := by decide +kernel
theorem dR_68 : decode prog_7_method_14_code 68 = .ok (.if_icmp .lt 25, 3) := by decide +kernel
theorem dR_71 : decode prog_7_method_14_code 71 = .ok (.getstatic 1, 3) := by decide +kernel
theorem dR_74 : decode prog_7_method_14_code 74 = .ok (.aload_n 0, 1) := by decide +kernel
theorem dR_75 : decode prog_7_method_14_code 75 = .ok (.iload 6, 2) := by decide +kernel
theorem dR_77 : decode prog_7_method_14_code 77 = .ok (.baload, 1) := by decide +kernel
theorem dR_78 : decode prog_7_method_14_code 78 = .ok (.sipush 255, 3) := by decide +kernel
theorem dR_81 : decode prog_7_method_14_code 81 = .ok (.iand, 1) := by decide +kernel
theorem dR_82 : decode prog_7_method_14_code 82 = .ok (.baload, 1) := by decide +kernel
theorem dR_83 : decode prog_7_method_14_code 83 = .ok (.iconst 1, 1) := by decide +kernel
theorem dR_84 : decode prog_7_method_14_code 84 = .ok (.if_icmp .ne 9, 3) := by decide +kernel
theorem dR_93 : decode prog_7_method_14_code 93 = .ok (.iload 6, 2) := by decide +kernel
theorem dR_95 : decode prog_7_method_14_code 95 = .ok (.iconst 1, 1) := by decide +kernel
theorem dR_96 : decode prog_7_method_14_code 96 = .ok (.iadd, 1) := by decide +kernel
theorem dR_97 : decode prog_7_method_14_code 97 = .ok (.istore 4, 2) := by decide +kernel
theorem dR_99 : decode prog_7_method_14_code 99 = .ok (.iload 6, 2) := by decide +kernel
theorem dR_101 : decode prog_7_method_14_code 101 = .ok (.iload_n 3, 1) := by decide +kernel
theorem dR_102 : decode prog_7_method_14_code 102 = .ok (.iadd, 1) := by decide +kernel
theorem dR_103 : decode prog_7_method_14_code 103 = .ok (.istore 5, 2) := by decide +kernel
theorem dR_105 : decode prog_7_method_14_code 105 = .ok (.goto (-95), 3) := by decide +kernel
theorem dR_108 : decode prog_7_method_14_code 108 = .ok (.iload 4, 2) := by decide +kernel
theorem dR_110 : decode prog_7_method_14_code 110 = .ok (.ireturn, 1) := by decide +kernel
theorem own_pnR : plainFor (⟨"com/example/pillbug/pillbug/core/Base64Runs", "runOfAtLeast", "([BIII)I"⟩ : MethodName) = true := plainFor_of_name (show plainName "com/example/pillbug/pillbug/core/Base64Runs" = true by first | (simp [plainName, overriddenIn]; done) | decide +kernel)
theorem own_efR (m : MethodId) (a1 : Addr) (p1 : Int32) (p2 : Int32) (p3 : Int32)  : entryFrame m #[(.ref a1), (.int p1), (.int p2), (.int p3)] 7 = mkF m 0 #[.val (.ref a1), .val (.int p1), .val (.int p2), .val (.int p3), .unset, .unset, .unset] [] := by first | (simp [entryFrame, mkF, argsToLocals, Value.category, maxLocals]; done) | rfl
set_option maxRecDepth 65536 in
set_option maxHeartbeats 40000000 in
theorem own_rmR (l : Launch) (Z : State) (a0 : Array Value) (hw : ∀ d ∈ tables_1, d.before a0 Z = true) (ws : List Jvm.Cond) (a1 : Addr) (p1 : Int32) (p2 : Int32) (p3 : Int32) (f : Nat → Int32) (aT : Addr) (g : Nat → Int32) (a d mm : Nat) (h0 : Heap) (A : own_Arr Z h0 a1 .byte 6 (fun i => .int (f i))) (hf : ∀ j, -128 ≤ (f j).toInt ∧ (f j).toInt < 128) (ST : Sta Z h0 "com/example/pillbug/pillbug/core/Base64Runs" "KINDS" "[B" (.ref aT)) (AT : own_Arr Z h0 aT .byte 256 (fun i => .int (g i))) (hT : ∀ i : Nat, i < 256 → ((((65 ≤ i ∧ i ≤ 90) ∨ (97 ≤ i ∧ i ≤ 122) ∨ (48 ≤ i ∧ i ≤ 57) ∨ i = 43 ∨ i = 47 ∨ i = 45 ∨ i = 95) ∧ (g i).toInt = 1) ∨ (¬ ((65 ≤ i ∧ i ≤ 90) ∨ (97 ≤ i ∧ i ≤ 122) ∨ (48 ≤ i ∧ i ≤ 57) ∨ i = 43 ∨ i = 47 ∨ i = 45 ∨ i = 95) ∧ (g i).toInt ≠ 1))) (hpa : p1.toInt = (a : Int)) (hpd : p2.toInt = (d : Int)) (hpm : p3.toInt = (mm : Int)) (had : a ≤ d) (hd6 : d ≤ 6) (hm1 : 1 ≤ mm) (hm8 : mm ≤ 8) :
    MetFree l (⟨"com/example/pillbug/pillbug/core/Base64Runs", "runOfAtLeast", "([BIII)I"⟩ : MethodName) (head1 (Jvm.Cond.code (⟨"com/example/pillbug/pillbug/core/Base64Runs", "runOfAtLeast", "([BIII)I"⟩ : MethodName) prog_7_method_14_code 7 (some .int) :: ws) ({ frames := 0, cells := 0, slots := 0, locals := 0 } : Room)) (fun a U => a = #[(.ref a1), (.int p1), (.int p2), (.int p3)] ∧ Z.Warmed39 U.vm ∧ U.heap = h0) (fun _ _ _ _ _ => True) (fun _ U o U' => ∃ v L, o = .returned v ∧ (fun v h L => (∃ w, v = some w ∧ (fun w => ∃ z : Int32, w = .int z ∧ own_Res (own_Df f) a d mm z.toInt) w) ∧ L = [] ∧ h = h0) v U'.heap L ∧ FrameEnd U o U' L ({ frames := 0, cells := 0, slots := 0, locals := 0 } : Room).cells ({ frames := 0, cells := 0, slots := 0, locals := 0 } : Room).slots) := by
  refine own_body (y := (⟨"com/example/pillbug/pillbug/core/Base64Runs", "runOfAtLeast", "([BIII)I"⟩ : MethodName)) (Q := fun v h L => (∃ w, v = some w ∧ (fun w => ∃ z : Int32, w = .int z ∧ own_Res (own_Df f) a d mm z.toInt) w) ∧ L = [] ∧ h = h0) (rm := ({ frames := 0, cells := 0, slots := 0, locals := 0 } : Room)) (as' := #[(.ref a1), (.int p1), (.int p2), (.int p3)]) (h0 := h0) (Z := Z) own_pnR ?_
  intro p e s m below meth c s₁ hx hby hml hown hnm hret hlk hZ X0 e0
  have hown : s.vm.findClass "com/example/pillbug/pillbug/core/Base64Runs" = some m.cls := hown
  rw [own_efR]
  refine own_iconst X0 hx (hb hby dR_0) (v := (-1 : Int32)) rfl (q := 1) rfl ?_
  refine own_istore X0 hx (hb hby dR_1) (l' := #[.val (.ref a1), .val (.int p1), .val (.int p2), .val (.int p3), .val (.int (-1 : Int32)), .unset, .unset]) rfl (q := 3) rfl ?_
  refine own_iload_n X0 hx (hb hby dR_3) rfl (q := 4) rfl ?_
  refine own_iload_n X0 hx (hb hby dR_4) rfl (q := 5) rfl ?_
  refine own_iadd X0 hx (hb hby dR_5) (q := 6) rfl ?_
  refine own_iconst X0 hx (hb hby dR_6) (v := (1 : Int32)) rfl (q := 7) rfl ?_
  refine own_isub X0 hx (hb hby dR_7) (q := 8) rfl ?_
  have i5 : (p1 + p3).toInt = p1.toInt + p3.toInt := own_addI p1 p3 (show (-2147483648 : Int) ≤ p1.toInt + p3.toInt by omega) (show p1.toInt + p3.toInt < 2147483648 by omega)
  have i7 : ((p1 + p3) - (1 : Int32)).toInt = (p1 + p3).toInt - (1 : Int) := own_subI (p1 + p3) (1 : Int32) (show (-2147483648 : Int) ≤ (p1 + p3).toInt - (1 : Int) by omega) (show (p1 + p3).toInt - (1 : Int) < 2147483648 by omega)
  have i8 : ((p1 + p3) - (1 : Int32)).toInt = (a : Int) + (mm : Int) - 1 := by omega
  refine own_istore X0 hx (hb hby dR_8) (l' := #[.val (.ref a1), .val (.int p1), .val (.int p2), .val (.int p3), .val (.int (-1 : Int32)), .val (.int ((p1 + p3) - (1 : Int32))), .unset]) rfl (q := 10) rfl ?_
  have P10_1 : ∀ (k_ : Nat) (T2 : State) (X2 : Stand p l e ({ frames := 0, cells := 0, slots := 0, locals := 0 } : Room) s m #[(.ref a1), (.int p1), (.int p2), (.int p3)] below meth c T2 [] (0) (0)) (e2 : T2.heap = h0) (st4 : Int32) (la : Int32) (sl : Slot) (hk_ : (16 - la.toInt).toNat * 2 + (0 - st4.toInt).toNat = k_) (g10_0 : own_In (own_Df f) a d mm st4.toInt la.toInt) (g10_1 : 0 ≤ la.toInt ∧ la.toInt ≤ 16) (g10_2 : sl = .unset ∨ ∃ v : Int32, sl = .val (.int v)), own_G p e below (own_En s ({ frames := 0, cells := 0, slots := 0, locals := 0 } : Room).cells ({ frames := 0, cells := 0, slots := 0, locals := 0 } : Room).slots (fun v h L => (∃ w, v = some w ∧ (fun w => ∃ z : Int32, w = .int z ∧ own_Res (own_Df f) a d mm z.toInt) w) ∧ L = [] ∧ h = h0)) (T2.setTop (mkF m 10 #[.val (.ref a1), .val (.int p1), .val (.int p2), .val (.int p3), .val (.int st4), .val (.int la), sl] [])) := by
    intro k_
    induction k_ using Nat.strongRecOn with
    | _ k_ ih_10 =>
    intro T2 X2 e2 st4 la sl hk_ g10_0 g10_1 g10_2
    refine own_iload X2 hx (hb hby dR_10) rfl (q := 12) rfl ?_
    refine own_if X2 hx (hb hby dR_12) (by decide) (q := 108) rfl (q' := 15) rfl (own_z_ge _) (fun h12 => ?_) (fun h12 => ?_)
    · replace h12 : 0 ≤ st4.toInt := h12
      have hR := own_In_res g10_0 (Or.inl h12)
      refine own_iload X2 hx (hb hby dR_108) rfl (q := 110) rfl ?_
      exact own_retI X2 hx hret hlk (hb hby dR_110) (by decide) (by decide) ⟨⟨_, rfl, ⟨_, rfl, hR⟩⟩, rfl, e2⟩
    · replace h12 : ¬ (0 ≤ st4.toInt) := h12
      refine own_iload X2 hx (hb hby dR_15) rfl (q := 17) rfl ?_
      refine own_iload_n X2 hx (hb hby dR_17) rfl (q := 18) rfl ?_
      refine own_icmp X2 hx (hb hby dR_18) (by decide) (q := 108) rfl (q' := 21) rfl (own_h_ge _ _) (fun h18 => ?_) (fun h18 => ?_)
      · replace h18 : p2.toInt ≤ la.toInt := h18
        have hR := own_In_res g10_0 (Or.inr (by omega))
        refine own_iload X2 hx (hb hby dR_108) rfl (q := 110) rfl ?_
        exact own_retI X2 hx hret hlk (hb hby dR_110) (by decide) (by decide) ⟨⟨_, rfl, ⟨_, rfl, hR⟩⟩, rfl, e2⟩
      · replace h18 : ¬ (p2.toInt ≤ la.toInt) := h18
        obtain ⟨hs1, hl1, hnw⟩ := own_In_neg g10_0 (by omega)
        rcases g10_2 with rfl | ⟨v6, rfl⟩
        ·
          refine own_iload X2 hx (hb hby dR_21) rfl (q := 23) rfl ?_
          refine own_istore X2 hx (hb hby dR_23) (l' := #[.val (.ref a1), .val (.int p1), .val (.int p2), .val (.int p3), .val (.int st4), .val (.int la), .val (.int la)]) rfl (q := 25) rfl ?_
          have P25_3 : ∀ (k_ : Nat) (T4 : State) (X4 : Stand p l e ({ frames := 0, cells := 0, slots := 0, locals := 0 } : Room) s m #[(.ref a1), (.int p1), (.int p2), (.int p3)] below meth c T4 [] (0) (0)) (e4 : T4.heap = h0) (at6 : Int32) (hk_ : (at6.toInt + 20).toNat = k_) (g25_0 : la.toInt - mm ≤ at6.toInt) (g25_1 : at6.toInt ≤ la.toInt) (g25_2 : ∀ j : Nat, at6.toInt < (j : Int) → (j : Int) ≤ la.toInt → own_Df f j), own_G p e below (own_En s ({ frames := 0, cells := 0, slots := 0, locals := 0 } : Room).cells ({ frames := 0, cells := 0, slots := 0, locals := 0 } : Room).slots (fun v h L => (∃ w, v = some w ∧ (fun w => ∃ z : Int32, w = .int z ∧ own_Res (own_Df f) a d mm z.toInt) w) ∧ L = [] ∧ h = h0)) (T4.setTop (mkF m 25 #[.val (.ref a1), .val (.int p1), .val (.int p2), .val (.int p3), .val (.int st4), .val (.int la), .val (.int at6)] [])) := by
            intro k_
            induction k_ using Nat.strongRecOn with
            | _ k_ ih_25 =>
            intro T4 X4 e4 at6 hk_ g25_0 g25_1 g25_2
            refine own_iload X4 hx (hb hby dR_25) rfl (q := 27) rfl ?_
            refine own_iload X4 hx (hb hby dR_27) rfl (q := 29) rfl ?_
            refine own_iload_n X4 hx (hb hby dR_29) rfl (q := 30) rfl ?_
            refine own_isub X4 hx (hb hby dR_30) (q := 31) rfl ?_
            have i30 : (la - p3).toInt = la.toInt - p3.toInt := own_subI la p3 (show (-2147483648 : Int) ≤ la.toInt - p3.toInt by omega) (show la.toInt - p3.toInt < 2147483648 by omega)
            have J56_5 : ∀ (T6 : State) (X6 : Stand p l e ({ frames := 0, cells := 0, slots := 0, locals := 0 } : Room) s m #[(.ref a1), (.int p1), (.int p2), (.int p3)] below meth c T6 [] (0) (0)) (e6 : T6.heap = h0) (g56_0 : at6.toInt = la.toInt - mm ∨ (la.toInt - mm < at6.toInt ∧ ¬ own_Df f at6.toInt.toNat)), own_G p e below (own_En s ({ frames := 0, cells := 0, slots := 0, locals := 0 } : Room).cells ({ frames := 0, cells := 0, slots := 0, locals := 0 } : Room).slots (fun v h L => (∃ w, v = some w ∧ (fun w => ∃ z : Int32, w = .int z ∧ own_Res (own_Df f) a d mm z.toInt) w) ∧ L = [] ∧ h = h0)) (T6.setTop (mkF m 56 #[.val (.ref a1), .val (.int p1), .val (.int p2), .val (.int p3), .val (.int st4), .val (.int la), .val (.int at6)] [])) := by
              intro T6 X6 e6 g56_0
              refine own_iload X6 hx (hb hby dR_56) rfl (q := 58) rfl ?_
              refine own_iload X6 hx (hb hby dR_58) rfl (q := 60) rfl ?_
              refine own_iload_n X6 hx (hb hby dR_60) rfl (q := 61) rfl ?_
              refine own_isub X6 hx (hb hby dR_61) (q := 62) rfl ?_
              refine own_icmp X6 hx (hb hby dR_62) (by decide) (q := 99) rfl (q' := 65) rfl (own_h_ne _ _) (fun h62 => ?_) (fun h62 => ?_)
              · replace h62 : at6.toInt ≠ (la - p3).toInt := h62
                have hnd2 : la.toInt - mm < at6.toInt ∧ ¬ own_Df f at6.toInt.toNat := by rcases g56_0 with q | q; exfalso; omega; exact q
                refine own_iload X6 hx (hb hby dR_99) rfl (q := 101) rfl ?_
                refine own_iload_n X6 hx (hb hby dR_101) rfl (q := 102) rfl ?_
                have i102 : (at6 + p3).toInt = at6.toInt + p3.toInt := own_addI at6 p3 (show (-2147483648 : Int) ≤ at6.toInt + p3.toInt by omega) (show at6.toInt + p3.toInt < 2147483648 by omega)
                refine own_iadd X6 hx (hb hby dR_102) (q := 103) rfl ?_
                refine own_istore X6 hx (hb hby dR_103) (l' := #[.val (.ref a1), .val (.int p1), .val (.int p2), .val (.int p3), .val (.int st4), .val (.int (at6 + p3)), .val (.int at6)]) rfl (q := 105) rfl ?_
                refine own_goto X6 hx (hb hby dR_105) (by decide) (q := 10) rfl ?_
                exact ih_10 _ (by omega) T6 X6 e6 st4 (at6 + p3) (.val (.int at6)) rfl (by first | (rw [hs1, show (at6 + p3).toInt = ((at6.toInt.toNat : Nat) : Int) + (mm : Int) by omega]; exact own_In_go hl1 hnw (by omega) (by omega) hnd2.2) | (rw [show (at6 + (1 : Int32)).toInt = (((at6.toInt + 1).toNat : Nat) : Int) by omega]; exact own_In_fd (by omega) hl1 hnw (by omega) (by omega) (fun j q1 q2 => g25_2 j (by omega) q2))) (by omega) (by exact Or.inr ⟨_, rfl⟩)
              · replace h62 : ¬ (at6.toInt ≠ (la - p3).toInt) := h62
                have hfl : at6.toInt = la.toInt - mm := by omega
                refine own_iload X6 hx (hb hby dR_65) rfl (q := 67) rfl ?_
                refine own_iload_n X6 hx (hb hby dR_67) rfl (q := 68) rfl ?_
                have J93_7 : ∀ (T8 : State) (X8 : Stand p l e ({ frames := 0, cells := 0, slots := 0, locals := 0 } : Room) s m #[(.ref a1), (.int p1), (.int p2), (.int p3)] below meth c T8 [] (0) (0)) (e8 : T8.heap = h0), own_G p e below (own_En s ({ frames := 0, cells := 0, slots := 0, locals := 0 } : Room).cells ({ frames := 0, cells := 0, slots := 0, locals := 0 } : Room).slots (fun v h L => (∃ w, v = some w ∧ (fun w => ∃ z : Int32, w = .int z ∧ own_Res (own_Df f) a d mm z.toInt) w) ∧ L = [] ∧ h = h0)) (T8.setTop (mkF m 93 #[.val (.ref a1), .val (.int p1), .val (.int p2), .val (.int p3), .val (.int st4), .val (.int la), .val (.int at6)] [])) := by
                  intro T8 X8 e8
                  refine own_iload X8 hx (hb hby dR_93) rfl (q := 95) rfl ?_
                  refine own_iconst X8 hx (hb hby dR_95) (v := (1 : Int32)) rfl (q := 96) rfl ?_
                  have i96 : (at6 + (1 : Int32)).toInt = at6.toInt + (1 : Int) := own_addI at6 (1 : Int32) (show (-2147483648 : Int) ≤ at6.toInt + (1 : Int) by omega) (show at6.toInt + (1 : Int) < 2147483648 by omega)
                  refine own_iadd X8 hx (hb hby dR_96) (q := 97) rfl ?_
                  refine own_istore X8 hx (hb hby dR_97) (l' := #[.val (.ref a1), .val (.int p1), .val (.int p2), .val (.int p3), .val (.int (at6 + (1 : Int32))), .val (.int la), .val (.int at6)]) rfl (q := 99) rfl ?_
                  refine own_iload X8 hx (hb hby dR_99) rfl (q := 101) rfl ?_
                  refine own_iload_n X8 hx (hb hby dR_101) rfl (q := 102) rfl ?_
                  have i102 : (at6 + p3).toInt = at6.toInt + p3.toInt := own_addI at6 p3 (show (-2147483648 : Int) ≤ at6.toInt + p3.toInt by omega) (show at6.toInt + p3.toInt < 2147483648 by omega)
                  refine own_iadd X8 hx (hb hby dR_102) (q := 103) rfl ?_
                  refine own_istore X8 hx (hb hby dR_103) (l' := #[.val (.ref a1), .val (.int p1), .val (.int p2), .val (.int p3), .val (.int (at6 + (1 : Int32))), .val (.int (at6 + p3)), .val (.int at6)]) rfl (q := 105) rfl ?_
                  refine own_goto X8 hx (hb hby dR_105) (by decide) (q := 10) rfl ?_
                  exact ih_10 _ (by omega) T8 X8 e8 (at6 + (1 : Int32)) (at6 + p3) (.val (.int at6)) rfl (by first | (rw [hs1, show (at6 + p3).toInt = ((at6.toInt.toNat : Nat) : Int) + (mm : Int) by omega]; exact own_In_go hl1 hnw (by omega) (by omega) hnd2.2) | (rw [show (at6 + (1 : Int32)).toInt = (((at6.toInt + 1).toNat : Nat) : Int) by omega]; exact own_In_fd (by omega) hl1 hnw (by omega) (by omega) (fun j q1 q2 => g25_2 j (by omega) q2))) (by omega) (by exact Or.inr ⟨_, rfl⟩)
                refine own_icmp X6 hx (hb hby dR_68) (by decide) (q := 93) rfl (q' := 71) rfl (own_h_lt _ _) (fun h68 => ?_) (fun h68 => ?_)
                · replace h68 : at6.toInt < p1.toInt := h68
                  exact J93_7 T6 X6 e6
                · replace h68 : ¬ (at6.toInt < p1.toInt) := h68
                  refine own_getS X6 hx hZ hown (hw _ (List.mem_of_getElem? (i := 42) rfl)) e6 ST (hb hby dR_71) (q := 74) rfl ?_
                  intro T9 X9 e9
                  refine own_aload_n X9 hx (hb hby dR_74) rfl rfl (q := 75) rfl ?_
                  refine own_iload X9 hx (hb hby dR_75) rfl (q := 77) rfl ?_
                  obtain ⟨n7, hn7⟩ : ∃ n : Nat, at6.toInt = (n : Int) := ⟨at6.toInt.toNat, by omega⟩
                  refine own_baload X9 hx hZ e9 A (hb hby dR_77) (i := n7) (hn7) (by omega) (v := .int (f n7)) rfl (q := 78) rfl ?_
                  refine own_sipush X9 hx (hb hby dR_78) (v := (255 : Int32)) rfl (q := 81) rfl ?_
                  refine own_iand X9 hx (hb hby dR_81) (q := 82) rfl ?_
                  obtain ⟨u82, hu82, hv82, hw82⟩ := own_kind (f (n7)) g (hf _).1 (hf _).2 hT
                  refine own_baload X9 hx hZ e9 AT (hb hby dR_82) (i := u82) (hu82) (by omega) (v := .int (g u82)) rfl (q := 83) rfl ?_
                  refine own_iconst X9 hx (hb hby dR_83) (v := (1 : Int32)) rfl (q := 84) rfl ?_
                  refine own_icmp X9 hx (hb hby dR_84) (by decide) (q := 93) rfl (q' := 87) rfl (own_h_ne _ _) (fun h84 => ?_) (fun h84 => ?_)
                  · replace h84 : (g u82).toInt ≠ (1 : Int) := h84
                    exact J93_7 T9 X9 e9
                  · replace h84 : ¬ ((g u82).toInt ≠ (1 : Int)) := h84
                    exfalso; exact own_In_bf (D := own_Df f) (a := a) (d := d) (m := mm) (last := la.toInt) (t := n7) (by omega) hnw (by omega) (by omega) (fun j q1 q2 => g25_2 j (by omega) q2) (by omega) (own_ky hw82 (by omega))
            refine own_icmp X4 hx (hb hby dR_31) (by decide) (q := 56) rfl (q' := 34) rfl (own_h_le _ _) (fun h31 => ?_) (fun h31 => ?_)
            · replace h31 : at6.toInt ≤ (la - p3).toInt := h31
              exact J56_5 T4 X4 e4 (by first | exact Or.inl (by omega) | exact Or.inr ⟨by omega, by rw [show at6.toInt.toNat = n6 by omega]; exact hnd⟩)
            · replace h31 : ¬ (at6.toInt ≤ (la - p3).toInt) := h31
              refine own_getS X4 hx hZ hown (hw _ (List.mem_of_getElem? (i := 42) rfl)) e4 ST (hb hby dR_34) (q := 37) rfl ?_
              intro T10 X10 e10
              refine own_aload_n X10 hx (hb hby dR_37) rfl rfl (q := 38) rfl ?_
              refine own_iload X10 hx (hb hby dR_38) rfl (q := 40) rfl ?_
              obtain ⟨n6, hn6⟩ : ∃ n : Nat, at6.toInt = (n : Int) := ⟨at6.toInt.toNat, by omega⟩
              refine own_baload X10 hx hZ e10 A (hb hby dR_40) (i := n6) (hn6) (by omega) (v := .int (f n6)) rfl (q := 41) rfl ?_
              refine own_sipush X10 hx (hb hby dR_41) (v := (255 : Int32)) rfl (q := 44) rfl ?_
              refine own_iand X10 hx (hb hby dR_44) (q := 45) rfl ?_
              obtain ⟨u45, hu45, hv45, hw45⟩ := own_kind (f (n6)) g (hf _).1 (hf _).2 hT
              refine own_baload X10 hx hZ e10 AT (hb hby dR_45) (i := u45) (hu45) (by omega) (v := .int (g u45)) rfl (q := 46) rfl ?_
              refine own_iconst X10 hx (hb hby dR_46) (v := (1 : Int32)) rfl (q := 47) rfl ?_
              refine own_icmp X10 hx (hb hby dR_47) (by decide) (q := 56) rfl (q' := 50) rfl (own_h_ne _ _) (fun h47 => ?_) (fun h47 => ?_)
              · replace h47 : (g u45).toInt ≠ (1 : Int) := h47
                have hnd : ¬ own_Df f n6 := own_kn hw45 h47
                exact J56_5 T10 X10 e10 (by first | exact Or.inl (by omega) | exact Or.inr ⟨by omega, by rw [show at6.toInt.toNat = n6 by omega]; exact hnd⟩)
              · replace h47 : ¬ ((g u45).toInt ≠ (1 : Int)) := h47
                have hdg : own_Df f n6 := own_ky hw45 (by omega)
                refine own_iinc X10 hx (hb hby dR_50) (w := (at6 + (-1 : Int32))) rfl rfl (l' := #[.val (.ref a1), .val (.int p1), .val (.int p2), .val (.int p3), .val (.int st4), .val (.int la), .val (.int (at6 + (-1 : Int32)))]) rfl (q := 53) rfl ?_
                obtain ⟨v11_, hv11_⟩ : ∃ z, z = (at6 + (-1 : Int32)) := ⟨_, rfl⟩
                rw [← hv11_]
                have iv11_ : v11_.toInt = at6.toInt + (-1) := by rw [hv11_]; exact own_addI at6 (-1 : Int32) (show (-2147483648 : Int) ≤ at6.toInt + (-1) by omega) (show at6.toInt + (-1) < 2147483648 by omega)
                refine own_goto X10 hx (hb hby dR_53) (by decide) (q := 25) rfl ?_
                exact ih_25 _ (by omega) T10 X10 e10 v11_ rfl (by omega) (by omega) (by intro j q1 q2; rcases Nat.lt_or_ge n6 j with q | q; exact g25_2 j (by omega) q2; exact (show n6 = j by omega) ▸ hdg)
          exact P25_3 _ T2 X2 e2 la rfl (by omega) (by omega) (by intro j q1 q2; omega)
        ·
          refine own_iload X2 hx (hb hby dR_21) rfl (q := 23) rfl ?_
          refine own_istore X2 hx (hb hby dR_23) (l' := #[.val (.ref a1), .val (.int p1), .val (.int p2), .val (.int p3), .val (.int st4), .val (.int la), .val (.int la)]) rfl (q := 25) rfl ?_
          have P25_12 : ∀ (k_ : Nat) (T13 : State) (X13 : Stand p l e ({ frames := 0, cells := 0, slots := 0, locals := 0 } : Room) s m #[(.ref a1), (.int p1), (.int p2), (.int p3)] below meth c T13 [] (0) (0)) (e13 : T13.heap = h0) (at6 : Int32) (hk_ : (at6.toInt + 20).toNat = k_) (g25_0 : la.toInt - mm ≤ at6.toInt) (g25_1 : at6.toInt ≤ la.toInt) (g25_2 : ∀ j : Nat, at6.toInt < (j : Int) → (j : Int) ≤ la.toInt → own_Df f j), own_G p e below (own_En s ({ frames := 0, cells := 0, slots := 0, locals := 0 } : Room).cells ({ frames := 0, cells := 0, slots := 0, locals := 0 } : Room).slots (fun v h L => (∃ w, v = some w ∧ (fun w => ∃ z : Int32, w = .int z ∧ own_Res (own_Df f) a d mm z.toInt) w) ∧ L = [] ∧ h = h0)) (T13.setTop (mkF m 25 #[.val (.ref a1), .val (.int p1), .val (.int p2), .val (.int p3), .val (.int st4), .val (.int la), .val (.int at6)] [])) := by
            intro k_
            induction k_ using Nat.strongRecOn with
            | _ k_ ih_25 =>
            intro T13 X13 e13 at6 hk_ g25_0 g25_1 g25_2
            refine own_iload X13 hx (hb hby dR_25) rfl (q := 27) rfl ?_
            refine own_iload X13 hx (hb hby dR_27) rfl (q := 29) rfl ?_
            refine own_iload_n X13 hx (hb hby dR_29) rfl (q := 30) rfl ?_
            refine own_isub X13 hx (hb hby dR_30) (q := 31) rfl ?_
            have i30 : (la - p3).toInt = la.toInt - p3.toInt := own_subI la p3 (show (-2147483648 : Int) ≤ la.toInt - p3.toInt by omega) (show la.toInt - p3.toInt < 2147483648 by omega)
            have J56_14 : ∀ (T15 : State) (X15 : Stand p l e ({ frames := 0, cells := 0, slots := 0, locals := 0 } : Room) s m #[(.ref a1), (.int p1), (.int p2), (.int p3)] below meth c T15 [] (0) (0)) (e15 : T15.heap = h0) (g56_0 : at6.toInt = la.toInt - mm ∨ (la.toInt - mm < at6.toInt ∧ ¬ own_Df f at6.toInt.toNat)), own_G p e below (own_En s ({ frames := 0, cells := 0, slots := 0, locals := 0 } : Room).cells ({ frames := 0, cells := 0, slots := 0, locals := 0 } : Room).slots (fun v h L => (∃ w, v = some w ∧ (fun w => ∃ z : Int32, w = .int z ∧ own_Res (own_Df f) a d mm z.toInt) w) ∧ L = [] ∧ h = h0)) (T15.setTop (mkF m 56 #[.val (.ref a1), .val (.int p1), .val (.int p2), .val (.int p3), .val (.int st4), .val (.int la), .val (.int at6)] [])) := by
              intro T15 X15 e15 g56_0
              refine own_iload X15 hx (hb hby dR_56) rfl (q := 58) rfl ?_
              refine own_iload X15 hx (hb hby dR_58) rfl (q := 60) rfl ?_
              refine own_iload_n X15 hx (hb hby dR_60) rfl (q := 61) rfl ?_
              refine own_isub X15 hx (hb hby dR_61) (q := 62) rfl ?_
              refine own_icmp X15 hx (hb hby dR_62) (by decide) (q := 99) rfl (q' := 65) rfl (own_h_ne _ _) (fun h62 => ?_) (fun h62 => ?_)
              · replace h62 : at6.toInt ≠ (la - p3).toInt := h62
                have hnd2 : la.toInt - mm < at6.toInt ∧ ¬ own_Df f at6.toInt.toNat := by rcases g56_0 with q | q; exfalso; omega; exact q
                refine own_iload X15 hx (hb hby dR_99) rfl (q := 101) rfl ?_
                refine own_iload_n X15 hx (hb hby dR_101) rfl (q := 102) rfl ?_
                have i102 : (at6 + p3).toInt = at6.toInt + p3.toInt := own_addI at6 p3 (show (-2147483648 : Int) ≤ at6.toInt + p3.toInt by omega) (show at6.toInt + p3.toInt < 2147483648 by omega)
                refine own_iadd X15 hx (hb hby dR_102) (q := 103) rfl ?_
                refine own_istore X15 hx (hb hby dR_103) (l' := #[.val (.ref a1), .val (.int p1), .val (.int p2), .val (.int p3), .val (.int st4), .val (.int (at6 + p3)), .val (.int at6)]) rfl (q := 105) rfl ?_
                refine own_goto X15 hx (hb hby dR_105) (by decide) (q := 10) rfl ?_
                exact ih_10 _ (by omega) T15 X15 e15 st4 (at6 + p3) (.val (.int at6)) rfl (by first | (rw [hs1, show (at6 + p3).toInt = ((at6.toInt.toNat : Nat) : Int) + (mm : Int) by omega]; exact own_In_go hl1 hnw (by omega) (by omega) hnd2.2) | (rw [show (at6 + (1 : Int32)).toInt = (((at6.toInt + 1).toNat : Nat) : Int) by omega]; exact own_In_fd (by omega) hl1 hnw (by omega) (by omega) (fun j q1 q2 => g25_2 j (by omega) q2))) (by omega) (by exact Or.inr ⟨_, rfl⟩)
              · replace h62 : ¬ (at6.toInt ≠ (la - p3).toInt) := h62
                have hfl : at6.toInt = la.toInt - mm := by omega
                refine own_iload X15 hx (hb hby dR_65) rfl (q := 67) rfl ?_
                refine own_iload_n X15 hx (hb hby dR_67) rfl (q := 68) rfl ?_
                have J93_16 : ∀ (T17 : State) (X17 : Stand p l e ({ frames := 0, cells := 0, slots := 0, locals := 0 } : Room) s m #[(.ref a1), (.int p1), (.int p2), (.int p3)] below meth c T17 [] (0) (0)) (e17 : T17.heap = h0), own_G p e below (own_En s ({ frames := 0, cells := 0, slots := 0, locals := 0 } : Room).cells ({ frames := 0, cells := 0, slots := 0, locals := 0 } : Room).slots (fun v h L => (∃ w, v = some w ∧ (fun w => ∃ z : Int32, w = .int z ∧ own_Res (own_Df f) a d mm z.toInt) w) ∧ L = [] ∧ h = h0)) (T17.setTop (mkF m 93 #[.val (.ref a1), .val (.int p1), .val (.int p2), .val (.int p3), .val (.int st4), .val (.int la), .val (.int at6)] [])) := by
                  intro T17 X17 e17
                  refine own_iload X17 hx (hb hby dR_93) rfl (q := 95) rfl ?_
                  refine own_iconst X17 hx (hb hby dR_95) (v := (1 : Int32)) rfl (q := 96) rfl ?_
                  have i96 : (at6 + (1 : Int32)).toInt = at6.toInt + (1 : Int) := own_addI at6 (1 : Int32) (show (-2147483648 : Int) ≤ at6.toInt + (1 : Int) by omega) (show at6.toInt + (1 : Int) < 2147483648 by omega)
                  refine own_iadd X17 hx (hb hby dR_96) (q := 97) rfl ?_
                  refine own_istore X17 hx (hb hby dR_97) (l' := #[.val (.ref a1), .val (.int p1), .val (.int p2), .val (.int p3), .val (.int (at6 + (1 : Int32))), .val (.int la), .val (.int at6)]) rfl (q := 99) rfl ?_
                  refine own_iload X17 hx (hb hby dR_99) rfl (q := 101) rfl ?_
                  refine own_iload_n X17 hx (hb hby dR_101) rfl (q := 102) rfl ?_
                  have i102 : (at6 + p3).toInt = at6.toInt + p3.toInt := own_addI at6 p3 (show (-2147483648 : Int) ≤ at6.toInt + p3.toInt by omega) (show at6.toInt + p3.toInt < 2147483648 by omega)
                  refine own_iadd X17 hx (hb hby dR_102) (q := 103) rfl ?_
                  refine own_istore X17 hx (hb hby dR_103) (l' := #[.val (.ref a1), .val (.int p1), .val (.int p2), .val (.int p3), .val (.int (at6 + (1 : Int32))), .val (.int (at6 + p3)), .val (.int at6)]) rfl (q := 105) rfl ?_
                  refine own_goto X17 hx (hb hby dR_105) (by decide) (q := 10) rfl ?_
                  exact ih_10 _ (by omega) T17 X17 e17 (at6 + (1 : Int32)) (at6 + p3) (.val (.int at6)) rfl (by first | (rw [hs1, show (at6 + p3).toInt = ((at6.toInt.toNat : Nat) : Int) + (mm : Int) by omega]; exact own_In_go hl1 hnw (by omega) (by omega) hnd2.2) | (rw [show (at6 + (1 : Int32)).toInt = (((at6.toInt + 1).toNat : Nat) : Int) by omega]; exact own_In_fd (by omega) hl1 hnw (by omega) (by omega) (fun j q1 q2 => g25_2 j (by omega) q2))) (by omega) (by exact Or.inr ⟨_, rfl⟩)
                refine own_icmp X15 hx (hb hby dR_68) (by decide) (q := 93) rfl (q' := 71) rfl (own_h_lt _ _) (fun h68 => ?_) (fun h68 => ?_)
                · replace h68 : at6.toInt < p1.toInt := h68
                  exact J93_16 T15 X15 e15
                · replace h68 : ¬ (at6.toInt < p1.toInt) := h68
                  refine own_getS X15 hx hZ hown (hw _ (List.mem_of_getElem? (i := 42) rfl)) e15 ST (hb hby dR_71) (q := 74) rfl ?_
                  intro T18 X18 e18
                  refine own_aload_n X18 hx (hb hby dR_74) rfl rfl (q := 75) rfl ?_
                  refine own_iload X18 hx (hb hby dR_75) rfl (q := 77) rfl ?_
                  obtain ⟨n7, hn7⟩ : ∃ n : Nat, at6.toInt = (n : Int) := ⟨at6.toInt.toNat, by omega⟩
                  refine own_baload X18 hx hZ e18 A (hb hby dR_77) (i := n7) (hn7) (by omega) (v := .int (f n7)) rfl (q := 78) rfl ?_
                  refine own_sipush X18 hx (hb hby dR_78) (v := (255 : Int32)) rfl (q := 81) rfl ?_
                  refine own_iand X18 hx (hb hby dR_81) (q := 82) rfl ?_
                  obtain ⟨u82, hu82, hv82, hw82⟩ := own_kind (f (n7)) g (hf _).1 (hf _).2 hT
                  refine own_baload X18 hx hZ e18 AT (hb hby dR_82) (i := u82) (hu82) (by omega) (v := .int (g u82)) rfl (q := 83) rfl ?_
                  refine own_iconst X18 hx (hb hby dR_83) (v := (1 : Int32)) rfl (q := 84) rfl ?_
                  refine own_icmp X18 hx (hb hby dR_84) (by decide) (q := 93) rfl (q' := 87) rfl (own_h_ne _ _) (fun h84 => ?_) (fun h84 => ?_)
                  · replace h84 : (g u82).toInt ≠ (1 : Int) := h84
                    exact J93_16 T18 X18 e18
                  · replace h84 : ¬ ((g u82).toInt ≠ (1 : Int)) := h84
                    exfalso; exact own_In_bf (D := own_Df f) (a := a) (d := d) (m := mm) (last := la.toInt) (t := n7) (by omega) hnw (by omega) (by omega) (fun j q1 q2 => g25_2 j (by omega) q2) (by omega) (own_ky hw82 (by omega))
            refine own_icmp X13 hx (hb hby dR_31) (by decide) (q := 56) rfl (q' := 34) rfl (own_h_le _ _) (fun h31 => ?_) (fun h31 => ?_)
            · replace h31 : at6.toInt ≤ (la - p3).toInt := h31
              exact J56_14 T13 X13 e13 (by first | exact Or.inl (by omega) | exact Or.inr ⟨by omega, by rw [show at6.toInt.toNat = n6 by omega]; exact hnd⟩)
            · replace h31 : ¬ (at6.toInt ≤ (la - p3).toInt) := h31
              refine own_getS X13 hx hZ hown (hw _ (List.mem_of_getElem? (i := 42) rfl)) e13 ST (hb hby dR_34) (q := 37) rfl ?_
              intro T19 X19 e19
              refine own_aload_n X19 hx (hb hby dR_37) rfl rfl (q := 38) rfl ?_
              refine own_iload X19 hx (hb hby dR_38) rfl (q := 40) rfl ?_
              obtain ⟨n6, hn6⟩ : ∃ n : Nat, at6.toInt = (n : Int) := ⟨at6.toInt.toNat, by omega⟩
              refine own_baload X19 hx hZ e19 A (hb hby dR_40) (i := n6) (hn6) (by omega) (v := .int (f n6)) rfl (q := 41) rfl ?_
              refine own_sipush X19 hx (hb hby dR_41) (v := (255 : Int32)) rfl (q := 44) rfl ?_
              refine own_iand X19 hx (hb hby dR_44) (q := 45) rfl ?_
              obtain ⟨u45, hu45, hv45, hw45⟩ := own_kind (f (n6)) g (hf _).1 (hf _).2 hT
              refine own_baload X19 hx hZ e19 AT (hb hby dR_45) (i := u45) (hu45) (by omega) (v := .int (g u45)) rfl (q := 46) rfl ?_
              refine own_iconst X19 hx (hb hby dR_46) (v := (1 : Int32)) rfl (q := 47) rfl ?_
              refine own_icmp X19 hx (hb hby dR_47) (by decide) (q := 56) rfl (q' := 50) rfl (own_h_ne _ _) (fun h47 => ?_) (fun h47 => ?_)
              · replace h47 : (g u45).toInt ≠ (1 : Int) := h47
                have hnd : ¬ own_Df f n6 := own_kn hw45 h47
                exact J56_14 T19 X19 e19 (by first | exact Or.inl (by omega) | exact Or.inr ⟨by omega, by rw [show at6.toInt.toNat = n6 by omega]; exact hnd⟩)
              · replace h47 : ¬ ((g u45).toInt ≠ (1 : Int)) := h47
                have hdg : own_Df f n6 := own_ky hw45 (by omega)
                refine own_iinc X19 hx (hb hby dR_50) (w := (at6 + (-1 : Int32))) rfl rfl (l' := #[.val (.ref a1), .val (.int p1), .val (.int p2), .val (.int p3), .val (.int st4), .val (.int la), .val (.int (at6 + (-1 : Int32)))]) rfl (q := 53) rfl ?_
                obtain ⟨v20_, hv20_⟩ : ∃ z, z = (at6 + (-1 : Int32)) := ⟨_, rfl⟩
                rw [← hv20_]
                have iv20_ : v20_.toInt = at6.toInt + (-1) := by rw [hv20_]; exact own_addI at6 (-1 : Int32) (show (-2147483648 : Int) ≤ at6.toInt + (-1) by omega) (show at6.toInt + (-1) < 2147483648 by omega)
                refine own_goto X19 hx (hb hby dR_53) (by decide) (q := 25) rfl ?_
                exact ih_25 _ (by omega) T19 X19 e19 v20_ rfl (by omega) (by omega) (by intro j q1 q2; rcases Nat.lt_or_ge n6 j with q | q; exact g25_2 j (by omega) q2; exact (show n6 = j by omega) ▸ hdg)
          exact P25_12 _ T2 X2 e2 la rfl (by omega) (by omega) (by intro j q1 q2; omega)
  exact P10_1 _ s₁ X0 e0 (-1 : Int32) ((p1 + p3) - (1 : Int32)) (.unset) rfl (by have hc_0 : (-1 : Int32).toInt = (-1 : Int) := rfl; rw [i8, show (-1 : Int32).toInt = -1 from rfl]; exact own_In_0) (by have hc_0 : (-1 : Int32).toInt = (-1 : Int) := rfl; omega) (by have hc_0 : (-1 : Int32).toInt = (-1 : Int) := rfl; exact Or.inl rfl)
theorem dE_0 : decode method_5_code 0 = .ok (.iconst 5, 1) := by decide +kernel
theorem dE_1 : decode method_5_code 1 = .ok (.iload_n 2, 1) := by decide +kernel
theorem dE_2 : decode method_5_code 2 = .ok (.if_icmp .ge 16, 3) := by decide +kernel
theorem dE_5 : decode method_5_code 5 = .ok (.aload_n 0, 1) := by decide +kernel
theorem dE_6 : decode method_5_code 6 = .ok (.iconst 5, 1) := by decide +kernel
theorem dE_7 : decode method_5_code 7 = .ok (.baload, 1) := by decide +kernel
theorem dE_8 : decode method_5_code 8 = .ok (.invokestatic 31, 3) := by decide +kernel
theorem dE_11 : decode method_5_code 11 = .ok (.ifCond .eq 7, 3) := by decide +kernel
theorem dE_14 : decode method_5_code 14 = .ok (.iconst 1, 1) := by decide +kernel
theorem dE_15 : decode method_5_code 15 = .ok (.goto 4, 3) := by decide +kernel
theorem dE_18 : decode method_5_code 18 = .ok (.iconst 0, 1) := by decide +kernel
theorem dE_19 : decode method_5_code 19 = .ok (.istore 4, 2) := by decide +kernel
theorem dE_21 : decode method_5_code 21 = .ok (.iconst 4, 1) := by decide +kernel
theorem dE_22 : decode method_5_code 22 = .ok (.iload_n 2, 1) := by decide +kernel
theorem dE_23 : decode method_5_code 23 = .ok (.if_icmp .ge 19, 3) := by decide +kernel
theorem dE_26 : decode method_5_code 26 = .ok (.aload_n 0, 1) := by decide +kernel
theorem dE_27 : decode method_5_code 27 = .ok (.iconst 4, 1) := by decide +kernel
theorem dE_28 : decode method_5_code 28 = .ok (.baload, 1) := by decide +kernel
theorem dE_29 : decode method_5_code 29 = .ok (.invokestatic 31, 3) := by decide +kernel
theorem dE_32 : decode method_5_code 32 = .ok (.ifCond .eq 10, 3) := by decide +kernel
theorem dE_35 : decode method_5_code 35 = .ok (.iload 4, 2) := by decide +kernel
theorem dE_37 : decode method_5_code 37 = .ok (.iconst 1, 1) := by decide +kernel
theorem dE_38 : decode method_5_code 38 = .ok (.iadd, 1) := by decide +kernel
theorem dE_39 : decode method_5_code 39 = .ok (.goto 4, 3) := by decide +kernel
theorem dE_42 : decode method_5_code 42 = .ok (.iconst 0, 1) := by decide +kernel
theorem dE_43 : decode method_5_code 43 = .ok (.istore 5, 2) := by decide +kernel
theorem dE_45 : decode method_5_code 45 = .ok (.iconst 3, 1) := by decide +kernel
theorem dE_46 : decode method_5_code 46 = .ok (.iload_n 2, 1) := by decide +kernel
theorem dE_47 : decode method_5_code 47 = .ok (.if_icmp .ge 19, 3) := by decide +kernel
theorem dE_50 : decode method_5_code 50 = .ok (.aload_n 0, 1) := by decide +kernel
theorem dE_51 : decode method_5_code 51 = .ok (.iconst 3, 1) := by decide +kernel
theorem dE_52 : decode method_5_code 52 = .ok (.baload, 1) := by decide +kernel
theorem dE_53 : decode method_5_code 53 = .ok (.invokestatic 31, 3) := by decide +kernel
theorem dE_56 : decode method_5_code 56 = .ok (.ifCond .eq 10, 3) := by decide +kernel
theorem dE_59 : decode method_5_code 59 = .ok (.iload 5, 2) := by decide +kernel
theorem dE_61 : decode method_5_code 61 = .ok (.iconst 1, 1) := by decide +kernel
theorem dE_62 : decode method_5_code 62 = .ok (.iadd, 1) := by decide +kernel
theorem dE_63 : decode method_5_code 63 = .ok (.goto 4, 3) := by decide +kernel
theorem dE_66 : decode method_5_code 66 = .ok (.iconst 0, 1) := by decide +kernel
theorem dE_67 : decode method_5_code 67 = .ok (.istore 6, 2) := by decide +kernel
theorem dE_69 : decode method_5_code 69 = .ok (.iconst 2, 1) := by decide +kernel
theorem dE_70 : decode method_5_code 70 = .ok (.iload_n 2, 1) := by decide +kernel
theorem dE_71 : decode method_5_code 71 = .ok (.if_icmp .ge 19, 3) := by decide +kernel
theorem dE_74 : decode method_5_code 74 = .ok (.aload_n 0, 1) := by decide +kernel
theorem dE_75 : decode method_5_code 75 = .ok (.iconst 2, 1) := by decide +kernel
theorem dE_76 : decode method_5_code 76 = .ok (.baload, 1) := by decide +kernel
theorem dE_77 : decode method_5_code 77 = .ok (.invokestatic 31, 3) := by decide +kernel
theorem dE_80 : decode method_5_code 80 = .ok (.ifCond .eq 10, 3) := by decide +kernel
theorem dE_83 : decode method_5_code 83 = .ok (.iload 6, 2) := by decide +kernel
theorem dE_85 : decode method_5_code 85 = .ok (.iconst 1, 1) := by decide +kernel
theorem dE_86 : decode method_5_code 86 = .ok (.iadd, 1) := by decide +kernel
theorem dE_87 : decode method_5_code 87 = .ok (.goto 4, 3) := by decide +kernel
theorem dE_90 : decode method_5_code 90 = .ok (.iconst 0, 1) := by decide +kernel
theorem dE_91 : decode method_5_code 91 = .ok (.istore 7, 2) := by decide +kernel
theorem dE_93 : decode method_5_code 93 = .ok (.iconst 1, 1) := by decide +kernel
theorem dE_94 : decode method_5_code 94 = .ok (.iload_n 2, 1) := by decide +kernel
theorem dE_95 : decode method_5_code 95 = .ok (.if_icmp .ge 19, 3) := by decide +kernel
theorem dE_98 : decode method_5_code 98 = .ok (.aload_n 0, 1) := by decide +kernel
theorem dE_99 : decode method_5_code 99 = .ok (.iconst 1, 1) := by decide +kernel
theorem dE_100 : decode method_5_code 100 = .ok (.baload, 1) := by decide +kernel
theorem dE_101 : decode method_5_code 101 = .ok (.invokestatic 31, 3) := by decide +kernel
theorem dE_104 : decode method_5_code 104 = .ok (.ifCond .eq 10, 3) := by decide +kernel
theorem dE_107 : decode method_5_code 107 = .ok (.iload 7, 2) := by decide +kernel
theorem dE_109 : decode method_5_code 109 = .ok (.iconst 1, 1) := by decide +kernel
theorem dE_110 : decode method_5_code 110 = .ok (.iadd, 1) := by decide +kernel
theorem dE_111 : decode method_5_code 111 = .ok (.goto 4, 3) := by decide +kernel
theorem dE_114 : decode method_5_code 114 = .ok (.iconst 0, 1) := by decide +kernel
theorem dE_115 : decode method_5_code 115 = .ok (.istore 8, 2) := by decide +kernel
theorem dE_117 : decode method_5_code 117 = .ok (.iconst 0, 1) := by decide +kernel
theorem dE_118 : decode method_5_code 118 = .ok (.iload_n 2, 1) := by decide +kernel
theorem dE_119 : decode method_5_code 119 = .ok (.if_icmp .ge 19, 3) := by decide +kernel
theorem dE_122 : decode method_5_code 122 = .ok (.aload_n 0, 1) := by decide +kernel
theorem dE_123 : decode method_5_code 123 = .ok (.iconst 0, 1) := by decide +kernel
theorem dE_124 : decode method_5_code 124 = .ok (.baload, 1) := by decide +kernel
theorem dE_125 : decode method_5_code 125 = .ok (.invokestatic 31, 3) := by decide +kernel
theorem dE_128 : decode method_5_code 128 = .ok (.ifCond .eq 10, 3) := by decide +kernel
theorem dE_131 : decode method_5_code 131 = .ok (.iload 8, 2) := by decide +kernel
theorem dE_133 : decode method_5_code 133 = .ok (.iconst 1, 1) := by decide +kernel
theorem dE_134 : decode method_5_code 134 = .ok (.iadd, 1) := by decide +kernel
theorem dE_135 : decode method_5_code 135 = .ok (.goto 4, 3) := by decide +kernel
theorem dE_138 : decode method_5_code 138 = .ok (.iconst 0, 1) := by decide +kernel
theorem dE_139 : decode method_5_code 139 = .ok (.istore 9, 2) := by decide +kernel
theorem dE_141 : decode method_5_code 141 = .ok (.iconst 0, 1) := by decide +kernel
theorem dE_142 : decode method_5_code 142 = .ok (.iload_n 1, 1) := by decide +kernel
theorem dE_143 : decode method_5_code 143 = .ok (.if_icmp .lt 11, 3) := by decide +kernel
theorem dE_146 : decode method_5_code 146 = .ok (.iload 9, 2) := by decide +kernel
theorem dE_148 : decode method_5_code 148 = .ok (.iload_n 3, 1) := by decide +kernel
theorem dE_149 : decode method_5_code 149 = .ok (.if_icmp .lt 5, 3) := by decide +kernel
theorem dE_152 : decode method_5_code 152 = .ok (.iconst 0, 1) := by decide +kernel
theorem dE_153 : decode method_5_code 153 = .ok (.ireturn, 1) := by decide +kernel
theorem dE_154 : decode method_5_code 154 = .ok (.iconst 1, 1) := by decide +kernel
theorem dE_155 : decode method_5_code 155 = .ok (.iload_n 1, 1) := by decide +kernel
theorem dE_156 : decode method_5_code 156 = .ok (.if_icmp .lt 11, 3) := by decide +kernel
theorem dE_159 : decode method_5_code 159 = .ok (.iload 8, 2) := by decide +kernel
theorem dE_161 : decode method_5_code 161 = .ok (.iload_n 3, 1) := by decide +kernel
theorem dE_162 : decode method_5_code 162 = .ok (.if_icmp .lt 5, 3) := by decide +kernel
theorem dE_165 : decode method_5_code 165 = .ok (.iconst 1, 1) := by decide +kernel
theorem dE_166 : decode method_5_code 166 = .ok (.ireturn, 1) := by decide +kernel
theorem dE_167 : decode method_5_code 167 = .ok (.iconst 2, 1) := by decide +kernel
theorem dE_168 : decode method_5_code 168 = .ok (.iload_n 1, 1) := by decide +kernel
theorem dE_169 : decode method_5_code 169 = .ok (.if_icmp .lt 11, 3) := by decide +kernel
theorem dE_172 : decode method_5_code 172 = .ok (.iload 7, 2) := by decide +kernel
theorem dE_174 : decode method_5_code 174 = .ok (.iload_n 3, 1) := by decide +kernel
theorem dE_175 : decode method_5_code 175 = .ok (.if_icmp .lt 5, 3) := by decide +kernel
theorem dE_178 : decode method_5_code 178 = .ok (.iconst 2, 1) := by decide +kernel
theorem dE_179 : decode method_5_code 179 = .ok (.ireturn, 1) := by decide +kernel
theorem dE_180 : decode method_5_code 180 = .ok (.iconst 3, 1) := by decide +kernel
theorem dE_181 : decode method_5_code 181 = .ok (.iload_n 1, 1) := by decide +kernel
theorem dE_182 : decode method_5_code 182 = .ok (.if_icmp .lt 11, 3) := by decide +kernel
theorem dE_185 : decode method_5_code 185 = .ok (.iload 6, 2) := by decide +kernel
theorem dE_187 : decode method_5_code 187 = .ok (.iload_n 3, 1) := by decide +kernel
theorem dE_188 : decode method_5_code 188 = .ok (.if_icmp .lt 5, 3) := by decide +kernel
theorem dE_191 : decode method_5_code 191 = .ok (.iconst 3, 1) := by decide +kernel
theorem dE_192 : decode method_5_code 192 = .ok (.ireturn, 1) := by decide +kernel
theorem dE_193 : decode method_5_code 193 = .ok (.iconst 4, 1) := by decide +kernel
theorem dE_194 : decode method_5_code 194 = .ok (.iload_n 1, 1) := by decide +kernel
theorem dE_195 : decode method_5_code 195 = .ok (.if_icmp .lt 11, 3) := by decide +kernel
theorem dE_198 : decode method_5_code 198 = .ok (.iload 5, 2) := by decide +kernel
theorem dE_200 : decode method_5_code 200 = .ok (.iload_n 3, 1) := by decide +kernel
theorem dE_201 : decode method_5_code 201 = .ok (.if_icmp .lt 5, 3) := by decide +kernel
theorem dE_204 : decode method_5_code 204 = .ok (.iconst 4, 1) := by decide +kernel
theorem dE_205 : decode method_5_code 205 = .ok (.ireturn, 1) := by decide +kernel
theorem dE_206 : decode method_5_code 206 = .ok (.iconst 5, 1) := by decide +kernel
theorem dE_207 : decode method_5_code 207 = .ok (.iload_n 1, 1) := by decide +kernel
theorem dE_208 : decode method_5_code 208 = .ok (.if_icmp .lt 11, 3) := by decide +kernel
theorem dE_211 : decode method_5_code 211 = .ok (.iload 4, 2) := by decide +kernel
theorem dE_213 : decode method_5_code 213 = .ok (.iload_n 3, 1) := by decide +kernel
theorem dE_214 : decode method_5_code 214 = .ok (.if_icmp .lt 5, 3) := by decide +kernel
theorem dE_217 : decode method_5_code 217 = .ok (.iconst 5, 1) := by decide +kernel
theorem dE_218 : decode method_5_code 218 = .ok (.ireturn, 1) := by decide +kernel
theorem dE_219 : decode method_5_code 219 = .ok (.iconst (-1), 1) := by decide +kernel
theorem dE_220 : decode method_5_code 220 = .ok (.ireturn, 1) := by decide +kernel
theorem own_pnE : plainFor (⟨"com/example/pillbug/pillbug/core/Base64RunsRunOfAtLeastPinLaw", "expected", "([BIII)I"⟩ : MethodName) = true := plainFor_of_name (show plainName "com/example/pillbug/pillbug/core/Base64RunsRunOfAtLeastPinLaw" = true by first | (simp [plainName, overriddenIn]; done) | decide +kernel)
theorem own_efE (m : MethodId) (a1 : Addr) (p1 : Int32) (p2 : Int32) (p3 : Int32)  : entryFrame m #[(.ref a1), (.int p1), (.int p2), (.int p3)] 10 = mkF m 0 #[.val (.ref a1), .val (.int p1), .val (.int p2), .val (.int p3), .unset, .unset, .unset, .unset, .unset, .unset] [] := by first | (simp [entryFrame, mkF, argsToLocals, Value.category, maxLocals]; done) | rfl
set_option maxRecDepth 65536 in
set_option maxHeartbeats 40000000 in
theorem own_rmE (l : Launch) (Z : State) (a0 : Array Value) (hw : ∀ d ∈ tables_1, d.before a0 Z = true) (ws : List Jvm.Cond) (a1 : Addr) (p1 : Int32) (p2 : Int32) (p3 : Int32) (f : Nat → Int32) (a d mm : Nat) (h0 : Heap) (A : own_Arr Z h0 a1 .byte 6 (fun i => .int (f i))) (hf : ∀ j, -128 ≤ (f j).toInt ∧ (f j).toInt < 128) (hpa : p1.toInt = (a : Int)) (hpd : p2.toInt = (d : Int)) (hpm : p3.toInt = (mm : Int)) (had : a ≤ d) (hd6 : d ≤ 6) (hm1 : 1 ≤ mm) (hm8 : mm ≤ 8) :
    MetFree l (⟨"com/example/pillbug/pillbug/core/Base64RunsRunOfAtLeastPinLaw", "expected", "([BIII)I"⟩ : MethodName) (head1 (Jvm.Cond.code (⟨"com/example/pillbug/pillbug/core/Base64RunsRunOfAtLeastPinLaw", "expected", "([BIII)I"⟩ : MethodName) method_5_code 10 (some .int) :: ws) ({ frames := 1, cells := 0, slots := 0, locals := 14 } : Room)) (fun a U => a = #[(.ref a1), (.int p1), (.int p2), (.int p3)] ∧ Z.Warmed39 U.vm ∧ U.heap = h0) (fun _ _ _ _ _ => True) (fun _ U o U' => ∃ v L, o = .returned v ∧ (fun v h L => (∃ w, v = some w ∧ (fun w => ∃ z : Int32, w = .int z ∧ own_Res (own_Df f) a d mm z.toInt) w) ∧ L = [] ∧ h = h0) v U'.heap L ∧ FrameEnd U o U' L ({ frames := 1, cells := 0, slots := 0, locals := 14 } : Room).cells ({ frames := 1, cells := 0, slots := 0, locals := 14 } : Room).slots) := by
  refine own_body (y := (⟨"com/example/pillbug/pillbug/core/Base64RunsRunOfAtLeastPinLaw", "expected", "([BIII)I"⟩ : MethodName)) (Q := fun v h L => (∃ w, v = some w ∧ (fun w => ∃ z : Int32, w = .int z ∧ own_Res (own_Df f) a d mm z.toInt) w) ∧ L = [] ∧ h = h0) (rm := ({ frames := 1, cells := 0, slots := 0, locals := 14 } : Room)) (as' := #[(.ref a1), (.int p1), (.int p2), (.int p3)]) (h0 := h0) (Z := Z) own_pnE ?_
  intro p e s m below meth c s₁ hx hby hml hown hnm hret hlk hZ X0 e0
  have hown : s.vm.findClass "com/example/pillbug/pillbug/core/Base64RunsRunOfAtLeastPinLaw" = some m.cls := hown
  rw [own_efE]
  refine own_iconst X0 hx (hb hby dE_0) (v := (5 : Int32)) rfl (q := 1) rfl ?_
  refine own_iload_n X0 hx (hb hby dE_1) rfl (q := 2) rfl ?_
  have J19_1 : ∀ (T2 : State) (X2 : Stand p l e ({ frames := 1, cells := 0, slots := 0, locals := 14 } : Room) s m #[(.ref a1), (.int p1), (.int p2), (.int p3)] below meth c T2 [] (0) (0)) (e2 : T2.heap = h0) (r5 : Int32) (g19_0 : own_Rn (own_Df f) d 5 r5.toInt) (g19_1 : 0 ≤ r5.toInt ∧ r5.toInt ≤ 1), own_G p e below (own_En s ({ frames := 1, cells := 0, slots := 0, locals := 14 } : Room).cells ({ frames := 1, cells := 0, slots := 0, locals := 14 } : Room).slots (fun v h L => (∃ w, v = some w ∧ (fun w => ∃ z : Int32, w = .int z ∧ own_Res (own_Df f) a d mm z.toInt) w) ∧ L = [] ∧ h = h0)) (T2.setTop (mkF m 19 #[.val (.ref a1), .val (.int p1), .val (.int p2), .val (.int p3), .unset, .unset, .unset, .unset, .unset, .unset] [(.int r5)])) := by
    intro T2 X2 e2 r5 g19_0 g19_1
    refine own_istore X2 hx (hb hby dE_19) (l' := #[.val (.ref a1), .val (.int p1), .val (.int p2), .val (.int p3), .val (.int r5), .unset, .unset, .unset, .unset, .unset]) rfl (q := 21) rfl ?_
    refine own_iconst X2 hx (hb hby dE_21) (v := (4 : Int32)) rfl (q := 22) rfl ?_
    refine own_iload_n X2 hx (hb hby dE_22) rfl (q := 23) rfl ?_
    have J43_3 : ∀ (T4 : State) (X4 : Stand p l e ({ frames := 1, cells := 0, slots := 0, locals := 14 } : Room) s m #[(.ref a1), (.int p1), (.int p2), (.int p3)] below meth c T4 [] (0) (0)) (e4 : T4.heap = h0) (r4 : Int32) (g43_0 : own_Rn (own_Df f) d 4 r4.toInt) (g43_1 : 0 ≤ r4.toInt ∧ r4.toInt ≤ 2), own_G p e below (own_En s ({ frames := 1, cells := 0, slots := 0, locals := 14 } : Room).cells ({ frames := 1, cells := 0, slots := 0, locals := 14 } : Room).slots (fun v h L => (∃ w, v = some w ∧ (fun w => ∃ z : Int32, w = .int z ∧ own_Res (own_Df f) a d mm z.toInt) w) ∧ L = [] ∧ h = h0)) (T4.setTop (mkF m 43 #[.val (.ref a1), .val (.int p1), .val (.int p2), .val (.int p3), .val (.int r5), .unset, .unset, .unset, .unset, .unset] [(.int r4)])) := by
      intro T4 X4 e4 r4 g43_0 g43_1
      refine own_istore X4 hx (hb hby dE_43) (l' := #[.val (.ref a1), .val (.int p1), .val (.int p2), .val (.int p3), .val (.int r5), .val (.int r4), .unset, .unset, .unset, .unset]) rfl (q := 45) rfl ?_
      refine own_iconst X4 hx (hb hby dE_45) (v := (3 : Int32)) rfl (q := 46) rfl ?_
      refine own_iload_n X4 hx (hb hby dE_46) rfl (q := 47) rfl ?_
      have J67_5 : ∀ (T6 : State) (X6 : Stand p l e ({ frames := 1, cells := 0, slots := 0, locals := 14 } : Room) s m #[(.ref a1), (.int p1), (.int p2), (.int p3)] below meth c T6 [] (0) (0)) (e6 : T6.heap = h0) (r3 : Int32) (g67_0 : own_Rn (own_Df f) d 3 r3.toInt) (g67_1 : 0 ≤ r3.toInt ∧ r3.toInt ≤ 3), own_G p e below (own_En s ({ frames := 1, cells := 0, slots := 0, locals := 14 } : Room).cells ({ frames := 1, cells := 0, slots := 0, locals := 14 } : Room).slots (fun v h L => (∃ w, v = some w ∧ (fun w => ∃ z : Int32, w = .int z ∧ own_Res (own_Df f) a d mm z.toInt) w) ∧ L = [] ∧ h = h0)) (T6.setTop (mkF m 67 #[.val (.ref a1), .val (.int p1), .val (.int p2), .val (.int p3), .val (.int r5), .val (.int r4), .unset, .unset, .unset, .unset] [(.int r3)])) := by
        intro T6 X6 e6 r3 g67_0 g67_1
        refine own_istore X6 hx (hb hby dE_67) (l' := #[.val (.ref a1), .val (.int p1), .val (.int p2), .val (.int p3), .val (.int r5), .val (.int r4), .val (.int r3), .unset, .unset, .unset]) rfl (q := 69) rfl ?_
        refine own_iconst X6 hx (hb hby dE_69) (v := (2 : Int32)) rfl (q := 70) rfl ?_
        refine own_iload_n X6 hx (hb hby dE_70) rfl (q := 71) rfl ?_
        have J91_7 : ∀ (T8 : State) (X8 : Stand p l e ({ frames := 1, cells := 0, slots := 0, locals := 14 } : Room) s m #[(.ref a1), (.int p1), (.int p2), (.int p3)] below meth c T8 [] (0) (0)) (e8 : T8.heap = h0) (r2 : Int32) (g91_0 : own_Rn (own_Df f) d 2 r2.toInt) (g91_1 : 0 ≤ r2.toInt ∧ r2.toInt ≤ 4), own_G p e below (own_En s ({ frames := 1, cells := 0, slots := 0, locals := 14 } : Room).cells ({ frames := 1, cells := 0, slots := 0, locals := 14 } : Room).slots (fun v h L => (∃ w, v = some w ∧ (fun w => ∃ z : Int32, w = .int z ∧ own_Res (own_Df f) a d mm z.toInt) w) ∧ L = [] ∧ h = h0)) (T8.setTop (mkF m 91 #[.val (.ref a1), .val (.int p1), .val (.int p2), .val (.int p3), .val (.int r5), .val (.int r4), .val (.int r3), .unset, .unset, .unset] [(.int r2)])) := by
          intro T8 X8 e8 r2 g91_0 g91_1
          refine own_istore X8 hx (hb hby dE_91) (l' := #[.val (.ref a1), .val (.int p1), .val (.int p2), .val (.int p3), .val (.int r5), .val (.int r4), .val (.int r3), .val (.int r2), .unset, .unset]) rfl (q := 93) rfl ?_
          refine own_iconst X8 hx (hb hby dE_93) (v := (1 : Int32)) rfl (q := 94) rfl ?_
          refine own_iload_n X8 hx (hb hby dE_94) rfl (q := 95) rfl ?_
          have J115_9 : ∀ (T10 : State) (X10 : Stand p l e ({ frames := 1, cells := 0, slots := 0, locals := 14 } : Room) s m #[(.ref a1), (.int p1), (.int p2), (.int p3)] below meth c T10 [] (0) (0)) (e10 : T10.heap = h0) (r1 : Int32) (g115_0 : own_Rn (own_Df f) d 1 r1.toInt) (g115_1 : 0 ≤ r1.toInt ∧ r1.toInt ≤ 5), own_G p e below (own_En s ({ frames := 1, cells := 0, slots := 0, locals := 14 } : Room).cells ({ frames := 1, cells := 0, slots := 0, locals := 14 } : Room).slots (fun v h L => (∃ w, v = some w ∧ (fun w => ∃ z : Int32, w = .int z ∧ own_Res (own_Df f) a d mm z.toInt) w) ∧ L = [] ∧ h = h0)) (T10.setTop (mkF m 115 #[.val (.ref a1), .val (.int p1), .val (.int p2), .val (.int p3), .val (.int r5), .val (.int r4), .val (.int r3), .val (.int r2), .unset, .unset] [(.int r1)])) := by
            intro T10 X10 e10 r1 g115_0 g115_1
            refine own_istore X10 hx (hb hby dE_115) (l' := #[.val (.ref a1), .val (.int p1), .val (.int p2), .val (.int p3), .val (.int r5), .val (.int r4), .val (.int r3), .val (.int r2), .val (.int r1), .unset]) rfl (q := 117) rfl ?_
            refine own_iconst X10 hx (hb hby dE_117) (v := (0 : Int32)) rfl (q := 118) rfl ?_
            refine own_iload_n X10 hx (hb hby dE_118) rfl (q := 119) rfl ?_
            have J139_11 : ∀ (T12 : State) (X12 : Stand p l e ({ frames := 1, cells := 0, slots := 0, locals := 14 } : Room) s m #[(.ref a1), (.int p1), (.int p2), (.int p3)] below meth c T12 [] (0) (0)) (e12 : T12.heap = h0) (r0 : Int32) (g139_0 : own_Rn (own_Df f) d 0 r0.toInt) (g139_1 : 0 ≤ r0.toInt ∧ r0.toInt ≤ 6), own_G p e below (own_En s ({ frames := 1, cells := 0, slots := 0, locals := 14 } : Room).cells ({ frames := 1, cells := 0, slots := 0, locals := 14 } : Room).slots (fun v h L => (∃ w, v = some w ∧ (fun w => ∃ z : Int32, w = .int z ∧ own_Res (own_Df f) a d mm z.toInt) w) ∧ L = [] ∧ h = h0)) (T12.setTop (mkF m 139 #[.val (.ref a1), .val (.int p1), .val (.int p2), .val (.int p3), .val (.int r5), .val (.int r4), .val (.int r3), .val (.int r2), .val (.int r1), .unset] [(.int r0)])) := by
              intro T12 X12 e12 r0 g139_0 g139_1
              refine own_istore X12 hx (hb hby dE_139) (l' := #[.val (.ref a1), .val (.int p1), .val (.int p2), .val (.int p3), .val (.int r5), .val (.int r4), .val (.int r3), .val (.int r2), .val (.int r1), .val (.int r0)]) rfl (q := 141) rfl ?_
              refine own_iconst X12 hx (hb hby dE_141) (v := (0 : Int32)) rfl (q := 142) rfl ?_
              refine own_iload_n X12 hx (hb hby dE_142) rfl (q := 143) rfl ?_
              have J154_13 : ∀ (g154_0 : own_NW (own_Df f) a d mm 1), own_G p e below (own_En s ({ frames := 1, cells := 0, slots := 0, locals := 14 } : Room).cells ({ frames := 1, cells := 0, slots := 0, locals := 14 } : Room).slots (fun v h L => (∃ w, v = some w ∧ (fun w => ∃ z : Int32, w = .int z ∧ own_Res (own_Df f) a d mm z.toInt) w) ∧ L = [] ∧ h = h0)) (T12.setTop (mkF m 154 #[.val (.ref a1), .val (.int p1), .val (.int p2), .val (.int p3), .val (.int r5), .val (.int r4), .val (.int r3), .val (.int r2), .val (.int r1), .val (.int r0)] [])) := by
                intro g154_0
                refine own_iconst X12 hx (hb hby dE_154) (v := (1 : Int32)) rfl (q := 155) rfl ?_
                refine own_iload_n X12 hx (hb hby dE_155) rfl (q := 156) rfl ?_
                have J167_14 : ∀ (g167_0 : own_NW (own_Df f) a d mm 2), own_G p e below (own_En s ({ frames := 1, cells := 0, slots := 0, locals := 14 } : Room).cells ({ frames := 1, cells := 0, slots := 0, locals := 14 } : Room).slots (fun v h L => (∃ w, v = some w ∧ (fun w => ∃ z : Int32, w = .int z ∧ own_Res (own_Df f) a d mm z.toInt) w) ∧ L = [] ∧ h = h0)) (T12.setTop (mkF m 167 #[.val (.ref a1), .val (.int p1), .val (.int p2), .val (.int p3), .val (.int r5), .val (.int r4), .val (.int r3), .val (.int r2), .val (.int r1), .val (.int r0)] [])) := by
                  intro g167_0
                  refine own_iconst X12 hx (hb hby dE_167) (v := (2 : Int32)) rfl (q := 168) rfl ?_
                  refine own_iload_n X12 hx (hb hby dE_168) rfl (q := 169) rfl ?_
                  have J180_15 : ∀ (g180_0 : own_NW (own_Df f) a d mm 3), own_G p e below (own_En s ({ frames := 1, cells := 0, slots := 0, locals := 14 } : Room).cells ({ frames := 1, cells := 0, slots := 0, locals := 14 } : Room).slots (fun v h L => (∃ w, v = some w ∧ (fun w => ∃ z : Int32, w = .int z ∧ own_Res (own_Df f) a d mm z.toInt) w) ∧ L = [] ∧ h = h0)) (T12.setTop (mkF m 180 #[.val (.ref a1), .val (.int p1), .val (.int p2), .val (.int p3), .val (.int r5), .val (.int r4), .val (.int r3), .val (.int r2), .val (.int r1), .val (.int r0)] [])) := by
                    intro g180_0
                    refine own_iconst X12 hx (hb hby dE_180) (v := (3 : Int32)) rfl (q := 181) rfl ?_
                    refine own_iload_n X12 hx (hb hby dE_181) rfl (q := 182) rfl ?_
                    have J193_16 : ∀ (g193_0 : own_NW (own_Df f) a d mm 4), own_G p e below (own_En s ({ frames := 1, cells := 0, slots := 0, locals := 14 } : Room).cells ({ frames := 1, cells := 0, slots := 0, locals := 14 } : Room).slots (fun v h L => (∃ w, v = some w ∧ (fun w => ∃ z : Int32, w = .int z ∧ own_Res (own_Df f) a d mm z.toInt) w) ∧ L = [] ∧ h = h0)) (T12.setTop (mkF m 193 #[.val (.ref a1), .val (.int p1), .val (.int p2), .val (.int p3), .val (.int r5), .val (.int r4), .val (.int r3), .val (.int r2), .val (.int r1), .val (.int r0)] [])) := by
                      intro g193_0
                      refine own_iconst X12 hx (hb hby dE_193) (v := (4 : Int32)) rfl (q := 194) rfl ?_
                      refine own_iload_n X12 hx (hb hby dE_194) rfl (q := 195) rfl ?_
                      have J206_17 : ∀ (g206_0 : own_NW (own_Df f) a d mm 5), own_G p e below (own_En s ({ frames := 1, cells := 0, slots := 0, locals := 14 } : Room).cells ({ frames := 1, cells := 0, slots := 0, locals := 14 } : Room).slots (fun v h L => (∃ w, v = some w ∧ (fun w => ∃ z : Int32, w = .int z ∧ own_Res (own_Df f) a d mm z.toInt) w) ∧ L = [] ∧ h = h0)) (T12.setTop (mkF m 206 #[.val (.ref a1), .val (.int p1), .val (.int p2), .val (.int p3), .val (.int r5), .val (.int r4), .val (.int r3), .val (.int r2), .val (.int r1), .val (.int r0)] [])) := by
                        intro g206_0
                        refine own_iconst X12 hx (hb hby dE_206) (v := (5 : Int32)) rfl (q := 207) rfl ?_
                        refine own_iload_n X12 hx (hb hby dE_207) rfl (q := 208) rfl ?_
                        have J219_18 : ∀ (g219_0 : own_NW (own_Df f) a d mm 6), own_G p e below (own_En s ({ frames := 1, cells := 0, slots := 0, locals := 14 } : Room).cells ({ frames := 1, cells := 0, slots := 0, locals := 14 } : Room).slots (fun v h L => (∃ w, v = some w ∧ (fun w => ∃ z : Int32, w = .int z ∧ own_Res (own_Df f) a d mm z.toInt) w) ∧ L = [] ∧ h = h0)) (T12.setTop (mkF m 219 #[.val (.ref a1), .val (.int p1), .val (.int p2), .val (.int p3), .val (.int r5), .val (.int r4), .val (.int r3), .val (.int r2), .val (.int r1), .val (.int r0)] [])) := by
                          intro g219_0
                          have hR : own_Res (own_Df f) a d mm (-1 : Int32).toInt := own_NW_n (by omega) g219_0 hd6
                          refine own_iconst X12 hx (hb hby dE_219) (v := (-1 : Int32)) rfl (q := 220) rfl ?_
                          exact own_retI X12 hx hret hlk (hb hby dE_220) (by decide) (by decide) ⟨⟨_, rfl, ⟨_, rfl, hR⟩⟩, rfl, e12⟩
                        refine own_icmp X12 hx (hb hby dE_208) (by decide) (q := 219) rfl (q' := 211) rfl (own_h_lt _ _) (fun h208 => ?_) (fun h208 => ?_)
                        · replace h208 : (5 : Int) < p1.toInt := h208
                          exact J219_18 (by first | exact own_NW_a g206_0 (by omega) | exact own_NW_s (by omega) g206_0 g19_0 (by omega))
                        · replace h208 : ¬ ((5 : Int) < p1.toInt) := h208
                          refine own_iload X12 hx (hb hby dE_211) rfl (q := 213) rfl ?_
                          refine own_iload_n X12 hx (hb hby dE_213) rfl (q := 214) rfl ?_
                          refine own_icmp X12 hx (hb hby dE_214) (by decide) (q := 219) rfl (q' := 217) rfl (own_h_lt _ _) (fun h214 => ?_) (fun h214 => ?_)
                          · replace h214 : r5.toInt < p3.toInt := h214
                            exact J219_18 (by first | exact own_NW_a g206_0 (by omega) | exact own_NW_s (by omega) g206_0 g19_0 (by omega))
                          · replace h214 : ¬ (r5.toInt < p3.toInt) := h214
                            have hR : own_Res (own_Df f) a d mm (5 : Int32).toInt := (show own_Res (own_Df f) a d mm ((5 : Nat) : Int) from own_NW_y (by omega) g206_0 (by omega) g19_0 (by omega))
                            refine own_iconst X12 hx (hb hby dE_217) (v := (5 : Int32)) rfl (q := 218) rfl ?_
                            exact own_retI X12 hx hret hlk (hb hby dE_218) (by decide) (by decide) ⟨⟨_, rfl, ⟨_, rfl, hR⟩⟩, rfl, e12⟩
                      refine own_icmp X12 hx (hb hby dE_195) (by decide) (q := 206) rfl (q' := 198) rfl (own_h_lt _ _) (fun h195 => ?_) (fun h195 => ?_)
                      · replace h195 : (4 : Int) < p1.toInt := h195
                        exact J206_17 (by first | exact own_NW_a g193_0 (by omega) | exact own_NW_s (by omega) g193_0 g43_0 (by omega))
                      · replace h195 : ¬ ((4 : Int) < p1.toInt) := h195
                        refine own_iload X12 hx (hb hby dE_198) rfl (q := 200) rfl ?_
                        refine own_iload_n X12 hx (hb hby dE_200) rfl (q := 201) rfl ?_
                        refine own_icmp X12 hx (hb hby dE_201) (by decide) (q := 206) rfl (q' := 204) rfl (own_h_lt _ _) (fun h201 => ?_) (fun h201 => ?_)
                        · replace h201 : r4.toInt < p3.toInt := h201
                          exact J206_17 (by first | exact own_NW_a g193_0 (by omega) | exact own_NW_s (by omega) g193_0 g43_0 (by omega))
                        · replace h201 : ¬ (r4.toInt < p3.toInt) := h201
                          have hR : own_Res (own_Df f) a d mm (4 : Int32).toInt := (show own_Res (own_Df f) a d mm ((4 : Nat) : Int) from own_NW_y (by omega) g193_0 (by omega) g43_0 (by omega))
                          refine own_iconst X12 hx (hb hby dE_204) (v := (4 : Int32)) rfl (q := 205) rfl ?_
                          exact own_retI X12 hx hret hlk (hb hby dE_205) (by decide) (by decide) ⟨⟨_, rfl, ⟨_, rfl, hR⟩⟩, rfl, e12⟩
                    refine own_icmp X12 hx (hb hby dE_182) (by decide) (q := 193) rfl (q' := 185) rfl (own_h_lt _ _) (fun h182 => ?_) (fun h182 => ?_)
                    · replace h182 : (3 : Int) < p1.toInt := h182
                      exact J193_16 (by first | exact own_NW_a g180_0 (by omega) | exact own_NW_s (by omega) g180_0 g67_0 (by omega))
                    · replace h182 : ¬ ((3 : Int) < p1.toInt) := h182
                      refine own_iload X12 hx (hb hby dE_185) rfl (q := 187) rfl ?_
                      refine own_iload_n X12 hx (hb hby dE_187) rfl (q := 188) rfl ?_
                      refine own_icmp X12 hx (hb hby dE_188) (by decide) (q := 193) rfl (q' := 191) rfl (own_h_lt _ _) (fun h188 => ?_) (fun h188 => ?_)
                      · replace h188 : r3.toInt < p3.toInt := h188
                        exact J193_16 (by first | exact own_NW_a g180_0 (by omega) | exact own_NW_s (by omega) g180_0 g67_0 (by omega))
                      · replace h188 : ¬ (r3.toInt < p3.toInt) := h188
                        have hR : own_Res (own_Df f) a d mm (3 : Int32).toInt := (show own_Res (own_Df f) a d mm ((3 : Nat) : Int) from own_NW_y (by omega) g180_0 (by omega) g67_0 (by omega))
                        refine own_iconst X12 hx (hb hby dE_191) (v := (3 : Int32)) rfl (q := 192) rfl ?_
                        exact own_retI X12 hx hret hlk (hb hby dE_192) (by decide) (by decide) ⟨⟨_, rfl, ⟨_, rfl, hR⟩⟩, rfl, e12⟩
                  refine own_icmp X12 hx (hb hby dE_169) (by decide) (q := 180) rfl (q' := 172) rfl (own_h_lt _ _) (fun h169 => ?_) (fun h169 => ?_)
                  · replace h169 : (2 : Int) < p1.toInt := h169
                    exact J180_15 (by first | exact own_NW_a g167_0 (by omega) | exact own_NW_s (by omega) g167_0 g91_0 (by omega))
                  · replace h169 : ¬ ((2 : Int) < p1.toInt) := h169
                    refine own_iload X12 hx (hb hby dE_172) rfl (q := 174) rfl ?_
                    refine own_iload_n X12 hx (hb hby dE_174) rfl (q := 175) rfl ?_
                    refine own_icmp X12 hx (hb hby dE_175) (by decide) (q := 180) rfl (q' := 178) rfl (own_h_lt _ _) (fun h175 => ?_) (fun h175 => ?_)
                    · replace h175 : r2.toInt < p3.toInt := h175
                      exact J180_15 (by first | exact own_NW_a g167_0 (by omega) | exact own_NW_s (by omega) g167_0 g91_0 (by omega))
                    · replace h175 : ¬ (r2.toInt < p3.toInt) := h175
                      have hR : own_Res (own_Df f) a d mm (2 : Int32).toInt := (show own_Res (own_Df f) a d mm ((2 : Nat) : Int) from own_NW_y (by omega) g167_0 (by omega) g91_0 (by omega))
                      refine own_iconst X12 hx (hb hby dE_178) (v := (2 : Int32)) rfl (q := 179) rfl ?_
                      exact own_retI X12 hx hret hlk (hb hby dE_179) (by decide) (by decide) ⟨⟨_, rfl, ⟨_, rfl, hR⟩⟩, rfl, e12⟩
                refine own_icmp X12 hx (hb hby dE_156) (by decide) (q := 167) rfl (q' := 159) rfl (own_h_lt _ _) (fun h156 => ?_) (fun h156 => ?_)
                · replace h156 : (1 : Int) < p1.toInt := h156
                  exact J167_14 (by first | exact own_NW_a g154_0 (by omega) | exact own_NW_s (by omega) g154_0 g115_0 (by omega))
                · replace h156 : ¬ ((1 : Int) < p1.toInt) := h156
                  refine own_iload X12 hx (hb hby dE_159) rfl (q := 161) rfl ?_
                  refine own_iload_n X12 hx (hb hby dE_161) rfl (q := 162) rfl ?_
                  refine own_icmp X12 hx (hb hby dE_162) (by decide) (q := 167) rfl (q' := 165) rfl (own_h_lt _ _) (fun h162 => ?_) (fun h162 => ?_)
                  · replace h162 : r1.toInt < p3.toInt := h162
                    exact J167_14 (by first | exact own_NW_a g154_0 (by omega) | exact own_NW_s (by omega) g154_0 g115_0 (by omega))
                  · replace h162 : ¬ (r1.toInt < p3.toInt) := h162
                    have hR : own_Res (own_Df f) a d mm (1 : Int32).toInt := (show own_Res (own_Df f) a d mm ((1 : Nat) : Int) from own_NW_y (by omega) g154_0 (by omega) g115_0 (by omega))
                    refine own_iconst X12 hx (hb hby dE_165) (v := (1 : Int32)) rfl (q := 166) rfl ?_
                    exact own_retI X12 hx hret hlk (hb hby dE_166) (by decide) (by decide) ⟨⟨_, rfl, ⟨_, rfl, hR⟩⟩, rfl, e12⟩
              refine own_icmp X12 hx (hb hby dE_143) (by decide) (q := 154) rfl (q' := 146) rfl (own_h_lt _ _) (fun h143 => ?_) (fun h143 => ?_)
              · replace h143 : (0 : Int) < p1.toInt := h143
                exact J154_13 (by first | exact own_NW_a own_NW_0 (by omega) | exact own_NW_s (by omega) own_NW_0 g139_0 (by omega))
              · replace h143 : ¬ ((0 : Int) < p1.toInt) := h143
                refine own_iload X12 hx (hb hby dE_146) rfl (q := 148) rfl ?_
                refine own_iload_n X12 hx (hb hby dE_148) rfl (q := 149) rfl ?_
                refine own_icmp X12 hx (hb hby dE_149) (by decide) (q := 154) rfl (q' := 152) rfl (own_h_lt _ _) (fun h149 => ?_) (fun h149 => ?_)
                · replace h149 : r0.toInt < p3.toInt := h149
                  exact J154_13 (by first | exact own_NW_a own_NW_0 (by omega) | exact own_NW_s (by omega) own_NW_0 g139_0 (by omega))
                · replace h149 : ¬ (r0.toInt < p3.toInt) := h149
                  have hR : own_Res (own_Df f) a d mm (0 : Int32).toInt := (show own_Res (own_Df f) a d mm ((0 : Nat) : Int) from own_NW_y (by omega) own_NW_0 (by omega) g139_0 (by omega))
                  refine own_iconst X12 hx (hb hby dE_152) (v := (0 : Int32)) rfl (q := 153) rfl ?_
                  exact own_retI X12 hx hret hlk (hb hby dE_153) (by decide) (by decide) ⟨⟨_, rfl, ⟨_, rfl, hR⟩⟩, rfl, e12⟩
            refine own_icmp X10 hx (hb hby dE_119) (by decide) (q := 138) rfl (q' := 122) rfl (own_h_ge _ _) (fun h119 => ?_) (fun h119 => ?_)
            · replace h119 : p2.toInt ≤ (0 : Int) := h119
              have hno : ¬ (0 < d ∧ own_Df f 0) := fun q => by have := q.1; omega
              refine own_iconst X10 hx (hb hby dE_138) (v := (0 : Int32)) rfl (q := 139) rfl ?_
              exact J139_11 T10 X10 e10 (0 : Int32) (by have hc_0 : (0 : Int32).toInt = (0 : Int) := rfl; first | (rw [show (0 : Int32).toInt = 0 from rfl]; exact own_Rn_0 hno) | (rw [ia0]; exact own_Rn_s (by omega) hye g115_0)) (by have hc_0 : (0 : Int32).toInt = (0 : Int) := rfl; omega)
            · replace h119 : ¬ (p2.toInt ≤ (0 : Int)) := h119
              refine own_aload_n X10 hx (hb hby dE_122) rfl rfl (q := 123) rfl ?_
              refine own_iconst X10 hx (hb hby dE_123) (v := (0 : Int32)) rfl (q := 124) rfl ?_
              refine own_baload X10 hx hZ e10 A (hb hby dE_124) (i := 0) (rfl) (by omega) (v := .int (f 0)) rfl (q := 125) rfl ?_
              refine own_callSP X10 hx hZ hown (hw _ (List.mem_of_getElem? (i := 47) rfl)) (hw _ (List.mem_of_getElem? (i := 48) rfl)) (hw _ (List.mem_of_getElem? (i := 3) rfl)) (hw _ (List.mem_of_getElem? (i := 49) rfl)) (by decide) (own_rmD l Z a0 hw [] (f 0)  h0 (hf _).1 (hf _).2) (by decide) (by decide) e10 (by rw [hml]; rfl) (argsL := [(.int (f 0))]) (rest := []) (lenOf own_pd4 rfl) rfl (W := 0) rfl (hb hby dE_125) (q := 128) rfl rfl rfl rfl (by decide) (by decide) ?_
              rintro _ T19 ⟨z19, rfl, hz19⟩ X19 e19
              have hDg : (((own_Df f 0) ∧ z19.toInt = 1) ∨ (¬ (own_Df f 0) ∧ z19.toInt = 0)) := hz19
              refine own_if X19 hx (hb hby dE_128) (by decide) (q := 138) rfl (q' := 131) rfl (own_z_eq _) (fun h128 => ?_) (fun h128 => ?_)
              · replace h128 : z19.toInt = 0 := h128
                have hno : ¬ (0 < d ∧ own_Df f 0) := fun q => own_no hDg h128 q.2
                refine own_iconst X19 hx (hb hby dE_138) (v := (0 : Int32)) rfl (q := 139) rfl ?_
                exact J139_11 T19 X19 e19 (0 : Int32) (by have hc_0 : (0 : Int32).toInt = (0 : Int) := rfl; first | (rw [show (0 : Int32).toInt = 0 from rfl]; exact own_Rn_0 hno) | (rw [ia0]; exact own_Rn_s (by omega) hye g115_0)) (by have hc_0 : (0 : Int32).toInt = (0 : Int) := rfl; omega)
              · replace h128 : ¬ (z19.toInt = 0) := h128
                have hye : own_Df f 0 := own_ye hDg h128
                refine own_iload X19 hx (hb hby dE_131) rfl (q := 133) rfl ?_
                refine own_iconst X19 hx (hb hby dE_133) (v := (1 : Int32)) rfl (q := 134) rfl ?_
                have ia0 : (r1 + (1 : Int32)).toInt = r1.toInt + (1 : Int) := own_addI r1 (1 : Int32) (show (-2147483648 : Int) ≤ r1.toInt + (1 : Int) by omega) (show r1.toInt + (1 : Int) < 2147483648 by omega)
                refine own_iadd X19 hx (hb hby dE_134) (q := 135) rfl ?_
                refine own_goto X19 hx (hb hby dE_135) (by decide) (q := 139) rfl ?_
                exact J139_11 T19 X19 e19 (r1 + (1 : Int32)) (by first | (rw [show (0 : Int32).toInt = 0 from rfl]; exact own_Rn_0 hno) | (rw [ia0]; exact own_Rn_s (by omega) hye g115_0)) (by omega)
          refine own_icmp X8 hx (hb hby dE_95) (by decide) (q := 114) rfl (q' := 98) rfl (own_h_ge _ _) (fun h95 => ?_) (fun h95 => ?_)
          · replace h95 : p2.toInt ≤ (1 : Int) := h95
            have hno : ¬ (1 < d ∧ own_Df f 1) := fun q => by have := q.1; omega
            refine own_iconst X8 hx (hb hby dE_114) (v := (0 : Int32)) rfl (q := 115) rfl ?_
            exact J115_9 T8 X8 e8 (0 : Int32) (by have hc_0 : (0 : Int32).toInt = (0 : Int) := rfl; first | (rw [show (0 : Int32).toInt = 0 from rfl]; exact own_Rn_0 hno) | (rw [ia1]; exact own_Rn_s (by omega) hye g91_0)) (by have hc_0 : (0 : Int32).toInt = (0 : Int) := rfl; omega)
          · replace h95 : ¬ (p2.toInt ≤ (1 : Int)) := h95
            refine own_aload_n X8 hx (hb hby dE_98) rfl rfl (q := 99) rfl ?_
            refine own_iconst X8 hx (hb hby dE_99) (v := (1 : Int32)) rfl (q := 100) rfl ?_
            refine own_baload X8 hx hZ e8 A (hb hby dE_100) (i := 1) (rfl) (by omega) (v := .int (f 1)) rfl (q := 101) rfl ?_
            refine own_callSP X8 hx hZ hown (hw _ (List.mem_of_getElem? (i := 47) rfl)) (hw _ (List.mem_of_getElem? (i := 48) rfl)) (hw _ (List.mem_of_getElem? (i := 3) rfl)) (hw _ (List.mem_of_getElem? (i := 49) rfl)) (by decide) (own_rmD l Z a0 hw [] (f 1)  h0 (hf _).1 (hf _).2) (by decide) (by decide) e8 (by rw [hml]; rfl) (argsL := [(.int (f 1))]) (rest := []) (lenOf own_pd4 rfl) rfl (W := 0) rfl (hb hby dE_101) (q := 104) rfl rfl rfl rfl (by decide) (by decide) ?_
            rintro _ T20 ⟨z20, rfl, hz20⟩ X20 e20
            have hDg : (((own_Df f 1) ∧ z20.toInt = 1) ∨ (¬ (own_Df f 1) ∧ z20.toInt = 0)) := hz20
            refine own_if X20 hx (hb hby dE_104) (by decide) (q := 114) rfl (q' := 107) rfl (own_z_eq _) (fun h104 => ?_) (fun h104 => ?_)
            · replace h104 : z20.toInt = 0 := h104
              have hno : ¬ (1 < d ∧ own_Df f 1) := fun q => own_no hDg h104 q.2
              refine own_iconst X20 hx (hb hby dE_114) (v := (0 : Int32)) rfl (q := 115) rfl ?_
              exact J115_9 T20 X20 e20 (0 : Int32) (by have hc_0 : (0 : Int32).toInt = (0 : Int) := rfl; first | (rw [show (0 : Int32).toInt = 0 from rfl]; exact own_Rn_0 hno) | (rw [ia1]; exact own_Rn_s (by omega) hye g91_0)) (by have hc_0 : (0 : Int32).toInt = (0 : Int) := rfl; omega)
            · replace h104 : ¬ (z20.toInt = 0) := h104
              have hye : own_Df f 1 := own_ye hDg h104
              refine own_iload X20 hx (hb hby dE_107) rfl (q := 109) rfl ?_
              refine own_iconst X20 hx (hb hby dE_109) (v := (1 : Int32)) rfl (q := 110) rfl ?_
              have ia1 : (r2 + (1 : Int32)).toInt = r2.toInt + (1 : Int) := own_addI r2 (1 : Int32) (show (-2147483648 : Int) ≤ r2.toInt + (1 : Int) by omega) (show r2.toInt + (1 : Int) < 2147483648 by omega)
              refine own_iadd X20 hx (hb hby dE_110) (q := 111) rfl ?_
              refine own_goto X20 hx (hb hby dE_111) (by decide) (q := 115) rfl ?_
              exact J115_9 T20 X20 e20 (r2 + (1 : Int32)) (by first | (rw [show (0 : Int32).toInt = 0 from rfl]; exact own_Rn_0 hno) | (rw [ia1]; exact own_Rn_s (by omega) hye g91_0)) (by omega)
        refine own_icmp X6 hx (hb hby dE_71) (by decide) (q := 90) rfl (q' := 74) rfl (own_h_ge _ _) (fun h71 => ?_) (fun h71 => ?_)
        · replace h71 : p2.toInt ≤ (2 : Int) := h71
          have hno : ¬ (2 < d ∧ own_Df f 2) := fun q => by have := q.1; omega
          refine own_iconst X6 hx (hb hby dE_90) (v := (0 : Int32)) rfl (q := 91) rfl ?_
          exact J91_7 T6 X6 e6 (0 : Int32) (by have hc_0 : (0 : Int32).toInt = (0 : Int) := rfl; first | (rw [show (0 : Int32).toInt = 0 from rfl]; exact own_Rn_0 hno) | (rw [ia2]; exact own_Rn_s (by omega) hye g67_0)) (by have hc_0 : (0 : Int32).toInt = (0 : Int) := rfl; omega)
        · replace h71 : ¬ (p2.toInt ≤ (2 : Int)) := h71
          refine own_aload_n X6 hx (hb hby dE_74) rfl rfl (q := 75) rfl ?_
          refine own_iconst X6 hx (hb hby dE_75) (v := (2 : Int32)) rfl (q := 76) rfl ?_
          refine own_baload X6 hx hZ e6 A (hb hby dE_76) (i := 2) (rfl) (by omega) (v := .int (f 2)) rfl (q := 77) rfl ?_
          refine own_callSP X6 hx hZ hown (hw _ (List.mem_of_getElem? (i := 47) rfl)) (hw _ (List.mem_of_getElem? (i := 48) rfl)) (hw _ (List.mem_of_getElem? (i := 3) rfl)) (hw _ (List.mem_of_getElem? (i := 49) rfl)) (by decide) (own_rmD l Z a0 hw [] (f 2)  h0 (hf _).1 (hf _).2) (by decide) (by decide) e6 (by rw [hml]; rfl) (argsL := [(.int (f 2))]) (rest := []) (lenOf own_pd4 rfl) rfl (W := 0) rfl (hb hby dE_77) (q := 80) rfl rfl rfl rfl (by decide) (by decide) ?_
          rintro _ T21 ⟨z21, rfl, hz21⟩ X21 e21
          have hDg : (((own_Df f 2) ∧ z21.toInt = 1) ∨ (¬ (own_Df f 2) ∧ z21.toInt = 0)) := hz21
          refine own_if X21 hx (hb hby dE_80) (by decide) (q := 90) rfl (q' := 83) rfl (own_z_eq _) (fun h80 => ?_) (fun h80 => ?_)
          · replace h80 : z21.toInt = 0 := h80
            have hno : ¬ (2 < d ∧ own_Df f 2) := fun q => own_no hDg h80 q.2
            refine own_iconst X21 hx (hb hby dE_90) (v := (0 : Int32)) rfl (q := 91) rfl ?_
            exact J91_7 T21 X21 e21 (0 : Int32) (by have hc_0 : (0 : Int32).toInt = (0 : Int) := rfl; first | (rw [show (0 : Int32).toInt = 0 from rfl]; exact own_Rn_0 hno) | (rw [ia2]; exact own_Rn_s (by omega) hye g67_0)) (by have hc_0 : (0 : Int32).toInt = (0 : Int) := rfl; omega)
          · replace h80 : ¬ (z21.toInt = 0) := h80
            have hye : own_Df f 2 := own_ye hDg h80
            refine own_iload X21 hx (hb hby dE_83) rfl (q := 85) rfl ?_
            refine own_iconst X21 hx (hb hby dE_85) (v := (1 : Int32)) rfl (q := 86) rfl ?_
            have ia2 : (r3 + (1 : Int32)).toInt = r3.toInt + (1 : Int) := own_addI r3 (1 : Int32) (show (-2147483648 : Int) ≤ r3.toInt + (1 : Int) by omega) (show r3.toInt + (1 : Int) < 2147483648 by omega)
            refine own_iadd X21 hx (hb hby dE_86) (q := 87) rfl ?_
            refine own_goto X21 hx (hb hby dE_87) (by decide) (q := 91) rfl ?_
            exact J91_7 T21 X21 e21 (r3 + (1 : Int32)) (by first | (rw [show (0 : Int32).toInt = 0 from rfl]; exact own_Rn_0 hno) | (rw [ia2]; exact own_Rn_s (by omega) hye g67_0)) (by omega)
      refine own_icmp X4 hx (hb hby dE_47) (by decide) (q := 66) rfl (q' := 50) rfl (own_h_ge _ _) (fun h47 => ?_) (fun h47 => ?_)
      · replace h47 : p2.toInt ≤ (3 : Int) := h47
        have hno : ¬ (3 < d ∧ own_Df f 3) := fun q => by have := q.1; omega
        refine own_iconst X4 hx (hb hby dE_66) (v := (0 : Int32)) rfl (q := 67) rfl ?_
        exact J67_5 T4 X4 e4 (0 : Int32) (by have hc_0 : (0 : Int32).toInt = (0 : Int) := rfl; first | (rw [show (0 : Int32).toInt = 0 from rfl]; exact own_Rn_0 hno) | (rw [ia3]; exact own_Rn_s (by omega) hye g43_0)) (by have hc_0 : (0 : Int32).toInt = (0 : Int) := rfl; omega)
      · replace h47 : ¬ (p2.toInt ≤ (3 : Int)) := h47
        refine own_aload_n X4 hx (hb hby dE_50) rfl rfl (q := 51) rfl ?_
        refine own_iconst X4 hx (hb hby dE_51) (v := (3 : Int32)) rfl (q := 52) rfl ?_
        refine own_baload X4 hx hZ e4 A (hb hby dE_52) (i := 3) (rfl) (by omega) (v := .int (f 3)) rfl (q := 53) rfl ?_
        refine own_callSP X4 hx hZ hown (hw _ (List.mem_of_getElem? (i := 47) rfl)) (hw _ (List.mem_of_getElem? (i := 48) rfl)) (hw _ (List.mem_of_getElem? (i := 3) rfl)) (hw _ (List.mem_of_getElem? (i := 49) rfl)) (by decide) (own_rmD l Z a0 hw [] (f 3)  h0 (hf _).1 (hf _).2) (by decide) (by decide) e4 (by rw [hml]; rfl) (argsL := [(.int (f 3))]) (rest := []) (lenOf own_pd4 rfl) rfl (W := 0) rfl (hb hby dE_53) (q := 56) rfl rfl rfl rfl (by decide) (by decide) ?_
        rintro _ T22 ⟨z22, rfl, hz22⟩ X22 e22
        have hDg : (((own_Df f 3) ∧ z22.toInt = 1) ∨ (¬ (own_Df f 3) ∧ z22.toInt = 0)) := hz22
        refine own_if X22 hx (hb hby dE_56) (by decide) (q := 66) rfl (q' := 59) rfl (own_z_eq _) (fun h56 => ?_) (fun h56 => ?_)
        · replace h56 : z22.toInt = 0 := h56
          have hno : ¬ (3 < d ∧ own_Df f 3) := fun q => own_no hDg h56 q.2
          refine own_iconst X22 hx (hb hby dE_66) (v := (0 : Int32)) rfl (q := 67) rfl ?_
          exact J67_5 T22 X22 e22 (0 : Int32) (by have hc_0 : (0 : Int32).toInt = (0 : Int) := rfl; first | (rw [show (0 : Int32).toInt = 0 from rfl]; exact own_Rn_0 hno) | (rw [ia3]; exact own_Rn_s (by omega) hye g43_0)) (by have hc_0 : (0 : Int32).toInt = (0 : Int) := rfl; omega)
        · replace h56 : ¬ (z22.toInt = 0) := h56
          have hye : own_Df f 3 := own_ye hDg h56
          refine own_iload X22 hx (hb hby dE_59) rfl (q := 61) rfl ?_
          refine own_iconst X22 hx (hb hby dE_61) (v := (1 : Int32)) rfl (q := 62) rfl ?_
          have ia3 : (r4 + (1 : Int32)).toInt = r4.toInt + (1 : Int) := own_addI r4 (1 : Int32) (show (-2147483648 : Int) ≤ r4.toInt + (1 : Int) by omega) (show r4.toInt + (1 : Int) < 2147483648 by omega)
          refine own_iadd X22 hx (hb hby dE_62) (q := 63) rfl ?_
          refine own_goto X22 hx (hb hby dE_63) (by decide) (q := 67) rfl ?_
          exact J67_5 T22 X22 e22 (r4 + (1 : Int32)) (by first | (rw [show (0 : Int32).toInt = 0 from rfl]; exact own_Rn_0 hno) | (rw [ia3]; exact own_Rn_s (by omega) hye g43_0)) (by omega)
    refine own_icmp X2 hx (hb hby dE_23) (by decide) (q := 42) rfl (q' := 26) rfl (own_h_ge _ _) (fun h23 => ?_) (fun h23 => ?_)
    · replace h23 : p2.toInt ≤ (4 : Int) := h23
      have hno : ¬ (4 < d ∧ own_Df f 4) := fun q => by have := q.1; omega
      refine own_iconst X2 hx (hb hby dE_42) (v := (0 : Int32)) rfl (q := 43) rfl ?_
      exact J43_3 T2 X2 e2 (0 : Int32) (by have hc_0 : (0 : Int32).toInt = (0 : Int) := rfl; first | (rw [show (0 : Int32).toInt = 0 from rfl]; exact own_Rn_0 hno) | (rw [ia4]; exact own_Rn_s (by omega) hye g19_0)) (by have hc_0 : (0 : Int32).toInt = (0 : Int) := rfl; omega)
    · replace h23 : ¬ (p2.toInt ≤ (4 : Int)) := h23
      refine own_aload_n X2 hx (hb hby dE_26) rfl rfl (q := 27) rfl ?_
      refine own_iconst X2 hx (hb hby dE_27) (v := (4 : Int32)) rfl (q := 28) rfl ?_
      refine own_baload X2 hx hZ e2 A (hb hby dE_28) (i := 4) (rfl) (by omega) (v := .int (f 4)) rfl (q := 29) rfl ?_
      refine own_callSP X2 hx hZ hown (hw _ (List.mem_of_getElem? (i := 47) rfl)) (hw _ (List.mem_of_getElem? (i := 48) rfl)) (hw _ (List.mem_of_getElem? (i := 3) rfl)) (hw _ (List.mem_of_getElem? (i := 49) rfl)) (by decide) (own_rmD l Z a0 hw [] (f 4)  h0 (hf _).1 (hf _).2) (by decide) (by decide) e2 (by rw [hml]; rfl) (argsL := [(.int (f 4))]) (rest := []) (lenOf own_pd4 rfl) rfl (W := 0) rfl (hb hby dE_29) (q := 32) rfl rfl rfl rfl (by decide) (by decide) ?_
      rintro _ T23 ⟨z23, rfl, hz23⟩ X23 e23
      have hDg : (((own_Df f 4) ∧ z23.toInt = 1) ∨ (¬ (own_Df f 4) ∧ z23.toInt = 0)) := hz23
      refine own_if X23 hx (hb hby dE_32) (by decide) (q := 42) rfl (q' := 35) rfl (own_z_eq _) (fun h32 => ?_) (fun h32 => ?_)
      · replace h32 : z23.toInt = 0 := h32
        have hno : ¬ (4 < d ∧ own_Df f 4) := fun q => own_no hDg h32 q.2
        refine own_iconst X23 hx (hb hby dE_42) (v := (0 : Int32)) rfl (q := 43) rfl ?_
        exact J43_3 T23 X23 e23 (0 : Int32) (by have hc_0 : (0 : Int32).toInt = (0 : Int) := rfl; first | (rw [show (0 : Int32).toInt = 0 from rfl]; exact own_Rn_0 hno) | (rw [ia4]; exact own_Rn_s (by omega) hye g19_0)) (by have hc_0 : (0 : Int32).toInt = (0 : Int) := rfl; omega)
      · replace h32 : ¬ (z23.toInt = 0) := h32
        have hye : own_Df f 4 := own_ye hDg h32
        refine own_iload X23 hx (hb hby dE_35) rfl (q := 37) rfl ?_
        refine own_iconst X23 hx (hb hby dE_37) (v := (1 : Int32)) rfl (q := 38) rfl ?_
        have ia4 : (r5 + (1 : Int32)).toInt = r5.toInt + (1 : Int) := own_addI r5 (1 : Int32) (show (-2147483648 : Int) ≤ r5.toInt + (1 : Int) by omega) (show r5.toInt + (1 : Int) < 2147483648 by omega)
        refine own_iadd X23 hx (hb hby dE_38) (q := 39) rfl ?_
        refine own_goto X23 hx (hb hby dE_39) (by decide) (q := 43) rfl ?_
        exact J43_3 T23 X23 e23 (r5 + (1 : Int32)) (by first | (rw [show (0 : Int32).toInt = 0 from rfl]; exact own_Rn_0 hno) | (rw [ia4]; exact own_Rn_s (by omega) hye g19_0)) (by omega)
  refine own_icmp X0 hx (hb hby dE_2) (by decide) (q := 18) rfl (q' := 5) rfl (own_h_ge _ _) (fun h2 => ?_) (fun h2 => ?_)
  · replace h2 : p2.toInt ≤ (5 : Int) := h2
    have hno : ¬ (5 < d ∧ own_Df f 5) := fun q => by have := q.1; omega
    refine own_iconst X0 hx (hb hby dE_18) (v := (0 : Int32)) rfl (q := 19) rfl ?_
    exact J19_1 s₁ X0 e0 (0 : Int32) (by have hc_0 : (0 : Int32).toInt = (0 : Int) := rfl; first | (rw [show (0 : Int32).toInt = 0 from rfl]; exact own_Rn_0 hno) | (rw [show (1 : Int32).toInt = 0 + 1 from rfl]; exact own_Rn_s (by omega) hye (own_Rn_0 (k := 6) (fun q => by have := q.1; omega)))) (by have hc_0 : (0 : Int32).toInt = (0 : Int) := rfl; omega)
  · replace h2 : ¬ (p2.toInt ≤ (5 : Int)) := h2
    refine own_aload_n X0 hx (hb hby dE_5) rfl rfl (q := 6) rfl ?_
    refine own_iconst X0 hx (hb hby dE_6) (v := (5 : Int32)) rfl (q := 7) rfl ?_
    refine own_baload X0 hx hZ e0 A (hb hby dE_7) (i := 5) (rfl) (by omega) (v := .int (f 5)) rfl (q := 8) rfl ?_
    refine own_callSP X0 hx hZ hown (hw _ (List.mem_of_getElem? (i := 47) rfl)) (hw _ (List.mem_of_getElem? (i := 48) rfl)) (hw _ (List.mem_of_getElem? (i := 3) rfl)) (hw _ (List.mem_of_getElem? (i := 49) rfl)) (by decide) (own_rmD l Z a0 hw [] (f 5)  h0 (hf _).1 (hf _).2) (by decide) (by decide) e0 (by rw [hml]; rfl) (argsL := [(.int (f 5))]) (rest := []) (lenOf own_pd4 rfl) rfl (W := 0) rfl (hb hby dE_8) (q := 11) rfl rfl rfl rfl (by decide) (by decide) ?_
    rintro _ T24 ⟨z24, rfl, hz24⟩ X24 e24
    have hDg : (((own_Df f 5) ∧ z24.toInt = 1) ∨ (¬ (own_Df f 5) ∧ z24.toInt = 0)) := hz24
    refine own_if X24 hx (hb hby dE_11) (by decide) (q := 18) rfl (q' := 14) rfl (own_z_eq _) (fun h11 => ?_) (fun h11 => ?_)
    · replace h11 : z24.toInt = 0 := h11
      have hno : ¬ (5 < d ∧ own_Df f 5) := fun q => own_no hDg h11 q.2
      refine own_iconst X24 hx (hb hby dE_18) (v := (0 : Int32)) rfl (q := 19) rfl ?_
      exact J19_1 T24 X24 e24 (0 : Int32) (by have hc_0 : (0 : Int32).toInt = (0 : Int) := rfl; first | (rw [show (0 : Int32).toInt = 0 from rfl]; exact own_Rn_0 hno) | (rw [show (1 : Int32).toInt = 0 + 1 from rfl]; exact own_Rn_s (by omega) hye (own_Rn_0 (k := 6) (fun q => by have := q.1; omega)))) (by have hc_0 : (0 : Int32).toInt = (0 : Int) := rfl; omega)
    · replace h11 : ¬ (z24.toInt = 0) := h11
      have hye : own_Df f 5 := own_ye hDg h11
      refine own_iconst X24 hx (hb hby dE_14) (v := (1 : Int32)) rfl (q := 15) rfl ?_
      refine own_goto X24 hx (hb hby dE_15) (by decide) (q := 19) rfl ?_
      exact J19_1 T24 X24 e24 (1 : Int32) (by have hc_0 : (1 : Int32).toInt = (1 : Int) := rfl; first | (rw [show (0 : Int32).toInt = 0 from rfl]; exact own_Rn_0 hno) | (rw [show (1 : Int32).toInt = 0 + 1 from rfl]; exact own_Rn_s (by omega) hye (own_Rn_0 (k := 6) (fun q => by have := q.1; omega)))) (by have hc_0 : (1 : Int32).toInt = (1 : Int) := rfl; omega)
theorem dB_0 : decode method_3_code 0 = .ok (.lload_n 0, 1) := by decide +kernel
theorem dB_1 : decode method_3_code 1 = .ok (.bipush 9, 2) := by decide +kernel
theorem dB_3 : decode method_3_code 3 = .ok (.iload_n 2, 1) := by decide +kernel
theorem dB_4 : decode method_3_code 4 = .ok (.imul, 1) := by decide +kernel
theorem dB_5 : decode method_3_code 5 = .ok (.lushr, 1) := by decide +kernel
theorem dB_6 : decode method_3_code 6 = .ok (.l2i, 1) := by decide +kernel
theorem dB_7 : decode method_3_code 7 = .ok (.sipush 511, 3) := by decide +kernel
theorem dB_10 : decode method_3_code 10 = .ok (.iand, 1) := by decide +kernel
theorem dB_11 : decode method_3_code 11 = .ok (.istore_n 3, 1) := by decide +kernel
theorem dB_12 : decode method_3_code 12 = .ok (.iload_n 3, 1) := by decide +kernel
theorem dB_13 : decode method_3_code 13 = .ok (.iconst 1, 1) := by decide +kernel
theorem dB_14 : decode method_3_code 14 = .ok (.iushr, 1) := by decide +kernel
theorem dB_15 : decode method_3_code 15 = .ok (.istore 4, 2) := by decide +kernel
theorem dB_17 : decode method_3_code 17 = .ok (.iload_n 3, 1) := by decide +kernel
theorem dB_18 : decode method_3_code 18 = .ok (.iconst 1, 1) := by decide +kernel
theorem dB_19 : decode method_3_code 19 = .ok (.iand, 1) := by decide +kernel
theorem dB_20 : decode method_3_code 20 = .ok (.ifCond .eq 15, 3) := by decide +kernel
theorem dB_23 : decode method_3_code 23 = .ok (.ldc 23, 2) := by decide +kernel
theorem dB_25 : decode method_3_code 25 = .ok (.iload 4, 2) := by decide +kernel
theorem dB_27 : decode method_3_code 27 = .ok (.bipush 66, 2) := by decide +kernel
theorem dB_29 : decode method_3_code 29 = .ok (.irem, 1) := by decide +kernel
theorem dB_30 : decode method_3_code 30 = .ok (.invokevirtual 25, 3) := by decide +kernel
theorem dB_33 : decode method_3_code 33 = .ok (.i2b, 1) := by decide +kernel
theorem dB_34 : decode method_3_code 34 = .ok (.ireturn, 1) := by decide +kernel
theorem dB_35 : decode method_3_code 35 = .ok (.iload 4, 2) := by decide +kernel
theorem dB_37 : decode method_3_code 37 = .ok (.i2b, 1) := by decide +kernel
theorem dB_38 : decode method_3_code 38 = .ok (.ireturn, 1) := by decide +kernel
theorem own_pnB : plainFor (⟨"com/example/pillbug/pillbug/core/Base64RunsRunOfAtLeastPinLaw", "byteAt", "(JI)B"⟩ : MethodName) = true := plainFor_of_name (show plainName "com/example/pillbug/pillbug/core/Base64RunsRunOfAtLeastPinLaw" = true by first | (simp [plainName, overriddenIn]; done) | decide +kernel)
theorem own_efB (m : MethodId) (q1 : Int64) (p1 : Int32) : entryFrame m #[(.long q1), (.int p1)] 5 = mkF m 0 #[.val (.long q1), .second, .val (.int p1), .unset, .unset] [] := by first | (simp [entryFrame, mkF, argsToLocals, Value.category, maxLocals]; done) | rfl
set_option maxRecDepth 65536 in
set_option maxHeartbeats 40000000 in
theorem own_rmB (l : Launch) (Z : State) (a0 : Array Value) (hw : ∀ d ∈ tables_1, d.before a0 Z = true) (ws : List Jvm.Cond) (q1 : Int64) (p1 : Int32) (G1 : Int32) (G3 : Value) (b1 : Addr) (h0 : Heap) (ST1 : Sta Z h0 "java/lang/String" "COMPACT_STRINGS" "Z" (.int G1)) (hG : G1.toInt ≠ 0) (ST3 : Sta Z h0 "jdk/internal/util/Preconditions" "SIOOBE_FORMATTER" "Ljava/util/function/BiFunction;" G3) (hG3 : G3.isRef = true) (hb1 : b1 < h0.size) (wm : Bool) :
    MetFree l (⟨"com/example/pillbug/pillbug/core/Base64RunsRunOfAtLeastPinLaw", "byteAt", "(JI)B"⟩ : MethodName) (head1 (Jvm.Cond.code (⟨"com/example/pillbug/pillbug/core/Base64RunsRunOfAtLeastPinLaw", "byteAt", "(JI)B"⟩ : MethodName) method_3_code 5 (some .byte) :: ws) ({ frames := 4, cells := 2, slots := 268, locals := 55 } : Room)) (own_MP Z consts_1 b1 wm #[(.long q1), (.int p1)] h0) (fun _ _ _ _ _ => True) (own_MQ Z consts_1 b1 wm) := by
  refine own_Mbody (EL := consts_1) (y := (⟨"com/example/pillbug/pillbug/core/Base64RunsRunOfAtLeastPinLaw", "byteAt", "(JI)B"⟩ : MethodName)) (rm := ({ frames := 4, cells := 2, slots := 268, locals := 55 } : Room)) (as' := #[(.long q1), (.int p1)]) (h0 := h0) (Z := Z) own_pnB ?_
  intro p e s m below meth c s₁ hx hby hml hown hnm hret hlk hZ X0 e0 eh hS hk hD
  have hown : s.vm.findClass "com/example/pillbug/pillbug/core/Base64RunsRunOfAtLeastPinLaw" = some m.cls := hown
  rw [own_efB]
  refine own_lload_n X0 hx (hb hby dB_0) rfl (q := 1) rfl ?_
  refine own_bipush X0 hx (hb hby dB_1) (v := (9 : Int32)) rfl (q := 3) rfl ?_
  refine own_iload_n X0 hx (hb hby dB_3) rfl (q := 4) rfl ?_
  refine own_imul X0 hx (hb hby dB_4) (q := 5) rfl ?_
  refine own_lushr X0 hx (hb hby dB_5) (q := 6) rfl ?_
  refine own_l2i X0 hx (hb hby dB_6) (q := 7) rfl ?_
  refine own_sipush X0 hx (hb hby dB_7) (v := (511 : Int32)) rfl (q := 10) rfl ?_
  have em : (((XT.ushrL q1 ((9 : Int32) * p1)).toInt32) &&& (511 : Int32)).toInt = (((XT.ushrL q1 ((9 : Int32) * p1)).toInt32)).toInt % 512 := c_mask _ 511 9 (by decide) (by decide)
  refine own_iand X0 hx (hb hby dB_10) (q := 11) rfl ?_
  obtain ⟨bt, ebt⟩ : ∃ z, z = (((XT.ushrL q1 ((9 : Int32) * p1)).toInt32) &&& (511 : Int32)) := ⟨_, rfl⟩
  rw [← ebt] at em ⊢
  have hbt : 0 ≤ bt.toInt ∧ bt.toInt < 512 := by omega
  clear em
  refine own_istore_n X0 hx (hb hby dB_11) (l' := #[.val (.long q1), .second, .val (.int p1), .val (.int bt), .unset]) rfl (q := 12) rfl ?_
  refine own_iload_n X0 hx (hb hby dB_12) rfl (q := 13) rfl ?_
  refine own_iconst X0 hx (hb hby dB_13) (v := (1 : Int32)) rfl (q := 14) rfl ?_
  refine own_iushr X0 hx (hb hby dB_14) (q := 15) rfl ?_
  have ev : (XT.ushr bt (1 : Int32)).toInt = (bt.toInt % 4294967296) / (2 ^ 1 : Nat) := c_iushr bt 1 1 rfl (by decide)
  obtain ⟨vv, evv⟩ : ∃ z, z = (XT.ushr bt (1 : Int32)) := ⟨_, rfl⟩
  rw [← evv] at ev ⊢
  have hvv : 0 ≤ vv.toInt := by omega
  refine own_istore X0 hx (hb hby dB_15) (l' := #[.val (.long q1), .second, .val (.int p1), .val (.int bt), .val (.int vv)]) rfl (q := 17) rfl ?_
  refine own_iload_n X0 hx (hb hby dB_17) rfl (q := 18) rfl ?_
  refine own_iconst X0 hx (hb hby dB_18) (v := (1 : Int32)) rfl (q := 19) rfl ?_
  refine own_iand X0 hx (hb hby dB_19) (q := 20) rfl ?_
  refine own_if X0 hx (hb hby dB_20) (by decide) (q := 35) rfl (q' := 23) rfl (own_z_eq _) (fun h20 => ?_) (fun h20 => ?_)
  · replace h20 : (bt &&& (1 : Int32)).toInt = 0 := h20
    refine own_iload X0 hx (hb hby dB_35) rfl (q := 37) rfl ?_
    refine own_i2b X0 hx (hb hby dB_37) (q := 38) rfl ?_
    exact own_MretN X0 hx hZ (own_EW hw) hS hk e0 (t := .byte) hret hlk (by simp) (hb hby dB_38) (by rw [eh]; exact ⟨Nat.le_refl _, fun _ _ q => q⟩) hb1 (Or.inl ⟨rfl, rfl, hD⟩)
  · replace h20 : ¬ ((bt &&& (1 : Int32)).toInt = 0) := h20
    rcases hD with ⟨hw0, HV, SV⟩ | ⟨hw1, c1, b2, LT1, Q1, C1, V1, A1, n1, n2⟩
    ·
      refine own_Wldc X0 hx hZ hown (hw _ (List.mem_of_getElem? (i := 5) rfl)) (own_wS hw) e0 hS hk (own_EW hw) (by simp [consts_1]) (by rw [eh]; exact CHr.refl HV) (by decide) (N := 66) (z := 66) (by decide) (by decide) (by decide) (by decide) (hb hby dB_23) (n' := 264) (by decide) (by decide) (by decide) (by decide) (q := 25) rfl ?_
      intro T1 h1_ kk1 cl1 bl1 X1 e1 E1 hS hk hZ hown Q1 C1 V1 A1 HC1 LT1 SF1
      have SN := SF1 b1 hb1 SV
      have ST1_1 := ST1.ext E1
      have ST3_1 := ST3.ext E1
      have hE : Ext s.heap h1_ := by rw [eh]; exact E1
      have hb2 : b1 < h1_.size := Nat.lt_of_lt_of_le hb1 E1.1
      have hMO : own_MO Z consts_1 b1 wm (0 + 2) (0 + (264 + 4)) T1.vm h1_ := Or.inr ⟨hw0, rfl, rfl, cl1, bl1, LT1, Q1, C1, V1, A1, SN.2.1, SN.2.2⟩
      refine own_iload X1 hx (hb hby dB_25) rfl (q := 27) rfl ?_
      refine own_bipush X1 hx (hb hby dB_27) (v := (66 : Int32)) rfl (q := 29) rfl ?_
      refine own_irem X1 hx (hb hby dB_29) (by decide) (q := 30) rfl ?_
      have er : (vv - (vv / (66 : Int32)) * (66 : Int32)).toInt = vv.toInt % 66 := own_rem vv 66 hvv (by decide)
      obtain ⟨n, hn⟩ : ∃ n : Nat, (vv - (vv / (66 : Int32)) * (66 : Int32)).toInt = (n : Int) := ⟨(vv.toInt % 66).toNat, by omega⟩
      have hN : n < 66 := by omega
      refine own_callVP X1 hx hZ hown (hw _ (List.mem_of_getElem? (i := 12) rfl)) (hw _ (List.mem_of_getElem? (i := 13) rfl)) (hw _ (List.mem_of_getElem? (i := 15) rfl)) (hw _ (List.mem_of_getElem? (i := 14) rfl)) (hw _ (List.mem_of_getElem? (i := 16) rfl)) (hw _ (List.mem_of_getElem? (i := 6) rfl)) (by decide) (own_rmC l Z a0 hw [] cl1 (vv - (vv / (66 : Int32)) * (66 : Int32)) bl1 (own_tx "ABCDEFGHIJKLMNOPQRSTUVWXYZabcdefghijklmnopqrstuvwxyz0123456789+/-_") n G1 G3 h1_ Q1 C1 V1 A1 hn hN ST1_1 hG ST3_1 hG3) Q1 (by decide) (by decide) e1 (by rw [hml]; rfl) (argsL := [(.int (vv - (vv / (66 : Int32)) * (66 : Int32)))]) (rest := []) (lenOf own_pd5 rfl) rfl (W := 0) rfl (hb hby dB_30) (q := 33) rfl rfl rfl rfl (by decide) (by decide) ?_
      rintro _ T2 ⟨z2, rfl⟩ X2 e2
      refine own_i2b X2 hx (hb hby dB_33) (q := 34) rfl ?_
      exact own_MretN X2 hx hZ (own_EW hw) hS hk e2 (t := .byte) hret hlk (by simp) (hb hby dB_34) hE hb2 hMO
    ·
      refine own_Wagain X0 hx hZ hown (hw _ (List.mem_of_getElem? (i := 5) rfl)) (a := c1) LT1 (hb hby dB_23) (q := 25) rfl ?_
      have hMO : own_MO Z consts_1 b1 wm 0 0 s.vm h0 := Or.inl ⟨rfl, rfl, Or.inr ⟨hw1, c1, b2, LT1, Q1, C1, V1, A1, n1, n2⟩⟩
      refine own_iload X0 hx (hb hby dB_25) rfl (q := 27) rfl ?_
      refine own_bipush X0 hx (hb hby dB_27) (v := (66 : Int32)) rfl (q := 29) rfl ?_
      refine own_irem X0 hx (hb hby dB_29) (by decide) (q := 30) rfl ?_
      have er : (vv - (vv / (66 : Int32)) * (66 : Int32)).toInt = vv.toInt % 66 := own_rem vv 66 hvv (by decide)
      obtain ⟨n, hn⟩ : ∃ n : Nat, (vv - (vv / (66 : Int32)) * (66 : Int32)).toInt = (n : Int) := ⟨(vv.toInt % 66).toNat, by omega⟩
      have hN : n < 66 := by omega
      refine own_callVP X0 hx hZ hown (hw _ (List.mem_of_getElem? (i := 12) rfl)) (hw _ (List.mem_of_getElem? (i := 13) rfl)) (hw _ (List.mem_of_getElem? (i := 15) rfl)) (hw _ (List.mem_of_getElem? (i := 14) rfl)) (hw _ (List.mem_of_getElem? (i := 16) rfl)) (hw _ (List.mem_of_getElem? (i := 6) rfl)) (by decide) (own_rmC l Z a0 hw [] c1 (vv - (vv / (66 : Int32)) * (66 : Int32)) b2 (own_tx "ABCDEFGHIJKLMNOPQRSTUVWXYZabcdefghijklmnopqrstuvwxyz0123456789+/-_") n G1 G3 h0 Q1 C1 V1 A1 hn hN ST1 hG ST3 hG3) Q1 (by decide) (by decide) e0 (by rw [hml]; rfl) (argsL := [(.int (vv - (vv / (66 : Int32)) * (66 : Int32)))]) (rest := []) (lenOf own_pd5 rfl) rfl (W := 0) rfl (hb hby dB_30) (q := 33) rfl rfl rfl rfl (by decide) (by decide) ?_
      rintro _ T3 ⟨z3, rfl⟩ X3 e3
      refine own_i2b X3 hx (hb hby dB_33) (q := 34) rfl ?_
      exact own_MretN X3 hx hZ (own_EW hw) hS hk e3 (t := .byte) hret hlk (by simp) (hb hby dB_34) (by rw [eh]; exact ⟨Nat.le_refl _, fun _ _ q => q⟩) hb1 hMO
theorem own_pn0 : plainFor x = true := plainFor_of_name (show plainName "com/example/pillbug/pillbug/core/Base64RunsRunOfAtLeastPinLaw" = true by first | (simp [plainName, overriddenIn]; done) | decide +kernel)
theorem own_ef0 (m : MethodId) (q1 : Int64) (p1 : Int32) (p2 : Int32) (p3 : Int32)  : entryFrame m #[(.long q1), (.int p1), (.int p2), (.int p3)] maxLocals = mkF m 0 #[.val (.long q1), .second, .val (.int p1), .val (.int p2), .val (.int p3), .unset, .unset, .unset, .unset] [] := by first | (simp [entryFrame, mkF, argsToLocals, Value.category, maxLocals]; done) | rfl
set_option maxRecDepth 65536 in
set_option maxHeartbeats 40000000 in
theorem own_rm0 (l : Launch) (Z : State) (a0 : Array Value) (hw : ∀ d ∈ tables_1, d.before a0 Z = true) (ws : List Jvm.Cond) (q1 : Int64) (p1 : Int32) (p2 : Int32) (p3 : Int32) (G1 : Int32) (G3 : Value) (aT : Addr) (g : Nat → Int32) (h0 : Heap) (ST1 : Sta Z h0 "java/lang/String" "COMPACT_STRINGS" "Z" (.int G1)) (hG : G1.toInt ≠ 0) (ST3 : Sta Z h0 "jdk/internal/util/Preconditions" "SIOOBE_FORMATTER" "Ljava/util/function/BiFunction;" G3) (hG3 : G3.isRef = true) (ST : Sta Z h0 "com/example/pillbug/pillbug/core/Base64Runs" "KINDS" "[B" (.ref aT)) (AT : own_Arr Z h0 aT .byte 256 (fun i => .int (g i))) (hT : ∀ i : Nat, i < 256 → ((((65 ≤ i ∧ i ≤ 90) ∨ (97 ≤ i ∧ i ≤ 122) ∨ (48 ≤ i ∧ i ≤ 57) ∨ i = 43 ∨ i = 47 ∨ i = 45 ∨ i = 95) ∧ (g i).toInt = 1) ∨ (¬ ((65 ≤ i ∧ i ≤ 90) ∨ (97 ≤ i ∧ i ≤ 122) ∨ (48 ≤ i ∧ i ≤ 57) ∨ i = 43 ∨ i = 47 ∨ i = 45 ∨ i = 95) ∧ (g i).toInt ≠ 1))) :
    MetFree l x (head1 (Jvm.Cond.code x code maxLocals ret :: ws) room_1) (fun a U => a = #[(.long q1), (.int p1), (.int p2), (.int p3)] ∧ Z.Warmed39 U.vm ∧ U.heap = h0 ∧ CHv Z consts_1 U.vm h0 ∧ ∀ x ∈ ([] : List Addr), Safe Z consts_1 U.vm h0 x) (fun _ _ _ _ _ => True) (fun _ U o U' => ∃ v L, o = .returned v ∧ (fun v h L => v = some (.int 1) ∧ Fr h0.size L) v U'.heap L ∧ ReturnedEndW U o U' L room_1.cells room_1.slots) := by
  refine own_Vbody (EL := consts_1) (y := x) (Q := fun v h L => v = some (.int 1) ∧ Fr h0.size L) (rm := room_1) (as' := #[(.long q1), (.int p1), (.int p2), (.int p3)]) (h0 := h0) (Z := Z) (sf := []) own_pn0 ?_
  intro p e s m below meth c s₁ hx hby hml hown hnm hret hlk hZ X0 e0 hS hk HC0 hsf0
  have hown : s.vm.findClass "com/example/pillbug/pillbug/core/Base64RunsRunOfAtLeastPinLaw" = some m.cls := hown
  rw [own_ef0]
  refine own_bipush X0 hx (hb hby at_0) (v := (6 : Int32)) rfl (q := 2) rfl ?_
  refine own_newP X0 hx hZ (hw _ (List.mem_of_getElem? (i := 0) rfl)) e0 (hb hby at_2) (N := 6) (rfl) (cap := 6) (by decide) (by decide) (by decide) (by decide) (q := 4) rfl ?_
  intro T1 h1_ b1 g1 X1 e1 E1 A1
  have ne_aT_b1 : aT ≠ b1 := Nat.ne_of_lt (by rw [g1]; exact AT.lt)
  have ST1_1 := ST1.ext E1
  have ST3_1 := ST3.ext E1
  have ST_1 := ST.ext E1
  have AT_1 := AT.ext E1
  have S1 : Safe Z consts_1 s.vm h1_ b1 := Safe.ext E1 HC0.1 (Safe.new (by rw [g1]; exact Nat.le_refl _))
  have HC1 := CHr.trans HC0 (CHr.ext E1 HC0.1)
  have hk : _ ≤ h1_.size := Nat.le_trans hk E1.1
  have o1 : h0.size ≤ b1 := by rw [g1]; exact (Nat.le_refl _)
  have z1_ : h0.size ≤ h1_.size := Nat.le_trans (Nat.le_refl _) E1.1
  have A1 : own_Arr Z h1_ b1 .byte 6 (fun i => .int (own_zero i)) := A1
  have LS : own_LS Z consts_1 b1 s.vm h1_ (0 + 1) (0 + 6) := Or.inl ⟨rfl, rfl, Or.inl ⟨rfl, HC1.1, S1⟩⟩
  refine own_astore X1 hx (hb hby at_4) rfl (l' := #[.val (.long q1), .second, .val (.int p1), .val (.int p2), .val (.int p3), .val (.ref b1), .unset, .unset, .unset]) rfl (q := 6) rfl ?_
  refine own_aload X1 hx (hb hby at_6) rfl rfl (q := 8) rfl ?_
  refine own_iconst X1 hx (hb hby at_8) (v := (0 : Int32)) rfl (q := 9) rfl ?_
  refine own_lload_n X1 hx (hb hby at_9) rfl (q := 10) rfl ?_
  refine own_iconst X1 hx (hb hby at_10) (v := (0 : Int32)) rfl (q := 11) rfl ?_
  refine own_McallS X1 hx hZ hown (hw _ (List.mem_of_getElem? (i := 1) rfl)) (hw _ (List.mem_of_getElem? (i := 2) rfl)) (hw _ (List.mem_of_getElem? (i := 3) rfl)) (hw _ (List.mem_of_getElem? (i := 4) rfl)) (by decide) (fun wm => own_rmB l Z a0 hw [] q1 (0 : Int32) G1 G3 b1 h1_ ST1_1 hG ST3_1 hG3 A1.lt wm) rfl rfl (by decide) (by decide) (by decide) (by decide) hS hk (own_EW hw) A1.lt LS e1 (by rw [hml]; rfl) (argsL := [(.long q1), (.int (0 : Int32))]) (rest := [(.int (0 : Int32)), (.ref b1)]) (lenOf own_pd6 rfl) rfl (W := 2) rfl (hb hby at_11) (q := 14) rfl rfl ?_
  intro z2 T2 h2_ kk2 cc2 nn2 X2 e2 E2 hS hk hZ hown LS
  have ST1_2 := ST1_1.ext E2
  have ST3_2 := ST3_1.ext E2
  have ST_2 := ST_1.ext E2
  have AT_2 := AT_1.ext E2
  have A1_2 := A1.ext E2
  have z2_ : h0.size ≤ h2_.size := Nat.le_trans z1_ E2.1
  refine own_stB X2 hx hZ e2 A1_2 (hb hby at_14) (i := 0) (rfl) (by decide) (Fr.nil _) o1 (q := 15) rfl ?_
  intro T3 h3_ L3 X3 N3 e3 A3 W3
  have K3 := Keep.of_wr W3
  have ST1_3 := ST1_2.wr W3
  have ST3_3 := ST3_2.wr W3
  have ST_3 := ST_2.wr W3
  have AT_3 := AT_2.keep K3 (ninS ne_aT_b1 nin0)
  have hk : _ ≤ h3_.size := Nat.le_trans hk K3.1
  have z3_ : h0.size ≤ h3_.size := Nat.le_trans z2_ K3.1
  have LS := LS.wr W3
  refine own_aload X3 hx (hb hby at_15) rfl rfl (q := 17) rfl ?_
  refine own_iconst X3 hx (hb hby at_17) (v := (1 : Int32)) rfl (q := 18) rfl ?_
  refine own_lload_n X3 hx (hb hby at_18) rfl (q := 19) rfl ?_
  refine own_iconst X3 hx (hb hby at_19) (v := (1 : Int32)) rfl (q := 20) rfl ?_
  refine own_McallS X3 hx hZ hown (hw _ (List.mem_of_getElem? (i := 1) rfl)) (hw _ (List.mem_of_getElem? (i := 2) rfl)) (hw _ (List.mem_of_getElem? (i := 3) rfl)) (hw _ (List.mem_of_getElem? (i := 4) rfl)) (by decide) (fun wm => own_rmB l Z a0 hw [] q1 (1 : Int32) G1 G3 b1 h3_ ST1_3 hG ST3_3 hG3 A3.lt wm) rfl rfl (by decide) (by decide) (by decide) (by decide) hS hk (own_EW hw) A3.lt LS e3 (by rw [hml]; rfl) (argsL := [(.long q1), (.int (1 : Int32))]) (rest := [(.int (1 : Int32)), (.ref b1)]) (lenOf own_pd6 rfl) rfl (W := 2) rfl (hb hby at_20) (q := 23) rfl rfl ?_
  intro z4 T4 h4_ kk4 cc4 nn4 X4 e4 E4 hS hk hZ hown LS
  have ST1_4 := ST1_3.ext E4
  have ST3_4 := ST3_3.ext E4
  have ST_4 := ST_3.ext E4
  have AT_4 := AT_3.ext E4
  have A3_4 := A3.ext E4
  have z4_ : h0.size ≤ h4_.size := Nat.le_trans z3_ E4.1
  refine own_stB X4 hx hZ e4 A3_4 (hb hby at_23) (i := 1) (rfl) (by decide) N3 o1 (q := 24) rfl ?_
  intro T5 h5_ L5 X5 N5 e5 A5 W5
  have K5 := Keep.of_wr W5
  have ST1_5 := ST1_4.wr W5
  have ST3_5 := ST3_4.wr W5
  have ST_5 := ST_4.wr W5
  have AT_5 := AT_4.keep K5 (ninS ne_aT_b1 nin0)
  have hk : _ ≤ h5_.size := Nat.le_trans hk K5.1
  have z5_ : h0.size ≤ h5_.size := Nat.le_trans z4_ K5.1
  have LS := LS.wr W5
  refine own_aload X5 hx (hb hby at_24) rfl rfl (q := 26) rfl ?_
  refine own_iconst X5 hx (hb hby at_26) (v := (2 : Int32)) rfl (q := 27) rfl ?_
  refine own_lload_n X5 hx (hb hby at_27) rfl (q := 28) rfl ?_
  refine own_iconst X5 hx (hb hby at_28) (v := (2 : Int32)) rfl (q := 29) rfl ?_
  refine own_McallS X5 hx hZ hown (hw _ (List.mem_of_getElem? (i := 1) rfl)) (hw _ (List.mem_of_getElem? (i := 2) rfl)) (hw _ (List.mem_of_getElem? (i := 3) rfl)) (hw _ (List.mem_of_getElem? (i := 4) rfl)) (by decide) (fun wm => own_rmB l Z a0 hw [] q1 (2 : Int32) G1 G3 b1 h5_ ST1_5 hG ST3_5 hG3 A5.lt wm) rfl rfl (by decide) (by decide) (by decide) (by decide) hS hk (own_EW hw) A5.lt LS e5 (by rw [hml]; rfl) (argsL := [(.long q1), (.int (2 : Int32))]) (rest := [(.int (2 : Int32)), (.ref b1)]) (lenOf own_pd6 rfl) rfl (W := 2) rfl (hb hby at_29) (q := 32) rfl rfl ?_
  intro z6 T6 h6_ kk6 cc6 nn6 X6 e6 E6 hS hk hZ hown LS
  have ST1_6 := ST1_5.ext E6
  have ST3_6 := ST3_5.ext E6
  have ST_6 := ST_5.ext E6
  have AT_6 := AT_5.ext E6
  have A5_6 := A5.ext E6
  have z6_ : h0.size ≤ h6_.size := Nat.le_trans z5_ E6.1
  refine own_stB X6 hx hZ e6 A5_6 (hb hby at_32) (i := 2) (rfl) (by decide) N5 o1 (q := 33) rfl ?_
  intro T7 h7_ L7 X7 N7 e7 A7 W7
  have K7 := Keep.of_wr W7
  have ST1_7 := ST1_6.wr W7
  have ST3_7 := ST3_6.wr W7
  have ST_7 := ST_6.wr W7
  have AT_7 := AT_6.keep K7 (ninS ne_aT_b1 nin0)
  have hk : _ ≤ h7_.size := Nat.le_trans hk K7.1
  have z7_ : h0.size ≤ h7_.size := Nat.le_trans z6_ K7.1
  have LS := LS.wr W7
  refine own_aload X7 hx (hb hby at_33) rfl rfl (q := 35) rfl ?_
  refine own_iconst X7 hx (hb hby at_35) (v := (3 : Int32)) rfl (q := 36) rfl ?_
  refine own_lload_n X7 hx (hb hby at_36) rfl (q := 37) rfl ?_
  refine own_iconst X7 hx (hb hby at_37) (v := (3 : Int32)) rfl (q := 38) rfl ?_
  refine own_McallS X7 hx hZ hown (hw _ (List.mem_of_getElem? (i := 1) rfl)) (hw _ (List.mem_of_getElem? (i := 2) rfl)) (hw _ (List.mem_of_getElem? (i := 3) rfl)) (hw _ (List.mem_of_getElem? (i := 4) rfl)) (by decide) (fun wm => own_rmB l Z a0 hw [] q1 (3 : Int32) G1 G3 b1 h7_ ST1_7 hG ST3_7 hG3 A7.lt wm) rfl rfl (by decide) (by decide) (by decide) (by decide) hS hk (own_EW hw) A7.lt LS e7 (by rw [hml]; rfl) (argsL := [(.long q1), (.int (3 : Int32))]) (rest := [(.int (3 : Int32)), (.ref b1)]) (lenOf own_pd6 rfl) rfl (W := 2) rfl (hb hby at_38) (q := 41) rfl rfl ?_
  intro z8 T8 h8_ kk8 cc8 nn8 X8 e8 E8 hS hk hZ hown LS
  have ST1_8 := ST1_7.ext E8
  have ST3_8 := ST3_7.ext E8
  have ST_8 := ST_7.ext E8
  have AT_8 := AT_7.ext E8
  have A7_8 := A7.ext E8
  have z8_ : h0.size ≤ h8_.size := Nat.le_trans z7_ E8.1
  refine own_stB X8 hx hZ e8 A7_8 (hb hby at_41) (i := 3) (rfl) (by decide) N7 o1 (q := 42) rfl ?_
  intro T9 h9_ L9 X9 N9 e9 A9 W9
  have K9 := Keep.of_wr W9
  have ST1_9 := ST1_8.wr W9
  have ST3_9 := ST3_8.wr W9
  have ST_9 := ST_8.wr W9
  have AT_9 := AT_8.keep K9 (ninS ne_aT_b1 nin0)
  have hk : _ ≤ h9_.size := Nat.le_trans hk K9.1
  have z9_ : h0.size ≤ h9_.size := Nat.le_trans z8_ K9.1
  have LS := LS.wr W9
  refine own_aload X9 hx (hb hby at_42) rfl rfl (q := 44) rfl ?_
  refine own_iconst X9 hx (hb hby at_44) (v := (4 : Int32)) rfl (q := 45) rfl ?_
  refine own_lload_n X9 hx (hb hby at_45) rfl (q := 46) rfl ?_
  refine own_iconst X9 hx (hb hby at_46) (v := (4 : Int32)) rfl (q := 47) rfl ?_
  refine own_McallS X9 hx hZ hown (hw _ (List.mem_of_getElem? (i := 1) rfl)) (hw _ (List.mem_of_getElem? (i := 2) rfl)) (hw _ (List.mem_of_getElem? (i := 3) rfl)) (hw _ (List.mem_of_getElem? (i := 4) rfl)) (by decide) (fun wm => own_rmB l Z a0 hw [] q1 (4 : Int32) G1 G3 b1 h9_ ST1_9 hG ST3_9 hG3 A9.lt wm) rfl rfl (by decide) (by decide) (by decide) (by decide) hS hk (own_EW hw) A9.lt LS e9 (by rw [hml]; rfl) (argsL := [(.long q1), (.int (4 : Int32))]) (rest := [(.int (4 : Int32)), (.ref b1)]) (lenOf own_pd6 rfl) rfl (W := 2) rfl (hb hby at_47) (q := 50) rfl rfl ?_
  intro z10 T10 h10_ kk10 cc10 nn10 X10 e10 E10 hS hk hZ hown LS
  have ST1_10 := ST1_9.ext E10
  have ST3_10 := ST3_9.ext E10
  have ST_10 := ST_9.ext E10
  have AT_10 := AT_9.ext E10
  have A9_10 := A9.ext E10
  have z10_ : h0.size ≤ h10_.size := Nat.le_trans z9_ E10.1
  refine own_stB X10 hx hZ e10 A9_10 (hb hby at_50) (i := 4) (rfl) (by decide) N9 o1 (q := 51) rfl ?_
  intro T11 h11_ L11 X11 N11 e11 A11 W11
  have K11 := Keep.of_wr W11
  have ST1_11 := ST1_10.wr W11
  have ST3_11 := ST3_10.wr W11
  have ST_11 := ST_10.wr W11
  have AT_11 := AT_10.keep K11 (ninS ne_aT_b1 nin0)
  have hk : _ ≤ h11_.size := Nat.le_trans hk K11.1
  have z11_ : h0.size ≤ h11_.size := Nat.le_trans z10_ K11.1
  have LS := LS.wr W11
  refine own_aload X11 hx (hb hby at_51) rfl rfl (q := 53) rfl ?_
  refine own_iconst X11 hx (hb hby at_53) (v := (5 : Int32)) rfl (q := 54) rfl ?_
  refine own_lload_n X11 hx (hb hby at_54) rfl (q := 55) rfl ?_
  refine own_iconst X11 hx (hb hby at_55) (v := (5 : Int32)) rfl (q := 56) rfl ?_
  refine own_McallS X11 hx hZ hown (hw _ (List.mem_of_getElem? (i := 1) rfl)) (hw _ (List.mem_of_getElem? (i := 2) rfl)) (hw _ (List.mem_of_getElem? (i := 3) rfl)) (hw _ (List.mem_of_getElem? (i := 4) rfl)) (by decide) (fun wm => own_rmB l Z a0 hw [] q1 (5 : Int32) G1 G3 b1 h11_ ST1_11 hG ST3_11 hG3 A11.lt wm) rfl rfl (by decide) (by decide) (by decide) (by decide) hS hk (own_EW hw) A11.lt LS e11 (by rw [hml]; rfl) (argsL := [(.long q1), (.int (5 : Int32))]) (rest := [(.int (5 : Int32)), (.ref b1)]) (lenOf own_pd6 rfl) rfl (W := 2) rfl (hb hby at_56) (q := 59) rfl rfl ?_
  intro z12 T12 h12_ kk12 cc12 nn12 X12 e12 E12 hS hk hZ hown LS
  have ST1_12 := ST1_11.ext E12
  have ST3_12 := ST3_11.ext E12
  have ST_12 := ST_11.ext E12
  have AT_12 := AT_11.ext E12
  have A11_12 := A11.ext E12
  have z12_ : h0.size ≤ h12_.size := Nat.le_trans z11_ E12.1
  refine own_stB X12 hx hZ e12 A11_12 (hb hby at_59) (i := 5) (rfl) (by decide) N11 o1 (q := 60) rfl ?_
  intro T13 h13_ L13 X13 N13 e13 A13 W13
  have K13 := Keep.of_wr W13
  have ST1_13 := ST1_12.wr W13
  have ST3_13 := ST3_12.wr W13
  have ST_13 := ST_12.wr W13
  have AT_13 := AT_12.keep K13 (ninS ne_aT_b1 nin0)
  have hk : _ ≤ h13_.size := Nat.le_trans hk K13.1
  have z13_ : h0.size ≤ h13_.size := Nat.le_trans z12_ K13.1
  have LS := LS.wr W13
  obtain ⟨f, Af, hf⟩ : ∃ f : Nat → Int32, own_Arr Z h13_ b1 .byte 6 (fun i => .int (f i)) ∧ ∀ j, -128 ≤ (f j).toInt ∧ (f j).toInt < 128 := ⟨_, A13, (own_rngU (own_rngU (own_rngU (own_rngU (own_rngU (own_rngU own_rng0 _ _) _ _) _ _) _ _) _ _) _ _)⟩
  have XM := own_LS.mono X13 LS
  refine own_iload_n XM hx (hb hby at_60) rfl (q := 61) rfl ?_
  refine own_ldcI XM hx hZ hown (hw _ (List.mem_of_getElem? (i := 37) rfl)) (hb hby at_61) (q := 63) rfl ?_
  refine own_iand XM hx (hb hby at_63) (q := 64) rfl ?_
  refine own_bipush XM hx (hb hby at_64) (v := (7 : Int32)) rfl (q := 66) rfl ?_
  refine own_irem XM hx (hb hby at_66) (by decide) (q := 67) rfl ?_
  have efra : (p1 &&& (2147483647 : Int32)).toInt = p1.toInt % 2147483648 := c_mask p1 2147483647 31 (by decide) (by decide)
  have efrb : ((p1 &&& (2147483647 : Int32)) - ((p1 &&& (2147483647 : Int32)) / (7 : Int32)) * (7 : Int32)).toInt = (p1 &&& (2147483647 : Int32)).toInt % 7 := own_rem _ 7 (by omega) (by decide)
  obtain ⟨fr, efrc⟩ : ∃ z, z = ((p1 &&& (2147483647 : Int32)) - ((p1 &&& (2147483647 : Int32)) / (7 : Int32)) * (7 : Int32)) := ⟨_, rfl⟩
  rw [← efrc] at efrb ⊢
  have rfr : 0 ≤ fr.toInt ∧ fr.toInt ≤ 6 := by omega
  clear efra efrb
  refine own_istore XM hx (hb hby at_67) (l' := #[.val (.long q1), .second, .val (.int p1), .val (.int p2), .val (.int p3), .val (.ref b1), .val (.int fr), .unset, .unset]) rfl (q := 69) rfl ?_
  refine own_iload_n XM hx (hb hby at_69) rfl (q := 70) rfl ?_
  refine own_ldcI XM hx hZ hown (hw _ (List.mem_of_getElem? (i := 37) rfl)) (hb hby at_70) (q := 72) rfl ?_
  refine own_iand XM hx (hb hby at_72) (q := 73) rfl ?_
  refine own_bipush XM hx (hb hby at_73) (v := (7 : Int32)) rfl (q := 75) rfl ?_
  refine own_irem XM hx (hb hby at_75) (by decide) (q := 76) rfl ?_
  have eena : (p2 &&& (2147483647 : Int32)).toInt = p2.toInt % 2147483648 := c_mask p2 2147483647 31 (by decide) (by decide)
  have eenb : ((p2 &&& (2147483647 : Int32)) - ((p2 &&& (2147483647 : Int32)) / (7 : Int32)) * (7 : Int32)).toInt = (p2 &&& (2147483647 : Int32)).toInt % 7 := own_rem _ 7 (by omega) (by decide)
  obtain ⟨en, eenc⟩ : ∃ z, z = ((p2 &&& (2147483647 : Int32)) - ((p2 &&& (2147483647 : Int32)) / (7 : Int32)) * (7 : Int32)) := ⟨_, rfl⟩
  rw [← eenc] at eenb ⊢
  have ren : 0 ≤ en.toInt ∧ en.toInt ≤ 6 := by omega
  clear eena eenb
  refine own_istore XM hx (hb hby at_76) (l' := #[.val (.long q1), .second, .val (.int p1), .val (.int p2), .val (.int p3), .val (.ref b1), .val (.int fr), .val (.int en), .unset]) rfl (q := 78) rfl ?_
  refine own_iload XM hx (hb hby at_78) rfl (q := 80) rfl ?_
  refine own_iload XM hx (hb hby at_80) rfl (q := 82) rfl ?_
  have J97_14 : ∀ (fm : Int32) (to : Int32) (sl8 : Slot) (g97_0 : 0 ≤ fm.toInt ∧ fm.toInt ≤ to.toInt ∧ to.toInt ≤ 6) (g97_1 : sl8 = .unset ∨ ∃ v : Int32, sl8 = .val (.int v)), own_G p e below (own_FV s room_1.cells room_1.slots (fun v h L => v = some (.int 1) ∧ Fr h0.size L)) (T13.setTop (mkF m 97 #[.val (.long q1), .second, .val (.int p1), .val (.int p2), .val (.int p3), .val (.ref b1), .val (.int fm), .val (.int to), sl8] [])) := by
    intro fm to sl8 g97_0 g97_1
    refine own_iconst XM hx (hb hby at_97) (v := (1 : Int32)) rfl (q := 98) rfl ?_
    rcases g97_1 with rfl | ⟨v8, rfl⟩
    ·
      refine own_iload XM hx (hb hby at_98) rfl (q := 100) rfl ?_
      refine own_bipush XM hx (hb hby at_100) (v := (7 : Int32)) rfl (q := 102) rfl ?_
      refine own_iand XM hx (hb hby at_102) (q := 103) rfl ?_
      refine own_iadd XM hx (hb hby at_103) (q := 104) rfl ?_
      have el : (p3 &&& (7 : Int32)).toInt = p3.toInt % 8 := c_mask p3 7 3 (by decide) (by decide)
      have em : ((1 : Int32) + (p3 &&& (7 : Int32))).toInt = (1 : Int) + (p3 &&& (7 : Int32)).toInt := own_addI (1 : Int32) (p3 &&& (7 : Int32)) (show (-2147483648 : Int) ≤ (1 : Int) + (p3 &&& (7 : Int32)).toInt by omega) (show (1 : Int) + (p3 &&& (7 : Int32)).toInt < 2147483648 by omega)
      obtain ⟨le, ele⟩ : ∃ z, z = ((1 : Int32) + (p3 &&& (7 : Int32))) := ⟨_, rfl⟩
      rw [← ele] at em ⊢
      obtain ⟨a, hpa⟩ : ∃ n : Nat, fm.toInt = (n : Int) := ⟨fm.toInt.toNat, by omega⟩
      obtain ⟨d, hpd⟩ : ∃ n : Nat, to.toInt = (n : Int) := ⟨to.toInt.toNat, by omega⟩
      obtain ⟨mm, hpm⟩ : ∃ n : Nat, le.toInt = (n : Int) := ⟨le.toInt.toNat, by omega⟩
      refine own_istore XM hx (hb hby at_104) (l' := #[.val (.long q1), .second, .val (.int p1), .val (.int p2), .val (.int p3), .val (.ref b1), .val (.int fm), .val (.int to), .val (.int le)]) rfl (q := 106) rfl ?_
      refine own_aload XM hx (hb hby at_106) rfl rfl (q := 108) rfl ?_
      refine own_iload XM hx (hb hby at_108) rfl (q := 110) rfl ?_
      refine own_iload XM hx (hb hby at_110) rfl (q := 112) rfl ?_
      refine own_iload XM hx (hb hby at_112) rfl (q := 114) rfl ?_
      refine own_callSP XM hx hZ hown (hw _ (List.mem_of_getElem? (i := 38) rfl)) (hw _ (List.mem_of_getElem? (i := 39) rfl)) (hw _ (List.mem_of_getElem? (i := 40) rfl)) (hw _ (List.mem_of_getElem? (i := 41) rfl)) (by decide) (own_rmR l Z a0 hw [] b1 fm to le f aT g a d mm h13_ Af hf ST_13 AT_13 hT hpa hpd hpm (by omega) (by omega) (by omega) (by omega)) (by decide) (by decide) e13 (by rw [hml]; rfl) (argsL := [(.ref b1), (.int fm), (.int to), (.int le)]) (rest := []) (lenOf own_pd7 rfl) rfl (W := 0) rfl (hb hby at_114) (q := 117) rfl rfl rfl rfl (by decide) (by decide) ?_
      rintro _ T15 ⟨z15, rfl, hz15⟩ X15 e15
      have hr1 := hz15
      refine own_aload X15 hx (hb hby at_117) rfl rfl (q := 119) rfl ?_
      refine own_iload X15 hx (hb hby at_119) rfl (q := 121) rfl ?_
      refine own_iload X15 hx (hb hby at_121) rfl (q := 123) rfl ?_
      refine own_iload X15 hx (hb hby at_123) rfl (q := 125) rfl ?_
      refine own_callSP X15 hx hZ hown (hw _ (List.mem_of_getElem? (i := 44) rfl)) (hw _ (List.mem_of_getElem? (i := 45) rfl)) (hw _ (List.mem_of_getElem? (i := 3) rfl)) (hw _ (List.mem_of_getElem? (i := 46) rfl)) (by decide) (own_rmE l Z a0 hw [] b1 fm to le f a d mm h13_ Af hf hpa hpd hpm (by omega) (by omega) (by omega) (by omega)) (by decide) (by decide) e15 (by rw [hml]; rfl) (argsL := [(.ref b1), (.int fm), (.int to), (.int le)]) (rest := [(.int z15)]) (lenOf own_pd7 rfl) rfl (W := 1) rfl (hb hby at_125) (q := 128) rfl rfl rfl rfl (by decide) (by decide) ?_
      rintro _ T16 ⟨z16, rfl, hz16⟩ X16 e16
      have hr2 := hz16
      refine own_icmp X16 hx (hb hby at_128) (by decide) (q := 135) rfl (q' := 131) rfl (own_h_ne _ _) (fun h128 => ?_) (fun h128 => ?_)
      · replace h128 : z15.toInt ≠ z16.toInt := h128
        exfalso; exact h128 (own_Res_uniq hr1 hr2)
      · replace h128 : ¬ (z15.toInt ≠ z16.toInt) := h128
        refine own_iconst X16 hx (hb hby at_131) (v := (1 : Int32)) rfl (q := 132) rfl ?_
        refine own_goto X16 hx (hb hby at_132) (by decide) (q := 136) rfl ?_
        exact own_VretN X16 hx hS hk e16 (t := .boolean) hret hlk (by simp) (hb hby at_136) (by decide) (by decide) (w := 1) rfl ⟨rfl, N13⟩
    ·
      refine own_iload XM hx (hb hby at_98) rfl (q := 100) rfl ?_
      refine own_bipush XM hx (hb hby at_100) (v := (7 : Int32)) rfl (q := 102) rfl ?_
      refine own_iand XM hx (hb hby at_102) (q := 103) rfl ?_
      refine own_iadd XM hx (hb hby at_103) (q := 104) rfl ?_
      have el : (p3 &&& (7 : Int32)).toInt = p3.toInt % 8 := c_mask p3 7 3 (by decide) (by decide)
      have em : ((1 : Int32) + (p3 &&& (7 : Int32))).toInt = (1 : Int) + (p3 &&& (7 : Int32)).toInt := own_addI (1 : Int32) (p3 &&& (7 : Int32)) (show (-2147483648 : Int) ≤ (1 : Int) + (p3 &&& (7 : Int32)).toInt by omega) (show (1 : Int) + (p3 &&& (7 : Int32)).toInt < 2147483648 by omega)
      obtain ⟨le, ele⟩ : ∃ z, z = ((1 : Int32) + (p3 &&& (7 : Int32))) := ⟨_, rfl⟩
      rw [← ele] at em ⊢
      obtain ⟨a, hpa⟩ : ∃ n : Nat, fm.toInt = (n : Int) := ⟨fm.toInt.toNat, by omega⟩
      obtain ⟨d, hpd⟩ : ∃ n : Nat, to.toInt = (n : Int) := ⟨to.toInt.toNat, by omega⟩
      obtain ⟨mm, hpm⟩ : ∃ n : Nat, le.toInt = (n : Int) := ⟨le.toInt.toNat, by omega⟩
      refine own_istore XM hx (hb hby at_104) (l' := #[.val (.long q1), .second, .val (.int p1), .val (.int p2), .val (.int p3), .val (.ref b1), .val (.int fm), .val (.int to), .val (.int le)]) rfl (q := 106) rfl ?_
      refine own_aload XM hx (hb hby at_106) rfl rfl (q := 108) rfl ?_
      refine own_iload XM hx (hb hby at_108) rfl (q := 110) rfl ?_
      refine own_iload XM hx (hb hby at_110) rfl (q := 112) rfl ?_
      refine own_iload XM hx (hb hby at_112) rfl (q := 114) rfl ?_
      refine own_callSP XM hx hZ hown (hw _ (List.mem_of_getElem? (i := 38) rfl)) (hw _ (List.mem_of_getElem? (i := 39) rfl)) (hw _ (List.mem_of_getElem? (i := 40) rfl)) (hw _ (List.mem_of_getElem? (i := 41) rfl)) (by decide) (own_rmR l Z a0 hw [] b1 fm to le f aT g a d mm h13_ Af hf ST_13 AT_13 hT hpa hpd hpm (by omega) (by omega) (by omega) (by omega)) (by decide) (by decide) e13 (by rw [hml]; rfl) (argsL := [(.ref b1), (.int fm), (.int to), (.int le)]) (rest := []) (lenOf own_pd7 rfl) rfl (W := 0) rfl (hb hby at_114) (q := 117) rfl rfl rfl rfl (by decide) (by decide) ?_
      rintro _ T17 ⟨z17, rfl, hz17⟩ X17 e17
      have hr1 := hz17
      refine own_aload X17 hx (hb hby at_117) rfl rfl (q := 119) rfl ?_
      refine own_iload X17 hx (hb hby at_119) rfl (q := 121) rfl ?_
      refine own_iload X17 hx (hb hby at_121) rfl (q := 123) rfl ?_
      refine own_iload X17 hx (hb hby at_123) rfl (q := 125) rfl ?_
      refine own_callSP X17 hx hZ hown (hw _ (List.mem_of_getElem? (i := 44) rfl)) (hw _ (List.mem_of_getElem? (i := 45) rfl)) (hw _ (List.mem_of_getElem? (i := 3) rfl)) (hw _ (List.mem_of_getElem? (i := 46) rfl)) (by decide) (own_rmE l Z a0 hw [] b1 fm to le f a d mm h13_ Af hf hpa hpd hpm (by omega) (by omega) (by omega) (by omega)) (by decide) (by decide) e17 (by rw [hml]; rfl) (argsL := [(.ref b1), (.int fm), (.int to), (.int le)]) (rest := [(.int z17)]) (lenOf own_pd7 rfl) rfl (W := 1) rfl (hb hby at_125) (q := 128) rfl rfl rfl rfl (by decide) (by decide) ?_
      rintro _ T18 ⟨z18, rfl, hz18⟩ X18 e18
      have hr2 := hz18
      refine own_icmp X18 hx (hb hby at_128) (by decide) (q := 135) rfl (q' := 131) rfl (own_h_ne _ _) (fun h128 => ?_) (fun h128 => ?_)
      · replace h128 : z17.toInt ≠ z18.toInt := h128
        exfalso; exact h128 (own_Res_uniq hr1 hr2)
      · replace h128 : ¬ (z17.toInt ≠ z18.toInt) := h128
        refine own_iconst X18 hx (hb hby at_131) (v := (1 : Int32)) rfl (q := 132) rfl ?_
        refine own_goto X18 hx (hb hby at_132) (by decide) (q := 136) rfl ?_
        exact own_VretN X18 hx hS hk e18 (t := .boolean) hret hlk (by simp) (hb hby at_136) (by decide) (by decide) (w := 1) rfl ⟨rfl, N13⟩
  refine own_icmp XM hx (hb hby at_82) (by decide) (q := 97) rfl (q' := 85) rfl (own_h_ge _ _) (fun h82 => ?_) (fun h82 => ?_)
  · replace h82 : fr.toInt ≤ en.toInt := h82
    exact J97_14 fr en (.unset) (by omega) (by first | exact Or.inl rfl | exact Or.inr ⟨_, rfl⟩)
  · replace h82 : ¬ (fr.toInt ≤ en.toInt) := h82
    refine own_iload XM hx (hb hby at_85) rfl (q := 87) rfl ?_
    refine own_istore XM hx (hb hby at_87) (l' := #[.val (.long q1), .second, .val (.int p1), .val (.int p2), .val (.int p3), .val (.ref b1), .val (.int fr), .val (.int en), .val (.int fr)]) rfl (q := 89) rfl ?_
    refine own_iload XM hx (hb hby at_89) rfl (q := 91) rfl ?_
    refine own_istore XM hx (hb hby at_91) (l' := #[.val (.long q1), .second, .val (.int p1), .val (.int p2), .val (.int p3), .val (.ref b1), .val (.int en), .val (.int en), .val (.int fr)]) rfl (q := 93) rfl ?_
    refine own_iload XM hx (hb hby at_93) rfl (q := 95) rfl ?_
    refine own_istore XM hx (hb hby at_95) (l' := #[.val (.long q1), .second, .val (.int p1), .val (.int p2), .val (.int p3), .val (.ref b1), .val (.int en), .val (.int fr), .val (.int fr)]) rfl (q := 97) rfl ?_
    exact J97_14 en fr (.val (.int fr)) (by omega) (by first | exact Or.inl rfl | exact Or.inr ⟨_, rfl⟩)
set_option maxRecDepth 65536 in
set_option maxHeartbeats 40000000 in
theorem own_comes {Post : Tables → Env → Array Value → State → Outcome → State → Prop} (hpost : ∀ tb e args s v u, (limb_1_1.after args s (.returned v) u = true ∧ limb_1_2.after args s (.returned v) u = true ∧ True) → ReturnedEndW s (.returned v) u (Jvm.fieldLocs frame_1_writes args s ++ Jvm.arrayLocs frame_1_arrays args s ++ Jvm.staticLocs frame_1_statics s) 16 1152 → Post tb e args s (.returned v) u) :
    ArmFor flags0 classFile x code maxLocals ret World_1 tables_1 room_1 Calls_1 rest_1 Pre_1 Post := by
  intro l hfl _ _ p e ha hc hk s m args below hf hA hF happ hP
  obtain ⟨hcalls, hrest, hpre⟩ := hP
  obtain ⟨-, -, -, hnamed, -, -, -, hat⟩ := (Spec.applies_iff hf).mp happ
  obtain ⟨hg, hn⟩ := and_e (Cond.before_iff.mp (show (Jvm.Cond.and given_1 narrow_1).before args s = true from hpre))
  obtain ⟨hcount, k0⟩ := and_e hg
  obtain ⟨w0, w1, w2, w3, rfl⟩ : ∃ w0 w1 w2 w3 : Value, args = #[w0, w1, w2, w3] := by
    have hs : args.size = 4 := by simpa [Cond.value, given_1] using hcount
    obtain ⟨L⟩ := args
    match L, hs with
    | [w0, w1, w2, w3], _ => exact ⟨w0, w1, w2, w3, rfl⟩
  have hw := fun d (hd : d ∈ tables_1) => atoms_spec (ws := Jvm.Cond.code x code maxLocals ret :: tables_1) hat d (List.mem_cons_of_mem _ hd)
  have hfit : Fit s := fun {y c} hc i hi => by
    obtain ⟨ha, rfl⟩ := Array.getElem?_eq_some_iff.mp hc
    have q := List.all_eq_true.mp ((Array.all_eq_true_iff_forall_mem.mp hF) _ (Array.getElem_mem ha)) i (List.mem_range.mpr hi)
    simpa [Array.getElem?_eq_getElem hi] using q
  obtain ⟨j0, k1⟩ := and_e k0
  obtain ⟨i0, e0⟩ := isL_v j0
  obtain rfl : w0 = (.long i0) := Option.some.inj e0
  obtain ⟨j1, k2⟩ := and_e k1
  obtain ⟨i1, e1⟩ := is_v j1
  obtain rfl : w1 = (.int i1) := Option.some.inj e1
  obtain ⟨j2, k3⟩ := and_e k2
  obtain ⟨i2, e2⟩ := is_v j2
  obtain rfl : w2 = (.int i2) := Option.some.inj e2
  have j3 := k3
  obtain ⟨i3, e3⟩ := is_v j3
  obtain rfl : w3 = (.int i3) := Option.some.inj e3
  obtain ⟨t0_, u0_⟩ := and_e hn
  obtain ⟨t1_, u1_⟩ := and_e u0_
  obtain ⟨q0_, r0_⟩ := and_e u1_
  obtain ⟨q1_, r1_⟩ := and_e r0_
  obtain ⟨q2_, r2_⟩ := and_e r1_
  obtain ⟨q3_, r3_⟩ := and_e r2_
  obtain ⟨q4_, r4_⟩ := and_e r3_
  obtain ⟨q5_, r5_⟩ := and_e r4_
  obtain ⟨q6_, r6_⟩ := and_e r5_
  obtain ⟨q7_, r7_⟩ := and_e r6_
  obtain ⟨q8_, r8_⟩ := and_e r7_
  obtain ⟨q9_, r9_⟩ := and_e r8_
  obtain ⟨q10_, r10_⟩ := and_e r9_
  obtain ⟨q11_, r11_⟩ := and_e r10_
  obtain ⟨q12_, r12_⟩ := and_e r11_
  obtain ⟨q13_, r13_⟩ := and_e r12_
  obtain ⟨q14_, r14_⟩ := and_e r13_
  obtain ⟨q15_, r15_⟩ := and_e r14_
  obtain ⟨q16_, r16_⟩ := and_e r15_
  obtain ⟨q17_, r17_⟩ := and_e r16_
  obtain ⟨q18_, r18_⟩ := and_e r17_
  obtain ⟨q19_, r19_⟩ := and_e r18_
  obtain ⟨q20_, r20_⟩ := and_e r19_
  obtain ⟨q21_, r21_⟩ := and_e r20_
  obtain ⟨q22_, r22_⟩ := and_e r21_
  have q23_ := r22_
  obtain ⟨aT, evT⟩ := arr_v t0_
  obtain ⟨clT, ArT⟩ := Arr.start evT t0_
  have evA : ∀ idx, (Term.static "com/example/pillbug/pillbug/core/Base64Runs" "KINDS" "[B").eval #[(.long i0), (.int i1), (.int i2), (.int i3)] s none idx s = some (.ref aT) := fun _ => evT
  have haT := Arr.fin (Vm.Alike.refl _) ArT
  obtain ⟨szT, ltT⟩ := own_t_len evT haT t1_ (n := 256) rfl
  have FT := own_t_F hfit ArT (by simp) ltT
  have ST := Sta.start evT (Or.inr ⟨(hw _ (List.mem_of_getElem? (i := 40) rfl)), (hw _ (List.mem_of_getElem? (i := 43) rfl))⟩)
  have AT : own_Arr s s.heap aT .byte 256 (fun i => .int (own_atF clT i)) := ⟨clT, ArT, szT, by decide, fun i hi => FT i (by omega)⟩
  have y0_ := own_tA evA haT ltT FT q0_
  have y1_ := own_tE evA haT FT q1_ (i := 9) rfl (by omega)
  have y2_ := own_tE evA haT FT q2_ (i := 10) rfl (by omega)
  have y3_ := own_tE evA haT FT q3_ (i := 11) rfl (by omega)
  have y4_ := own_tE evA haT FT q4_ (i := 12) rfl (by omega)
  have y5_ := own_tE evA haT FT q5_ (i := 13) rfl (by omega)
  have y6_ := own_tB evA haT ltT FT q6_
  have y7_ := own_tE evA haT FT q7_ (i := 32) rfl (by omega)
  have y8_ := own_tB evA haT ltT FT q8_
  have y9_ := own_tE evA haT FT q9_ (i := 43) rfl (by omega)
  have y10_ := own_tE evA haT FT q10_ (i := 44) rfl (by omega)
  have y11_ := own_tE evA haT FT q11_ (i := 45) rfl (by omega)
  have y12_ := own_tE evA haT FT q12_ (i := 46) rfl (by omega)
  have y13_ := own_tB evA haT ltT FT q13_
  have y14_ := own_tB evA haT ltT FT q14_
  have y15_ := own_tB evA haT ltT FT q15_
  have y16_ := own_tE evA haT FT q16_ (i := 91) rfl (by omega)
  have y17_ := own_tE evA haT FT q17_ (i := 92) rfl (by omega)
  have y18_ := own_tE evA haT FT q18_ (i := 93) rfl (by omega)
  have y19_ := own_tE evA haT FT q19_ (i := 94) rfl (by omega)
  have y20_ := own_tE evA haT FT q20_ (i := 95) rfl (by omega)
  have y21_ := own_tE evA haT FT q21_ (i := 96) rfl (by omega)
  have y22_ := own_tB evA haT ltT FT q22_
  have y23_ := own_tC evA haT ltT FT q23_
  have hT : ∀ i, i < 256 → ((((65 ≤ i ∧ i ≤ 90) ∨ (97 ≤ i ∧ i ≤ 122) ∨ (48 ≤ i ∧ i ≤ 57) ∨ i = 43 ∨ i = 47 ∨ i = 45 ∨ i = 95) ∧ (own_atF clT i).toInt = 1) ∨ (¬ ((65 ≤ i ∧ i ≤ 90) ∨ (97 ≤ i ∧ i ≤ 122) ∨ (48 ≤ i ∧ i ≤ 57) ∨ i = 43 ∨ i = 47 ∨ i = 45 ∨ i = 95) ∧ (own_atF clT i).toInt ≠ 1)) := by
    intro i hi
    have z0_ : (9 : Int) ≤ i ∨ (own_atF clT i).toInt = 0 := (y0_ i (by omega)).imp id (fun q => by rw [q]; rfl)
    have z1_ : i ≠ 9 ∨ (own_atF clT i).toInt = 2 := (y1_ i).imp id (fun q => by rw [q]; rfl)
    have z2_ : i ≠ 10 ∨ (own_atF clT i).toInt = 3 := (y2_ i).imp id (fun q => by rw [q]; rfl)
    have z3_ : i ≠ 11 ∨ (own_atF clT i).toInt = 0 := (y3_ i).imp id (fun q => by rw [q]; rfl)
    have z4_ : i ≠ 12 ∨ (own_atF clT i).toInt = 0 := (y4_ i).imp id (fun q => by rw [q]; rfl)
    have z5_ : i ≠ 13 ∨ (own_atF clT i).toInt = 3 := (y5_ i).imp id (fun q => by rw [q]; rfl)
    have z6_ : (i : Int) < 14 ∨ (32 : Int) ≤ i ∨ (own_atF clT i).toInt = 0 := (y6_ i (by omega)).imp id (Or.imp id (fun q => by rw [q]; rfl))
    have z7_ : i ≠ 32 ∨ (own_atF clT i).toInt = 2 := (y7_ i).imp id (fun q => by rw [q]; rfl)
    have z8_ : (i : Int) < 33 ∨ (43 : Int) ≤ i ∨ (own_atF clT i).toInt = 0 := (y8_ i (by omega)).imp id (Or.imp id (fun q => by rw [q]; rfl))
    have z9_ : i ≠ 43 ∨ (own_atF clT i).toInt = 1 := (y9_ i).imp id (fun q => by rw [q]; rfl)
    have z10_ : i ≠ 44 ∨ (own_atF clT i).toInt = 0 := (y10_ i).imp id (fun q => by rw [q]; rfl)
    have z11_ : i ≠ 45 ∨ (own_atF clT i).toInt = 1 := (y11_ i).imp id (fun q => by rw [q]; rfl)
    have z12_ : i ≠ 46 ∨ (own_atF clT i).toInt = 0 := (y12_ i).imp id (fun q => by rw [q]; rfl)
    have z13_ : (i : Int) < 47 ∨ (58 : Int) ≤ i ∨ (own_atF clT i).toInt = 1 := (y13_ i (by omega)).imp id (Or.imp id (fun q => by rw [q]; rfl))
    have z14_ : (i : Int) < 58 ∨ (65 : Int) ≤ i ∨ (own_atF clT i).toInt = 0 := (y14_ i (by omega)).imp id (Or.imp id (fun q => by rw [q]; rfl))
    have z15_ : (i : Int) < 65 ∨ (91 : Int) ≤ i ∨ (own_atF clT i).toInt = 1 := (y15_ i (by omega)).imp id (Or.imp id (fun q => by rw [q]; rfl))
    have z16_ : i ≠ 91 ∨ (own_atF clT i).toInt = 0 := (y16_ i).imp id (fun q => by rw [q]; rfl)
    have z17_ : i ≠ 92 ∨ (own_atF clT i).toInt = 3 := (y17_ i).imp id (fun q => by rw [q]; rfl)
    have z18_ : i ≠ 93 ∨ (own_atF clT i).toInt = 0 := (y18_ i).imp id (fun q => by rw [q]; rfl)
    have z19_ : i ≠ 94 ∨ (own_atF clT i).toInt = 0 := (y19_ i).imp id (fun q => by rw [q]; rfl)
    have z20_ : i ≠ 95 ∨ (own_atF clT i).toInt = 1 := (y20_ i).imp id (fun q => by rw [q]; rfl)
    have z21_ : i ≠ 96 ∨ (own_atF clT i).toInt = 0 := (y21_ i).imp id (fun q => by rw [q]; rfl)
    have z22_ : (i : Int) < 97 ∨ (123 : Int) ≤ i ∨ (own_atF clT i).toInt = 1 := (y22_ i (by omega)).imp id (Or.imp id (fun q => by rw [q]; rfl))
    have z23_ : (i : Int) < 123 ∨ (own_atF clT i).toInt = 0 := (y23_ i (by omega)).imp id (fun q => by rw [q]; rfl)
    clear y0_ y1_ y2_ y3_ y4_ y5_ y6_ y7_ y8_ y9_ y10_ y11_ y12_ y13_ y14_ y15_ y16_ y17_ y18_ y19_ y20_ y21_ y22_ y23_
    omega
  obtain ⟨hsets, hown0⟩ := atoms_of _ (rest_1_c_eq ▸ (show rest_1_c.before _ s = true from hrest))
  have n5 := not_v (Cond.before_iff.mp (hsets _ (List.mem_of_getElem? (i := 2) rfl)))
  obtain ⟨G1, eG⟩ := is_v (Cond.before_iff.mp (hsets _ (List.mem_of_getElem? (i := 1) rfl)))
  have ST1 : Sta s s.heap "java/lang/String" "COMPACT_STRINGS" "Z" (.int G1) := Sta.start eG (Or.inl (hsets _ (List.mem_of_getElem? (i := 0) rfl)))
  have hG0 : ¬ (G1 = (0 : Int32)) := gotF (Cond.eq_ints eG (Term.int_eval (0))) n5
  have hG : G1.toInt ≠ 0 := fun q => hG0 (Int32.toInt_inj.mp q)
  obtain ⟨G3, eG3, hG3⟩ := isR_v (Cond.before_iff.mp (hsets _ (List.mem_of_getElem? (i := 8) rfl)))
  have ST3 : Sta s s.heap "jdk/internal/util/Preconditions" "SIOOBE_FORMATTER" "Ljava/util/function/BiFunction;" G3 := Sta.start eG3 (Or.inl (hsets _ (List.mem_of_getElem? (i := 7) rfl)))
  have hcs : ∀ p ∈ consts_1, Jvm.Lit.constHeld s p.1 p.2 := (show call_1_1 _ _ _ _ ∧ True from hcalls).1
  have HCV : CHv s consts_1 s.vm s.heap := CHv.start (own_EW hw) hcs (hsets _ (List.mem_of_getElem? (i := 2) rfl)) (own_wS hw _ (by simp [Bundle.stringAtoms])) (own_wS hw _ (by simp [Bundle.stringAtoms, Bundle.sN]))
  obtain ⟨n, o, h1, h2, h3, _, L, rfl, ⟨rfl, N⟩, hq⟩ := own_rm0 l s _ hw tables_1 i0 i1 i2 i3 G1 G3 aT (own_atF clT) s.heap ST1 hG ST3 hG3 ST AT hT p e ha hc hk s m _ below hf ((Spec.applies_iff_loose hf).mp happ).1 ⟨rfl, State.Warmed39.refl s, rfl, HCV, fun _ q => nomatch q⟩ trivial
  refine ⟨n, _, h1, h2, h3, hpost _ _ _ _ _ _ ⟨Cond.after_iff.mpr rfl, Cond.after_iff.mpr (eq_i res_at (Term.int_eval (1)) rfl), trivial⟩ ⟨hq.1, hq.2.1, hq.2.2.1, (hq.2.2.2.sift fun y hy => Or.inr (N y hy)).mono (by decide) (by decide)⟩⟩
theorem main_1_1 : Claimed_1_1 := own_comes fun _ _ _ _ _ _ h hF => ⟨h.1, hF⟩
theorem main_1_2 : Claimed_1_2 := own_comes fun _ _ _ _ _ _ h hF => ⟨h.2.1, hF⟩
end Jvm.Pilot.@@N@@
namespace Jvm.Pilot.@@N@@
open Jvm Jvm.ClassFile Sem Op Lib Jvm.Free Jvm.Stand Jvm.Pilot.@@N@@.Jvm.D
/-! MADE BY PROGRAM (witnessworld.py) out of the Statement's table words and the real class files: 17 classes; the members and pool entries that the words name. The judged class is class 1, her method 1. -/
namespace start1
open Jvm.ClassFile
def u (s : String) : CpInfo := .utf8 (stringToUtf16 s)
/-- a pool by its gaps: so many unusable entries, then the entry; so many at the end -/
def gap : Nat → List CpInfo → List CpInfo
  | 0, r => r
  | n + 1, r => .unusable :: gap n r
def poolList (es : List (Nat × CpInfo)) (last : Nat) : List CpInfo := es.foldr (fun e r => gap e.1 (e.2 :: r)) (gap last [])
def pool (es : List (Nat × CpInfo)) (last : Nat) : Array CpInfo := ⟨poolList es last⟩
def fileOf (pool : Array CpInfo) (this : Nat) (attrs : Array Attribute := #[]) (ms : Array MethodInfo := #[]) (fl : Nat := 33) (sup : Nat := 0) (ifs : Array Nat := #[]) (fds : Array FieldInfo := #[]) : ClassFile where
  minorVersion := 0
  majorVersion := 65
  constantPool := pool
  accessFlags := fl
  thisClass := this
  superClass := sup
  interfaces := ifs
  fields := fds
  methods := ms
  attributes := attrs
def plain (name : String) (sup : Option ClassId) : Class where
  name := name
  kind := .ordinary
  loader := none
  accessFlags := 33
  super := sup
  interfaces := #[]
  cf := none
  fields := #[]
  methods := #[]
  instanceTypes := #[]
  staticTypes := #[]
  resolved := #[]
  callSites := []
  init := .initialized
  statics := none
  mirror := none

def pool0 : Array CpInfo := pool [(5, u "<init>"), (0, u "()V"), (1, .class_ 10), (1, u "java/lang/Object")] 113

def k0m0 : Method := { name := "<init>", desc := "()V", sig := { parameters := [], returnType := none }, accessFlags := 1, code := none }
/-- java/lang/Object -/
def k0 : Class := { plain "java/lang/Object" none with
  accessFlags := 33
  interfaces := #[]
  cf := some (fileOf pool0 8 #[] #[{ accessFlags := 1, nameIndex := 5, descriptorIndex := 6, attributes := #[] }] 33 0 #[] #[])
  fields := #[]
  methods := #[k0m0]
  instanceTypes := #[]
  staticTypes := #[]
  resolved := Array.replicate 124 none
  statics := none }

def pool1 : Array CpInfo := pool [(2, .class_ 4), (1, u "java/lang/Object"), (0, u "<init>"), (0, u "()V"), (0, .methodref 8 9), (0, .class_ 10), (0, .nameAndType 11 12), (0, u "com/example/pillbug/pillbug/core/Base64RunsRunOfAtLeastPinLaw"), (0, u "byteAt"), (0, u "(JI)B"), (0, .integer 2147483647), (0, .methodref 15 16), (0, .class_ 17), (0, .nameAndType 18 19), (0, u "com/example/pillbug/pillbug/core/Base64Runs"), (0, u "runOfAtLeast"), (0, u "([BIII)I"), (0, .methodref 8 21), (0, .nameAndType 22 19), (0, u "expected"), (0, .string 24), (0, u "ABCDEFGHIJKLMNOPQRSTUVWXYZabcdefghijklmnopqrstuvwxyz0123456789+/-_"), (0, .methodref 26 27), (0, .class_ 28), (0, .nameAndType 29 30), (0, u "java/lang/String"), (0, u "charAt"), (0, u "(I)C"), (0, .methodref 8 32), (0, .nameAndType 33 34), (0, u "isDigit"), (0, u "(B)Z"), (2, u "law"), (0, u "(JIII)Z")] 5

def k1m0 : Method := { name := "<init>", desc := "()V", sig := { parameters := [], returnType := none }, accessFlags := 1, code := none }
def k1c1 : Code := { maxStack := 5, maxLocals := 9, code := code, exceptionTable := #[], attributes := #[] }
def k1m1 : Method := { name := "law", desc := "(JIII)Z", sig := { parameters := [.long, .int, .int, .int], returnType := some .boolean }, accessFlags := 9, code := some k1c1 }
def k1c2 : Code := { maxStack := 4, maxLocals := 5, code := method_3_code, exceptionTable := #[], attributes := #[] }
def k1m2 : Method := { name := "byteAt", desc := "(JI)B", sig := { parameters := [.long, .int], returnType := some .byte }, accessFlags := 10, code := some k1c2 }
def k1c3 : Code := { maxStack := 2, maxLocals := 2, code := method_4_code, exceptionTable := #[], attributes := #[] }
def k1m3 : Method := { name := "isDigit", desc := "(B)Z", sig := { parameters := [.byte], returnType := some .boolean }, accessFlags := 10, code := some k1c3 }
def k1c4 : Code := { maxStack := 2, maxLocals := 10, code := method_5_code, exceptionTable := #[], attributes := #[] }
def k1m4 : Method := { name := "expected", desc := "([BIII)I", sig := { parameters := [(.array .byte), .int, .int, .int], returnType := some .int }, accessFlags := 10, code := some k1c4 }
/-- com/example/pillbug/pillbug/core/Base64RunsRunOfAtLeastPinLaw -/
def k1 : Class := { plain "com/example/pillbug/pillbug/core/Base64RunsRunOfAtLeastPinLaw" (some 0) with
  accessFlags := 49
  interfaces := #[]
  cf := some (fileOf pool1 8 #[] #[{ accessFlags := 1, nameIndex := 5, descriptorIndex := 6, attributes := #[] }, { accessFlags := 9, nameIndex := 37, descriptorIndex := 38, attributes := #[] }, { accessFlags := 10, nameIndex := 11, descriptorIndex := 12, attributes := #[] }, { accessFlags := 10, nameIndex := 33, descriptorIndex := 34, attributes := #[] }, { accessFlags := 10, nameIndex := 22, descriptorIndex := 19, attributes := #[] }] 49 2 #[] #[])
  fields := #[]
  methods := #[k1m0, k1m1, k1m2, k1m3, k1m4]
  instanceTypes := #[]
  staticTypes := #[]
  resolved := Array.replicate 44 none
  statics := none }

def pool2 : Array CpInfo := pool [(1, .class_ 2), (0, u "java/io/Serializable"), (0, .class_ 4), (0, u "java/lang/Object")] 2

/-- java/io/Serializable -/
def k2 : Class := { plain "java/io/Serializable" (some 0) with
  accessFlags := 1537
  interfaces := #[]
  cf := some (fileOf pool2 1 #[] #[] 1537 3 #[] #[])
  fields := #[]
  methods := #[]
  instanceTypes := #[]
  staticTypes := #[]
  resolved := Array.replicate 7 none
  statics := none }

def pool3 : Array CpInfo := pool [(1, .class_ 2), (0, u "java/lang/Comparable"), (0, .class_ 4), (0, u "java/lang/Object")] 7

/-- java/lang/Comparable -/
def k3 : Class := { plain "java/lang/Comparable" (some 0) with
  accessFlags := 1537
  interfaces := #[]
  cf := some (fileOf pool3 1 #[] #[] 1537 3 #[] #[])
  fields := #[]
  methods := #[]
  instanceTypes := #[]
  staticTypes := #[]
  resolved := Array.replicate 12 none
  statics := none }

def pool4 : Array CpInfo := pool [(2, .class_ 4), (1, u "java/lang/CharSequence"), (42, .class_ 48), (0, u "java/lang/CharSequence$1CodePointIterator"), (10, .class_ 60), (0, u "java/lang/CharSequence$1CharIterator"), (5, .class_ 67), (0, u "java/lang/Object")] 63

/-- java/lang/CharSequence -/
def k4 : Class := { plain "java/lang/CharSequence" (some 0) with
  accessFlags := 1537
  interfaces := #[]
  cf := some (fileOf pool4 2 #[.nestMembers #[47, 59]] #[] 1537 66 #[] #[])
  fields := #[]
  methods := #[]
  instanceTypes := #[]
  staticTypes := #[]
  resolved := Array.replicate 131 none
  statics := none }

def pool5 : Array CpInfo := pool [(1, .class_ 2), (0, u "java/lang/constant/Constable"), (0, .class_ 4), (0, u "java/lang/Object")] 6

/-- java/lang/constant/Constable -/
def k5 : Class := { plain "java/lang/constant/Constable" (some 0) with
  accessFlags := 1537
  interfaces := #[]
  cf := some (fileOf pool5 1 #[] #[] 1537 3 #[] #[])
  fields := #[]
  methods := #[]
  instanceTypes := #[]
  staticTypes := #[]
  resolved := Array.replicate 11 none
  statics := none }

def pool6 : Array CpInfo := pool [(1, .class_ 2), (0, u "java/lang/constant/ConstantDesc"), (0, .class_ 4), (0, u "java/lang/Object")] 32

/-- java/lang/constant/ConstantDesc -/
def k6 : Class := { plain "java/lang/constant/ConstantDesc" (some 0) with
  accessFlags := 1537
  interfaces := #[]
  cf := some (fileOf pool6 1 #[] #[] 1537 3 #[] #[])
  fields := #[]
  methods := #[]
  instanceTypes := #[]
  staticTypes := #[]
  resolved := Array.replicate 37 none
  statics := none }

def pool7 : Array CpInfo := pool [(2, .class_ 4), (1, u "java/lang/Object"), (0, u "<init>"), (0, u "()V"), (2, .fieldref 10 11), (0, .class_ 12), (0, .nameAndType 13 14), (0, u "java/lang/String"), (0, u "value"), (0, u "[B"), (0, .fieldref 10 16), (0, .nameAndType 17 18), (0, u "coder"), (0, u "B"), (2, u "hash"), (0, u "I"), (2, u "hashIsZero"), (0, u "Z"), (11, .fieldref 10 39), (0, .nameAndType 40 26), (0, u "COMPACT_STRINGS"), (66, .class_ 109), (1, u "java/lang/StringLatin1"), (32, u "()Z"), (220, u "([BI)C"), (27, u "(II)V"), (35, u "(I)C"), (64, .methodref 10 493), (0, .nameAndType 494 142), (0, u "isLatin1"), (0, .methodref 107 496), (0, .nameAndType 497 363), (0, u "charAt"), (3, u "checkIndex"), (73, .class_ 576), (0, u "java/lang/CharSequence"), (22, u "CASE_INSENSITIVE_ORDER"), (0, u "Ljava/util/Comparator;"), (452, .fieldref 1054 1055), (0, .class_ 1056), (0, .nameAndType 1057 1058), (0, u "jdk/internal/util/Preconditions"), (0, u "SIOOBE_FORMATTER"), (0, u "Ljava/util/function/BiFunction;"), (0, .methodref 1054 1060), (0, .nameAndType 501 1061), (0, u "(IILjava/util/function/BiFunction;)I"), (39, u "serialPersistentFields"), (0, u "[Ljava/io/ObjectStreamField;"), (0, .class_ 1104), (0, u "java/lang/String$CaseInsensitiveComparator"), (1, .class_ 1107), (0, u "java/io/Serializable"), (0, .class_ 1109), (0, u "java/lang/Comparable"), (0, .class_ 1111), (0, u "java/lang/constant/Constable"), (0, .class_ 1113), (0, u "java/lang/constant/ConstantDesc"), (2, u "serialVersionUID"), (0, u "J"), (3, u "REPL"), (0, u "C"), (2, u "LATIN1"), (1, u "UTF16")] 323

def k7m0 : Method := { name := "<init>", desc := "()V", sig := { parameters := [], returnType := none }, accessFlags := 1, code := none }
def k7c1 : Code := { maxStack := 2, maxLocals := 2, code := jdk_42_method_56_code, exceptionTable := #[], attributes := #[] }
def k7m1 : Method := { name := "charAt", desc := "(I)C", sig := { parameters := [.int], returnType := some .char }, accessFlags := 1, code := some k7c1 }
def k7c2 : Code := { maxStack := 1, maxLocals := 1, code := jdk_42_method_154_code, exceptionTable := #[], attributes := #[] }
def k7m2 : Method := { name := "isLatin1", desc := "()Z", sig := { parameters := [], returnType := some .boolean }, accessFlags := 0, code := some k7c2 }
def k7c3 : Code := { maxStack := 3, maxLocals := 2, code := jdk_42_method_155_code, exceptionTable := #[], attributes := #[] }
def k7m3 : Method := { name := "checkIndex", desc := "(II)V", sig := { parameters := [.int, .int], returnType := none }, accessFlags := 8, code := some k7c3 }
/-- java/lang/String -/
def k7 : Class := { plain "java/lang/String" (some 0) with
  accessFlags := 49
  interfaces := #[2, 3, 4, 5, 6]
  cf := some (fileOf pool7 10 #[.nestMembers #[1103]] #[{ accessFlags := 1, nameIndex := 5, descriptorIndex := 6, attributes := #[] }, { accessFlags := 1, nameIndex := 497, descriptorIndex := 427, attributes := #[] }, { accessFlags := 0, nameIndex := 494, descriptorIndex := 142, attributes := #[] }, { accessFlags := 8, nameIndex := 501, descriptorIndex := 391, attributes := #[] }] 49 2 #[1106, 1108, 575, 1110, 1112] #[{ accessFlags := 18, nameIndex := 13, descriptorIndex := 14, attributes := #[] }, { accessFlags := 18, nameIndex := 17, descriptorIndex := 18, attributes := #[] }, { accessFlags := 2, nameIndex := 21, descriptorIndex := 22, attributes := #[] }, { accessFlags := 2, nameIndex := 25, descriptorIndex := 26, attributes := #[] }, { accessFlags := 26, nameIndex := 1116, descriptorIndex := 1117, attributes := #[] }, { accessFlags := 24, nameIndex := 40, descriptorIndex := 26, attributes := #[] }, { accessFlags := 26, nameIndex := 1101, descriptorIndex := 1102, attributes := #[] }, { accessFlags := 26, nameIndex := 1121, descriptorIndex := 1122, attributes := #[] }, { accessFlags := 25, nameIndex := 599, descriptorIndex := 600, attributes := #[] }, { accessFlags := 24, nameIndex := 1125, descriptorIndex := 18, attributes := #[] }, { accessFlags := 24, nameIndex := 1127, descriptorIndex := 18, attributes := #[] }])
  fields := #[{ name := "value", type := (.array .byte), accessFlags := 18, slot := 0, constantValue := 0 }, { name := "coder", type := .byte, accessFlags := 18, slot := 1, constantValue := 0 }, { name := "hash", type := .int, accessFlags := 2, slot := 2, constantValue := 0 }, { name := "hashIsZero", type := .boolean, accessFlags := 2, slot := 3, constantValue := 0 }, { name := "serialVersionUID", type := .long, accessFlags := 26, slot := 0, constantValue := 0 }, { name := "COMPACT_STRINGS", type := .boolean, accessFlags := 24, slot := 1, constantValue := 0 }, { name := "serialPersistentFields", type := (.array (.object "java/io/ObjectStreamField")), accessFlags := 26, slot := 2, constantValue := 0 }, { name := "REPL", type := .char, accessFlags := 26, slot := 3, constantValue := 0 }, { name := "CASE_INSENSITIVE_ORDER", type := (.object "java/util/Comparator"), accessFlags := 25, slot := 4, constantValue := 0 }, { name := "LATIN1", type := .byte, accessFlags := 24, slot := 5, constantValue := 0 }, { name := "UTF16", type := .byte, accessFlags := 24, slot := 6, constantValue := 0 }]
  methods := #[k7m0, k7m1, k7m2, k7m3]
  instanceTypes := #[(.array .byte), .byte, .int, .boolean]
  staticTypes := #[.long, .boolean, (.array (.object "java/io/ObjectStreamField")), .char, (.object "java/util/Comparator"), .byte, .byte]
  resolved := Array.replicate 1451 none
  statics := some 0 }

def pool8 : Array CpInfo := pool [(1, .class_ 2), (0, u "java/lang/String"), (1, .class_ 6), (1, u "java/lang/Object"), (0, u "<init>"), (0, u "()V"), (0, .methodref 1 10), (0, .nameAndType 11 12), (0, u "checkIndex"), (0, u "(II)V"), (1, .class_ 16), (1, u "java/lang/StringLatin1"), (36, u "([BI)C"), (67, u "$assertionsDisabled"), (0, u "Z"), (98, .class_ 223), (1, u "java/lang/StringLatin1$LinesSpliterator"), (28, u "charAt"), (137, .class_ 391), (0, u "java/lang/StringLatin1$CharsSpliterator")] 3

def k8m0 : Method := { name := "<init>", desc := "()V", sig := { parameters := [], returnType := none }, accessFlags := 0, code := none }
def k8c1 : Code := { maxStack := 2, maxLocals := 2, code := jdk_43_method_2_code, exceptionTable := #[], attributes := #[] }
def k8m1 : Method := { name := "charAt", desc := "([BI)C", sig := { parameters := [(.array .byte), .int], returnType := some .char }, accessFlags := 9, code := some k8c1 }
/-- java/lang/StringLatin1 -/
def k8 : Class := { plain "java/lang/StringLatin1" (some 0) with
  accessFlags := 48
  interfaces := #[]
  cf := some (fileOf pool8 14 #[.nestMembers #[390, 221]] #[{ accessFlags := 0, nameIndex := 7, descriptorIndex := 8, attributes := #[] }, { accessFlags := 9, nameIndex := 252, descriptorIndex := 53, attributes := #[] }] 48 4 #[] #[{ accessFlags := 4120, nameIndex := 121, descriptorIndex := 122, attributes := #[] }])
  fields := #[{ name := "$assertionsDisabled", type := .boolean, accessFlags := 4120, slot := 0, constantValue := 0 }]
  methods := #[k8m0, k8m1]
  instanceTypes := #[]
  staticTypes := #[.boolean]
  resolved := Array.replicate 395 none
  statics := none }

def pool9 : Array CpInfo := pool [(2, .class_ 4), (1, u "java/lang/Object"), (0, u "<init>"), (0, u "()V"), (17, .class_ 26), (1, u "jdk/internal/util/Preconditions"), (6, u "checkIndex"), (21, .class_ 56), (0, u "jdk/internal/util/Preconditions$4"), (57, .class_ 115), (0, u "jdk/internal/util/Preconditions$1"), (7, u "SIOOBE_FORMATTER"), (0, u "Ljava/util/function/BiFunction;"), (0, .class_ 126), (0, u "jdk/internal/util/Preconditions$2"), (3, u "AIOOBE_FORMATTER"), (0, .class_ 132), (0, u "jdk/internal/util/Preconditions$3"), (3, u "IOOBE_FORMATTER"), (41, u "(IILjava/util/function/BiFunction;)I")] 15

def k9m0 : Method := { name := "<init>", desc := "()V", sig := { parameters := [], returnType := none }, accessFlags := 1, code := none }
def k9c1 : Code := { maxStack := 3, maxLocals := 3, code := jdk_41_method_11_code, exceptionTable := #[], attributes := #[] }
def k9m1 : Method := { name := "checkIndex", desc := "(IILjava/util/function/BiFunction;)I", sig := { parameters := [.int, .int, (.object "java/util/function/BiFunction")], returnType := some .int }, accessFlags := 9, code := some k9c1 }
/-- jdk/internal/util/Preconditions -/
def k9 : Class := { plain "jdk/internal/util/Preconditions" (some 0) with
  accessFlags := 33
  interfaces := #[]
  cf := some (fileOf pool9 24 #[.nestMembers #[55, 131, 125, 114]] #[{ accessFlags := 1, nameIndex := 5, descriptorIndex := 6, attributes := #[] }, { accessFlags := 9, nameIndex := 33, descriptorIndex := 178, attributes := #[] }] 33 2 #[] #[{ accessFlags := 25, nameIndex := 123, descriptorIndex := 124, attributes := #[] }, { accessFlags := 25, nameIndex := 130, descriptorIndex := 124, attributes := #[] }, { accessFlags := 25, nameIndex := 136, descriptorIndex := 124, attributes := #[] }])
  fields := #[{ name := "SIOOBE_FORMATTER", type := (.object "java/util/function/BiFunction"), accessFlags := 25, slot := 0, constantValue := 0 }, { name := "AIOOBE_FORMATTER", type := (.object "java/util/function/BiFunction"), accessFlags := 25, slot := 1, constantValue := 0 }, { name := "IOOBE_FORMATTER", type := (.object "java/util/function/BiFunction"), accessFlags := 25, slot := 2, constantValue := 0 }]
  methods := #[k9m0, k9m1]
  instanceTypes := #[]
  staticTypes := #[(.object "java/util/function/BiFunction"), (.object "java/util/function/BiFunction"), (.object "java/util/function/BiFunction")]
  resolved := Array.replicate 194 none
  statics := some 1 }

def pool10 : Array CpInfo := pool [(1, .fieldref 2 3), (0, .class_ 4), (0, .nameAndType 5 6), (0, u "com/example/pillbug/pillbug/core/Base64Runs"), (0, u "KINDS"), (0, u "[B"), (2, u "VALUES"), (33, .class_ 45), (1, u "java/lang/Object"), (3, u "prefixedBreak"), (0, u "I"), (2, u "nextFeed"), (2, u "nextEscapedBreak"), (2, u "lines"), (0, u "[I"), (2, u "text"), (0, u "Ljava/lang/String;"), (2, u "from"), (2, u "at"), (2, u "before"), (0, u "Lcom/example/pillbug/pillbug/core/Base64Runs$Wrapping;"), (13, .class_ 90), (1, u "com/example/pillbug/pillbug/core/Base64Runs$Wrapping"), (3, u "frame"), (7, u "continues"), (0, u "Z"), (2, u "start"), (2, u "lineCount"), (2, u "digitCount"), (2, u "digits"), (2, u "goesOn"), (2, u "Lcom/example/pillbug/pillbug/core/LineFrame;"), (13, u "end"), (42, u "stretchEnd"), (100, u "PADDING"), (0, u "C"), (2, u "OTHER"), (0, u "B"), (1, u "DIGIT"), (1, u "BLANK"), (1, u "BREAK"), (14, u "runOfAtLeast"), (0, u "([BIII)I")] 11

def k10c0 : Code := { maxStack := 3, maxLocals := 7, code := prog_7_method_14_code, exceptionTable := #[], attributes := #[] }
def k10m0 : Method := { name := "runOfAtLeast", desc := "([BIII)I", sig := { parameters := [(.array .byte), .int, .int, .int], returnType := some .int }, accessFlags := 8, code := some k10c0 }
/-- com/example/pillbug/pillbug/core/Base64Runs -/
def k10 : Class := { plain "com/example/pillbug/pillbug/core/Base64Runs" (some 0) with
  accessFlags := 32
  interfaces := #[]
  cf := some (fileOf pool10 2 #[.nestMembers #[88]] #[{ accessFlags := 8, nameIndex := 305, descriptorIndex := 306, attributes := #[] }] 32 43 #[] #[{ accessFlags := 26, nameIndex := 279, descriptorIndex := 280, attributes := #[] }, { accessFlags := 26, nameIndex := 5, descriptorIndex := 6, attributes := #[] }, { accessFlags := 26, nameIndex := 283, descriptorIndex := 284, attributes := #[] }, { accessFlags := 26, nameIndex := 286, descriptorIndex := 284, attributes := #[] }, { accessFlags := 26, nameIndex := 288, descriptorIndex := 284, attributes := #[] }, { accessFlags := 26, nameIndex := 290, descriptorIndex := 284, attributes := #[] }, { accessFlags := 26, nameIndex := 9, descriptorIndex := 6, attributes := #[] }, { accessFlags := 18, nameIndex := 63, descriptorIndex := 64, attributes := #[] }, { accessFlags := 18, nameIndex := 67, descriptorIndex := 50, attributes := #[] }, { accessFlags := 2, nameIndex := 70, descriptorIndex := 50, attributes := #[] }, { accessFlags := 2, nameIndex := 73, descriptorIndex := 74, attributes := #[] }, { accessFlags := 2, nameIndex := 178, descriptorIndex := 50, attributes := #[] }, { accessFlags := 2, nameIndex := 49, descriptorIndex := 50, attributes := #[] }, { accessFlags := 2, nameIndex := 53, descriptorIndex := 50, attributes := #[] }, { accessFlags := 2, nameIndex := 56, descriptorIndex := 50, attributes := #[] }, { accessFlags := 2, nameIndex := 106, descriptorIndex := 50, attributes := #[] }, { accessFlags := 2, nameIndex := 135, descriptorIndex := 50, attributes := #[] }, { accessFlags := 2, nameIndex := 59, descriptorIndex := 60, attributes := #[] }, { accessFlags := 2, nameIndex := 109, descriptorIndex := 50, attributes := #[] }, { accessFlags := 2, nameIndex := 112, descriptorIndex := 50, attributes := #[] }, { accessFlags := 2, nameIndex := 115, descriptorIndex := 64, attributes := #[] }, { accessFlags := 2, nameIndex := 94, descriptorIndex := 121, attributes := #[] }, { accessFlags := 2, nameIndex := 102, descriptorIndex := 103, attributes := #[] }, { accessFlags := 2, nameIndex := 118, descriptorIndex := 103, attributes := #[] }])
  fields := #[{ name := "PADDING", type := .char, accessFlags := 26, slot := 0, constantValue := 0 }, { name := "KINDS", type := (.array .byte), accessFlags := 26, slot := 1, constantValue := 0 }, { name := "OTHER", type := .byte, accessFlags := 26, slot := 2, constantValue := 0 }, { name := "DIGIT", type := .byte, accessFlags := 26, slot := 3, constantValue := 0 }, { name := "BLANK", type := .byte, accessFlags := 26, slot := 4, constantValue := 0 }, { name := "BREAK", type := .byte, accessFlags := 26, slot := 5, constantValue := 0 }, { name := "VALUES", type := (.array .byte), accessFlags := 26, slot := 6, constantValue := 0 }, { name := "text", type := (.object "java/lang/String"), accessFlags := 18, slot := 0, constantValue := 0 }, { name := "from", type := .int, accessFlags := 18, slot := 1, constantValue := 0 }, { name := "at", type := .int, accessFlags := 2, slot := 2, constantValue := 0 }, { name := "before", type := (.object "com/example/pillbug/pillbug/core/Base64Runs$Wrapping"), accessFlags := 2, slot := 3, constantValue := 0 }, { name := "stretchEnd", type := .int, accessFlags := 2, slot := 4, constantValue := 0 }, { name := "prefixedBreak", type := .int, accessFlags := 2, slot := 5, constantValue := 0 }, { name := "nextFeed", type := .int, accessFlags := 2, slot := 6, constantValue := 0 }, { name := "nextEscapedBreak", type := .int, accessFlags := 2, slot := 7, constantValue := 0 }, { name := "start", type := .int, accessFlags := 2, slot := 8, constantValue := 0 }, { name := "end", type := .int, accessFlags := 2, slot := 9, constantValue := 0 }, { name := "lines", type := (.array .int), accessFlags := 2, slot := 10, constantValue := 0 }, { name := "lineCount", type := .int, accessFlags := 2, slot := 11, constantValue := 0 }, { name := "digitCount", type := .int, accessFlags := 2, slot := 12, constantValue := 0 }, { name := "digits", type := (.object "java/lang/String"), accessFlags := 2, slot := 13, constantValue := 0 }, { name := "frame", type := (.object "com/example/pillbug/pillbug/core/LineFrame"), accessFlags := 2, slot := 14, constantValue := 0 }, { name := "continues", type := .boolean, accessFlags := 2, slot := 15, constantValue := 0 }, { name := "goesOn", type := .boolean, accessFlags := 2, slot := 16, constantValue := 0 }]
  methods := #[k10m0]
  instanceTypes := #[(.object "java/lang/String"), .int, .int, (.object "com/example/pillbug/pillbug/core/Base64Runs$Wrapping"), .int, .int, .int, .int, .int, .int, (.array .int), .int, .int, (.object "java/lang/String"), (.object "com/example/pillbug/pillbug/core/LineFrame"), .boolean, .boolean]
  staticTypes := #[.char, (.array .byte), .byte, .byte, .byte, .byte, (.array .byte)]
  resolved := Array.replicate 318 none
  statics := some 2 }

def pool11 : Array CpInfo := pool [(9, u "<init>"), (6, .class_ 18), (1, u "java/lang/Object"), (0, u "()V"), (1, .class_ 23), (1, u "jdk/internal/util/ArraysSupport"), (0, u "LOG2_ARRAY_LONG_INDEX_SCALE"), (0, u "I"), (2, u "U"), (0, u "Ljdk/internal/misc/Unsafe;"), (8, u "BIG_ENDIAN"), (0, u "Z"), (8, u "LOG2_BYTE_BIT_SIZE"), (4, u "LOG2_ARRAY_INT_INDEX_SCALE"), (54, u "JLA"), (0, u "Ljdk/internal/access/JavaLangAccess;"), (11, u "LOG2_ARRAY_BOOLEAN_INDEX_SCALE"), (9, u "LOG2_ARRAY_BYTE_INDEX_SCALE"), (5, u "LOG2_ARRAY_CHAR_INDEX_SCALE"), (5, u "LOG2_ARRAY_SHORT_INDEX_SCALE"), (18, u "LOG2_ARRAY_FLOAT_INDEX_SCALE"), (24, u "LOG2_ARRAY_DOUBLE_INDEX_SCALE"), (89, u "T_BOOLEAN"), (2, u "T_CHAR"), (1, u "T_FLOAT"), (1, u "T_DOUBLE"), (1, u "T_BYTE"), (1, u "T_SHORT"), (1, u "T_INT"), (1, u "T_LONG"), (1, u "SOFT_MAX_ARRAY_LENGTH")] 83

def k11m0 : Method := { name := "<init>", desc := "()V", sig := { parameters := [], returnType := none }, accessFlags := 2, code := none }
/-- jdk/internal/util/ArraysSupport -/
def k11 : Class := { plain "jdk/internal/util/ArraysSupport" (some 0) with
  accessFlags := 33
  interfaces := #[]
  cf := some (fileOf pool11 21 #[] #[{ accessFlags := 2, nameIndex := 9, descriptorIndex := 19, attributes := #[] }] 33 16 #[] #[{ accessFlags := 24, nameIndex := 28, descriptorIndex := 29, attributes := #[] }, { accessFlags := 26, nameIndex := 38, descriptorIndex := 39, attributes := #[] }, { accessFlags := 25, nameIndex := 121, descriptorIndex := 25, attributes := #[] }, { accessFlags := 25, nameIndex := 131, descriptorIndex := 25, attributes := #[] }, { accessFlags := 25, nameIndex := 137, descriptorIndex := 25, attributes := #[] }, { accessFlags := 25, nameIndex := 143, descriptorIndex := 25, attributes := #[] }, { accessFlags := 25, nameIndex := 53, descriptorIndex := 25, attributes := #[] }, { accessFlags := 25, nameIndex := 24, descriptorIndex := 25, attributes := #[] }, { accessFlags := 25, nameIndex := 162, descriptorIndex := 25, attributes := #[] }, { accessFlags := 25, nameIndex := 187, descriptorIndex := 25, attributes := #[] }, { accessFlags := 26, nameIndex := 48, descriptorIndex := 25, attributes := #[] }, { accessFlags := 25, nameIndex := 277, descriptorIndex := 25, attributes := #[] }, { accessFlags := 25, nameIndex := 280, descriptorIndex := 25, attributes := #[] }, { accessFlags := 25, nameIndex := 282, descriptorIndex := 25, attributes := #[] }, { accessFlags := 25, nameIndex := 284, descriptorIndex := 25, attributes := #[] }, { accessFlags := 25, nameIndex := 286, descriptorIndex := 25, attributes := #[] }, { accessFlags := 25, nameIndex := 288, descriptorIndex := 25, attributes := #[] }, { accessFlags := 25, nameIndex := 290, descriptorIndex := 25, attributes := #[] }, { accessFlags := 25, nameIndex := 292, descriptorIndex := 25, attributes := #[] }, { accessFlags := 26, nameIndex := 108, descriptorIndex := 109, attributes := #[] }, { accessFlags := 25, nameIndex := 294, descriptorIndex := 25, attributes := #[] }])
  fields := #[{ name := "U", type := (.object "jdk/internal/misc/Unsafe"), accessFlags := 24, slot := 0, constantValue := 0 }, { name := "BIG_ENDIAN", type := .boolean, accessFlags := 26, slot := 1, constantValue := 0 }, { name := "LOG2_ARRAY_BOOLEAN_INDEX_SCALE", type := .int, accessFlags := 25, slot := 2, constantValue := 0 }, { name := "LOG2_ARRAY_BYTE_INDEX_SCALE", type := .int, accessFlags := 25, slot := 3, constantValue := 0 }, { name := "LOG2_ARRAY_CHAR_INDEX_SCALE", type := .int, accessFlags := 25, slot := 4, constantValue := 0 }, { name := "LOG2_ARRAY_SHORT_INDEX_SCALE", type := .int, accessFlags := 25, slot := 5, constantValue := 0 }, { name := "LOG2_ARRAY_INT_INDEX_SCALE", type := .int, accessFlags := 25, slot := 6, constantValue := 0 }, { name := "LOG2_ARRAY_LONG_INDEX_SCALE", type := .int, accessFlags := 25, slot := 7, constantValue := 0 }, { name := "LOG2_ARRAY_FLOAT_INDEX_SCALE", type := .int, accessFlags := 25, slot := 8, constantValue := 0 }, { name := "LOG2_ARRAY_DOUBLE_INDEX_SCALE", type := .int, accessFlags := 25, slot := 9, constantValue := 0 }, { name := "LOG2_BYTE_BIT_SIZE", type := .int, accessFlags := 26, slot := 10, constantValue := 0 }, { name := "T_BOOLEAN", type := .int, accessFlags := 25, slot := 11, constantValue := 0 }, { name := "T_CHAR", type := .int, accessFlags := 25, slot := 12, constantValue := 0 }, { name := "T_FLOAT", type := .int, accessFlags := 25, slot := 13, constantValue := 0 }, { name := "T_DOUBLE", type := .int, accessFlags := 25, slot := 14, constantValue := 0 }, { name := "T_BYTE", type := .int, accessFlags := 25, slot := 15, constantValue := 0 }, { name := "T_SHORT", type := .int, accessFlags := 25, slot := 16, constantValue := 0 }, { name := "T_INT", type := .int, accessFlags := 25, slot := 17, constantValue := 0 }, { name := "T_LONG", type := .int, accessFlags := 25, slot := 18, constantValue := 0 }, { name := "JLA", type := (.object "jdk/internal/access/JavaLangAccess"), accessFlags := 26, slot := 19, constantValue := 0 }, { name := "SOFT_MAX_ARRAY_LENGTH", type := .int, accessFlags := 25, slot := 20, constantValue := 0 }]
  methods := #[k11m0]
  instanceTypes := #[]
  staticTypes := #[(.object "jdk/internal/misc/Unsafe"), .boolean, .int, .int, .int, .int, .int, .int, .int, .int, .int, .int, .int, .int, .int, .int, .int, .int, .int, (.object "jdk/internal/access/JavaLangAccess"), .int]
  resolved := Array.replicate 378 none
  statics := none }

def pool12 : Array CpInfo := pool [(1, u "java/lang/Cloneable"), (0, .class_ 1), (0, u "java/lang/Object"), (0, .class_ 3)] 3

/-- java/lang/Cloneable -/
def k12 : Class := { plain "java/lang/Cloneable" (some 0) with
  accessFlags := 1537
  interfaces := #[]
  cf := some (fileOf pool12 2 #[] #[] 1537 4 #[] #[])
  fields := #[]
  methods := #[]
  instanceTypes := #[]
  staticTypes := #[]
  resolved := Array.replicate 8 none
  statics := none }

/-- the primitive byte -/
def k13 : Class := { plain "byte" none with kind := .primitive 'B', accessFlags := 0x411 }
/-- [B -/
def k14 : Class := { plain "[B" (some 0) with kind := .array 13 .byte, interfaces := #[12, 2], accessFlags := 1041 }

/-- the primitive int -/
def k15 : Class := { plain "int" none with kind := .primitive 'I', accessFlags := 0x411 }
/-- [I -/
def k16 : Class := { plain "[I" (some 0) with kind := .array 15 .int, interfaces := #[12, 2], accessFlags := 1041 }

def heap : Heap := #[{ cls := 7, slots := #[.long 0, .int 1, .null, .int 0, .null, .int 0, .int 0], vm := .statics 7 },
  { cls := 9, slots := #[.null, .null, .null], vm := .statics 9 },
  { cls := 10, slots := #[.int 0, .ref 3, .int 0, .int 0, .int 0, .int 0, .null], vm := .statics 10 },
  { cls := 14, slots := #[.int 0, .int 0, .int 0, .int 0, .int 0, .int 0, .int 0, .int 0, .int 0, .int 2, .int 3, .int 0, .int 0, .int 3, .int 0, .int 0, .int 0, .int 0, .int 0, .int 0, .int 0, .int 0, .int 0, .int 0, .int 0, .int 0, .int 0, .int 0, .int 0, .int 0, .int 0, .int 0, .int 2, .int 0, .int 0, .int 0, .int 0, .int 0, .int 0, .int 0, .int 0, .int 0, .int 0, .int 1, .int 0, .int 1, .int 0, .int 1, .int 1, .int 1, .int 1, .int 1, .int 1, .int 1, .int 1, .int 1, .int 1, .int 1, .int 0, .int 0, .int 0, .int 0, .int 0, .int 0, .int 0, .int 1, .int 1, .int 1, .int 1, .int 1, .int 1, .int 1, .int 1, .int 1, .int 1, .int 1, .int 1, .int 1, .int 1, .int 1, .int 1, .int 1, .int 1, .int 1, .int 1, .int 1, .int 1, .int 1, .int 1, .int 1, .int 1, .int 0, .int 3, .int 0, .int 0, .int 1, .int 0, .int 1, .int 1, .int 1, .int 1, .int 1, .int 1, .int 1, .int 1, .int 1, .int 1, .int 1, .int 1, .int 1, .int 1, .int 1, .int 1, .int 1, .int 1, .int 1, .int 1, .int 1, .int 1, .int 1, .int 1, .int 1, .int 1, .int 0, .int 0, .int 0, .int 0, .int 0, .int 0, .int 0, .int 0, .int 0, .int 0, .int 0, .int 0, .int 0, .int 0, .int 0, .int 0, .int 0, .int 0, .int 0, .int 0, .int 0, .int 0, .int 0, .int 0, .int 0, .int 0, .int 0, .int 0, .int 0, .int 0, .int 0, .int 0, .int 0, .int 0, .int 0, .int 0, .int 0, .int 0, .int 0, .int 0, .int 0, .int 0, .int 0, .int 0, .int 0, .int 0, .int 0, .int 0, .int 0, .int 0, .int 0, .int 0, .int 0, .int 0, .int 0, .int 0, .int 0, .int 0, .int 0, .int 0, .int 0, .int 0, .int 0, .int 0, .int 0, .int 0, .int 0, .int 0, .int 0, .int 0, .int 0, .int 0, .int 0, .int 0, .int 0, .int 0, .int 0, .int 0, .int 0, .int 0, .int 0, .int 0, .int 0, .int 0, .int 0, .int 0, .int 0, .int 0, .int 0, .int 0, .int 0, .int 0, .int 0, .int 0, .int 0, .int 0, .int 0, .int 0, .int 0, .int 0, .int 0, .int 0, .int 0, .int 0, .int 0, .int 0, .int 0, .int 0, .int 0, .int 0, .int 0, .int 0, .int 0, .int 0, .int 0, .int 0, .int 0, .int 0, .int 0, .int 0, .int 0, .int 0, .int 0, .int 0, .int 0, .int 0, .int 0, .int 0, .int 0, .int 0, .int 0, .int 0, .int 0], vm := .none }]
def classes : Array Class := #[k0, k1, k2, k3, k4, k5, k6, k7, k8, k9, k10, k11, k12, k13, k14, k15, k16]
def interned : List (Array UInt16 × Addr) := []
def slotsUsed : Nat := 273
def theMethod : MethodId := ⟨1, 1⟩
def args0 : Array Value := #[.long 5, .int 7, .int 9, .int 2]
def aboutOver (below : List Frame) : State where
  vm := { classes := classes, interned := interned.toArray }
  heap := heap
  slotsUsed := slotsUsed
  threads := #[{ frames := .invoking theMethod args0 :: below }]
def below0 : List Frame := [.native { method := ⟨0, 0⟩, args := #[] }]
def about1 : State := aboutOver below0
def p0 : Program := .bare "" "" ""
def e0 : Env := launch0.env 0 0 0
theorem w_frames : about1.frames = Frame.invoking theMethod args0 :: below0 := rfl
set_option maxRecDepth 65536 in
theorem w_args : argsFit about1.vm theMethod args0 = true := by decide +kernel
set_option maxRecDepth 65536 in
theorem w_heap : heapFits about1 = true := by decide +kernel
set_option maxRecDepth 65536 in
theorem w_runnable : about1.curStatus? = some .runnable := by decide +kernel
set_option maxRecDepth 65536 in
theorem w_alone : about1.alone = true := by decide +kernel
set_option maxRecDepth 65536 in
theorem w_named : about1.methodNamed? x = some theMethod := by decide +kernel
set_option maxRecDepth 65536 in
theorem w_hears : about1.hears theMethod below0 = true := by decide +kernel
set_option maxRecDepth 65536 in
theorem w_ripe : about1.ripe theMethod args0 below0 = true := by decide +kernel
theorem w_running : about1.status = .running := rfl
set_option maxRecDepth 65536 in
theorem w_room : about1.hasRoom e0.platform room_1 = true :=
  launch0.hasRoom_least _ room_1 (by decide +kernel) (by decide +kernel) (by decide +kernel) (by decide +kernel) (by decide +kernel) (by decide +kernel)
theorem allAtoms_all (ts : List Jvm.Cond) (a : Array Jvm.Value) (st : Jvm.State) : (allAtoms ts).before a st = ts.all (fun c => c.before a st) := by
  induction ts with
  | nil => rfl
  | cons c t ih =>
    show (Jvm.Cond.and c (allAtoms t)).before a st = _
    rw [Jvm.Cond.before_and, ih, List.all_cons]
def words1 : List Jvm.Cond := Jvm.Cond.code x code maxLocals ret :: tables_1
/-- a 'code' word, met by the world's own term for the bytes: nothing is compared byte by byte -/
theorem code_word {y : MethodName} {bytes : ByteArray} {mx : Nat} {rt : Option FieldType} {a : Array Value} {s : State} {m : MethodId} {meth : Method} {c : Code} (h1 : s.methodNamed? y = some m) (h2 : s.vm.method? m = some meth) (h3 : meth.code = some c) (h4 : c.code = bytes)
    (h5 : (c.maxLocals == mx && c.exceptionTable.isEmpty && decide (c.maxStack ≤ mostOperands) && decide (meth.sig.returnType = rt) && !meth.locks && decide (parseMethodDescriptor y.desc = some meth.sig)) = true) : (Jvm.Cond.code y bytes mx rt).before a s = true := by
  simp only [Bool.and_eq_true, beq_iff_eq, Bool.not_eq_true', decide_eq_true_eq] at h5
  obtain ⟨⟨⟨⟨⟨g1, g2⟩, g3⟩, g4⟩, g5⟩, g6⟩ := h5
  simp [Cond.before, Cond.holds, Cond.value, h1, h2, h3, h4, g1, g2, g3, g4, g5, g6]
def isCode : Jvm.Cond → Bool
  | .code _ _ _ _ => true
  | _ => false
theorem all_split {L : List Jvm.Cond} {P : Jvm.Cond → Bool} (h1 : L.all (fun c => isCode c || P c) = true) (h2 : ∀ c ∈ L.filter isCode, P c = true) : L.all P = true := by
  refine List.all_eq_true.mpr fun c hc => ?_
  have h := List.all_eq_true.mp h1 c hc
  rcases Bool.eq_false_or_eq_true (isCode c) with hi | hi
  · exact h2 c (List.mem_filter.mpr ⟨hc, hi⟩)
  · simpa [hi] using h
set_option maxRecDepth 65536 in
theorem w_c0 : (Jvm.Cond.code x code maxLocals ret).before args0 about1 = true := code_word (m := ⟨1, 1⟩) (meth := k1m1) (c := k1c1) (by decide +kernel) rfl rfl rfl (by decide +kernel)
set_option maxRecDepth 65536 in
theorem w_c1 : (Jvm.Cond.code ({ cls := "com/example/pillbug/pillbug/core/Base64RunsRunOfAtLeastPinLaw", name := "byteAt", desc := "(JI)B" } : Jvm.MethodName) method_3_code (5 : Nat) (Option.some Jvm.ClassFile.FieldType.byte)).before args0 about1 = true := code_word (m := ⟨1, 2⟩) (meth := k1m2) (c := k1c2) (by decide +kernel) rfl rfl rfl (by decide +kernel)
set_option maxRecDepth 65536 in
theorem w_c2 : (Jvm.Cond.code ({ cls := "java/lang/String", name := "charAt", desc := "(I)C" } : Jvm.MethodName) jdk_42_method_56_code (2 : Nat) (Option.some Jvm.ClassFile.FieldType.char)).before args0 about1 = true := code_word (m := ⟨7, 1⟩) (meth := k7m1) (c := k7c1) (by decide +kernel) rfl rfl rfl (by decide +kernel)
set_option maxRecDepth 65536 in
theorem w_c3 : (Jvm.Cond.code ({ cls := "java/lang/String", name := "isLatin1", desc := "()Z" } : Jvm.MethodName) jdk_42_method_154_code (1 : Nat) (Option.some Jvm.ClassFile.FieldType.boolean)).before args0 about1 = true := code_word (m := ⟨7, 2⟩) (meth := k7m2) (c := k7c2) (by decide +kernel) rfl rfl rfl (by decide +kernel)
set_option maxRecDepth 65536 in
theorem w_c4 : (Jvm.Cond.code ({ cls := "java/lang/StringLatin1", name := "charAt", desc := "([BI)C" } : Jvm.MethodName) jdk_43_method_2_code (2 : Nat) (Option.some Jvm.ClassFile.FieldType.char)).before args0 about1 = true := code_word (m := ⟨8, 1⟩) (meth := k8m1) (c := k8c1) (by decide +kernel) rfl rfl rfl (by decide +kernel)
set_option maxRecDepth 65536 in
theorem w_c5 : (Jvm.Cond.code ({ cls := "java/lang/String", name := "checkIndex", desc := "(II)V" } : Jvm.MethodName) jdk_42_method_155_code (2 : Nat) (Option.none : Option Jvm.ClassFile.FieldType)).before args0 about1 = true := code_word (m := ⟨7, 3⟩) (meth := k7m3) (c := k7c3) (by decide +kernel) rfl rfl rfl (by decide +kernel)
set_option maxRecDepth 65536 in
theorem w_c6 : (Jvm.Cond.code ({ cls := "jdk/internal/util/Preconditions", name := "checkIndex", desc := "(IILjava/util/function/BiFunction;)I" } : Jvm.MethodName) jdk_41_method_11_code (3 : Nat) (Option.some Jvm.ClassFile.FieldType.int)).before args0 about1 = true := code_word (m := ⟨9, 1⟩) (meth := k9m1) (c := k9c1) (by decide +kernel) rfl rfl rfl (by decide +kernel)
set_option maxRecDepth 65536 in
theorem w_c7 : (Jvm.Cond.code ({ cls := "com/example/pillbug/pillbug/core/Base64Runs", name := "runOfAtLeast", desc := "([BIII)I" } : Jvm.MethodName) prog_7_method_14_code (7 : Nat) (Option.some Jvm.ClassFile.FieldType.int)).before args0 about1 = true := code_word (m := ⟨10, 0⟩) (meth := k10m0) (c := k10c0) (by decide +kernel) rfl rfl rfl (by decide +kernel)
set_option maxRecDepth 65536 in
theorem w_c8 : (Jvm.Cond.code ({ cls := "com/example/pillbug/pillbug/core/Base64RunsRunOfAtLeastPinLaw", name := "expected", desc := "([BIII)I" } : Jvm.MethodName) method_5_code (10 : Nat) (Option.some Jvm.ClassFile.FieldType.int)).before args0 about1 = true := code_word (m := ⟨1, 4⟩) (meth := k1m4) (c := k1c4) (by decide +kernel) rfl rfl rfl (by decide +kernel)
set_option maxRecDepth 65536 in
theorem w_c9 : (Jvm.Cond.code ({ cls := "com/example/pillbug/pillbug/core/Base64RunsRunOfAtLeastPinLaw", name := "isDigit", desc := "(B)Z" } : Jvm.MethodName) method_4_code (2 : Nat) (Option.some Jvm.ClassFile.FieldType.boolean)).before args0 about1 = true := code_word (m := ⟨1, 3⟩) (meth := k1m3) (c := k1c3) (by decide +kernel) rfl rfl rfl (by decide +kernel)
def codes1 : List Jvm.Cond := [Jvm.Cond.code x code maxLocals ret, Jvm.Cond.code ({ cls := "com/example/pillbug/pillbug/core/Base64RunsRunOfAtLeastPinLaw", name := "byteAt", desc := "(JI)B" } : Jvm.MethodName) method_3_code (5 : Nat) (Option.some Jvm.ClassFile.FieldType.byte), Jvm.Cond.code ({ cls := "java/lang/String", name := "charAt", desc := "(I)C" } : Jvm.MethodName) jdk_42_method_56_code (2 : Nat) (Option.some Jvm.ClassFile.FieldType.char), Jvm.Cond.code ({ cls := "java/lang/String", name := "isLatin1", desc := "()Z" } : Jvm.MethodName) jdk_42_method_154_code (1 : Nat) (Option.some Jvm.ClassFile.FieldType.boolean), Jvm.Cond.code ({ cls := "java/lang/StringLatin1", name := "charAt", desc := "([BI)C" } : Jvm.MethodName) jdk_43_method_2_code (2 : Nat) (Option.some Jvm.ClassFile.FieldType.char), Jvm.Cond.code ({ cls := "java/lang/String", name := "checkIndex", desc := "(II)V" } : Jvm.MethodName) jdk_42_method_155_code (2 : Nat) (Option.none : Option Jvm.ClassFile.FieldType), Jvm.Cond.code ({ cls := "jdk/internal/util/Preconditions", name := "checkIndex", desc := "(IILjava/util/function/BiFunction;)I" } : Jvm.MethodName) jdk_41_method_11_code (3 : Nat) (Option.some Jvm.ClassFile.FieldType.int), Jvm.Cond.code ({ cls := "com/example/pillbug/pillbug/core/Base64Runs", name := "runOfAtLeast", desc := "([BIII)I" } : Jvm.MethodName) prog_7_method_14_code (7 : Nat) (Option.some Jvm.ClassFile.FieldType.int), Jvm.Cond.code ({ cls := "com/example/pillbug/pillbug/core/Base64RunsRunOfAtLeastPinLaw", name := "expected", desc := "([BIII)I" } : Jvm.MethodName) method_5_code (10 : Nat) (Option.some Jvm.ClassFile.FieldType.int), Jvm.Cond.code ({ cls := "com/example/pillbug/pillbug/core/Base64RunsRunOfAtLeastPinLaw", name := "isDigit", desc := "(B)Z" } : Jvm.MethodName) method_4_code (2 : Nat) (Option.some Jvm.ClassFile.FieldType.boolean)]
set_option maxRecDepth 65536 in
theorem codes_eq : words1.filter isCode = codes1 := rfl
theorem w_codes : ∀ c ∈ words1.filter isCode, c.before args0 about1 = true := by
  rw [codes_eq]
  intro c hc
  simp only [codes1, List.mem_cons, List.not_mem_nil, or_false] at hc
  rcases hc with rfl | rfl | rfl | rfl | rfl | rfl | rfl | rfl | rfl | rfl
  · exact w_c0
  · exact w_c1
  · exact w_c2
  · exact w_c3
  · exact w_c4
  · exact w_c5
  · exact w_c6
  · exact w_c7
  · exact w_c8
  · exact w_c9
set_option maxRecDepth 65536 in
theorem w_t1 : (words1.take 24).all (fun c => isCode c || c.before args0 about1) = true := by decide +kernel
set_option maxRecDepth 65536 in
theorem w_t2 : ((words1.drop 24).take 24).all (fun c => isCode c || c.before args0 about1) = true := by decide +kernel
set_option maxRecDepth 65536 in
theorem w_t3 : ((words1.drop 24).drop 24).all (fun c => isCode c || c.before args0 about1) = true := by decide +kernel
theorem w_tables : (allAtoms (Jvm.Cond.code x code maxLocals ret :: tables_1)).before args0 about1 = true := by
  rw [allAtoms_all]
  show words1.all (fun c => c.before args0 about1) = true
  refine all_split ?_ w_codes
  rw [← List.take_append_drop 24 words1, List.all_append, w_t1, ← List.take_append_drop 24 (words1.drop 24), List.all_append, w_t2, w_t3]
  rfl
set_option maxRecDepth 65536 in
theorem w_rest : rest_1_c.before args0 about1 = true := by decide +kernel
set_option maxRecDepth 65536 in
theorem w_case : (Jvm.Cond.and given_1 narrow_1).before args0 about1 = true := by decide +kernel
set_option maxRecDepth 65536 in
theorem w_consts : constsHeld consts_1 about1 := Jvm.Lit.constsHeldB_iff.mp (by decide +kernel)
theorem w_applies : (headSpec (Jvm.Cond.code x code maxLocals ret :: tables_1) room_1).applies x e0.platform about1 = true :=
  (Spec.applies_iff w_frames).mpr ⟨w_running, w_runnable, w_alone, w_named, w_hears, w_ripe, w_room, w_tables⟩
theorem atStart : AtStart classFile x code maxLocals ret World_1 tables_1 room_1 Calls_1 rest_1 Pre_1 launch0 p0 e0 about1 theMethod args0 below0 :=
  ⟨lists_1, trivial, launch0.admits_env _ _ _, launch0.least_env, fairChoices_fair.cas, fairChoices_fair.clock, w_frames, w_args, w_heap, w_applies, ⟨w_consts, trivial⟩, w_rest, w_case⟩
end start1
theorem witness_1 : WitnessClaimed_1 := ⟨start1.p0, start1.e0, start1.about1, start1.theMethod, start1.args0, start1.below0, start1.atStart⟩
end Jvm.Pilot.@@N@@
