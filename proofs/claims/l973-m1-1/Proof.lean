import JvmDerived
import JvmDerived.Pilot.@@N@@Statement
import JvmDerived.Pilot.@@N@@Code
set_option linter.unusedVariables false
set_option linter.unusedSimpArgs false
namespace Jvm.Pilot.@@N@@
open Jvm Jvm.ClassFile Sem Op Lib Jvm.Free Jvm.Stand Jvm.LawKit Jvm.RoadKit Bundle Jvm.Pilot.@@N@@.Jvm.D
section Own
variable {p : Program} {l : Launch} {e : Env} {R : Room} {s : State} {m : MethodId} {args : Array Value} {below : List Frame} {meth : Method} {c : Code} {T : State} {locs : List Loc} {cells slots : Nat} {k n : Nat} {Q : Option Value → Heap → List Loc → Prop} {FF : State → Option Value → Prop} {pc q q' : Nat} {Ls l' : Array Slot} {st rest : List Value}
/-- from U the run comes to a return that FF allows -/
def own_G (p : Program) (e : Env) (below : List Frame) (FF : State → Option Value → Prop) (U : State) : Prop :=
  ∃ s₂ v, Steps p.tables e below U s₂ ∧ s₂.status = .running ∧ Ended s₂ below (.returned v) ∧ FF s₂ v
/-- .. that Q allows, with at most k cells and n slots made since s -/
def own_En (s : State) (k n : Nat) (Q : Option Value → Heap → List Loc → Prop) : State → Option Value → Prop := fun s₂ v => ∃ L, Q v s₂.heap L ∧ FrameEnd s (.returned v) s₂ L k n
theorem own_G.via {U U' : State} (g : own_G p e below FF U') (h : ∀ t, Steps p.tables e below U' t → Steps p.tables e below U t) : own_G p e below FF U := by
  obtain ⟨s₂, o, h1, h2⟩ := g
  exact ⟨s₂, o, h _ h1, h2⟩
theorem own_retI (X : Stand p l e R s m args below meth c T locs cells slots) (hx : p.tables.exec = Jvm.exec) {z : Int32} (hret : meth.sig.returnType = some .int) (hlk : meth.locks = false) (hd : decode c.code pc = .ok (.ireturn, 1)) (hk : cells ≤ k) (hn : slots ≤ n) (hq : Q (some (.int z)) T.heap locs) :
    own_G p e below (own_En s k n Q) (T.setTop (mkF m pc Ls [.int z])) := by
  obtain ⟨fs, hr, hrun, hended, hW, hsame⟩ := X.leave (v := some (.int z)) (fun h => by rw [hret] at h; cases h) hlk
  exact ⟨_, _, X.ireturnOut hx hret rfl (Or.inl rfl) hd hr, hrun, hended, _, hq, ⟨_, rfl⟩, hW, hsame.mono hk hn⟩
theorem own_retN (X : Stand p l e R s m args below meth c T locs cells slots) (hx : p.tables.exec = Jvm.exec) {z w : Int32} {t : FieldType} (hret : meth.sig.returnType = some t) (hlk : meth.locks = false) (ht : t = .boolean ∨ t = .byte ∨ t = .char ∨ t = .short) (hd : decode c.code pc = .ok (.ireturn, 1)) (hk : cells ≤ k) (hn : slots ≤ n) (hz : nar t z = w) (hq : Q (some (.int w)) T.heap locs) :
    own_G p e below (own_En s k n Q) (T.setTop (mkF m pc Ls [.int z])) := by
  subst hz
  obtain ⟨fs, hr, hrun, hended, hW, hsame⟩ := X.leave (v := some (.int (nar t z))) (fun h => by rw [hret] at h; cases h) hlk
  exact ⟨_, _, retN X hx hret ht hd hr, hrun, hended, _, hq, ⟨_, rfl⟩, hW, hsame.mono hk hn⟩
theorem own_retL (X : Stand p l e R s m args below meth c T locs cells slots) (hx : p.tables.exec = Jvm.exec) {z : Int64} (hret : meth.sig.returnType = some .long) (hlk : meth.locks = false) (hd : decode c.code pc = .ok (.lreturn, 1)) (hk : cells ≤ k) (hn : slots ≤ n) (hq : Q (some (.long z)) T.heap locs) :
    own_G p e below (own_En s k n Q) (T.setTop (mkF m pc Ls [.long z])) := by
  obtain ⟨fs, hr, hrun, hended, hW, hsame⟩ := X.leave (v := some (.long z)) (fun h => by rw [hret] at h; cases h) hlk
  exact ⟨_, _, X.lreturnOut hx hret hd hr, hrun, hended, _, hq, ⟨_, rfl⟩, hW, hsame.mono hk hn⟩
theorem own_retV (X : Stand p l e R s m args below meth c T locs cells slots) (hx : p.tables.exec = Jvm.exec) (hret : meth.sig.returnType = none) (hlk : meth.locks = false) (hd : decode c.code pc = .ok (.return_, 1)) (hk : cells ≤ k) (hn : slots ≤ n) (hq : Q none T.heap locs) :
    own_G p e below (own_En s k n Q) (T.setTop (mkF m pc Ls [])) := by
  obtain ⟨fs, hr, hrun, hended, hW, hsame⟩ := X.leave (v := none) (fun _ => rfl) hlk
  exact ⟨_, _, X.returnOut hx hret hd hr, hrun, hended, _, hq, ⟨_, rfl⟩, hW, hsame.mono hk hn⟩
theorem own_body {y : MethodName} {bytes : ByteArray} {maxL : Nat} {ret : Option FieldType} {ws : List Jvm.Cond} {rm : Room} {as' : Array Value} {h0 : Heap} {Z : State} (hpn : plainFor y = true)
    (body : ∀ (p : Program) (e : Env) (s : State) (m : MethodId) (below : List Frame) (meth : Method) (c : Code) (s₁ : State), p.tables.exec = Jvm.exec → c.code = bytes → c.maxLocals = maxL → s.vm.findClass y.cls = some m.cls → meth.name = y.name → meth.sig.returnType = ret → meth.locks = false → Z.Warmed39 s.vm →
      Stand p l e rm s m as' below meth c s₁ [] 0 0 → s₁.heap = h0 → own_G p e below (own_En s rm.cells rm.slots Q) (s₁.setTop (entryFrame m as' maxL))) :
    MetFree l y (head1 (Jvm.Cond.code y bytes maxL ret :: ws) rm) (fun a U => a = as' ∧ Z.Warmed39 U.vm ∧ U.heap = h0) (fun _ _ _ _ _ => True) (fun _ U o U' => ∃ v L, o = .returned v ∧ Q v U'.heap L ∧ FrameEnd U o U' L rm.cells rm.slots) := by
  refine MetFree.of_bodySF hpn hisR ?_
  intro p e s m args below meth c s₁ Bd hml0 hP hK
  obtain ⟨rfl, hZ, hh⟩ := hP
  obtain ⟨s₂, v, h1, h2, h3, L, hq, hf⟩ := body p e s m below meth c s₁ Bd.exec Bd.bytes hml0 (findClass_of_methodNamed Bd.named) (name_of_methodNamed Bd.named Bd.method).1 Bd.returns Bd.notSynchronized hZ (Stand.of_body Bd) (by rw [← hh, Bd.state]; rfl)
  exact ⟨s₂, _, h1, h2, h3, v, L, rfl, hq, hf⟩
/-- a static call by the callee's contract -/
theorem own_callS {Z : State} {a0 : Array Value} {h : Heap} (X : Stand p l e R s m args below meth c T locs cells slots) (hx : p.tables.exec = Jvm.exec) (hZ : Z.Warmed39 s.vm) {own : String} {index : Nat} {y : MethodName} {bytes : ByteArray} {maxL : Nat} {ret : Option FieldType}
    (hown : s.vm.findClass own = some m.cls) (w1 : (Jvm.Cond.methodLink own index y).before a0 Z = true) (w2 : (Jvm.Cond.static y).before a0 Z = true) (w3 : (Jvm.Cond.initialized y.cls).before a0 Z = true) (w4 : (Jvm.Cond.code y bytes maxL ret).before a0 Z = true)
    (hy : y.cls ≠ "java/lang/invoke/MethodHandle" ∧ y.cls ≠ "java/lang/invoke/VarHandle") {rm : Room} {as' : Array Value} {Q' : Option Value → Heap → List Loc → Prop} {W : Nat}
    (hM : MetFree l y (head1 [Jvm.Cond.code y bytes maxL ret] rm) (fun a U => a = as' ∧ Z.Warmed39 U.vm ∧ U.heap = h) (fun _ _ _ _ _ => True) (fun _ U o U' => ∃ v L, o = .returned v ∧ Q' v U'.heap L ∧ FrameEnd U o U' L rm.cells rm.slots))
    (hf : rm.frames + 1 ≤ R.frames) (hl : W + (maxL + 11) + rm.locals ≤ R.locals) (eT : T.heap = h) (hsize : Ls.size = c.maxLocals) {argsL : List Value}
    (hlen : ∀ sig, parseMethodDescriptor y.desc = some sig → argsL.length = sig.parameters.length) (hst : st = argsL.reverse ++ rest) (hW : (rest.map fun v => v.category).sum = W) (hd : decode c.code pc = .ok (.invokestatic index, 3)) (hq : pc + 3 = q) (has : argsL.toArray = as') (hc : cells + rm.cells ≤ R.cells) (hs : slots + rm.slots ≤ R.slots)
    (g : ∀ v T' L, Q' v T'.heap L → Stand p l e R s m args below meth c T' (locs ++ L) (cells + rm.cells) (slots + rm.slots) → own_G p e below FF (T'.setTop (mkF m q Ls (v.toList ++ rest)))) :
    own_G p e below FF (T.setTop (mkF m pc Ls st)) := by
  subst hq hst
  obtain ⟨v, _, ⟨T7, L7, k7, n7⟩, -, X7, ⟨Lc7, hQ7, l7, y7, z7⟩, st7⟩ := Jvm.LawKit.callS X hx hown (mvT hZ w1) (mvT hZ w2) (mvT hZ w3) (mvT hZ w4) hy (backOf (W := W) hM hZ w4 w3 hf hl) (g := mkF m pc Ls (argsL.reverse ++ rest)) rfl hsize hlen rfl (by show 2 * 0 + _ ≤ _; rw [hW]; omega) hd (fun _ _ => ⟨has, eT, hc, hs⟩)
  dsimp only [Pt.U, Pt.locs, Pt.cells, Pt.slots] at X7 l7 y7 z7 st7 hQ7
  subst l7 y7 z7
  exact (g v T7 Lc7 hQ7 X7).via fun t => st7 t
/-- a static call that leaves the heap as it was -/
theorem own_callSP {Z : State} {a0 : Array Value} {h : Heap} (X : Stand p l e R s m args below meth c T locs cells slots) (hx : p.tables.exec = Jvm.exec) (hZ : Z.Warmed39 s.vm) {own : String} {index : Nat} {y : MethodName} {bytes : ByteArray} {maxL : Nat} {ret : Option FieldType}
    (hown : s.vm.findClass own = some m.cls) (w1 : (Jvm.Cond.methodLink own index y).before a0 Z = true) (w2 : (Jvm.Cond.static y).before a0 Z = true) (w3 : (Jvm.Cond.initialized y.cls).before a0 Z = true) (w4 : (Jvm.Cond.code y bytes maxL ret).before a0 Z = true)
    (hy : y.cls ≠ "java/lang/invoke/MethodHandle" ∧ y.cls ≠ "java/lang/invoke/VarHandle") {rm : Room} {as' : Array Value} {P : Value → Prop} {W : Nat}
    (hM : MetFree l y (head1 [Jvm.Cond.code y bytes maxL ret] rm) (fun a U => a = as' ∧ Z.Warmed39 U.vm ∧ U.heap = h) (fun _ _ _ _ _ => True) (fun _ U o U' => ∃ v L, o = .returned v ∧ ((∃ w, v = some w ∧ P w) ∧ L = [] ∧ U'.heap = h) ∧ FrameEnd U o U' L rm.cells rm.slots))
    (hf : rm.frames + 1 ≤ R.frames) (hl : W + (maxL + 11) + rm.locals ≤ R.locals) (eT : T.heap = h) (hsize : Ls.size = c.maxLocals) {argsL : List Value}
    (hlen : ∀ sig, parseMethodDescriptor y.desc = some sig → argsL.length = sig.parameters.length) (hst : st = argsL.reverse ++ rest) (hW : (rest.map fun v => v.category).sum = W) (hd : decode c.code pc = .ok (.invokestatic index, 3)) (hq : pc + 3 = q) (has : argsL.toArray = as') (hc : rm.cells = 0) (hs : rm.slots = 0) (hcc : cells ≤ R.cells) (hss : slots ≤ R.slots)
    (g : ∀ w T', P w → Stand p l e R s m args below meth c T' locs cells slots → T'.heap = h → own_G p e below FF (T'.setTop (mkF m q Ls (w :: rest)))) :
    own_G p e below FF (T.setTop (mkF m pc Ls st)) := by
  refine own_callS (Q' := fun v U L => (∃ w, v = some w ∧ P w) ∧ L = [] ∧ U = h) X hx hZ hown w1 w2 w3 w4 hy hM hf hl eT hsize hlen hst hW hd hq has (by rw [hc]; exact hcc) (by rw [hs]; exact hss) ?_
  rintro v T' L ⟨⟨w, rfl, hP⟩, rfl, e'⟩ X'
  rw [List.append_nil, hc, hs] at X'
  exact g w T' hP X' e'
/-- a virtual call by the callee's contract; the receiver is exactly of class C -/
theorem own_callV {Z : State} {a0 : Array Value} {h : Heap} (X : Stand p l e R s m args below meth c T locs cells slots) (hx : p.tables.exec = Jvm.exec) (hZ : Z.Warmed39 s.vm) {own C : String} {index : Nat} {y : MethodName} {bytes : ByteArray} {maxL : Nat} {ret : Option FieldType}
    (hown : s.vm.findClass own = some m.cls) (w1 : (Jvm.Cond.methodLink own index y).before a0 Z = true) (w2 : (Jvm.Cond.declares y).before a0 Z = true) (w3 : (Jvm.Cond.selects C y y).before a0 Z = true) (w4 : (Jvm.Cond.instanceMethod y).before a0 Z = true) (w5 : (Jvm.Cond.code y bytes maxL ret).before a0 Z = true) (w6 : (Jvm.Cond.initialized y.cls).before a0 Z = true)
    (hy : y.cls ≠ "java/lang/invoke/MethodHandle" ∧ y.cls ≠ "java/lang/invoke/VarHandle") {rm : Room} {as' : Array Value} {Q' : Option Value → Heap → List Loc → Prop} {W : Nat}
    (hM : MetFree l y (head1 [Jvm.Cond.code y bytes maxL ret] rm) (fun a U => a = as' ∧ Z.Warmed39 U.vm ∧ U.heap = h) (fun _ _ _ _ _ => True) (fun _ U o U' => ∃ v L, o = .returned v ∧ Q' v U'.heap L ∧ FrameEnd U o U' L rm.cells rm.slots))
    {b : Addr} (E : Exa Z h b C)
    (hf : rm.frames + 1 ≤ R.frames) (hl : W + (maxL + 11) + rm.locals ≤ R.locals) (eT : T.heap = h) (hsize : Ls.size = c.maxLocals) {argsL : List Value}
    (hlen : ∀ sig, parseMethodDescriptor y.desc = some sig → argsL.length = sig.parameters.length) (hst : st = argsL.reverse ++ .ref b :: rest) (hW : (rest.map fun v => v.category).sum = W) (hd : decode c.code pc = .ok (.invokevirtual index, 3)) (hq : pc + 3 = q) (has : (.ref b :: argsL).toArray = as') (hc : cells + rm.cells ≤ R.cells) (hs : slots + rm.slots ≤ R.slots)
    (g : ∀ v T' L, Q' v T'.heap L → Stand p l e R s m args below meth c T' (locs ++ L) (cells + rm.cells) (slots + rm.slots) → own_G p e below FF (T'.setTop (mkF m q Ls (v.toList ++ rest)))) :
    own_G p e below FF (T.setTop (mkF m pc Ls st)) := by
  subst hq hst
  obtain ⟨cq, kq, qa, qb, qc⟩ := isOf hZ eT E
  obtain ⟨v, _, ⟨T7, L7, k7, n7⟩, -, X7, ⟨Lc7, hQ7, l7, y7, z7⟩, st7⟩ := X.virtualBack hx hown (mvT hZ w1) (mvT hZ w2) (notFace_of_selects (args := #[]) (mvT hZ w3)) (mvT hZ w3) (mvT hZ w4) hy (backOf (W := W) hM hZ w5 w6 hf hl) qa qc (g := mkF m pc Ls (argsL.reverse ++ .ref b :: rest)) rfl hsize (Steps.refl _) (argsL := argsL) (rest := rest) hlen rfl (by show 2 * 0 + _ ≤ _; rw [hW]; omega) hd (fun _ _ => ⟨has, eT, hc, hs⟩)
  dsimp only [Pt.U, Pt.locs, Pt.cells, Pt.slots] at X7 l7 y7 z7 st7 hQ7
  subst l7 y7 z7
  exact (g v T7 Lc7 hQ7 X7).via fun t hh => st7.trans hh
/-- a constructor's call by its contract -/
theorem own_callN {Z : State} {a0 : Array Value} {h : Heap} (X : Stand p l e R s m args below meth c T locs cells slots) (hx : p.tables.exec = Jvm.exec) (hZ : Z.Warmed39 s.vm) {own : String} {index : Nat} {y : MethodName} {bytes : ByteArray} {maxL : Nat}
    (hyn : y.name = "<init>") (hown : s.vm.findClass own = some m.cls) (w1 : (Jvm.Cond.methodLink own index y).before a0 Z = true) (w2 : (Jvm.Cond.instanceMethod y).before a0 Z = true) (w3 : (Jvm.Cond.initialized y.cls).before a0 Z = true) (w4 : (Jvm.Cond.code y bytes maxL none).before a0 Z = true)
    (hy : y.cls ≠ "java/lang/invoke/MethodHandle" ∧ y.cls ≠ "java/lang/invoke/VarHandle") {rm : Room} {as' : Array Value} {Q' : Option Value → Heap → List Loc → Prop} {W : Nat}
    (hM : MetFree l y (head1 [Jvm.Cond.code y bytes maxL none] rm) (fun a U => a = as' ∧ Z.Warmed39 U.vm ∧ U.heap = h) (fun _ _ _ _ _ => True) (fun _ U o U' => ∃ v L, o = .returned v ∧ Q' v U'.heap L ∧ FrameEnd U o U' L rm.cells rm.slots))
    {b : Addr} (hf : rm.frames + 1 ≤ R.frames) (hl : W + (maxL + 11) + rm.locals ≤ R.locals) (eT : T.heap = h) (hsize : Ls.size = c.maxLocals) {argsL : List Value}
    (hlen : ∀ sig, parseMethodDescriptor y.desc = some sig → argsL.length = sig.parameters.length) (hst : st = argsL.reverse ++ .ref b :: rest) (hW : (rest.map fun v => v.category).sum = W) (hd : decode c.code pc = .ok (.invokespecial index, 3)) (hq : pc + 3 = q) (has : (.ref b :: argsL).toArray = as') (hc : cells + rm.cells ≤ R.cells) (hs : slots + rm.slots ≤ R.slots)
    (g : ∀ v T' L, Q' v T'.heap L → Stand p l e R s m args below meth c T' (locs ++ L) (cells + rm.cells) (slots + rm.slots) → own_G p e below FF (T'.setTop (mkF m q Ls (v.toList ++ rest)))) :
    own_G p e below FF (T.setTop (mkF m pc Ls st)) := by
  subst hq hst
  obtain ⟨v, _, ⟨T7, L7, k7, n7⟩, -, X7, ⟨Lc7, hQ7, l7, y7, z7⟩, st7⟩ := X.specialBack hx hyn hown (mvT hZ w1) (mvT hZ w2) (mvT hZ w4) hy (backOf (W := W) hM hZ w4 w3 hf hl) (g := mkF m pc Ls (argsL.reverse ++ .ref b :: rest)) rfl hsize (Steps.refl _) (a := b) (argsL := argsL) (rest := rest) hlen rfl (by show 2 * 0 + _ ≤ _; rw [hW]; omega) hd (fun _ _ => ⟨has, eT, hc, hs⟩)
  dsimp only [Pt.U, Pt.locs, Pt.cells, Pt.slots] at X7 l7 y7 z7 st7 hQ7
  subst l7 y7 z7
  exact (g v T7 Lc7 hQ7 X7).via fun t hh => st7.trans hh
theorem own_ldcI {Z : State} {a0 : Array Value} (X : Stand p l e R s m args below meth c T locs cells slots) (hx : p.tables.exec = Jvm.exec) (hZ : Z.Warmed39 s.vm) {own : String} {index : Nat} {v : Int32} (hown : s.vm.findClass own = some m.cls) (w : (Jvm.Cond.constant own index v).before a0 Z = true) (hd : decode c.code pc = .ok (.ldc index, 2)) (hq : pc + 2 = q)
    (g : own_G p e below FF (T.setTop (mkF m q Ls (.int v :: st)))) : own_G p e below FF (T.setTop (mkF m pc Ls st)) := by
  subst hq; exact g.via fun t => X.ldcInt hx hown (mvT hZ w) (g := mkF m pc Ls st) rfl hd t
theorem own_ldcL {Z : State} {a0 : Array Value} (X : Stand p l e R s m args below meth c T locs cells slots) (hx : p.tables.exec = Jvm.exec) (hZ : Z.Warmed39 s.vm) {own : String} {index : Nat} {v : Int64} (hown : s.vm.findClass own = some m.cls) (w : (Jvm.Cond.constantLong own index v).before a0 Z = true) (hd : decode c.code pc = .ok (.ldc2_w index, 3)) (hq : pc + 3 = q)
    (g : own_G p e below FF (T.setTop (mkF m q Ls (.long v :: st)))) : own_G p e below FF (T.setTop (mkF m pc Ls st)) := by
  subst hq; exact g.via fun t => X.ldc2Long hx hown (mvT hZ w) (g := mkF m pc Ls st) rfl hd t
theorem own_iadd (X : Stand p l e R s m args below meth c T locs cells slots) (hx : p.tables.exec = Jvm.exec) {x y : Int32} (hd : decode c.code pc = .ok (.iadd, 1))  (hq : pc + 1 = q) (g : own_G p e below FF (T.setTop (mkF m q Ls (.int (x + y) :: rest)))) : own_G p e below FF (T.setTop (mkF m pc Ls (.int y :: .int x :: rest))) := by
  subst hq; exact g.via fun _ hr_ => XS.iadd (g := mkF m pc Ls (.int y :: .int x :: rest)) X.here hx rfl hd rfl hr_
theorem own_isub (X : Stand p l e R s m args below meth c T locs cells slots) (hx : p.tables.exec = Jvm.exec) {x y : Int32} (hd : decode c.code pc = .ok (.isub, 1))  (hq : pc + 1 = q) (g : own_G p e below FF (T.setTop (mkF m q Ls (.int (x - y) :: rest)))) : own_G p e below FF (T.setTop (mkF m pc Ls (.int y :: .int x :: rest))) := by
  subst hq; exact g.via fun _ hr_ => XS.isub (g := mkF m pc Ls (.int y :: .int x :: rest)) X.here hx rfl hd rfl hr_
theorem own_imul (X : Stand p l e R s m args below meth c T locs cells slots) (hx : p.tables.exec = Jvm.exec) {x y : Int32} (hd : decode c.code pc = .ok (.imul, 1))  (hq : pc + 1 = q) (g : own_G p e below FF (T.setTop (mkF m q Ls (.int (x * y) :: rest)))) : own_G p e below FF (T.setTop (mkF m pc Ls (.int y :: .int x :: rest))) := by
  subst hq; exact g.via fun _ hr_ => XS.imul (g := mkF m pc Ls (.int y :: .int x :: rest)) X.here hx rfl hd rfl hr_
theorem own_iand (X : Stand p l e R s m args below meth c T locs cells slots) (hx : p.tables.exec = Jvm.exec) {x y : Int32} (hd : decode c.code pc = .ok (.iand, 1))  (hq : pc + 1 = q) (g : own_G p e below FF (T.setTop (mkF m q Ls (.int (x &&& y) :: rest)))) : own_G p e below FF (T.setTop (mkF m pc Ls (.int y :: .int x :: rest))) := by
  subst hq; exact g.via fun _ hr_ => XS.iand (g := mkF m pc Ls (.int y :: .int x :: rest)) X.here hx rfl hd rfl hr_
theorem own_ixor (X : Stand p l e R s m args below meth c T locs cells slots) (hx : p.tables.exec = Jvm.exec) {x y : Int32} (hd : decode c.code pc = .ok (.ixor, 1))  (hq : pc + 1 = q) (g : own_G p e below FF (T.setTop (mkF m q Ls (.int (x ^^^ y) :: rest)))) : own_G p e below FF (T.setTop (mkF m pc Ls (.int y :: .int x :: rest))) := by
  subst hq; exact g.via fun _ hr_ => XT.ixor (g := mkF m pc Ls (.int y :: .int x :: rest)) X.here hx rfl hd rfl hr_
theorem own_ior (X : Stand p l e R s m args below meth c T locs cells slots) (hx : p.tables.exec = Jvm.exec) {x y : Int32} (hd : decode c.code pc = .ok (.ior, 1))  (hq : pc + 1 = q) (g : own_G p e below FF (T.setTop (mkF m q Ls (.int (x ||| y) :: rest)))) : own_G p e below FF (T.setTop (mkF m pc Ls (.int y :: .int x :: rest))) := by
  subst hq; exact g.via fun _ hr_ => XT.ior (g := mkF m pc Ls (.int y :: .int x :: rest)) X.here hx rfl hd rfl hr_
theorem own_ishl (X : Stand p l e R s m args below meth c T locs cells slots) (hx : p.tables.exec = Jvm.exec) {x y : Int32} (hd : decode c.code pc = .ok (.ishl, 1))  (hq : pc + 1 = q) (g : own_G p e below FF (T.setTop (mkF m q Ls (.int (x <<< (y &&& 31)) :: rest)))) : own_G p e below FF (T.setTop (mkF m pc Ls (.int y :: .int x :: rest))) := by
  subst hq; exact g.via fun _ hr_ => XT.ishl (g := mkF m pc Ls (.int y :: .int x :: rest)) X.here hx rfl hd rfl hr_
theorem own_ishr (X : Stand p l e R s m args below meth c T locs cells slots) (hx : p.tables.exec = Jvm.exec) {x y : Int32} (hd : decode c.code pc = .ok (.ishr, 1))  (hq : pc + 1 = q) (g : own_G p e below FF (T.setTop (mkF m q Ls (.int (x >>> (y &&& 31)) :: rest)))) : own_G p e below FF (T.setTop (mkF m pc Ls (.int y :: .int x :: rest))) := by
  subst hq; exact g.via fun _ hr_ => XT.ishr (g := mkF m pc Ls (.int y :: .int x :: rest)) X.here hx rfl hd rfl hr_
theorem own_iushr (X : Stand p l e R s m args below meth c T locs cells slots) (hx : p.tables.exec = Jvm.exec) {x y : Int32} (hd : decode c.code pc = .ok (.iushr, 1))  (hq : pc + 1 = q) (g : own_G p e below FF (T.setTop (mkF m q Ls (.int (XT.ushr x y) :: rest)))) : own_G p e below FF (T.setTop (mkF m pc Ls (.int y :: .int x :: rest))) := by
  subst hq; exact g.via fun _ hr_ => XT.iushr (g := mkF m pc Ls (.int y :: .int x :: rest)) X.here hx rfl hd rfl hr_
theorem own_idiv (X : Stand p l e R s m args below meth c T locs cells slots) (hx : p.tables.exec = Jvm.exec) {x y : Int32} (hd : decode c.code pc = .ok (.idiv, 1)) (hy : y ≠ 0) (hq : pc + 1 = q) (g : own_G p e below FF (T.setTop (mkF m q Ls (.int (x / y) :: rest)))) : own_G p e below FF (T.setTop (mkF m pc Ls (.int y :: .int x :: rest))) := by
  subst hq; exact g.via fun _ hr_ => XS.idiv (g := mkF m pc Ls (.int y :: .int x :: rest)) X.here hx rfl hd rfl hy hr_
theorem own_irem (X : Stand p l e R s m args below meth c T locs cells slots) (hx : p.tables.exec = Jvm.exec) {x y : Int32} (hd : decode c.code pc = .ok (.irem, 1)) (hy : y ≠ 0) (hq : pc + 1 = q) (g : own_G p e below FF (T.setTop (mkF m q Ls (.int (x - (x / y) * y) :: rest)))) : own_G p e below FF (T.setTop (mkF m pc Ls (.int y :: .int x :: rest))) := by
  subst hq; exact g.via fun _ hr_ => XS.irem (g := mkF m pc Ls (.int y :: .int x :: rest)) X.here hx rfl hd rfl hy hr_
theorem own_ladd (X : Stand p l e R s m args below meth c T locs cells slots) (hx : p.tables.exec = Jvm.exec) {x y : Int64} (hd : decode c.code pc = .ok (.ladd, 1))  (hq : pc + 1 = q) (g : own_G p e below FF (T.setTop (mkF m q Ls (.long (x + y) :: rest)))) : own_G p e below FF (T.setTop (mkF m pc Ls (.long y :: .long x :: rest))) := by
  subst hq; exact g.via fun _ hr_ => XT.ladd (g := mkF m pc Ls (.long y :: .long x :: rest)) X.here hx rfl hd rfl hr_
theorem own_lsub (X : Stand p l e R s m args below meth c T locs cells slots) (hx : p.tables.exec = Jvm.exec) {x y : Int64} (hd : decode c.code pc = .ok (.lsub, 1))  (hq : pc + 1 = q) (g : own_G p e below FF (T.setTop (mkF m q Ls (.long (x - y) :: rest)))) : own_G p e below FF (T.setTop (mkF m pc Ls (.long y :: .long x :: rest))) := by
  subst hq; exact g.via fun _ hr_ => XT.lsub (g := mkF m pc Ls (.long y :: .long x :: rest)) X.here hx rfl hd rfl hr_
theorem own_lmul (X : Stand p l e R s m args below meth c T locs cells slots) (hx : p.tables.exec = Jvm.exec) {x y : Int64} (hd : decode c.code pc = .ok (.lmul, 1))  (hq : pc + 1 = q) (g : own_G p e below FF (T.setTop (mkF m q Ls (.long (x * y) :: rest)))) : own_G p e below FF (T.setTop (mkF m pc Ls (.long y :: .long x :: rest))) := by
  subst hq; exact g.via fun _ hr_ => XT.lmul (g := mkF m pc Ls (.long y :: .long x :: rest)) X.here hx rfl hd rfl hr_
theorem own_land (X : Stand p l e R s m args below meth c T locs cells slots) (hx : p.tables.exec = Jvm.exec) {x y : Int64} (hd : decode c.code pc = .ok (.land, 1))  (hq : pc + 1 = q) (g : own_G p e below FF (T.setTop (mkF m q Ls (.long (x &&& y) :: rest)))) : own_G p e below FF (T.setTop (mkF m pc Ls (.long y :: .long x :: rest))) := by
  subst hq; exact g.via fun _ hr_ => XT.land (g := mkF m pc Ls (.long y :: .long x :: rest)) X.here hx rfl hd rfl hr_
theorem own_lor (X : Stand p l e R s m args below meth c T locs cells slots) (hx : p.tables.exec = Jvm.exec) {x y : Int64} (hd : decode c.code pc = .ok (.lor, 1))  (hq : pc + 1 = q) (g : own_G p e below FF (T.setTop (mkF m q Ls (.long (x ||| y) :: rest)))) : own_G p e below FF (T.setTop (mkF m pc Ls (.long y :: .long x :: rest))) := by
  subst hq; exact g.via fun _ hr_ => XT.lor (g := mkF m pc Ls (.long y :: .long x :: rest)) X.here hx rfl hd rfl hr_
theorem own_lxor (X : Stand p l e R s m args below meth c T locs cells slots) (hx : p.tables.exec = Jvm.exec) {x y : Int64} (hd : decode c.code pc = .ok (.lxor, 1))  (hq : pc + 1 = q) (g : own_G p e below FF (T.setTop (mkF m q Ls (.long (x ^^^ y) :: rest)))) : own_G p e below FF (T.setTop (mkF m pc Ls (.long y :: .long x :: rest))) := by
  subst hq; exact g.via fun _ hr_ => XT.lxor (g := mkF m pc Ls (.long y :: .long x :: rest)) X.here hx rfl hd rfl hr_
theorem own_ldiv (X : Stand p l e R s m args below meth c T locs cells slots) (hx : p.tables.exec = Jvm.exec) {x y : Int64} (hd : decode c.code pc = .ok (.ldiv, 1)) (hy : y ≠ 0) (hq : pc + 1 = q) (g : own_G p e below FF (T.setTop (mkF m q Ls (.long (x / y) :: rest)))) : own_G p e below FF (T.setTop (mkF m pc Ls (.long y :: .long x :: rest))) := by
  subst hq; exact g.via fun _ hr_ => XT.ldiv (g := mkF m pc Ls (.long y :: .long x :: rest)) X.here hx rfl hd rfl hy hr_
theorem own_lrem (X : Stand p l e R s m args below meth c T locs cells slots) (hx : p.tables.exec = Jvm.exec) {x y : Int64} (hd : decode c.code pc = .ok (.lrem, 1)) (hy : y ≠ 0) (hq : pc + 1 = q) (g : own_G p e below FF (T.setTop (mkF m q Ls (.long (x - (x / y) * y) :: rest)))) : own_G p e below FF (T.setTop (mkF m pc Ls (.long y :: .long x :: rest))) := by
  subst hq; exact g.via fun _ hr_ => XT.lrem (g := mkF m pc Ls (.long y :: .long x :: rest)) X.here hx rfl hd rfl hy hr_
theorem own_lcmp (X : Stand p l e R s m args below meth c T locs cells slots) (hx : p.tables.exec = Jvm.exec) {x y : Int64} (hd : decode c.code pc = .ok (.lcmp, 1))  (hq : pc + 1 = q) (g : own_G p e below FF (T.setTop (mkF m q Ls (.int (XT.cmpL x y) :: rest)))) : own_G p e below FF (T.setTop (mkF m pc Ls (.long y :: .long x :: rest))) := by
  subst hq; exact g.via fun _ hr_ => XT.lcmp (g := mkF m pc Ls (.long y :: .long x :: rest)) X.here hx rfl hd rfl hr_
theorem own_lshl (X : Stand p l e R s m args below meth c T locs cells slots) (hx : p.tables.exec = Jvm.exec) {x : Int64} {y : Int32} (hd : decode c.code pc = .ok (.lshl, 1))  (hq : pc + 1 = q) (g : own_G p e below FF (T.setTop (mkF m q Ls (.long (x <<< (y.toInt64 &&& 63)) :: rest)))) : own_G p e below FF (T.setTop (mkF m pc Ls (.int y :: .long x :: rest))) := by
  subst hq; exact g.via fun _ hr_ => XT.lshl (g := mkF m pc Ls (.int y :: .long x :: rest)) X.here hx rfl hd rfl hr_
theorem own_lshr (X : Stand p l e R s m args below meth c T locs cells slots) (hx : p.tables.exec = Jvm.exec) {x : Int64} {y : Int32} (hd : decode c.code pc = .ok (.lshr, 1))  (hq : pc + 1 = q) (g : own_G p e below FF (T.setTop (mkF m q Ls (.long (x >>> (y.toInt64 &&& 63)) :: rest)))) : own_G p e below FF (T.setTop (mkF m pc Ls (.int y :: .long x :: rest))) := by
  subst hq; exact g.via fun _ hr_ => XT.lshr (g := mkF m pc Ls (.int y :: .long x :: rest)) X.here hx rfl hd rfl hr_
theorem own_lushr (X : Stand p l e R s m args below meth c T locs cells slots) (hx : p.tables.exec = Jvm.exec) {x : Int64} {y : Int32} (hd : decode c.code pc = .ok (.lushr, 1))  (hq : pc + 1 = q) (g : own_G p e below FF (T.setTop (mkF m q Ls (.long (XT.ushrL x y) :: rest)))) : own_G p e below FF (T.setTop (mkF m pc Ls (.int y :: .long x :: rest))) := by
  subst hq; exact g.via fun _ hr_ => XT.lushr (g := mkF m pc Ls (.int y :: .long x :: rest)) X.here hx rfl hd rfl hr_
theorem own_ineg (X : Stand p l e R s m args below meth c T locs cells slots) (hx : p.tables.exec = Jvm.exec) {x : Int32} (hd : decode c.code pc = .ok (.ineg, 1))  (hq : pc + 1 = q) (g : own_G p e below FF (T.setTop (mkF m q Ls (.int (-x) :: rest)))) : own_G p e below FF (T.setTop (mkF m pc Ls (.int x :: rest))) := by
  subst hq; exact g.via fun _ hr_ => XS.ineg (g := mkF m pc Ls (.int x :: rest)) X.here hx rfl hd rfl hr_
theorem own_lneg (X : Stand p l e R s m args below meth c T locs cells slots) (hx : p.tables.exec = Jvm.exec) {x : Int64} (hd : decode c.code pc = .ok (.lneg, 1))  (hq : pc + 1 = q) (g : own_G p e below FF (T.setTop (mkF m q Ls (.long (-x) :: rest)))) : own_G p e below FF (T.setTop (mkF m pc Ls (.long x :: rest))) := by
  subst hq; exact g.via fun _ hr_ => XT.lneg (g := mkF m pc Ls (.long x :: rest)) X.here hx rfl hd rfl hr_
theorem own_i2l (X : Stand p l e R s m args below meth c T locs cells slots) (hx : p.tables.exec = Jvm.exec) {x : Int32} (hd : decode c.code pc = .ok (.i2l, 1))  (hq : pc + 1 = q) (g : own_G p e below FF (T.setTop (mkF m q Ls (.long (x.toInt64) :: rest)))) : own_G p e below FF (T.setTop (mkF m pc Ls (.int x :: rest))) := by
  subst hq; exact g.via fun _ hr_ => XT.i2l (g := mkF m pc Ls (.int x :: rest)) X.here hx rfl hd rfl hr_
theorem own_l2i (X : Stand p l e R s m args below meth c T locs cells slots) (hx : p.tables.exec = Jvm.exec) {x : Int64} (hd : decode c.code pc = .ok (.l2i, 1))  (hq : pc + 1 = q) (g : own_G p e below FF (T.setTop (mkF m q Ls (.int (x.toInt32) :: rest)))) : own_G p e below FF (T.setTop (mkF m pc Ls (.long x :: rest))) := by
  subst hq; exact g.via fun _ hr_ => XT.l2i (g := mkF m pc Ls (.long x :: rest)) X.here hx rfl hd rfl hr_
theorem own_i2b (X : Stand p l e R s m args below meth c T locs cells slots) (hx : p.tables.exec = Jvm.exec) {x : Int32} (hd : decode c.code pc = .ok (.i2b, 1))  (hq : pc + 1 = q) (g : own_G p e below FF (T.setTop (mkF m q Ls (.int (x.toInt8.toInt32) :: rest)))) : own_G p e below FF (T.setTop (mkF m pc Ls (.int x :: rest))) := by
  subst hq; exact g.via fun _ hr_ => XT.i2b (g := mkF m pc Ls (.int x :: rest)) X.here hx rfl hd rfl hr_
theorem own_i2c (X : Stand p l e R s m args below meth c T locs cells slots) (hx : p.tables.exec = Jvm.exec) {x : Int32} (hd : decode c.code pc = .ok (.i2c, 1))  (hq : pc + 1 = q) (g : own_G p e below FF (T.setTop (mkF m q Ls (.int (x.toUInt32.toUInt16.toUInt32.toInt32) :: rest)))) : own_G p e below FF (T.setTop (mkF m pc Ls (.int x :: rest))) := by
  subst hq; exact g.via fun _ hr_ => XT.i2c (g := mkF m pc Ls (.int x :: rest)) X.here hx rfl hd rfl hr_
theorem own_iconst (X : Stand p l e R s m args below meth c T locs cells slots) (hx : p.tables.exec = Jvm.exec) {i : Int} {v : Int32} (hd : decode c.code pc = .ok (.iconst i, 1)) (hv : Int32.ofInt i = v) (hq : pc + 1 = q) (g : own_G p e below FF (T.setTop (mkF m q Ls (.int v :: st)))) : own_G p e below FF (T.setTop (mkF m pc Ls (st))) := by
  subst hq; subst hv; exact g.via fun _ hr_ => XS.iconst (g := mkF m pc Ls (st)) X.here hx rfl hd  hr_
theorem own_bipush (X : Stand p l e R s m args below meth c T locs cells slots) (hx : p.tables.exec = Jvm.exec) {i : Int} {v : Int32} (hd : decode c.code pc = .ok (.bipush i, 2)) (hv : (Int8.ofInt i).toInt32 = v) (hq : pc + 2 = q) (g : own_G p e below FF (T.setTop (mkF m q Ls (.int v :: st)))) : own_G p e below FF (T.setTop (mkF m pc Ls (st))) := by
  subst hq; subst hv; exact g.via fun _ hr_ => XS.bipush (g := mkF m pc Ls (st)) X.here hx rfl hd  hr_
theorem own_sipush (X : Stand p l e R s m args below meth c T locs cells slots) (hx : p.tables.exec = Jvm.exec) {i : Int} {v : Int32} (hd : decode c.code pc = .ok (.sipush i, 3)) (hv : (Int16.ofInt i).toInt32 = v) (hq : pc + 3 = q) (g : own_G p e below FF (T.setTop (mkF m q Ls (.int v :: st)))) : own_G p e below FF (T.setTop (mkF m pc Ls (st))) := by
  subst hq; subst hv; exact g.via fun _ hr_ => XS.sipush (g := mkF m pc Ls (st)) X.here hx rfl hd  hr_
theorem own_lconst (X : Stand p l e R s m args below meth c T locs cells slots) (hx : p.tables.exec = Jvm.exec) {i : Fin 2} {v : Int64} (hd : decode c.code pc = .ok (.lconst i, 1)) (hv : Int64.ofNat i = v) (hq : pc + 1 = q) (g : own_G p e below FF (T.setTop (mkF m q Ls (.long v :: st)))) : own_G p e below FF (T.setTop (mkF m pc Ls (st))) := by
  subst hq; subst hv; exact g.via fun _ hr_ => XT.lconst (g := mkF m pc Ls (st)) X.here hx rfl hd  hr_
theorem own_aconst_null (X : Stand p l e R s m args below meth c T locs cells slots) (hx : p.tables.exec = Jvm.exec)  (hd : decode c.code pc = .ok (.aconst_null, 1))  (hq : pc + 1 = q) (g : own_G p e below FF (T.setTop (mkF m q Ls (.null :: st)))) : own_G p e below FF (T.setTop (mkF m pc Ls (st))) := by
  subst hq; exact g.via fun _ hr_ => XS.aconstNull (g := mkF m pc Ls (st)) X.here hx rfl hd  hr_
theorem own_iload_n (X : Stand p l e R s m args below meth c T locs cells slots) (hx : p.tables.exec = Jvm.exec) {i : Fin 4} {v : Int32} (hd : decode c.code pc = .ok (.iload_n i, 1)) (hl : Ls[i.val]? = some (.val (.int v))) (hq : pc + 1 = q) (g : own_G p e below FF (T.setTop (mkF m q Ls (.int v :: st)))) : own_G p e below FF (T.setTop (mkF m pc Ls (st))) := by
  subst hq; exact g.via fun _ hr_ => XS.iloadN (g := mkF m pc Ls (st)) X.here hx rfl hd hl hr_
theorem own_iload (X : Stand p l e R s m args below meth c T locs cells slots) (hx : p.tables.exec = Jvm.exec) {i : Nat} {v : Int32} (hd : decode c.code pc = .ok (.iload i, 2)) (hl : Ls[i]? = some (.val (.int v))) (hq : pc + 2 = q) (g : own_G p e below FF (T.setTop (mkF m q Ls (.int v :: st)))) : own_G p e below FF (T.setTop (mkF m pc Ls (st))) := by
  subst hq; exact g.via fun _ hr_ => XS.iload (g := mkF m pc Ls (st)) X.here hx rfl hd hl hr_
theorem own_lload_n (X : Stand p l e R s m args below meth c T locs cells slots) (hx : p.tables.exec = Jvm.exec) {i : Fin 4} {v : Int64} (hd : decode c.code pc = .ok (.lload_n i, 1)) (hl : Ls[i.val]? = some (.val (.long v))) (hq : pc + 1 = q) (g : own_G p e below FF (T.setTop (mkF m q Ls (.long v :: st)))) : own_G p e below FF (T.setTop (mkF m pc Ls (st))) := by
  subst hq; exact g.via fun _ hr_ => XT.lloadN (g := mkF m pc Ls (st)) X.here hx rfl hd hl hr_
theorem own_lload (X : Stand p l e R s m args below meth c T locs cells slots) (hx : p.tables.exec = Jvm.exec) {i : Nat} {v : Int64} (hd : decode c.code pc = .ok (.lload i, 2)) (hl : Ls[i]? = some (.val (.long v))) (hq : pc + 2 = q) (g : own_G p e below FF (T.setTop (mkF m q Ls (.long v :: st)))) : own_G p e below FF (T.setTop (mkF m pc Ls (st))) := by
  subst hq; exact g.via fun _ hr_ => XT.lload (g := mkF m pc Ls (st)) X.here hx rfl hd hl hr_
theorem own_aload_n (X : Stand p l e R s m args below meth c T locs cells slots) (hx : p.tables.exec = Jvm.exec) {i : Fin 4} {v : Value} (hd : decode c.code pc = .ok (.aload_n i, 1)) (hl : Ls[i.val]? = some (.val v)) (hr : v.isRef = true) (hq : pc + 1 = q) (g : own_G p e below FF (T.setTop (mkF m q Ls (v :: st)))) : own_G p e below FF (T.setTop (mkF m pc Ls (st))) := by
  subst hq; exact g.via fun _ hr_ => XS.aloadN (g := mkF m pc Ls (st)) X.here hx rfl hd hl hr hr_
theorem own_aload (X : Stand p l e R s m args below meth c T locs cells slots) (hx : p.tables.exec = Jvm.exec) {i : Nat} {v : Value} (hd : decode c.code pc = .ok (.aload i, 2)) (hl : Ls[i]? = some (.val v)) (hr : v.isRef = true) (hq : pc + 2 = q) (g : own_G p e below FF (T.setTop (mkF m q Ls (v :: st)))) : own_G p e below FF (T.setTop (mkF m pc Ls (st))) := by
  subst hq; exact g.via fun _ hr_ => XS.aload (g := mkF m pc Ls (st)) X.here hx rfl hd hl hr hr_
theorem own_istore_n (X : Stand p l e R s m args below meth c T locs cells slots) (hx : p.tables.exec = Jvm.exec) {i : Fin 4} {v : Int32} (hd : decode c.code pc = .ok (.istore_n i, 1)) (hl : storeLocals Ls i.val (.int v) = some l') (hq : pc + 1 = q) (g : own_G p e below FF (T.setTop (mkF m q l' (rest)))) : own_G p e below FF (T.setTop (mkF m pc Ls (.int v :: rest))) := by
  subst hq; exact g.via fun _ hr_ => XS.istoreN (g := mkF m pc Ls (.int v :: rest)) X.here hx rfl hd rfl hl hr_
theorem own_istore (X : Stand p l e R s m args below meth c T locs cells slots) (hx : p.tables.exec = Jvm.exec) {i : Nat} {v : Int32} (hd : decode c.code pc = .ok (.istore i, 2)) (hl : storeLocals Ls i (.int v) = some l') (hq : pc + 2 = q) (g : own_G p e below FF (T.setTop (mkF m q l' (rest)))) : own_G p e below FF (T.setTop (mkF m pc Ls (.int v :: rest))) := by
  subst hq; exact g.via fun _ hr_ => XS.istore (g := mkF m pc Ls (.int v :: rest)) X.here hx rfl hd rfl hl hr_
theorem own_lstore_n (X : Stand p l e R s m args below meth c T locs cells slots) (hx : p.tables.exec = Jvm.exec) {i : Fin 4} {v : Int64} (hd : decode c.code pc = .ok (.lstore_n i, 1)) (hl : storeLocals Ls i.val (.long v) = some l') (hq : pc + 1 = q) (g : own_G p e below FF (T.setTop (mkF m q l' (rest)))) : own_G p e below FF (T.setTop (mkF m pc Ls (.long v :: rest))) := by
  subst hq; exact g.via fun _ hr_ => XT.lstoreN (g := mkF m pc Ls (.long v :: rest)) X.here hx rfl hd rfl hl hr_
theorem own_lstore (X : Stand p l e R s m args below meth c T locs cells slots) (hx : p.tables.exec = Jvm.exec) {i : Nat} {v : Int64} (hd : decode c.code pc = .ok (.lstore i, 2)) (hl : storeLocals Ls i (.long v) = some l') (hq : pc + 2 = q) (g : own_G p e below FF (T.setTop (mkF m q l' (rest)))) : own_G p e below FF (T.setTop (mkF m pc Ls (.long v :: rest))) := by
  subst hq; exact g.via fun _ hr_ => XT.lstore (g := mkF m pc Ls (.long v :: rest)) X.here hx rfl hd rfl hl hr_
theorem own_astore_n (X : Stand p l e R s m args below meth c T locs cells slots) (hx : p.tables.exec = Jvm.exec) {i : Fin 4} {v : Value} (hd : decode c.code pc = .ok (.astore_n i, 1)) (hr : v.isRef = true) (hl : storeLocals Ls i.val v = some l') (hq : pc + 1 = q) (g : own_G p e below FF (T.setTop (mkF m q l' (rest)))) : own_G p e below FF (T.setTop (mkF m pc Ls (v :: rest))) := by
  subst hq; exact g.via fun _ hr_ => XS.astoreN (g := mkF m pc Ls (v :: rest)) X.here hx rfl hd rfl hr hl hr_
theorem own_astore (X : Stand p l e R s m args below meth c T locs cells slots) (hx : p.tables.exec = Jvm.exec) {i : Nat} {v : Value} (hd : decode c.code pc = .ok (.astore i, 2)) (hr : v.isRef = true) (hl : storeLocals Ls i v = some l') (hq : pc + 2 = q) (g : own_G p e below FF (T.setTop (mkF m q l' (rest)))) : own_G p e below FF (T.setTop (mkF m pc Ls (v :: rest))) := by
  subst hq; exact g.via fun _ hr_ => XS.astore (g := mkF m pc Ls (v :: rest)) X.here hx rfl hd rfl hr hl hr_
theorem own_iinc (X : Stand p l e R s m args below meth c T locs cells slots) (hx : p.tables.exec = Jvm.exec) {i : Nat} {cst : Int} {v w : Int32} (hd : decode c.code pc = .ok (.iinc i cst, 3)) (hl : Ls[i]? = some (.val (.int v))) (hv : v + Int32.ofInt cst = w) (hs : storeLocals Ls i (.int w) = some l') (hq : pc + 3 = q) (g : own_G p e below FF (T.setTop (mkF m q l' (st)))) : own_G p e below FF (T.setTop (mkF m pc Ls (st))) := by
  subst hq; subst hv; exact g.via fun _ hr_ => XS.iinc (g := mkF m pc Ls (st)) X.here hx rfl hd hl hs hr_
theorem own_dup (X : Stand p l e R s m args below meth c T locs cells slots) (hx : p.tables.exec = Jvm.exec) {v : Value} (hd : decode c.code pc = .ok (.dup, 1)) (hc : v.category = 1) (hq : pc + 1 = q) (g : own_G p e below FF (T.setTop (mkF m q Ls (v :: v :: rest)))) : own_G p e below FF (T.setTop (mkF m pc Ls (v :: rest))) := by
  subst hq; exact g.via fun _ hr_ => XS.dup (g := mkF m pc Ls (v :: rest)) X.here hx rfl hd rfl hc hr_
theorem own_pop (X : Stand p l e R s m args below meth c T locs cells slots) (hx : p.tables.exec = Jvm.exec) {v : Value} (hd : decode c.code pc = .ok (.pop, 1)) (hc : v.category = 1) (hq : pc + 1 = q) (g : own_G p e below FF (T.setTop (mkF m q Ls (rest)))) : own_G p e below FF (T.setTop (mkF m pc Ls (v :: rest))) := by
  subst hq; exact g.via fun _ hr_ => XT.pop (g := mkF m pc Ls (v :: rest)) X.here hx rfl hd rfl hc hr_
theorem own_dup2L (X : Stand p l e R s m args below meth c T locs cells slots) (hx : p.tables.exec = Jvm.exec) {x : Int64} (hd : decode c.code pc = .ok (.dup2, 1))  (hq : pc + 1 = q) (g : own_G p e below FF (T.setTop (mkF m q Ls (.long x :: .long x :: rest)))) : own_G p e below FF (T.setTop (mkF m pc Ls (.long x :: rest))) := by
  subst hq; exact g.via fun _ hr_ => XT.dup2L (g := mkF m pc Ls (.long x :: rest)) X.here hx rfl hd rfl hr_
theorem own_dup2 (X : Stand p l e R s m args below meth c T locs cells slots) (hx : p.tables.exec = Jvm.exec) {v w : Value} (hd : decode c.code pc = .ok (.dup2, 1)) (hc : v.category = 1) (hc' : w.category = 1) (hq : pc + 1 = q) (g : own_G p e below FF (T.setTop (mkF m q Ls (v :: w :: v :: w :: rest)))) : own_G p e below FF (T.setTop (mkF m pc Ls (v :: w :: rest))) := by
  subst hq; exact g.via fun _ hr_ => XT.dup2 (g := mkF m pc Ls (v :: w :: rest)) X.here hx rfl hd rfl hc hc' hr_
theorem own_dup_x1 (X : Stand p l e R s m args below meth c T locs cells slots) (hx : p.tables.exec = Jvm.exec) {v w : Value} (hd : decode c.code pc = .ok (.dup_x1, 1)) (hc : v.category = 1) (hc' : w.category = 1) (hq : pc + 1 = q) (g : own_G p e below FF (T.setTop (mkF m q Ls (v :: w :: v :: rest)))) : own_G p e below FF (T.setTop (mkF m pc Ls (v :: w :: rest))) := by
  subst hq; exact g.via fun _ hr_ => XT.dupX1 (g := mkF m pc Ls (v :: w :: rest)) X.here hx rfl hd rfl hc hc' hr_
theorem own_goto (X : Stand p l e R s m args below meth c T locs cells slots) (hx : p.tables.exec = Jvm.exec) {o : Int} (hd : decode c.code pc = .ok (.goto o, 3)) (ho : 0 ≤ (pc : Int) + o) (hp : ((pc : Int) + o).toNat = q) (g : own_G p e below FF (T.setTop (mkF m q Ls st))) : own_G p e below FF (T.setTop (mkF m pc Ls st)) :=
  g.via fun _ hr => XS.goto (g := mkF m pc Ls st) X.here hx rfl (pc0 := pc) rfl hd ho hp hr
theorem own_if (X : Stand p l e R s m args below meth c T locs cells slots) (hx : p.tables.exec = Jvm.exec) {cd : ClassFile.Cond} {x : Int32} {o : Int} {P : Prop} [Decidable P] (hd : decode c.code pc = .ok (.ifCond cd o, 3)) (ho : 0 ≤ (pc : Int) + o) (hp : ((pc : Int) + o).toNat = q) (hq : pc + 3 = q') (hP : ifCond.holds cd x = decide P) (gy : P → own_G p e below FF (T.setTop (mkF m q Ls rest))) (gn : ¬ P → own_G p e below FF (T.setTop (mkF m q' Ls rest))) : own_G p e below FF (T.setTop (mkF m pc Ls (.int x :: rest))) := by
  by_cases h : P
  · exact (gy h).via fun _ hr => XS.ifYes (g := mkF m pc Ls (.int x :: rest)) X.here hx rfl (pc0 := pc) rfl hd rfl (by rw [hP]; exact decide_eq_true h) ho hp hr
  · subst hq; exact (gn h).via fun _ hr => XS.ifNo (g := mkF m pc Ls (.int x :: rest)) X.here hx rfl hd rfl (by rw [hP]; exact decide_eq_false h) hr
theorem own_icmp (X : Stand p l e R s m args below meth c T locs cells slots) (hx : p.tables.exec = Jvm.exec) {cd : ClassFile.Cond} {x y : Int32} {o : Int} {P : Prop} [Decidable P] (hd : decode c.code pc = .ok (.if_icmp cd o, 3)) (ho : 0 ≤ (pc : Int) + o) (hp : ((pc : Int) + o).toNat = q) (hq : pc + 3 = q') (hP : if_icmp.holds cd x y = decide P) (gy : P → own_G p e below FF (T.setTop (mkF m q Ls rest))) (gn : ¬ P → own_G p e below FF (T.setTop (mkF m q' Ls rest))) : own_G p e below FF (T.setTop (mkF m pc Ls (.int y :: .int x :: rest))) := by
  by_cases h : P
  · exact (gy h).via fun _ hr => XS.icmpYes (g := mkF m pc Ls (.int y :: .int x :: rest)) X.here hx rfl (pc0 := pc) rfl hd rfl (by rw [hP]; exact decide_eq_true h) ho hp hr
  · subst hq; exact (gn h).via fun _ hr => XS.icmpNo (g := mkF m pc Ls (.int y :: .int x :: rest)) X.here hx rfl hd rfl (by rw [hP]; exact decide_eq_false h) hr
theorem own_h_eq (x y : Int32) : if_icmp.holds .eq x y = decide (x.toInt = y.toInt) := by
  by_cases h : x = y
  · rw [(teq h).1, h]; simp
  · rw [(feq h).1]; symm; exact decide_eq_false fun q => h (Int32.toInt_inj.mp q)
theorem own_h_ne (x y : Int32) : if_icmp.holds .ne x y = decide (x.toInt ≠ y.toInt) := by
  by_cases h : x = y
  · rw [(teq h).2, h]; simp
  · rw [(feq h).2]; symm; exact decide_eq_true fun q => h (Int32.toInt_inj.mp q)
theorem own_h_lt (x y : Int32) : if_icmp.holds .lt x y = decide (x.toInt < y.toInt) := by
  by_cases h : x < y
  · rw [(tlt h).1]; symm; exact decide_eq_true (Int32.lt_iff_toInt_lt.mp h)
  · rw [(flt h).1]; symm; exact decide_eq_false fun q => h (Int32.lt_iff_toInt_lt.mpr q)
theorem own_h_ge (x y : Int32) : if_icmp.holds .ge x y = decide (y.toInt ≤ x.toInt) := by
  by_cases h : x < y
  · rw [(tlt h).2.1]; symm; exact decide_eq_false fun q => absurd (Int32.lt_iff_toInt_lt.mp h) (by omega)
  · rw [(flt h).2.1]; symm; exact decide_eq_true (Int.not_lt.mp fun q => h (Int32.lt_iff_toInt_lt.mpr q))
theorem own_h_gt (x y : Int32) : if_icmp.holds .gt x y = decide (y.toInt < x.toInt) := by
  by_cases h : y < x
  · rw [(tlt h).2.2.1]; symm; exact decide_eq_true (Int32.lt_iff_toInt_lt.mp h)
  · rw [(flt h).2.2.1]; symm; exact decide_eq_false fun q => h (Int32.lt_iff_toInt_lt.mpr q)
theorem own_h_le (x y : Int32) : if_icmp.holds .le x y = decide (x.toInt ≤ y.toInt) := by
  by_cases h : y < x
  · rw [(tlt h).2.2.2]; symm; exact decide_eq_false fun q => absurd (Int32.lt_iff_toInt_lt.mp h) (by omega)
  · rw [(flt h).2.2.2]; symm; exact decide_eq_true (Int.not_lt.mp fun q => h (Int32.lt_iff_toInt_lt.mpr q))
theorem own_z_eq (x : Int32) : ifCond.holds .eq x = decide (x.toInt = 0) := (if0 _ _).trans (own_h_eq x 0)
theorem own_z_ne (x : Int32) : ifCond.holds .ne x = decide (x.toInt ≠ 0) := (if0 _ _).trans (own_h_ne x 0)
theorem own_z_lt (x : Int32) : ifCond.holds .lt x = decide (x.toInt < 0) := (if0 _ _).trans (own_h_lt x 0)
theorem own_z_ge (x : Int32) : ifCond.holds .ge x = decide (0 ≤ x.toInt) := (if0 _ _).trans (own_h_ge x 0)
theorem own_z_gt (x : Int32) : ifCond.holds .gt x = decide (0 < x.toInt) := (if0 _ _).trans (own_h_gt x 0)
theorem own_z_le (x : Int32) : ifCond.holds .le x = decide (x.toInt ≤ 0) := (if0 _ _).trans (own_h_le x 0)
theorem own_cmpL (x y : Int64) : (x.toInt < y.toInt ∧ (XT.cmpL x y).toInt = -1) ∨ (x.toInt = y.toInt ∧ (XT.cmpL x y).toInt = 0) ∨ (y.toInt < x.toInt ∧ (XT.cmpL x y).toInt = 1) := by
  unfold XT.cmpL
  by_cases h1 : y < x
  · rw [if_pos h1]; exact Or.inr (Or.inr ⟨Int64.lt_iff_toInt_lt.mp h1, rfl⟩)
  · rw [if_neg h1]
    by_cases h2 : x = y
    · rw [if_pos h2]; exact Or.inr (Or.inl ⟨by rw [h2], rfl⟩)
    · rw [if_neg h2]
      have h3 : ¬ y.toInt < x.toInt := fun q => h1 (Int64.lt_iff_toInt_lt.mpr q)
      have h4 : ¬ x.toInt = y.toInt := fun q => h2 (Int64.toInt_inj.mp q)
      exact Or.inl ⟨by omega, rfl⟩
theorem own_l_eq (x y : Int64) : ifCond.holds .eq (XT.cmpL x y) = decide (x.toInt = y.toInt) := by
  rw [own_z_eq]; rcases own_cmpL x y with ⟨h, q⟩ | ⟨h, q⟩ | ⟨h, q⟩ <;> rw [q] <;> simp <;> omega
theorem own_l_ne (x y : Int64) : ifCond.holds .ne (XT.cmpL x y) = decide (x.toInt ≠ y.toInt) := by
  rw [own_z_ne]; rcases own_cmpL x y with ⟨h, q⟩ | ⟨h, q⟩ | ⟨h, q⟩ <;> rw [q] <;> simp <;> omega
theorem own_l_lt (x y : Int64) : ifCond.holds .lt (XT.cmpL x y) = decide (x.toInt < y.toInt) := by
  rw [own_z_lt]; rcases own_cmpL x y with ⟨h, q⟩ | ⟨h, q⟩ | ⟨h, q⟩ <;> rw [q] <;> simp <;> omega
theorem own_l_ge (x y : Int64) : ifCond.holds .ge (XT.cmpL x y) = decide (y.toInt ≤ x.toInt) := by
  rw [own_z_ge]; rcases own_cmpL x y with ⟨h, q⟩ | ⟨h, q⟩ | ⟨h, q⟩ <;> rw [q] <;> simp <;> omega
theorem own_l_gt (x y : Int64) : ifCond.holds .gt (XT.cmpL x y) = decide (y.toInt < x.toInt) := by
  rw [own_z_gt]; rcases own_cmpL x y with ⟨h, q⟩ | ⟨h, q⟩ | ⟨h, q⟩ <;> rw [q] <;> simp <;> omega
theorem own_l_le (x y : Int64) : ifCond.holds .le (XT.cmpL x y) = decide (x.toInt ≤ y.toInt) := by
  rw [own_z_le]; rcases own_cmpL x y with ⟨h, q⟩ | ⟨h, q⟩ | ⟨h, q⟩ <;> rw [q] <;> simp <;> omega
theorem own_addI (x y : Int32) (h1 : -2147483648 ≤ x.toInt + y.toInt) (h2 : x.toInt + y.toInt < 2147483648) : (x + y).toInt = x.toInt + y.toInt := by
  have := c_iadd x y; have := rng32 (x + y); omega
theorem own_subI (x y : Int32) (h1 : -2147483648 ≤ x.toInt - y.toInt) (h2 : x.toInt - y.toInt < 2147483648) : (x - y).toInt = x.toInt - y.toInt := by
  have := c_isub x y; have := rng32 (x - y); omega
theorem own_mulI (x y : Int32) (h1 : -2147483648 ≤ x.toInt * y.toInt) (h2 : x.toInt * y.toInt < 2147483648) : (x * y).toInt = x.toInt * y.toInt := by
  have := c_imul x y; have := rng32 (x * y); omega
theorem own_rem (x y : Int32) (h0 : 0 ≤ x.toInt) (hy : 0 < y.toInt) : (x - (x / y) * y).toInt = x.toInt % y.toInt := by
  have hne : y ≠ -1 := fun q => by rw [q] at hy; exact absurd hy (by decide)
  have h1 := (c_idiv x y y.toInt rfl hne).1 h0
  have h2 := c_imul (x / y) y
  rw [h1] at h2
  have h3 := c_isub x ((x / y) * y)
  have h4 := rng32 (x - (x / y) * y)
  have h5 := Int.emod_def x.toInt y.toInt
  rw [Int.mul_comm] at h5
  have h6 := Int.emod_nonneg x.toInt (Int.ne_of_gt hy)
  have h7 := Int.emod_lt_of_pos x.toInt hy
  have h8 := rng32 y
  generalize x.toInt / y.toInt * y.toInt = P at *
  generalize x.toInt % y.toInt = M at *
  omega
end Own
section Own2
variable {p : Program} {l : Launch} {e : Env} {R : Room} {s : State} {m : MethodId} {args : Array Value} {below : List Frame} {meth : Method} {c : Code} {T : State} {locs : List Loc} {cells slots : Nat} {k n : Nat} {Q : Option Value → Heap → List Loc → Prop} {FF : State → Option Value → Prop} {pc q q' : Nat} {Ls l' : Array Slot} {st rest : List Value}
variable {Z : State} {a0 : Array Value} {h h' : Heap} {a b : Addr} {ty : FieldType} {N i : Nat} {f : Nat → Value} {v : Value} {ws : List Addr} {sl n0 : Nat} {j x : Int32}
/-- an array of N places that hold f 0 .. f (N - 1) -/
def own_Arr (Z : State) (h : Heap) (a : Addr) (ty : FieldType) (N : Nat) (f : Nat → Value) : Prop := ∃ c : Cell, Arr Z h a c ty ∧ c.slots.size = N ∧ N < 2 ^ 31 ∧ ∀ i, i < N → c.slots[i]? = some (f i)
def own_upd (f : Nat → Value) (j : Nat) (v : Value) : Nat → Value := fun i => if i = j then v else f i
theorem own_upd_same (f : Nat → Value) (j : Nat) (v : Value) : own_upd f j v j = v := if_pos rfl
theorem own_upd_ne (f : Nat → Value) {i j : Nat} (v : Value) (q : i ≠ j) : own_upd f j v i = f i := if_neg q
def own_updI (f : Nat → Int32) (j : Nat) (v : Int32) : Nat → Int32 := fun i => if i = j then v else f i
def own_zero : Nat → Int32 := fun _ => 0
theorem own_updI_same (f : Nat → Int32) (j : Nat) (v : Int32) : own_updI f j v j = v := if_pos rfl
theorem own_updI_ne (f : Nat → Int32) {i j : Nat} (v : Int32) (q : i ≠ j) : own_updI f j v i = f i := if_neg q
theorem own_upd_I (f : Nat → Int32) (j : Nat) (v : Int32) : own_upd (fun i => .int (f i)) j (.int v) = fun i => .int (own_updI f j v i) := by
  funext i
  show (if i = j then Value.int v else Value.int (f i)) = Value.int (if i = j then v else f i)
  split <;> rfl
theorem own_Arr.ext (F : own_Arr Z h a ty N f) (E : Ext h h') : own_Arr Z h' a ty N f := by obtain ⟨c, A, r⟩ := F; exact ⟨c, A.ext E, r⟩
theorem own_Arr.keep (F : own_Arr Z h a ty N f) (K : Keep h h' ws) (q : a ∉ ws) : own_Arr Z h' a ty N f := by obtain ⟨c, A, r⟩ := F; exact ⟨c, ⟨K.2.1 a c A.1 q, A.2⟩, r⟩
theorem own_Arr.lt (F : own_Arr Z h a ty N f) : a < h.size := by obtain ⟨c, A, -⟩ := F; exact A.lt
theorem own_Arr.set (F : own_Arr Z h a ty N f) (W : Wr h h' a i v) : own_Arr Z h' a ty N (own_upd f i v) := by
  obtain ⟨c, A, S, hN, H⟩ := F
  refine ⟨_, Arr.same W A, by rw [sz_set]; exact S, hN, fun t ht => ?_⟩
  show (c.slots.setIfInBounds i v)[t]? = _
  rw [Array.getElem?_setIfInBounds]
  by_cases q : t = i
  · subst q; simp [own_upd, S, ht]
  · rw [if_neg (fun z => q z.symm), own_upd, if_neg q]; exact H t ht
theorem own_idx (hj : j.toInt = (i : Int)) (hi : i < N) : ¬ (j < 0 ∨ N ≤ j.toNatClampNeg) ∧ j.toNatClampNeg = i := by
  have h1 : j.toNatClampNeg = i := by show j.toInt.toNat = i; omega
  refine ⟨fun q => ?_, h1⟩
  rcases q with q | q
  · have := Int32.lt_iff_toInt_lt.mp q; have : (0 : Int32).toInt = 0 := rfl; omega
  · omega
theorem own_newP (X : Stand p l e R s m args below meth c T locs cells slots) (hx : p.tables.exec = Jvm.exec) (hZ : Z.Warmed39 s.vm) {aty : ArrayType} (w : (Jvm.Cond.arrayClass (newarray.typeOf aty)).before a0 Z = true) (eT : T.heap = h) (hd : decode c.code pc = .ok (.newarray aty, 2)) (hn : j.toInt = (N : Int)) {cap : Nat} (hcap : N ≤ cap) (hb : cap * 8 ≤ 536870912) (hc : cells + 1 ≤ R.cells) (hl : slots + cap ≤ R.slots) (hq : pc + 2 = q)
    (g : ∀ T' h' b, b = h.size → Stand p l e R s m args below meth c T' locs (cells + 1) (slots + cap) → T'.heap = h' → Ext h h' → own_Arr Z h' b (newarray.typeOf aty) N (fun _ => defaultValue (newarray.typeOf aty)) → own_G p e below FF (T'.setTop (mkF m q Ls (.ref b :: rest)))) :
    own_G p e below FF (T.setTop (mkF m pc Ls (.int j :: rest))) := by
  subst hq
  have hN : j.toNatClampNeg = N := by show j.toInt.toNat = N; omega
  have hn0 : ¬ j < 0 := fun q => by have := Int32.lt_iff_toInt_lt.mp q; have : (0 : Int32).toInt = 0 := rfl; omega
  obtain ⟨T', h', cA, X', e', E, A, st⟩ := newP X hx hZ w eT (g := mkF m pc Ls (.int j :: rest)) rfl hd rfl hn0 (cap := cap) (by rw [hN]; exact hcap) hb hc hl
  refine (g T' h' h.size rfl X' e' E ⟨_, A, by rw [sz_new]; exact hN, ?_, fun t ht => ?_⟩).via st
  · have := (back32 hn0).2; omega
  · show (Array.replicate j.toNatClampNeg _)[t]? = _
    rw [Array.getElem?_replicate, if_pos (by omega)]
theorem own_stB (X : Stand p l e R s m args below meth c T locs cells slots) (hx : p.tables.exec = Jvm.exec) (hZ : Z.Warmed39 s.vm) (eT : T.heap = h) {fi : Nat → Int32} (A : own_Arr Z h a .byte N (fun i => .int (fi i))) (hd : decode c.code pc = .ok (.bastore, 1)) (hj : j.toInt = (i : Int)) (hi : i < N) (Nf : Fr n0 locs) (ha : n0 ≤ a) (hq : pc + 1 = q)
    (g : ∀ T' h' L', Stand p l e R s m args below meth c T' L' cells slots → Fr n0 L' → T'.heap = h' → own_Arr Z h' a .byte N (fun t => .int (own_updI fi i (x.toInt8.toInt32) t)) → Wr h h' a i (.int (x.toInt8.toInt32)) → own_G p e below FF (T'.setTop (mkF m q Ls rest))) :
    own_G p e below FF (T.setTop (mkF m pc Ls (.int x :: .int j :: .ref a :: rest))) := by
  subst hq
  have A0 := A
  obtain ⟨cl, Ar, S, hN, H⟩ := A
  obtain ⟨h1, h2⟩ := own_idx (N := cl.slots.size) hj (by omega)
  obtain ⟨T', h', X', e', W, st⟩ := stB X hx hZ eT Ar (j := j) (x := x) h1 (g := mkF m pc Ls (.int x :: .int j :: .ref a :: rest)) rfl rfl hd
  have N' := Fr.snoc X' Nf ha
  rw [h2] at W
  have A1 := A0.set W
  rw [show (Value.int (nar .byte x)) = .int (x.toInt8.toInt32) from rfl, own_upd_I] at A1
  exact (g T' h' _ X' N' e' A1 W).via st
theorem own_baload (X : Stand p l e R s m args below meth c T locs cells slots) (hx : p.tables.exec = Jvm.exec) (hZ : Z.Warmed39 s.vm) (eT : T.heap = h) (A : own_Arr Z h a .byte N f) (hd : decode c.code pc = .ok (.baload, 1)) (hj : j.toInt = (i : Int)) (hi : i < N) (hv : f i = v) (hq : pc + 1 = q)
    (g : own_G p e below FF (T.setTop (mkF m q Ls (v :: rest)))) :
    own_G p e below FF (T.setTop (mkF m pc Ls (.int j :: .ref a :: rest))) := by
  subst hq
  obtain ⟨cl, Ar, S, hN, H⟩ := A
  obtain ⟨h1, h2⟩ := own_idx (N := cl.slots.size) hj (by omega)
  exact g.via fun t => X.baloadBytes hx (j := j) (v := v) (by rw [eT]; exact Ar.1) (State.isArrayOf_alike hZ.alike Ar.2.1) Ar.2.2 h1 (by rw [h2, ← hv]; exact H i hi) (g := mkF m pc Ls (.int j :: .ref a :: rest)) rfl rfl hd t
theorem own_zaload (X : Stand p l e R s m args below meth c T locs cells slots) (hx : p.tables.exec = Jvm.exec) (hZ : Z.Warmed39 s.vm) (eT : T.heap = h) (A : own_Arr Z h a .boolean N f) (hd : decode c.code pc = .ok (.baload, 1)) (hj : j.toInt = (i : Int)) (hi : i < N) (hv : f i = v) (hq : pc + 1 = q)
    (g : own_G p e below FF (T.setTop (mkF m q Ls (v :: rest)))) :
    own_G p e below FF (T.setTop (mkF m pc Ls (.int j :: .ref a :: rest))) := by
  subst hq
  obtain ⟨cl, Ar, S, hN, H⟩ := A
  obtain ⟨h1, h2⟩ := own_idx (N := cl.slots.size) hj (by omega)
  exact g.via fun t => X.baloadBooleans hx (j := j) (v := v) (by rw [eT]; exact Ar.1) (State.isArrayOf_alike hZ.alike Ar.2.1) Ar.2.2 h1 (by rw [h2, ← hv]; exact H i hi) (g := mkF m pc Ls (.int j :: .ref a :: rest)) rfl rfl hd t
theorem own_newO (X : Stand p l e R s m args below meth c T locs cells slots) (hx : p.tables.exec = Jvm.exec) (hZ : Z.Warmed39 s.vm) {own C : String} {index sz : Nat} (hown : s.vm.findClass own = some m.cls) (w : (Jvm.Cond.classLink own index C).before a0 Z = true) (wi : (Jvm.Cond.instantiable C sz).before a0 Z = true) (wz : (Jvm.Cond.initialized C).before a0 Z = true) (eT : T.heap = h) (hd : decode c.code pc = .ok (.new index, 3)) (hc : cells + 1 ≤ R.cells) (hl : slots + sz ≤ R.slots) (hq : pc + 3 = q)
    (g : ∀ T' h' b, b = h.size → Stand p l e R s m args below meth c T' locs (cells + 1) (slots + sz) → T'.heap = h' → Ext h h' → Exa Z h' b C → (∀ {O nm d : String} {ty : FieldType}, Laid Z a0 C O nm d → parseFieldDescriptor d = some ty → Fld Z h' b O nm d (defaultValue ty)) → own_G p e below FF (T'.setTop (mkF m q Ls (.ref b :: st)))) :
    own_G p e below FF (T.setTop (mkF m pc Ls st)) := by
  subst hq
  obtain ⟨T', h', X', e', E, A, D, -, stp⟩ := newO X hx hZ hown w wi wz eT (g := mkF m pc Ls st) rfl hd hc hl
  exact (g T' h' h.size rfl X' e' E A D).via stp
theorem own_initO (X : Stand p l e R s m args below meth c T locs cells slots) (hx : p.tables.exec = Jvm.exec) (hZ : Z.Warmed39 s.vm) {own : String} {idx : Nat} (hown : s.vm.findClass own = some m.cls) (w1 : (Jvm.Cond.methodLink own idx Lib.objectInit).before a0 Z = true) (w2 : (Jvm.Cond.instanceMethod Lib.objectInit).before a0 Z = true)
    (w3 : (Jvm.Cond.code Lib.objectInit ⟨#[0xb1]⟩ 1 none).before a0 Z = true) (eT : T.heap = h) (hsize : Ls.size = c.maxLocals) (hd : decode c.code pc = .ok (.invokespecial idx, 3)) (hf : 1 ≤ R.frames) {W : Nat} (hW : (rest.map fun v => v.category).sum = W) (hl : W + 12 ≤ R.locals) (hq : pc + 3 = q)
    (g : ∀ T', Stand p l e R s m args below meth c T' locs cells slots → T'.heap = h → own_G p e below FF (T'.setTop (mkF m q Ls rest))) :
    own_G p e below FF (T.setTop (mkF m pc Ls (.ref a :: rest))) := by
  subst hq
  obtain ⟨T', X', e', st⟩ := initO X hx hZ hown w1 w2 w3 eT (g := mkF m pc Ls (.ref a :: rest)) rfl hsize rfl hd hf (W := W) (by show 2 * 0 + _ ≤ _; rw [hW]; omega) hl
  exact (g T' X' e').via st
theorem own_putF (X : Stand p l e R s m args below meth c T locs cells slots) (hx : p.tables.exec = Jvm.exec) (hZ : Z.Warmed39 s.vm) {own O nm d C : String} {index kk : Nat} {ft : FieldType} (hown : s.vm.findClass own = some m.cls) (w : (Jvm.Cond.fieldLink own index O nm d).before a0 Z = true)
    (eT : T.heap = h) {old : Value} (F : Fld Z h a O nm d old) (E : Exa Z h a C) (L : (Jvm.Cond.lays C O nm d).before a0 Z = true ∨ ((Jvm.Cond.laysFinal C O nm d).before a0 Z = true ∧ own = O ∧ meth.name = "<init>")) (wi : (Jvm.Cond.instantiable C kk).before a0 Z = true)
    (hty : parseFieldDescriptor d = some ft) (hn : narrow ft v = v) (hf : fits ft v = true) (hd : decode c.code pc = .ok (.putfield index, 3)) (Nf : Fr n0 locs) (ha : n0 ≤ a) (hq : pc + 3 = q)
    (g : ∀ T' h' L', Stand p l e R s m args below meth c T' L' cells slots → Fr n0 L' → T'.heap = h' → Wr h h' a (Jvm.RoadKit.slotOf Z O nm d) v → own_G p e below FF (T'.setTop (mkF m q Ls rest))) :
    own_G p e below FF (T.setTop (mkF m pc Ls (v :: .ref a :: rest))) := by
  subst hq
  obtain ⟨T', h', X', e', W, st⟩ := putF X hx hZ hown (host := "") (Or.inl w) Via.refl eT F E L wi hty hn hf (g := mkF m pc Ls (v :: .ref a :: rest)) rfl rfl hd
  exact (g T' h' _ X' (Fr.snoc X' Nf ha) e' W).via st
theorem own_getF (X : Stand p l e R s m args below meth c T locs cells slots) (hx : p.tables.exec = Jvm.exec) (hZ : Z.Warmed39 s.vm) {own O nm d : String} {index : Nat} (hown : s.vm.findClass own = some m.cls) (w : (Jvm.Cond.fieldLink own index O nm d).before a0 Z = true)
    (eT : T.heap = h) (F : Fld Z h a O nm d v) (hd : decode c.code pc = .ok (.getfield index, 3)) (hq : pc + 3 = q)
    (g : ∀ T', Stand p l e R s m args below meth c T' locs cells slots → T'.heap = h → own_G p e below FF (T'.setTop (mkF m q Ls (v :: rest)))) :
    own_G p e below FF (T.setTop (mkF m pc Ls (.ref a :: rest))) := by
  subst hq
  obtain ⟨T', X', e', st⟩ := getF X hx hZ hown (host := "") (Or.inl w) Via.refl eT F (g := mkF m pc Ls (.ref a :: rest)) rfl rfl hd
  exact (g T' X' e').via st
theorem own_getS (X : Stand p l e R s m args below meth c T locs cells slots) (hx : p.tables.exec = Jvm.exec) (hZ : Z.Warmed39 s.vm) {own O nm d : String} {index : Nat} (hown : s.vm.findClass own = some m.cls) (w : (Jvm.Cond.fieldLink own index O nm d).before a0 Z = true)
    (eT : T.heap = h) (F : Sta Z h O nm d v) (hd : decode c.code pc = .ok (.getstatic index, 3)) (hq : pc + 3 = q)
    (g : ∀ T', Stand p l e R s m args below meth c T' locs cells slots → T'.heap = h → own_G p e below FF (T'.setTop (mkF m q Ls (v :: st)))) :
    own_G p e below FF (T.setTop (mkF m pc Ls st)) := by
  subst hq
  obtain ⟨T', X', e', stp⟩ := getS X hx hZ (host := "") hown w Via.refl eT F (g := mkF m pc Ls st) rfl hd
  exact (g T' X' e').via stp
theorem own_retA (X : Stand p l e R s m args below meth c T locs cells slots) (hx : p.tables.exec = Jvm.exec) {t : FieldType} (hv : v.isRef = true) (hret : meth.sig.returnType = some t) (ht : t.isReference = true) (hlk : meth.locks = false) (hd : decode c.code pc = .ok (.areturn, 1)) (hk : cells ≤ k) (hn : slots ≤ n) (hq : Q (some v) T.heap locs) :
    own_G p e below (own_En s k n Q) (T.setTop (mkF m pc Ls [v])) := by
  obtain ⟨fs, hr, hrun, hended, hW, hsame⟩ := X.leave (v := some v) (fun h => by rw [hret] at h; cases h) hlk
  exact ⟨_, _, X.areturnOut hx hv hret ht hd hr, hrun, hended, _, hq, ⟨_, rfl⟩, hW, hsame.mono hk hn⟩
theorem own_newR (X : Stand p l e R s m args below meth c T locs cells slots) (hx : p.tables.exec = Jvm.exec) (hZ : Z.Warmed39 s.vm) {own C : String} {index : Nat} (hown : s.vm.findClass own = some m.cls) (w1 : (Jvm.Cond.classLink own index C).before a0 Z = true) (w2 : (Jvm.Cond.arrayOver (.object C)).before a0 Z = true) (eT : T.heap = h) (hd : decode c.code pc = .ok (.anewarray index, 3)) (hn : j.toInt = (N : Int)) {cap : Nat} (hcap : N ≤ cap) (hb : cap * 8 ≤ 536870912) (hc : cells + 1 ≤ R.cells) (hl : slots + cap ≤ R.slots) (hq : pc + 3 = q)
    (g : ∀ T' h' b, b = h.size → Stand p l e R s m args below meth c T' locs (cells + 1) (slots + cap) → T'.heap = h' → Ext h h' → own_Arr Z h' b (.object C) N (fun _ => .null) → (∃ cl, Arr Z h' b cl (.object C) ∧ Ovr Z cl.cls C) → own_G p e below FF (T'.setTop (mkF m q Ls (.ref b :: rest)))) :
    own_G p e below FF (T.setTop (mkF m pc Ls (.int j :: rest))) := by
  subst hq
  have hN : j.toNatClampNeg = N := by show j.toInt.toNat = N; omega
  have hn0 : ¬ j < 0 := fun q => by have := Int32.lt_iff_toInt_lt.mp q; have : (0 : Int32).toInt = 0 := rfl; omega
  obtain ⟨T', h', cA, X', e', E, A, O, st⟩ := newR X hx hZ hown w1 w2 eT (g := mkF m pc Ls (.int j :: rest)) rfl hd rfl hn0 (cap := cap) (by rw [hN]; exact hcap) hb hc hl
  refine (g T' h' h.size rfl X' e' E ⟨_, A, by rw [sz_new]; exact hN, ?_, fun t ht => ?_⟩ ⟨_, A, O⟩).via st
  · have := (back32 hn0).2; omega
  · show (Array.replicate j.toNatClampNeg _)[t]? = _
    rw [Array.getElem?_replicate, if_pos (by omega)]; rfl
theorem own_ovr_keep {C : String} (F : ∃ cl : Cell, Arr Z h a cl (.object C) ∧ Ovr Z cl.cls C) (W : Wr h h' a i v) : ∃ cl : Cell, Arr Z h' a cl (.object C) ∧ Ovr Z cl.cls C := by
  obtain ⟨cl, A, O⟩ := F
  exact ⟨_, Arr.same W A, O⟩
theorem own_stR {C : String} (X : Stand p l e R s m args below meth c T locs cells slots) (hx : p.tables.exec = Jvm.exec) (hZ : Z.Warmed39 s.vm) (eT : T.heap = h) (A : own_Arr Z h a (.object C) N f) (O : ∃ cl : Cell, Arr Z h a cl (.object C) ∧ Ovr Z cl.cls C) (I : Ins Z h b C true) (hd : decode c.code pc = .ok (.aastore, 1)) (hj : j.toInt = (i : Int)) (hi : i < N) (Nf : Fr n0 locs) (ha : n0 ≤ a) (hq : pc + 1 = q)
    (g : ∀ T' h' L', Stand p l e R s m args below meth c T' L' cells slots → Fr n0 L' → T'.heap = h' → own_Arr Z h' a (.object C) N (own_upd f i (.ref b)) → (∃ cl : Cell, Arr Z h' a cl (.object C) ∧ Ovr Z cl.cls C) → Wr h h' a i (.ref b) → own_G p e below FF (T'.setTop (mkF m q Ls rest))) :
    own_G p e below FF (T.setTop (mkF m pc Ls (.ref b :: .int j :: .ref a :: rest))) := by
  subst hq
  have A0 := A
  have O0 := O
  obtain ⟨cl, Ar, S, hN, H⟩ := A
  obtain ⟨cl', Ar', Ov⟩ := O
  cases Ar.1.symm.trans Ar'.1
  obtain ⟨h1, h2⟩ := own_idx (N := cl.slots.size) hj (by omega)
  obtain ⟨T', h', X', e', W, st⟩ := stR X hx hZ eT Ar (j := j) (v := .ref b) h1 rfl (Sto.of Ar Ov I) (g := mkF m pc Ls (.ref b :: .int j :: .ref a :: rest)) rfl rfl hd
  have N' := Fr.snoc X' Nf ha
  rw [h2] at W
  exact (g T' h' _ X' N' e' (A0.set W) (own_ovr_keep O0 W) W).via st
theorem own_aaload {C : String} (X : Stand p l e R s m args below meth c T locs cells slots) (hx : p.tables.exec = Jvm.exec) (hZ : Z.Warmed39 s.vm) (eT : T.heap = h) (A : own_Arr Z h a (.object C) N f) (hd : decode c.code pc = .ok (.aaload, 1)) (hj : j.toInt = (i : Int)) (hi : i < N) (hv : f i = v) (hq : pc + 1 = q)
    (g : own_G p e below FF (T.setTop (mkF m q Ls (v :: rest)))) :
    own_G p e below FF (T.setTop (mkF m pc Ls (.int j :: .ref a :: rest))) := by
  subst hq
  obtain ⟨cl, Ar, S, hN, H⟩ := A
  obtain ⟨h1, h2⟩ := own_idx (N := cl.slots.size) hj (by omega)
  exact g.via fun t => X.aaload hx (j := j) (v := v) (by rw [eT]; exact Ar.1) (State.isArrayOf_alike hZ.alike Ar.2.1) rfl Ar.2.2 h1 (by rw [h2, ← hv]; exact H i hi) (g := mkF m pc Ls (.int j :: .ref a :: rest)) rfl rfl hd t
theorem own_acmp (X : Stand p l e R s m args below meth c T locs cells slots) (hx : p.tables.exec = Jvm.exec) {cd : ClassFile.ACond} {o : Int} {P : Prop} [Decidable P] {u v : Value} (hd : decode c.code pc = .ok (.if_acmp cd o, 3)) (ho : 0 ≤ (pc : Int) + o) (hp : ((pc : Int) + o).toNat = q) (hq : pc + 3 = q') (hu : u.isRef = true) (hv : v.isRef = true) (hP : XT.acmp cd u v = decide P) (gy : P → own_G p e below FF (T.setTop (mkF m q Ls rest))) (gn : ¬ P → own_G p e below FF (T.setTop (mkF m q' Ls rest))) : own_G p e below FF (T.setTop (mkF m pc Ls (v :: u :: rest))) := by
  by_cases h : P
  · exact (gy h).via fun _ hr => XT.acmpYes (g := mkF m pc Ls (v :: u :: rest)) X.here hx rfl (pc0 := pc) rfl hd rfl hu hv (by rw [hP]; exact decide_eq_true h) ho hp hr
  · subst hq; exact (gn h).via fun _ hr => XT.acmpNo (g := mkF m pc Ls (v :: u :: rest)) X.here hx rfl hd rfl hu hv (by rw [hP]; exact decide_eq_false h) hr
theorem own_callVP {C own : String} {index : Nat} {y : MethodName} {bytes : ByteArray} {maxL : Nat} {ret : Option FieldType} (X : Stand p l e R s m args below meth c T locs cells slots) (hx : p.tables.exec = Jvm.exec) (hZ : Z.Warmed39 s.vm)
    (hown : s.vm.findClass own = some m.cls) (w1 : (Jvm.Cond.methodLink own index y).before a0 Z = true) (w2 : (Jvm.Cond.declares y).before a0 Z = true) (w3 : (Jvm.Cond.selects C y y).before a0 Z = true) (w4 : (Jvm.Cond.instanceMethod y).before a0 Z = true) (w5 : (Jvm.Cond.code y bytes maxL ret).before a0 Z = true) (w6 : (Jvm.Cond.initialized y.cls).before a0 Z = true)
    (hy : y.cls ≠ "java/lang/invoke/MethodHandle" ∧ y.cls ≠ "java/lang/invoke/VarHandle") {rm : Room} {as' : Array Value} {P : Value → Prop} {W : Nat}
    (hM : MetFree l y (head1 [Jvm.Cond.code y bytes maxL ret] rm) (fun a U => a = as' ∧ Z.Warmed39 U.vm ∧ U.heap = h) (fun _ _ _ _ _ => True) (fun _ U o U' => ∃ v L, o = .returned v ∧ ((∃ w, v = some w ∧ P w) ∧ L = [] ∧ U'.heap = h) ∧ FrameEnd U o U' L rm.cells rm.slots))
    (E : Exa Z h b C) (hf : rm.frames + 1 ≤ R.frames) (hl : W + (maxL + 11) + rm.locals ≤ R.locals) (eT : T.heap = h) (hsize : Ls.size = c.maxLocals) {argsL : List Value}
    (hlen : ∀ sig, parseMethodDescriptor y.desc = some sig → argsL.length = sig.parameters.length) (hst : st = argsL.reverse ++ .ref b :: rest) (hW : (rest.map fun v => v.category).sum = W) (hd : decode c.code pc = .ok (.invokevirtual index, 3)) (hq : pc + 3 = q) (has : (.ref b :: argsL).toArray = as') (hc : rm.cells = 0) (hs : rm.slots = 0) (hcc : cells ≤ R.cells) (hss : slots ≤ R.slots)
    (g : ∀ w T', P w → Stand p l e R s m args below meth c T' locs cells slots → T'.heap = h → own_G p e below FF (T'.setTop (mkF m q Ls (w :: rest)))) :
    own_G p e below FF (T.setTop (mkF m pc Ls st)) := by
  refine own_callV (Q' := fun v U L => (∃ w, v = some w ∧ P w) ∧ L = [] ∧ U = h) X hx hZ hown w1 w2 w3 w4 w5 w6 hy hM E hf hl eT hsize hlen hst hW hd hq has (by rw [hc]; exact hcc) (by rw [hs]; exact hss) ?_
  rintro v T' L ⟨⟨w, rfl, hP⟩, rfl, e'⟩ X'
  rw [List.append_nil, hc, hs] at X'
  exact g w T' hP X' e'
/-- a private method by invokevirtual, the heap left as it was -/
theorem own_callPP {C own : String} {index kk : Nat} {y : MethodName} {bytes : ByteArray} {maxL : Nat} {ret : Option FieldType} (X : Stand p l e R s m args below meth c T locs cells slots) (hx : p.tables.exec = Jvm.exec) (hZ : Z.Warmed39 s.vm)
    (hown : s.vm.findClass own = some m.cls) (w1 : (Jvm.Cond.methodLink own index y).before a0 Z = true) (w2 : (Jvm.Cond.privateMethod y).before a0 Z = true) (w3 : (Jvm.Cond.instantiable y.cls kk).before a0 Z = true) (w4 : (Jvm.Cond.instanceMethod y).before a0 Z = true) (w5 : (Jvm.Cond.code y bytes maxL ret).before a0 Z = true) (w6 : (Jvm.Cond.initialized y.cls).before a0 Z = true)
    (hy : y.cls ≠ "java/lang/invoke/MethodHandle" ∧ y.cls ≠ "java/lang/invoke/VarHandle") {rm : Room} {as' : Array Value} {P : Value → Prop} {W : Nat}
    (hM : MetFree l y (head1 [Jvm.Cond.code y bytes maxL ret] rm) (fun a U => a = as' ∧ Z.Warmed39 U.vm ∧ U.heap = h) (fun _ _ _ _ _ => True) (fun _ U o U' => ∃ v L, o = .returned v ∧ ((∃ w, v = some w ∧ P w) ∧ L = [] ∧ U'.heap = h) ∧ FrameEnd U o U' L rm.cells rm.slots))
    (E : Exa Z h b C) (hf : rm.frames + 1 ≤ R.frames) (hl : W + (maxL + 11) + rm.locals ≤ R.locals) (eT : T.heap = h) (hsize : Ls.size = c.maxLocals) {argsL : List Value}
    (hlen : ∀ sig, parseMethodDescriptor y.desc = some sig → argsL.length = sig.parameters.length) (hst : st = argsL.reverse ++ .ref b :: rest) (hW : (rest.map fun v => v.category).sum = W) (hd : decode c.code pc = .ok (.invokevirtual index, 3)) (hq : pc + 3 = q) (has : (.ref b :: argsL).toArray = as') (hc : rm.cells = 0) (hs : rm.slots = 0) (hcc : cells ≤ R.cells) (hss : slots ≤ R.slots)
    (g : ∀ w T', P w → Stand p l e R s m args below meth c T' locs cells slots → T'.heap = h → own_G p e below FF (T'.setTop (mkF m q Ls (w :: rest)))) :
    own_G p e below FF (T.setTop (mkF m pc Ls st)) := by
  subst hq hst
  obtain ⟨cq, q1, q2⟩ := E.cell
  have hi := mvT (args := args) hZ w4
  have hp := Cond.privateMethod_at (mvP (args := #[]) hZ w2)
  obtain ⟨ci, ki, f1, f2, -, f3, -⟩ := Cond.instantiable_spec (mvT (args := args) hZ w3)
  have hsel := selects_self_of_private f1 f2 (Bool.or_eq_false_iff.mp f3).1 hp hi hy
  obtain ⟨v, _, ⟨T7, L7, k7, n7⟩, -, X7, ⟨Lc7, hQ7, l7, y7, z7⟩, st7⟩ := X.privateBack hx hown (mvT hZ w1) hi hsel hp (mvT hZ w5) hy (backOf (W := W) (Q := fun v U L => (∃ w, v = some w ∧ P w) ∧ L = [] ∧ U = h) hM hZ w5 w6 hf hl) (g := mkF m pc Ls (argsL.reverse ++ .ref b :: rest)) rfl hsize (Steps.refl _) (a := b) (by rw [eT]; exact q1) q2 (argsL := argsL) (rest := rest) hlen rfl (by show 2 * 0 + _ ≤ _; rw [hW]; omega) hd (fun _ _ => ⟨has, eT, by rw [hc]; exact hcc, by rw [hs]; exact hss⟩)
  dsimp only [Pt.U, Pt.locs, Pt.cells, Pt.slots] at X7 l7 y7 z7 st7 hQ7
  obtain ⟨⟨w, rfl, hP⟩, rfl, e'⟩ := hQ7
  rw [List.append_nil] at l7
  rw [hc] at y7
  rw [hs] at z7
  subst l7 y7 z7
  exact (g w T7 hP X7 e').via fun t hh => st7.trans hh
/-- a constructor that leaves the heap as it was (Record's, say) -/
theorem own_callNP {own : String} {index : Nat} {y : MethodName} {bytes : ByteArray} {maxL : Nat} (X : Stand p l e R s m args below meth c T locs cells slots) (hx : p.tables.exec = Jvm.exec) (hZ : Z.Warmed39 s.vm)
    (hyn : y.name = "<init>") (hown : s.vm.findClass own = some m.cls) (w1 : (Jvm.Cond.methodLink own index y).before a0 Z = true) (w2 : (Jvm.Cond.instanceMethod y).before a0 Z = true) (w3 : (Jvm.Cond.initialized y.cls).before a0 Z = true) (w4 : (Jvm.Cond.code y bytes maxL none).before a0 Z = true)
    (hy : y.cls ≠ "java/lang/invoke/MethodHandle" ∧ y.cls ≠ "java/lang/invoke/VarHandle") {rm : Room} {as' : Array Value} {W : Nat}
    (hM : MetFree l y (head1 [Jvm.Cond.code y bytes maxL none] rm) (fun a U => a = as' ∧ Z.Warmed39 U.vm ∧ U.heap = h) (fun _ _ _ _ _ => True) (fun _ U o U' => ∃ v L, o = .returned v ∧ (v = none ∧ L = [] ∧ U'.heap = h) ∧ FrameEnd U o U' L rm.cells rm.slots))
    (hf : rm.frames + 1 ≤ R.frames) (hl : W + (maxL + 11) + rm.locals ≤ R.locals) (eT : T.heap = h) (hsize : Ls.size = c.maxLocals) {argsL : List Value}
    (hlen : ∀ sig, parseMethodDescriptor y.desc = some sig → argsL.length = sig.parameters.length) (hst : st = argsL.reverse ++ .ref b :: rest) (hW : (rest.map fun v => v.category).sum = W) (hd : decode c.code pc = .ok (.invokespecial index, 3)) (hq : pc + 3 = q) (has : (.ref b :: argsL).toArray = as') (hc : rm.cells = 0) (hs : rm.slots = 0) (hcc : cells ≤ R.cells) (hss : slots ≤ R.slots)
    (g : ∀ T', Stand p l e R s m args below meth c T' locs cells slots → T'.heap = h → own_G p e below FF (T'.setTop (mkF m q Ls rest))) :
    own_G p e below FF (T.setTop (mkF m pc Ls st)) := by
  refine own_callN (Q' := fun v U L => v = none ∧ L = [] ∧ U = h) (b := b) X hx hZ hyn hown w1 w2 w3 w4 hy hM hf hl eT hsize hlen hst hW hd hq has (by rw [hc]; exact hcc) (by rw [hs]; exact hss) ?_
  rintro v T' L ⟨rfl, rfl, e'⟩ X'
  rw [List.append_nil, hc, hs] at X'
  exact g T' X' e'
theorem own_addL (x y : Int64) (h1 : -9223372036854775808 ≤ x.toInt + y.toInt) (h2 : x.toInt + y.toInt < 9223372036854775808) : (x + y).toInt = x.toInt + y.toInt := by
  have := c_ladd x y; have := rng64 (x + y); omega
theorem own_subL (x y : Int64) (h1 : -9223372036854775808 ≤ x.toInt - y.toInt) (h2 : x.toInt - y.toInt < 9223372036854775808) : (x - y).toInt = x.toInt - y.toInt := by
  have := c_lsub x y; have := rng64 (x - y); omega
theorem own_mulL (x y : Int64) (h1 : -9223372036854775808 ≤ x.toInt * y.toInt) (h2 : x.toInt * y.toInt < 9223372036854775808) : (x * y).toInt = x.toInt * y.toInt := by
  have := c_lmul x y; have := rng64 (x * y); omega
theorem own_nb (z : Int32) (h : z.toInt = 0 ∨ z.toInt = 1) : nar .boolean z = z := by
  rcases h with h | h
  · rw [show z = 0 from Int32.toInt_inj.mp h]; rfl
  · rw [show z = 1 from Int32.toInt_inj.mp h]; rfl
theorem own_rngU {f : Nat → Int32} (hf : ∀ j, -128 ≤ (f j).toInt ∧ (f j).toInt < 128) (i : Nat) (x : Int32) : ∀ j, -128 ≤ (own_updI f i (x.toInt8.toInt32) j).toInt ∧ (own_updI f i (x.toInt8.toInt32) j).toInt < 128 := by
  intro j
  by_cases q : j = i
  · subst q; rw [own_updI_same]; exact (c_i2b x).2
  · rw [own_updI_ne _ _ q]; exact hf j
theorem own_rng0 : ∀ j, -128 ≤ (own_zero j).toInt ∧ (own_zero j).toInt < 128 := fun _ => ⟨show (-128 : Int) ≤ (0 : Int32).toInt by decide, show (0 : Int32).toInt < (128 : Int) by decide⟩
end Own2
section Own3
variable {p : Program} {l : Launch} {e : Env} {R : Room} {s : State} {m : MethodId} {args : Array Value} {below : List Frame} {meth : Method} {c : Code} {T : State} {locs : List Loc} {cells slots : Nat} {k n : Nat} {Q : Option Value → Heap → List Loc → Prop} {FF : State → Option Value → Prop} {pc q q' : Nat} {Ls l' : Array Slot} {st rest : List Value} {Z : State} {a0 : Array Value} {h h' : Heap} {ws : List Addr}
theorem own_i2d (X : Stand p l e R s m args below meth c T locs cells slots) (hx : p.tables.exec = Jvm.exec) {x : Int32} (hd : decode c.code pc = .ok (.i2d, 1)) (hq : pc + 1 = q) (g : own_G p e below FF (T.setTop (mkF m q Ls (.double (FP.i2d x) :: rest)))) : own_G p e below FF (T.setTop (mkF m pc Ls (.int x :: rest))) := by
  subst hq; exact g.via fun _ hr_ => XS.i2dS (g := mkF m pc Ls (.int x :: rest)) X.here hx rfl hd rfl rfl hr_
theorem own_l2d (X : Stand p l e R s m args below meth c T locs cells slots) (hx : p.tables.exec = Jvm.exec) {x : Int64} (hd : decode c.code pc = .ok (.l2d, 1)) (hq : pc + 1 = q) (g : own_G p e below FF (T.setTop (mkF m q Ls (.double (FP.l2d x) :: rest)))) : own_G p e below FF (T.setTop (mkF m pc Ls (.long x :: rest))) := by
  subst hq; exact g.via fun _ hr_ => XS.l2dS (g := mkF m pc Ls (.long x :: rest)) X.here hx rfl hd rfl rfl hr_
theorem own_dload (X : Stand p l e R s m args below meth c T locs cells slots) (hx : p.tables.exec = Jvm.exec) {i : Nat} {v : UInt64} (hd : decode c.code pc = .ok (.dload i, 2)) (hl : Ls[i]? = some (.val (.double v))) (hq : pc + 2 = q) (g : own_G p e below FF (T.setTop (mkF m q Ls (.double v :: st)))) : own_G p e below FF (T.setTop (mkF m pc Ls st)) := by
  subst hq; exact g.via fun _ hr_ => XS.dload (g := mkF m pc Ls st) X.here hx rfl hd hl hr_
theorem own_dload_n (X : Stand p l e R s m args below meth c T locs cells slots) (hx : p.tables.exec = Jvm.exec) {i : Fin 4} {v : UInt64} (hd : decode c.code pc = .ok (.dload_n i, 1)) (hl : Ls[i.val]? = some (.val (.double v))) (hq : pc + 1 = q) (g : own_G p e below FF (T.setTop (mkF m q Ls (.double v :: st)))) : own_G p e below FF (T.setTop (mkF m pc Ls st)) := by
  subst hq; exact g.via fun _ hr_ => XS.dloadN (g := mkF m pc Ls st) X.here hx rfl hd hl hr_
theorem own_dstore (X : Stand p l e R s m args below meth c T locs cells slots) (hx : p.tables.exec = Jvm.exec) {i : Nat} {v : UInt64} (hd : decode c.code pc = .ok (.dstore i, 2)) (hl : storeLocals Ls i (.double v) = some l') (hq : pc + 2 = q) (g : own_G p e below FF (T.setTop (mkF m q l' rest))) : own_G p e below FF (T.setTop (mkF m pc Ls (.double v :: rest))) := by
  subst hq; exact g.via fun _ hr_ => XS.dstore (g := mkF m pc Ls (.double v :: rest)) X.here hx rfl hd rfl hl hr_
theorem own_dstore_n (X : Stand p l e R s m args below meth c T locs cells slots) (hx : p.tables.exec = Jvm.exec) {i : Fin 4} {v : UInt64} (hd : decode c.code pc = .ok (.dstore_n i, 1)) (hl : storeLocals Ls i.val (.double v) = some l') (hq : pc + 1 = q) (g : own_G p e below FF (T.setTop (mkF m q l' rest))) : own_G p e below FF (T.setTop (mkF m pc Ls (.double v :: rest))) := by
  subst hq; exact g.via fun _ hr_ => XS.dstoreN (g := mkF m pc Ls (.double v :: rest)) X.here hx rfl hd rfl hl hr_
theorem own_dcmp (X : Stand p l e R s m args below meth c T locs cells slots) (hx : p.tables.exec = Jvm.exec) {o : CmpOp} {x y : UInt64} {v : Int32} (hd : decode c.code pc = .ok (.dcmp o, 1)) (hv : cmpValue (FP.dcmp x y) o = v) (hq : pc + 1 = q) (g : own_G p e below FF (T.setTop (mkF m q Ls (.int v :: rest)))) : own_G p e below FF (T.setTop (mkF m pc Ls (.double y :: .double x :: rest))) := by
  subst hq; exact g.via fun _ hr_ => XS.dcmpS (g := mkF m pc Ls (.double y :: .double x :: rest)) X.here hx rfl hd rfl hv hr_
theorem own_ldcD (X : Stand p l e R s m args below meth c T locs cells slots) (hx : p.tables.exec = Jvm.exec) (hZ : Z.Warmed39 s.vm) {own : String} {index : Nat} {v : UInt64} (hown : s.vm.findClass own = some m.cls) (w : (Jvm.Cond.constantDouble own index v).before a0 Z = true) (hd : decode c.code pc = .ok (.ldc2_w index, 3)) (hq : pc + 3 = q)
    (g : own_G p e below FF (T.setTop (mkF m q Ls (.double v :: st)))) : own_G p e below FF (T.setTop (mkF m pc Ls st)) := by
  subst hq; exact g.via fun t => X.ldc2DoubleC hx hown (mvT hZ w) (g := mkF m pc Ls st) rfl hd t
theorem own_kext (K : Keep h h' []) : Ext h h' := ⟨K.1, fun x c q => K.2.1 x c q nin0⟩
end Own3
section Own4
variable {p : Program} {l : Launch} {e : Env} {R : Room} {s : State} {m : MethodId} {args : Array Value} {below : List Frame} {meth : Method} {c : Code} {T : State} {locs : List Loc} {cells slots : Nat} {k n : Nat} {Q : Option Value → Heap → List Loc → Prop} {FF : State → Option Value → Prop} {pc q q' : Nat} {Ls l' : Array Slot} {st rest : List Value} {Z : State} {a0 : Array Value} {h h' : Heap} {ws : List Addr} {a : Addr} {ty : FieldType} {N i n0 : Nat} {f : Nat → Value} {j : Int32}
theorem own_dmul (X : Stand p l e R s m args below meth c T locs cells slots) (hx : p.tables.exec = Jvm.exec) {x y : UInt64} (hd : decode c.code pc = .ok (.dmul, 1)) (hn : Jvm.Free.Fl.Fin64 (FP.dmul x y)) (hq : pc + 1 = q) (g : own_G p e below FF (T.setTop (mkF m q Ls (.double (FP.dmul x y) :: rest)))) : own_G p e below FF (T.setTop (mkF m pc Ls (.double y :: .double x :: rest))) := by
  subst hq; exact g.via fun _ hr_ => XS.dmulS (g := mkF m pc Ls (.double y :: .double x :: rest)) X.here hx rfl hd rfl hn.noNaN rfl hr_
theorem own_dadd (X : Stand p l e R s m args below meth c T locs cells slots) (hx : p.tables.exec = Jvm.exec) {x y : UInt64} (hd : decode c.code pc = .ok (.dadd, 1)) (hn : Jvm.Free.Fl.Fin64 (FP.dadd x y)) (hq : pc + 1 = q) (g : own_G p e below FF (T.setTop (mkF m q Ls (.double (FP.dadd x y) :: rest)))) : own_G p e below FF (T.setTop (mkF m pc Ls (.double y :: .double x :: rest))) := by
  subst hq; exact g.via fun _ hr_ => XS.daddS (g := mkF m pc Ls (.double y :: .double x :: rest)) X.here hx rfl hd rfl hn.noNaN rfl hr_
theorem own_ddiv (X : Stand p l e R s m args below meth c T locs cells slots) (hx : p.tables.exec = Jvm.exec) {x y : UInt64} (hd : decode c.code pc = .ok (.ddiv, 1)) (hn : Jvm.Free.Fl.Fin64 (FP.ddiv x y)) (hq : pc + 1 = q) (g : own_G p e below FF (T.setTop (mkF m q Ls (.double (FP.ddiv x y) :: rest)))) : own_G p e below FF (T.setTop (mkF m pc Ls (.double y :: .double x :: rest))) := by
  subst hq; exact g.via fun _ hr_ => XS.ddivS (g := mkF m pc Ls (.double y :: .double x :: rest)) X.here hx rfl hd rfl hn.noNaN rfl hr_
theorem own_dconst0 (X : Stand p l e R s m args below meth c T locs cells slots) (hx : p.tables.exec = Jvm.exec) (hd : decode c.code pc = .ok (.dconst 0, 1)) (hq : pc + 1 = q) (g : own_G p e below FF (T.setTop (mkF m q Ls (.double FP.dconst0 :: st)))) : own_G p e below FF (T.setTop (mkF m pc Ls st)) := by
  subst hq; exact g.via fun _ hr_ => XS.dconst0 (g := mkF m pc Ls st) X.here hx rfl hd rfl hr_
theorem own_dconst1 (X : Stand p l e R s m args below meth c T locs cells slots) (hx : p.tables.exec = Jvm.exec) (hd : decode c.code pc = .ok (.dconst 1, 1)) (hq : pc + 1 = q) (g : own_G p e below FF (T.setTop (mkF m q Ls (.double FP.dconst1 :: st)))) : own_G p e below FF (T.setTop (mkF m pc Ls st)) := by
  subst hq; exact g.via fun _ hr_ => XS.dconst1 (g := mkF m pc Ls st) X.here hx rfl hd rfl hr_
theorem own_newPD (X : Stand p l e R s m args below meth c T locs cells slots) (hx : p.tables.exec = Jvm.exec) (hZ : Z.Warmed39 s.vm) {aty : ArrayType} (w : (Jvm.Cond.arrayClass (newarray.typeOf aty)).before a0 Z = true) (eT : T.heap = h) (hd : decode c.code pc = .ok (.newarray aty, 2)) (hn : j.toInt = (N : Int)) {cap : Nat} (hcap : N ≤ cap) (hb : cap * 8 ≤ 536870912) (hc : cells + 1 ≤ R.cells) (hl : slots + cap ≤ R.slots) {ad : String} (had : "[" ++ (newarray.typeOf aty).toString = ad) (hq : pc + 2 = q)
    (g : ∀ T' h' b, b = h.size → Stand p l e R s m args below meth c T' locs (cells + 1) (slots + cap) → T'.heap = h' → Ext h h' → own_Arr Z h' b (newarray.typeOf aty) N (fun _ => defaultValue (newarray.typeOf aty)) → Exa Z h' b ad → own_G p e below FF (T'.setTop (mkF m q Ls (.ref b :: rest)))) :
    own_G p e below FF (T.setTop (mkF m pc Ls (.int j :: rest))) := by
  subst hq
  have hN : j.toNatClampNeg = N := by show j.toInt.toNat = N; omega
  have hn0 : ¬ j < 0 := fun q => by have := Int32.lt_iff_toInt_lt.mp q; have : (0 : Int32).toInt = 0 := rfl; omega
  obtain ⟨T', h', cA, X', e', E, A, Ex, st⟩ := newPE X hx hZ w eT (g := mkF m pc Ls (.int j :: rest)) rfl hd rfl hn0 (cap := cap) (by rw [hN]; exact hcap) hb hc hl had
  refine (g T' h' h.size rfl X' e' E ⟨_, A, by rw [sz_new]; exact hN, ?_, fun t ht => ?_⟩ Ex).via st
  · have := (back32 hn0).2; omega
  · show (Array.replicate j.toNatClampNeg _)[t]? = _
    rw [Array.getElem?_replicate, if_pos (by omega)]
theorem own_stD (X : Stand p l e R s m args below meth c T locs cells slots) (hx : p.tables.exec = Jvm.exec) (hZ : Z.Warmed39 s.vm) (eT : T.heap = h) {x : UInt64} (A : own_Arr Z h a .double N f) (hd : decode c.code pc = .ok (.dastore, 1)) (hj : j.toInt = (i : Int)) (hi : i < N) (Nf : Fr n0 locs) (ha : n0 ≤ a) (hq : pc + 1 = q)
    (g : ∀ T' h' L', Stand p l e R s m args below meth c T' L' cells slots → Fr n0 L' → T'.heap = h' → own_Arr Z h' a .double N (own_upd f i (.double x)) → Wr h h' a i (.double x) → own_G p e below FF (T'.setTop (mkF m q Ls rest))) :
    own_G p e below FF (T.setTop (mkF m pc Ls (.double x :: .int j :: .ref a :: rest))) := by
  subst hq
  have A0 := A
  obtain ⟨cl, Ar, S, hN, H⟩ := A
  obtain ⟨h1, h2⟩ := own_idx (N := cl.slots.size) hj (by omega)
  obtain ⟨T', h', X', e', W, st⟩ := stD X hx hZ eT Ar (j := j) (x := x) h1 (g := mkF m pc Ls (.double x :: .int j :: .ref a :: rest)) rfl rfl hd
  have N' := Fr.snoc X' Nf ha
  rw [h2] at W
  exact (g T' h' _ X' N' e' (A0.set W) W).via st
theorem own_arraylength (X : Stand p l e R s m args below meth c T locs cells slots) (hx : p.tables.exec = Jvm.exec) (hZ : Z.Warmed39 s.vm) (eT : T.heap = h) (A : own_Arr Z h a ty N f) (hd : decode c.code pc = .ok (.arraylength, 1)) {v : Int32} (hv : N.toInt32 = v) (hq : pc + 1 = q)
    (g : own_G p e below FF (T.setTop (mkF m q Ls (.int v :: rest)))) :
    own_G p e below FF (T.setTop (mkF m pc Ls (.ref a :: rest))) := by
  subst hq hv
  obtain ⟨cl, Ar, S, hN, H⟩ := A
  subst S
  exact g.via fun t => X.arraylength hx (by rw [eT]; exact Ar.1) (State.isArrayOf_alike hZ.alike Ar.2.1) (g := mkF m pc Ls (.ref a :: rest)) rfl rfl hd t
theorem own_clone {own ad : String} {index : Nat} (X : Stand p l e R s m args below meth c T locs cells slots) (hx : p.tables.exec = Jvm.exec) (hZ : Z.Warmed39 s.vm) (hown : s.vm.findClass own = some m.cls)
    (w1 : (Jvm.Cond.methodLink own index ⟨ad, "clone", "()Ljava/lang/Object;"⟩).before a0 Z = true) (w2 : (Jvm.Cond.sameMethod ad "java/lang/Object" "clone" "()Ljava/lang/Object;").before a0 Z = true) (w3 : (Jvm.Cond.native ⟨"java/lang/Object", "clone", "()Ljava/lang/Object;"⟩).before a0 Z = true)
    (w4 : (Jvm.Cond.instanceMethod ⟨"java/lang/Object", "clone", "()Ljava/lang/Object;"⟩).before a0 Z = true) (w5 : (Jvm.Cond.selects ad ⟨ad, "clone", "()Ljava/lang/Object;"⟩ ⟨"java/lang/Object", "clone", "()Ljava/lang/Object;"⟩).before a0 Z = true) (w6 : (Jvm.Cond.castable ad "java/lang/Cloneable").before a0 Z = true)
    (eT : T.heap = h) (A : own_Arr Z h a ty N f) (E : Exa Z h a ad) (hf : ∀ i, i < N → fits ty (f i) = true) (hsize : Ls.size = c.maxLocals) (hd : decode c.code pc = .ok (.invokevirtual index, 3)) (hfr : 1 ≤ R.frames) {W cap : Nat} (hW : (rest.map fun v => v.category).sum = W) (hl : W + 14 ≤ R.locals) (hcap : N ≤ cap) (hc : cells + 1 ≤ R.cells) (hsl : slots + cap ≤ R.slots) (hq : pc + 3 = q)
    (g : ∀ T' h' b, b = h.size → Stand p l e R s m args below meth c T' locs (cells + 1) (slots + cap) → T'.heap = h' → Ext h h' → Exa Z h' b ad → own_G p e below FF (T'.setTop (mkF m q Ls (.ref b :: rest)))) :
    own_G p e below FF (T.setTop (mkF m pc Ls (.ref a :: rest))) := by
  subst hq
  obtain ⟨cl, Ar, S, hN, H⟩ := A
  have F : FitC Z cl := fitC_of Ar (fun i hi v hv => by rw [H i (by omega)] at hv; cases hv; exact hf i (by omega))
  obtain ⟨T', h', X', e', Ee, A', Ex, st⟩ := cloneA X hx hZ hown w1 w2 w3 w4 w5 w6 eT Ar E F (g := mkF m pc Ls (.ref a :: rest)) rfl hsize rfl hd hfr (W := W) (cap := cap) (by show 2 * 0 + _ ≤ _; rw [hW]; omega) hl (by omega) hc hsl
  exact (g T' h' h.size rfl X' e' Ee Ex).via st
theorem own_cast {own K : String} {index : Nat} (X : Stand p l e R s m args below meth c T locs cells slots) (hx : p.tables.exec = Jvm.exec) (hZ : Z.Warmed39 s.vm) (hown : s.vm.findClass own = some m.cls) (w : (Jvm.Cond.classLink own index K).before a0 Z = true) (eT : T.heap = h) (F : Ins Z h a K true) (hd : decode c.code pc = .ok (.checkcast index, 3)) (hq : pc + 3 = q)
    (g : ∀ T', Stand p l e R s m args below meth c T' locs cells slots → T'.heap = h → own_G p e below FF (T'.setTop (mkF m q Ls (.ref a :: rest)))) :
    own_G p e below FF (T.setTop (mkF m pc Ls (.ref a :: rest))) := by
  subst hq
  obtain ⟨T', X', e', st⟩ := castY X hx hZ hown w eT F (g := mkF m pc Ls (.ref a :: rest)) rfl rfl hd
  exact (g T' X' e').via st
theorem own_retD (X : Stand p l e R s m args below meth c T locs cells slots) (hx : p.tables.exec = Jvm.exec) {z : UInt64} (hret : meth.sig.returnType = some .double) (hlk : meth.locks = false) (hd : decode c.code pc = .ok (.dreturn, 1)) (hk : cells ≤ k) (hn : slots ≤ n) (hq : Q (some (.double z)) T.heap locs) :
    own_G p e below (own_En s k n Q) (T.setTop (mkF m pc Ls [.double z])) := by
  obtain ⟨fs, hr, hrun, hended, hW, hsame⟩ := X.leave (v := some (.double z)) (fun h => by rw [hret] at h; cases h) hlk
  have hm' : T.vm.method? m = some meth := X.method'
  refine ⟨_, _, ?_, hrun, hended, _, hq, ⟨_, rfl⟩, hW, hsame.mono hk hn⟩
  show Steps p.tables e below (T.setTop { method := m, pc := pc, locals := Ls, stack := [.double z], locked := none }) _
  jvm_step X.here [X.here.top, hx, hd, hm', hret]
  first | (intro acts; rw [hr _ acts rfl rfl rfl]) | rw [hr _ _ rfl rfl rfl]
  exact Steps.refl _
end Own4
section Own6
variable {p : Program} {l : Launch} {e : Env} {R : Room} {s : State} {m : MethodId} {args : Array Value} {below : List Frame} {meth : Method} {c : Code} {T : State} {locs : List Loc} {cells slots : Nat} {FF : State → Option Value → Prop} {pc q : Nat} {Ls l' : Array Slot} {st rest : List Value}
theorem own_dneg (X : Stand p l e R s m args below meth c T locs cells slots) (hx : p.tables.exec = Jvm.exec) {x : UInt64} (hd : decode c.code pc = .ok (.dneg, 1)) (hq : pc + 1 = q) (g : own_G p e below FF (T.setTop (mkF m q Ls (.double (FP.dneg x) :: rest)))) : own_G p e below FF (T.setTop (mkF m pc Ls (.double x :: rest))) := by
  subst hq; exact g.via fun _ hr_ => XS.dnegS (g := mkF m pc Ls (.double x :: rest)) X.here hx rfl hd rfl rfl hr_
theorem own_d2f (X : Stand p l e R s m args below meth c T locs cells slots) (hx : p.tables.exec = Jvm.exec) {x : UInt64} (hd : decode c.code pc = .ok (.d2f, 1)) (hn : Jvm.Free.Fl.NoNaN32 (FP.d2f x)) (hq : pc + 1 = q) (g : own_G p e below FF (T.setTop (mkF m q Ls (.float (FP.d2f x) :: rest)))) : own_G p e below FF (T.setTop (mkF m pc Ls (.double x :: rest))) := by
  subst hq; exact g.via fun _ hr_ => XS.d2fS (g := mkF m pc Ls (.double x :: rest)) X.here hx rfl hd rfl hn rfl hr_
theorem own_fload (X : Stand p l e R s m args below meth c T locs cells slots) (hx : p.tables.exec = Jvm.exec) {i : Nat} {v : UInt32} (hd : decode c.code pc = .ok (.fload i, 2)) (hl : Ls[i]? = some (.val (.float v))) (hq : pc + 2 = q) (g : own_G p e below FF (T.setTop (mkF m q Ls (.float v :: st)))) : own_G p e below FF (T.setTop (mkF m pc Ls st)) := by
  subst hq; exact g.via fun _ hr_ => XS.fload (g := mkF m pc Ls st) X.here hx rfl hd hl hr_
theorem own_fstore (X : Stand p l e R s m args below meth c T locs cells slots) (hx : p.tables.exec = Jvm.exec) {i : Nat} {v : UInt32} (hd : decode c.code pc = .ok (.fstore i, 2)) (hl : storeLocals Ls i (.float v) = some l') (hq : pc + 2 = q) (g : own_G p e below FF (T.setTop (mkF m q l' rest))) : own_G p e below FF (T.setTop (mkF m pc Ls (.float v :: rest))) := by
  subst hq; exact g.via fun _ hr_ => XS.fstore (g := mkF m pc Ls (.float v :: rest)) X.here hx rfl hd rfl hl hr_
theorem own_fcmp (X : Stand p l e R s m args below meth c T locs cells slots) (hx : p.tables.exec = Jvm.exec) {o : CmpOp} {x y : UInt32} {v : Int32} (hd : decode c.code pc = .ok (.fcmp o, 1)) (hv : cmpValue (FP.fcmp x y) o = v) (hq : pc + 1 = q) (g : own_G p e below FF (T.setTop (mkF m q Ls (.int v :: rest)))) : own_G p e below FF (T.setTop (mkF m pc Ls (.float y :: .float x :: rest))) := by
  subst hq; exact g.via fun _ hr_ => XS.fcmpS (g := mkF m pc Ls (.float y :: .float x :: rest)) X.here hx rfl hd rfl hv hr_
end Own6
theorem own_pd0 : parseMethodDescriptor "(D)D" = some ⟨[.double], (some .double)⟩ := by decide +kernel
theorem own_dsub {p : Program} {l : Launch} {e : Env} {R : Room} {s : State} {m : MethodId} {args : Array Value} {below : List Frame} {meth : Method} {c : Code} {T : State} {locs : List Loc} {cells slots : Nat} {FF : State → Option Value → Prop} {pc q : Nat} {Ls : Array Slot} {rest : List Value} (X : Stand p l e R s m args below meth c T locs cells slots) (hx : p.tables.exec = Jvm.exec) {x y : UInt64} (hd : decode c.code pc = .ok (.dsub, 1)) (hn : Jvm.Free.Fl.Fin64 (FP.dsub x y)) (hq : pc + 1 = q) (g : own_G p e below FF (T.setTop (mkF m q Ls (.double (FP.dsub x y) :: rest)))) : own_G p e below FF (T.setTop (mkF m pc Ls (.double y :: .double x :: rest))) := by
  subst hq; exact g.via fun _ hr_ => XS.dsubS (g := mkF m pc Ls (.double y :: .double x :: rest)) X.here hx rfl hd rfl hn.noNaN rfl hr_
section OwnR
open Jvm.FP.Core
theorem own_zp (a : Int) : (2 : Rat) ^ a * (2 : Rat) ^ ((-a).toNat) = (2 : Rat) ^ (a.toNat) := by
  rw [← Rat.zpow_natCast, ← Rat.zpow_natCast, ← Rat.zpow_add (by decide)]
  congr 1; omega
theorem own_zpos (a : Int) : 0 < (2 : Rat) ^ a := Rat.zpow_pos (by decide)
theorem own_npos (a : Nat) : 0 < (2 : Rat) ^ a := Rat.pow_pos (by decide)
theorem own_zmono {a b : Int} (h : a ≤ b) : (2 : Rat) ^ a ≤ (2 : Rat) ^ b := by
  have e : b = a + ((b - a).toNat : Int) := by omega
  rw [e, Rat.zpow_add (by decide), Rat.zpow_natCast]
  have h1 : (1 : Rat) ≤ (2 : Rat) ^ (b - a).toNat := by
    generalize (b - a).toNat = n
    induction n with
    | zero => simp
    | succ n ih => rw [Rat.pow_succ]; grind
  have h2 := own_zpos a
  have h3 := Rat.mul_le_mul_of_nonneg_left h1 (Rat.le_of_lt h2)
  grind
theorem own_zlt {a b : Int} (h : (2 : Rat) ^ a < (2 : Rat) ^ b) : a < b := by
  apply Int.lt_of_not_ge
  intro h1
  exact absurd h (Rat.not_lt.mpr (own_zmono h1))
theorem own_cast2 (n : Nat) : (((2 ^ n : Nat) : Rat)) = (2 : Rat) ^ n := by rw [Rat.natCast_pow]; rfl
theorem own_below {A B : Nat} (hB : 0 < B) (a : Int) : Below A B a ↔ (A : Rat) / B < (2 : Rat) ^ a := by
  unfold Below
  have h0 : (0 : Rat) < B := Rat.natCast_pos.mpr hB
  rw [← Rat.natCast_lt_natCast, Rat.natCast_mul, Rat.natCast_mul, own_cast2, own_cast2, Rat.div_lt_iff h0, ← own_zp a]
  have h1 := own_npos (-a).toNat
  have e : (B : Rat) * (2 ^ a * 2 ^ (-a).toNat) = (2 ^ a * B) * 2 ^ (-a).toNat := by grind
  rw [e]
  exact Rat.mul_lt_mul_right h1
def own_mg (c : Nat) (q : Int) : Rat := (c : Rat) * (2 : Rat) ^ q
theorem own_round (s : Bool) {A B : Nat} (e : Int) (hB : 0 < B) {r : Rat} (hr : r = (A : Rat) / B * 2 ^ e) (hlt : r < (2 : Rat) ^ (1000 : Int)) :
    ∃ c q, roundRatio b64 s A B e = .fin s c q ∧ own_mg c q - r ≤ r * (2 : Rat) ^ (-53 : Int) + (2 : Rat) ^ (-1075 : Int) ∧ r - own_mg c q ≤ r * (2 : Rat) ^ (-53 : Int) + (2 : Rat) ^ (-1075 : Int) := by
  have h0 : (0 : Rat) < B := Rat.natCast_pos.mpr hB
  have t53 := own_zpos (-53); have t75 := own_zpos (-1075)
  rcases Nat.eq_zero_or_pos A with rfl | hA
  · refine ⟨0, b64.qmin, rfl, ?_, ?_⟩ <;> (generalize (2 : Rat) ^ (-1075 : Int) = g at *; rw [hr]; unfold own_mg; grind)
  have hA0 : (0 : Rat) < A := Rat.natCast_pos.mpr hA
  obtain ⟨l1, l2⟩ := leading_spec hA hB
  rw [own_below hB] at l1
  have l1 := Rat.not_lt.mp l1
  -- 2^(leading+e) ≤ r
  have l3 : (2 : Rat) ^ (leading A B + e) ≤ r := by
    rw [Rat.zpow_add (by decide), hr]
    exact Rat.mul_le_mul_of_nonneg_right l1 (Rat.le_of_lt (own_zpos e))
  have l4 : leading A B + e < 1000 := own_zlt (Std.lt_of_le_of_lt l3 hlt)
  have hq0 : b64.qmin = -1074 := by decide
  have hqe : quantum b64 A B e = max (-1074) (leading A B + e - 52) := by unfold quantum; rw [hq0]; rfl
  have hq : quantum b64 A B e ≤ 970 := by omega
  have hn := nearest_units_le (f := b64) hA hB e
  have hs := nearest_spec (unitsNum A e (quantum b64 A B e)) (unitsDen B e (quantum b64 A B e)) (unitsDen_pos hB _ _)
  have hh : (2 : Rat) ^ (quantum b64 A B e - 1) ≤ r * (2 : Rat) ^ (-53 : Int) + (2 : Rat) ^ (-1075 : Int) := by
    have hr0 : 0 ≤ r := Rat.le_trans (Rat.le_of_lt (own_zpos _)) l3
    rcases Int.le_total (leading A B + e - 52) (-1074) with h | h
    · have : quantum b64 A B e - 1 = -1075 := by omega
      rw [this]; have := Rat.mul_nonneg hr0 (Rat.le_of_lt t53); grind
    · have : quantum b64 A B e - 1 = (leading A B + e) + -53 := by omega
      rw [this, Rat.zpow_add (by decide)]
      have := Rat.mul_le_mul_of_nonneg_right l3 (Rat.le_of_lt t53); grind
  unfold roundRatio roundAt
  rw [if_neg (by omega)]
  generalize quantum b64 A B e = q at *
  have hu : (unitsNum A e q : Rat) * 2 ^ q = r * (unitsDen B e q : Rat) := by
    unfold unitsNum unitsDen
    rw [Rat.natCast_mul, Rat.natCast_mul, own_cast2, own_cast2, hr]
    have e1 : (2 : Rat) ^ (e - q).toNat * 2 ^ q = 2 ^ e * 2 ^ (q - e).toNat := by
      rw [← Rat.zpow_natCast, ← Rat.zpow_natCast, ← Rat.zpow_add (by decide), ← Rat.zpow_add (by decide)]; congr 1; omega
    have e2 : (A : Rat) / B * B = A := Rat.div_mul_cancel (by grind)
    grind
  have hD : (0 : Rat) < (unitsDen B e q : Rat) := Rat.natCast_pos.mpr (unitsDen_pos hB _ _)
  generalize unitsNum A e q = A' at *
  generalize unitsDen B e q = B' at *
  generalize nearest A' B' = n at *
  obtain ⟨s1, s2, -⟩ := hs
  have hp : b64.p = 53 := rfl
  rw [hp] at hn
  have key : own_mg n q - r ≤ 2 ^ (q - 1) ∧ r - own_mg n q ≤ 2 ^ (q - 1) := by
    have e3 : (2 : Rat) ^ q = 2 * 2 ^ (q - 1) := by rw [show q = 1 + (q - 1) by omega, Rat.zpow_add (by decide)]; simp; congr 2; omega
    have z := own_zpos (q - 1)
    have c1 := Rat.natCast_le_natCast.mpr s1
    have c2 := Rat.natCast_le_natCast.mpr s2
    simp only [Rat.natCast_mul, Rat.natCast_add] at c1 c2
    unfold own_mg
    rw [e3] at hu ⊢
    generalize (2 : Rat) ^ (q - 1) = g at *
    have c1 := Rat.mul_le_mul_of_nonneg_right c1 (Rat.le_of_lt z)
    have c2 := Rat.mul_le_mul_of_nonneg_right c2 (Rat.le_of_lt z)
    constructor
    · refine Rat.le_of_mul_le_mul_right (c := (B' : Rat)) ?_ hD; grind
    · refine Rat.le_of_mul_le_mul_right (c := (B' : Rat)) ?_ hD; grind
  unfold settle bound
  have hqm : b64.qmax = 971 := by decide
  rw [hqm, hp]
  split
  · rw [if_pos (by omega)]; exact ⟨n, q, rfl, Rat.le_trans key.1 hh, Rat.le_trans key.2 hh⟩
  · rename_i hb
    have hn2 : n = 2 ^ 53 := by omega
    rw [if_pos (by omega)]
    refine ⟨b64.tails, q + 1, rfl, ?_⟩
    have : own_mg b64.tails (q + 1) = own_mg n q := by
      unfold own_mg; rw [hn2, Rat.zpow_add (by decide), show b64.tails = 2 ^ 52 from rfl]
      have : ((2 ^ 53 : Nat) : Rat) = ((2 ^ 52 : Nat) : Rat) * 2 := by decide +kernel
      rw [this]; simp; grind
    rw [this]; exact ⟨Rat.le_trans key.1 hh, Rat.le_trans key.2 hh⟩
def own_sg (s : Bool) : Rat := if s then -1 else 1
def own_V (b : UInt64) (v : Rat) : Prop := ∃ s c q, val64 b = .fin s c q ∧ v = own_sg s * own_mg c q
def own_Near (v r m : Rat) : Prop := v - r ≤ m * (2 : Rat) ^ (-53 : Int) + (2 : Rat) ^ (-1075 : Int) ∧ r - v ≤ m * (2 : Rat) ^ (-53 : Int) + (2 : Rat) ^ (-1075 : Int)
theorem own_mg_nn (c : Nat) (q : Int) : 0 ≤ own_mg c q := Rat.mul_nonneg Rat.natCast_nonneg (Rat.le_of_lt (own_zpos q))
theorem own_rsig (s : Bool) {A B : Nat} (e : Int) (hB : 0 < B) {r m : Rat} (hr : r = own_sg s * ((A : Rat) / B * 2 ^ e)) (h1 : r ≤ m) (h2 : -r ≤ m) (hm : m < (2 : Rat) ^ (1000 : Int)) :
    ∃ c q, roundRatio b64 s A B e = .fin s c q ∧ own_Near (own_sg s * own_mg c q) r m := by
  have hp : (A : Rat) / B * 2 ^ e ≤ m := by unfold own_sg at hr; cases s <;> grind
  obtain ⟨c, q, e1, e2, e3⟩ := own_round s e hB (rfl : (A : Rat) / B * 2 ^ e = _) (Std.lt_of_le_of_lt hp hm)
  have := Rat.mul_le_mul_of_nonneg_right hp (Rat.le_of_lt (own_zpos (-53)))
  refine ⟨c, q, e1, ?_⟩
  unfold own_Near
  rw [hr]
  generalize (2 : Rat) ^ (-1075 : Int) = g at *
  generalize (2 : Rat) ^ (-53 : Int) = u at *
  unfold own_sg; cases s <;> constructor <;> grind
theorem own_rsigD (s : Bool) (c : Nat) (q : Int) {r m : Rat} (hr : r = own_sg s * own_mg c q) (h1 : r ≤ m) (h2 : -r ≤ m) (hm : m < (2 : Rat) ^ (1000 : Int)) :
    ∃ c' q', round b64 (.fin s c q) = .fin s c' q' ∧ own_Near (own_sg s * own_mg c' q') r m := by
  refine own_rsig s q (by decide) (B := 1) ?_ h1 h2 hm
  rw [hr]; unfold own_mg; rw [show ((1 : Nat) : Rat) = 1 from rfl]; grind
theorem own_Vmul {a b : UInt64} {x y m : Rat} (ha : own_V a x) (hb : own_V b y) (h1 : x * y ≤ m) (h2 : -(x * y) ≤ m) (hm : m < (2 : Rat) ^ (1000 : Int)) : ∃ v, own_V (dmul a b) v ∧ own_Near v (x * y) m := by
  obtain ⟨s, c, q, ea, rfl⟩ := ha
  obtain ⟨t, d, r, eb, rfl⟩ := hb
  obtain ⟨c', q', e1, e2⟩ := own_rsigD (s != t) (c * d) (q + r) (r := own_sg s * own_mg c q * (own_sg t * own_mg d r)) (by
    unfold own_mg own_sg; rw [Rat.zpow_add (by decide), Rat.natCast_mul]; cases s <;> cases t <;> simp <;> grind) h1 h2 hm
  exact ⟨_, ⟨_, c', q', by rw [val64_dmul, ea, eb]; exact e1, rfl⟩, e2⟩
theorem own_Vdiv {a b : UInt64} {x y m : Rat} (ha : own_V a x) (hb : own_V b y) (hy : y ≠ 0) (h1 : x / y ≤ m) (h2 : -(x / y) ≤ m) (hm : m < (2 : Rat) ^ (1000 : Int)) : ∃ v, own_V (ddiv a b) v ∧ own_Near v (x / y) m := by
  obtain ⟨s, c, q, ea, rfl⟩ := ha
  obtain ⟨t, d, r, eb, rfl⟩ := hb
  have hd : d ≠ 0 := by rintro rfl; apply hy; unfold own_mg; grind
  have hd' : (d : Rat) ≠ 0 := fun q => hd (Rat.natCast_eq_zero_iff.mp q)
  obtain ⟨c', q', e1, e2⟩ := own_rsig (s != t) (q - r) (A := c) (B := d) (Nat.pos_of_ne_zero hd) (r := own_sg s * own_mg c q / (own_sg t * own_mg d r)) (by
    have e : (2 : Rat) ^ q = 2 ^ (q - r) * 2 ^ r := by rw [← Rat.zpow_add (by decide)]; congr 1; omega
    have z : (2 : Rat) ^ r ≠ 0 := by have := own_zpos r; grind
    unfold own_mg own_sg; rw [e]; generalize (2 : Rat) ^ r = g at *; generalize (2 : Rat) ^ (q - r) = f at *; cases s <;> cases t <;> simp <;> grind) h1 h2 hm
  refine ⟨_, ⟨_, c', q', ?_, rfl⟩, e2⟩
  rw [val64_ddiv, ea, eb]; simp only [quotient, if_neg hd]; exact e1
theorem own_inU (c : Nat) {q e : Int} (h : e ≤ q) : (inUnits c q e : Rat) * 2 ^ e = own_mg c q := by
  unfold inUnits own_mg
  rw [Rat.natCast_mul, own_cast2, Rat.mul_assoc, ← Rat.zpow_natCast, ← Rat.zpow_add (by decide)]; congr 2; omega
theorem own_sgd (s : Bool) (c : Nat) : ((signed s c : Int) : Rat) = own_sg s * (c : Rat) := by
  unfold signed own_sg; cases s
  · rw [if_neg (by decide), if_neg (by decide), Rat.intCast_natCast]; grind
  · rw [if_pos rfl, if_pos rfl, Rat.intCast_neg, Rat.intCast_natCast]; grind
theorem own_sum {s t : Bool} {c d : Nat} {q r : Int} : ∃ S C Q, exactSum (.fin s c q) (.fin t d r) = .fin S C Q ∧ own_sg S * own_mg C Q = own_sg s * own_mg c q + own_sg t * own_mg d r := by
  refine ⟨_, _, _, rfl, ?_⟩
  have e1 := own_inU c (q := q) (e := min q r) (by omega)
  have e2 := own_inU d (q := r) (e := min q r) (by omega)
  have e3 : ((sumUnits s c q t d r (min q r) : Int) : Rat) = own_sg s * (inUnits c q (min q r) : Rat) + own_sg t * (inUnits d r (min q r) : Rat) := by
    unfold sumUnits; rw [Rat.intCast_add, own_sgd, own_sgd]
  rw [← e1, ← e2]
  have e4 : own_sg (sumSign s t (sumUnits s c q t d r (min q r))) * ((sumUnits s c q t d r (min q r)).natAbs : Rat) = ((sumUnits s c q t d r (min q r) : Int) : Rat) := by
    generalize sumUnits s c q t d r (min q r) = v
    unfold own_sg
    rcases Int.lt_trichotomy v 0 with h | h | h
    · rw [show sumSign s t v = true by unfold sumSign; rw [if_neg (by omega), decide_eq_true h], if_pos rfl]
      have : (v.natAbs : Int) = -v := by omega
      have : ((v.natAbs : Int) : Rat) = ((-v : Int) : Rat) := by rw [this]
      rw [Rat.intCast_natCast, Rat.intCast_neg] at this
      rw [this]; grind
    · subst h; simp
    · rw [show sumSign s t v = false by unfold sumSign; rw [if_neg (by omega), decide_eq_false (by omega)], if_neg (by decide)]
      have : (v.natAbs : Int) = v := by omega
      have : ((v.natAbs : Int) : Rat) = ((v : Int) : Rat) := by rw [this]
      rw [Rat.intCast_natCast] at this
      rw [this]; grind
  unfold own_mg
  rw [← Rat.mul_assoc, e4, e3]; grind
theorem own_Vadd {a b : UInt64} {x y m : Rat} (ha : own_V a x) (hb : own_V b y) (h1 : x + y ≤ m) (h2 : -(x + y) ≤ m) (hm : m < (2 : Rat) ^ (1000 : Int)) : ∃ v, own_V (dadd a b) v ∧ own_Near v (x + y) m := by
  obtain ⟨s, c, q, ea, rfl⟩ := ha
  obtain ⟨t, d, r, eb, rfl⟩ := hb
  obtain ⟨S, C, Q, f1, f2⟩ := own_sum (s := s) (t := t) (c := c) (d := d) (q := q) (r := r)
  rw [← f2] at h1 h2 ⊢
  obtain ⟨c', q', e1, e2⟩ := own_rsigD S C Q rfl h1 h2 hm
  exact ⟨_, ⟨_, c', q', by rw [val64_dadd, ea, eb, f1]; exact e1, rfl⟩, e2⟩
theorem own_Vneg {a : UInt64} {x : Rat} (ha : own_V a x) : own_V (dneg a) (-x) := by
  obtain ⟨s, c, q, ea, rfl⟩ := ha
  refine ⟨!s, c, q, by rw [val64_dneg, ea]; rfl, ?_⟩
  unfold own_sg; cases s <;> simp <;> grind
theorem own_Vsub {a b : UInt64} {x y m : Rat} (ha : own_V a x) (hb : own_V b y) (h1 : x - y ≤ m) (h2 : -(x - y) ≤ m) (hm : m < (2 : Rat) ^ (1000 : Int)) : ∃ v, own_V (dsub a b) v ∧ own_Near v (x - y) m := by
  rw [dsub_eq, Rat.sub_eq_add_neg]
  exact own_Vadd ha (own_Vneg hb) (by grind) (by grind) hm
theorem own_Vcmp {a b : UInt64} {x y : Rat} (ha : own_V a x) (hb : own_V b y) : (x < y → dcmp a b = some .lt) ∧ (x = y → dcmp a b = some .eq) ∧ (y < x → dcmp a b = some .gt) := by
  obtain ⟨s, c, q, ea, rfl⟩ := ha
  obtain ⟨t, d, r, eb, rfl⟩ := hb
  have e : dcmp a b = order (val64 a) (val64 b) := rfl
  rw [e, ea, eb]
  simp only [order]
  have e1 := own_inU c (q := q) (e := min q r) (by omega)
  have e2 := own_inU d (q := r) (e := min q r) (by omega)
  have z := own_zpos (min q r)
  have f1 : own_sg s * own_mg c q = ((signed s (inUnits c q (min q r)) : Int) : Rat) * 2 ^ (min q r) := by rw [own_sgd, ← e1]; grind
  have f2 : own_sg t * own_mg d r = ((signed t (inUnits d r (min q r)) : Int) : Rat) * 2 ^ (min q r) := by rw [own_sgd, ← e2]; grind
  rw [f1, f2]
  generalize signed s (inUnits c q (min q r)) = i
  generalize signed t (inUnits d r (min q r)) = j
  generalize (2 : Rat) ^ (min q r) = g at *
  refine ⟨fun h => ?_, fun h => ?_, fun h => ?_⟩
  · have := Rat.intCast_lt_intCast.mp ((Rat.mul_lt_mul_right z).mp h)
    rw [show compare i j = .lt from Int.compare_eq_lt.mpr this]
  · have : (i : Rat) = j := by
      have h1 : (i : Rat) ≤ j := Rat.le_of_mul_le_mul_right (by grind) z
      have h2 : (j : Rat) ≤ i := Rat.le_of_mul_le_mul_right (by grind) z
      grind
    rw [Rat.intCast_inj.mp this, show compare j j = .eq from Int.compare_eq_eq.mpr rfl]
  · have := Rat.intCast_lt_intCast.mp ((Rat.mul_lt_mul_right z).mp h)
    rw [show compare i j = .gt from Int.compare_eq_gt.mpr this]
theorem own_Vfin {a : UInt64} {x : Rat} (ha : own_V a x) : DFin a := by
  obtain ⟨s, c, q, ea, -⟩ := ha; exact ⟨s, c, q, ea⟩
def own_w : Rat := 1 / 4503599627370496
theorem own_u53 : (2 : Rat) ^ (-53 : Int) = 1 / 9007199254740992 := by decide +kernel
theorem own_tiny {v : Rat} {m : Nat} (h : 1 ≤ v * 2 ^ m) (hm : m ≤ 900) : (2 : Rat) ^ (-1075 : Int) ≤ v / 2 ^ 100 := by
  have h1 : (2 : Rat) ^ m ≤ 2 ^ 900 := by have := own_zmono (a := m) (b := 900) (by omega); rw [Rat.zpow_natCast] at this; exact this
  have z := own_npos m
  have hv : 0 < v := by
    apply Rat.not_le.mp
    intro q
    have := Rat.mul_le_mul_of_nonneg_right q (Rat.le_of_lt z); grind
  have h2 : 1 ≤ v * 2 ^ 900 := Rat.le_trans h (Rat.mul_le_mul_of_nonneg_left h1 (Rat.le_of_lt hv))
  have e : (2 : Rat) ^ (-1075 : Int) * (2 ^ 900 * 2 ^ 100) ≤ 1 := by decide +kernel
  have z1 := own_npos 900
  have z2 := own_npos 100
  have e2 : v / 2 ^ 100 * 2 ^ 100 = v := Rat.div_mul_cancel (by generalize (2 : Rat) ^ 100 = g at *; grind)
  generalize (2 : Rat) ^ (-1075 : Int) = g at *
  generalize (2 : Rat) ^ 900 = P at *
  generalize (2 : Rat) ^ 100 = R at *
  generalize v / R = V at *
  refine Rat.le_of_mul_le_mul_right (c := P * R) ?_ (Rat.mul_pos z1 z2)
  have : V * (P * R) = v * P := by rw [← e2]; grind
  rw [this]; exact Rat.le_trans e h2
theorem own_padd (m n : Nat) : (2 : Rat) ^ (m + n) = 2 ^ m * 2 ^ n := by rw [← Rat.zpow_natCast, ← Rat.zpow_natCast, ← Rat.zpow_natCast, ← Rat.zpow_add (by decide)]; congr 1
theorem own_mulm {a b c d : Rat} (h0 : 0 ≤ a) (h1 : a ≤ b) (h2 : 0 ≤ c) (h3 : c ≤ d) : a * c ≤ b * d :=
  Rat.le_trans (Rat.mul_le_mul_of_nonneg_right h1 h2) (Rat.mul_le_mul_of_nonneg_left h3 (Rat.le_trans h0 h1))
def own_In (v' v K : Rat) : Prop := v - v * K ≤ v' ∧ v' ≤ v + v * K
theorem own_fin {r v v'' J : Rat} {m : Nat} (hv : 0 < v) (hm1 : 1 ≤ v * 2 ^ m) (hm : m ≤ 900) (hJ0 : 0 ≤ J) (hJ : J ≤ 1 / 8) (h : own_In r v J) (hn : own_Near v'' r r) : own_In v'' v (J + own_w * (5 / 8)) := by
  have ht := own_tiny hm1 hm
  obtain ⟨h1, h2⟩ := h
  obtain ⟨n1, n2⟩ := hn
  rw [own_u53] at n1 n2
  have hc : (2 : Rat) ^ 100 = 1267650600228229401496703205376 := by decide +kernel
  rw [hc] at ht
  generalize (2 : Rat) ^ (-1075 : Int) = g at *
  have p1 := Rat.mul_le_mul_of_nonneg_left hJ (Rat.le_of_lt hv)
  have p2 := Rat.mul_nonneg (Rat.le_of_lt hv) hJ0
  unfold own_In own_w
  constructor <;> grind
def own_Rel (b : UInt64) (v : Rat) (k m : Nat) : Prop := 0 < v ∧ v ≤ 2 ^ m ∧ 1 ≤ v * 2 ^ m ∧ ∃ v', own_V b v' ∧ own_In v' v (k * own_w)
theorem own_wpos : 0 < own_w := by decide +kernel
theorem own_kw {k : Nat} (h : k ≤ 1000) : 0 ≤ (k : Rat) * own_w ∧ (k : Rat) * own_w ≤ 1000 * own_w := by
  have h1 : (k : Rat) ≤ 1000 := Rat.natCast_le_natCast.mpr h
  have h0 : (0 : Rat) ≤ k := Rat.natCast_nonneg
  exact ⟨Rat.mul_nonneg h0 (Rat.le_of_lt own_wpos), Rat.mul_le_mul_of_nonneg_right h1 (Rat.le_of_lt own_wpos)⟩
theorem own_KL {K L : Rat} (h1 : 0 ≤ K) (h2 : K ≤ 1000 * own_w) (h3 : 0 ≤ L) (h4 : L ≤ 1000 * own_w) : K * L ≤ own_w / 64 := by
  have := own_mulm h1 h2 h3 h4
  unfold own_w at *; grind
theorem own_p2le {m n : Nat} (h : m ≤ n) : (2 : Rat) ^ m ≤ 2 ^ n := by have := own_zmono (a := m) (b := n) (by omega); rw [Rat.zpow_natCast, Rat.zpow_natCast] at this; exact this
theorem own_big {m : Nat} (h : m ≤ 900) {v r : Rat} (h1 : v ≤ 2 ^ m) (h2 : r ≤ v + v * (1 / 8)) : r < (2 : Rat) ^ (1000 : Int) := by
  have h3 := own_p2le h
  have e : (2 : Rat) ^ 900 + 2 ^ 900 * (1 / 8) < (2 : Rat) ^ (1000 : Int) := by decide +kernel
  generalize (2 : Rat) ^ 900 = P at *
  generalize (2 : Rat) ^ (1000 : Int) = Q at *
  generalize (2 : Rat) ^ m = R at *
  grind
theorem own_Rmk {b : UInt64} {r v : Rat} {m k : Nat} {J : Rat} (hv : 0 < v) (hm0 : v ≤ 2 ^ m) (hm1 : 1 ≤ v * 2 ^ m) (hm : m ≤ 900) (hJ0 : 0 ≤ J) (hJ : J ≤ 1 / 8) (hr : own_In r v J) (hJk : J + own_w * (5 / 8) ≤ k * own_w) (h : r < (2 : Rat) ^ (1000 : Int) → ∃ v'', own_V b v'' ∧ own_Near v'' r r) : own_Rel b v k m := by
  have p1 := Rat.mul_le_mul_of_nonneg_left hJ (Rat.le_of_lt hv)
  obtain ⟨v'', hV, hn⟩ := h (own_big hm hm0 (Rat.le_trans hr.2 (by grind)))
  refine ⟨hv, hm0, hm1, v'', hV, ?_⟩
  obtain ⟨f1, f2⟩ := own_fin hv hm1 hm hJ0 hJ hr hn
  have p2 := Rat.mul_le_mul_of_nonneg_left hJk (Rat.le_of_lt hv)
  unfold own_In
  generalize v * (J + own_w * (5 / 8)) = A at *
  generalize v * ((k : Rat) * own_w) = B at *
  constructor <;> grind
theorem own_Inpos {r v J : Rat} (hv : 0 < v) (hJ : J ≤ 1 / 8) (h : own_In r v J) : 0 < r := by
  have p1 := Rat.mul_le_mul_of_nonneg_left hJ (Rat.le_of_lt hv)
  have := h.1
  grind
theorem own_1000w : (1000 : Rat) * own_w ≤ 1 / 16 := by decide +kernel
theorem own_Rmul {a b : UInt64} {x y : Rat} {k l m n : Nat} (ha : own_Rel a x k m) (hb : own_Rel b y l n) (hk : k + l + 1 ≤ 1000) (hm : m + n ≤ 900) : own_Rel (dmul a b) (x * y) (k + l + 1) (m + n) := by
  obtain ⟨x0, x1, x2, x', Vx, Ix⟩ := ha
  obtain ⟨y0, y1, y2, y', Vy, Iy⟩ := hb
  obtain ⟨K0, K1⟩ := own_kw (k := k) (by omega)
  obtain ⟨L0, L1⟩ := own_kw (k := l) (by omega)
  have hKL := own_KL K0 K1 L0 L1
  have hw := own_1000w
  have wp := own_wpos
  have x'0 := own_Inpos x0 (by grind) Ix
  have y'0 := own_Inpos y0 (by grind) Iy
  have xy := Rat.mul_pos x0 y0
  have hs : ((k + l + 1 : Nat) : Rat) * own_w = k * own_w + l * own_w + own_w := by rw [Rat.natCast_add, Rat.natCast_add]; rw [show ((1 : Nat) : Rat) = 1 from rfl]; grind
  refine own_Rmk (r := x' * y') (J := k * own_w + l * own_w + own_w / 8) xy ?_ ?_ hm (by grind) ?_ ?_ ?_ (fun h => own_Vmul Vx Vy Rat.le_refl (by have := Rat.mul_pos x'0 y'0; grind) h)
  · rw [own_padd]; exact own_mulm (Rat.le_of_lt x0) x1 (Rat.le_of_lt y0) y1
  · rw [own_padd]; have := own_mulm (by decide +kernel) x2 (by decide +kernel) y2; grind
  · have : (1000 : Rat) * own_w + 1000 * own_w + own_w / 8 ≤ 1 / 8 := by decide +kernel
    grind
  · obtain ⟨a1, a2⟩ := Ix
    obtain ⟨b1, b2⟩ := Iy
    generalize (k : Rat) * own_w = K at *
    generalize (l : Rat) * own_w = L at *
    have hK1 : K ≤ 1 / 8 := by grind
    have hL1 : L ≤ 1 / 8 := by grind
    have t1 := own_mulm (Rat.le_of_lt x'0) a2 (Rat.le_of_lt y'0) b2
    have t3 : 0 ≤ y - y * L := by have := Rat.mul_le_mul_of_nonneg_left hL1 (Rat.le_of_lt y0); grind
    have t4 : 0 ≤ x - x * K := by have := Rat.mul_le_mul_of_nonneg_left hK1 (Rat.le_of_lt x0); grind
    have t2 := own_mulm t4 a1 t3 b1
    have t5 := Rat.mul_le_mul_of_nonneg_left hKL (Rat.le_of_lt xy)
    have t6 := Rat.mul_nonneg (Rat.le_of_lt xy) (Rat.mul_nonneg K0 L0)
    have t7 := Rat.mul_pos xy wp
    constructor <;> grind
  · rw [hs]; grind
theorem own_Radd {a b : UInt64} {x y : Rat} {k l m n : Nat} (ha : own_Rel a x k m) (hb : own_Rel b y l n) (hk : max k l + 1 ≤ 1000) (hm : max m n + 1 ≤ 900) : own_Rel (dadd a b) (x + y) (max k l + 1) (max m n + 1) := by
  obtain ⟨x0, x1, x2, x', Vx, Ix⟩ := ha
  obtain ⟨y0, y1, y2, y', Vy, Iy⟩ := hb
  have wp := own_wpos
  have hK : (k : Rat) * own_w ≤ (max k l : Nat) * own_w := Rat.mul_le_mul_of_nonneg_right (Rat.natCast_le_natCast.mpr (by omega)) (Rat.le_of_lt wp)
  have hL : (l : Rat) * own_w ≤ (max k l : Nat) * own_w := Rat.mul_le_mul_of_nonneg_right (Rat.natCast_le_natCast.mpr (by omega)) (Rat.le_of_lt wp)
  obtain ⟨J0, J1⟩ := own_kw (k := max k l) (by omega)
  have hw := own_1000w
  have x'0 := own_Inpos x0 (by grind) Ix
  have y'0 := own_Inpos y0 (by grind) Iy
  have hs : ((max k l + 1 : Nat) : Rat) * own_w = (max k l : Nat) * own_w + own_w := by rw [Rat.natCast_add]; rw [show ((1 : Nat) : Rat) = 1 from rfl]; grind
  have p1 := own_p2le (m := m) (n := max m n) (by omega)
  have p2 := own_p2le (m := n) (n := max m n) (by omega)
  refine own_Rmk (r := x' + y') (J := (max k l : Nat) * own_w) (by grind) ?_ ?_ hm J0 (by grind) ?_ ?_ (fun h => own_Vadd Vx Vy Rat.le_refl (by grind) h)
  · rw [Rat.pow_succ]; grind
  · rw [Rat.pow_succ]
    have q1 := Rat.mul_le_mul_of_nonneg_left p1 (Rat.le_of_lt x0)
    have q2 := Rat.mul_nonneg (Rat.le_of_lt y0) (Rat.le_of_lt (own_npos (max m n)))
    have q3 := Rat.mul_nonneg (Rat.le_of_lt x0) (Rat.le_of_lt (own_npos (max m n)))
    grind
  · obtain ⟨a1, a2⟩ := Ix
    obtain ⟨b1, b2⟩ := Iy
    have q1 := Rat.mul_le_mul_of_nonneg_left hK (Rat.le_of_lt x0)
    have q2 := Rat.mul_le_mul_of_nonneg_left hL (Rat.le_of_lt y0)
    constructor <;> grind
  · rw [hs]; grind
theorem own_Rdiv {a b : UInt64} {x y : Rat} {k l m n : Nat} (ha : own_Rel a x k m) (hb : own_Rel b y l n) (hk : k + l + 1 ≤ 1000) (hm : m + n ≤ 900) : own_Rel (ddiv a b) (x / y) (k + l + 1) (m + n) := by
  obtain ⟨x0, x1, x2, x', Vx, Ix⟩ := ha
  obtain ⟨y0, y1, y2, y', Vy, Iy⟩ := hb
  obtain ⟨K0, K1⟩ := own_kw (k := k) (by omega)
  obtain ⟨L0, L1⟩ := own_kw (k := l) (by omega)
  have hKL := own_KL K0 K1 L0 L1
  have hLL := own_KL L0 L1 L0 L1
  have hw := own_1000w
  have wp := own_wpos
  have x'0 := own_Inpos x0 (by grind) Ix
  have y'0 := own_Inpos y0 (by grind) Iy
  have hs : ((k + l + 1 : Nat) : Rat) * own_w = k * own_w + l * own_w + own_w := by rw [Rat.natCast_add, Rat.natCast_add]; rw [show ((1 : Nat) : Rat) = 1 from rfl]; grind
  obtain ⟨z, hz⟩ : ∃ z, z = x / y := ⟨_, rfl⟩
  have ez : z * y = x := by rw [hz]; exact Rat.div_mul_cancel (by grind)
  have z0 : 0 < z := by
    apply Rat.not_le.mp; intro q
    have := Rat.mul_le_mul_of_nonneg_right q (Rat.le_of_lt y0); grind
  obtain ⟨r, hr⟩ : ∃ r, r = x' / y' := ⟨_, rfl⟩
  have er : r * y' = x' := by rw [hr]; exact Rat.div_mul_cancel (by grind)
  have r0 : 0 < r := by
    apply Rat.not_le.mp; intro q
    have := Rat.mul_le_mul_of_nonneg_right q (Rat.le_of_lt y'0); grind
  rw [← hz]
  refine own_Rmk (r := r) (J := k * own_w + l * own_w + own_w / 8) z0 ?_ ?_ hm (by grind) ?_ ?_ ?_ (fun h => by rw [hr] at h ⊢; exact own_Vdiv Vx Vy (by grind) Rat.le_refl (by rw [← hr]; grind) h)
  · refine Rat.le_of_mul_le_mul_right (c := y) ?_ y0
    rw [ez, own_padd]
    have q := Rat.mul_le_mul_of_nonneg_left y2 (Rat.le_of_lt (own_npos m))
    grind
  · refine Rat.le_of_mul_le_mul_right (c := y) ?_ y0
    rw [own_padd]
    have q := own_mulm (by decide +kernel) x2 (Rat.le_of_lt (own_npos n)) Rat.le_refl
    have : z * (2 ^ m * 2 ^ n) * y = x * 2 ^ m * 2 ^ n := by rw [← ez]; grind
    rw [this]; grind
  · have : (1000 : Rat) * own_w + 1000 * own_w + own_w / 8 ≤ 1 / 8 := by decide +kernel
    grind
  · obtain ⟨a1, a2⟩ := Ix
    obtain ⟨b1, b2⟩ := Iy
    generalize (k : Rat) * own_w = K at *
    generalize (l : Rat) * own_w = L at *
    have hK1 : K ≤ 1 / 8 := by grind
    have hL1 : L ≤ 1 / 8 := by grind
    have hx := Rat.mul_pos z0 y0
    have t5 := Rat.mul_le_mul_of_nonneg_left hKL (Rat.le_of_lt hx)
    have t6 := Rat.mul_le_mul_of_nonneg_left hLL (Rat.le_of_lt hx)
    have t7 := Rat.mul_nonneg (Rat.le_of_lt hx) (Rat.mul_nonneg K0 L0)
    have t8 := Rat.mul_nonneg (Rat.le_of_lt hx) (Rat.mul_nonneg L0 L0)
    have t9 := Rat.mul_pos hx wp
    have t10 := Rat.mul_le_mul_of_nonneg_left hL1 (Rat.le_of_lt t9)
    have t11 := Rat.mul_nonneg (Rat.le_of_lt t9) L0
    subst ez
    constructor
    · refine Rat.le_of_mul_le_mul_right (c := y') ?_ y'0
      rw [er]
      have g0 : 0 ≤ z - z * (K + L + own_w / 8) := by
        have : z * (K + L + own_w / 8) ≤ z * 1 := Rat.mul_le_mul_of_nonneg_left (by grind) (Rat.le_of_lt z0)
        grind
      have g1 := Rat.mul_le_mul_of_nonneg_left b2 g0
      grind
    · refine Rat.le_of_mul_le_mul_right (c := y') ?_ y'0
      rw [er]
      have g0 : 0 ≤ z + z * (K + L + own_w / 8) := by
        have := Rat.mul_nonneg (Rat.le_of_lt z0) (show 0 ≤ K + L + own_w / 8 by grind)
        grind
      have g1 := Rat.mul_le_mul_of_nonneg_left b1 g0
      grind
  · rw [hs]; grind
theorem own_Rsub {a b : UInt64} {x y : Rat} {k l m n : Nat} (ha : own_Rel a x k m) (hb : own_Rel b y l n) (hxy : 4 * y ≤ x) (hk : 2 * k + l + 1 ≤ 1000) (hm : m + 1 ≤ 900) : own_Rel (dsub a b) (x - y) (2 * k + l + 1) (m + 1) := by
  obtain ⟨x0, x1, x2, x', Vx, Ix⟩ := ha
  obtain ⟨y0, y1, y2, y', Vy, Iy⟩ := hb
  obtain ⟨K0, K1⟩ := own_kw (k := k) (by omega)
  obtain ⟨L0, L1⟩ := own_kw (k := l) (by omega)
  have hw := own_1000w
  have wp := own_wpos
  have hs : ((2 * k + l + 1 : Nat) : Rat) * own_w = 2 * (k * own_w) + l * own_w + own_w := by rw [Rat.natCast_add, Rat.natCast_add, Rat.natCast_mul]; rw [show ((1 : Nat) : Rat) = 1 from rfl, show ((2 : Nat) : Rat) = 2 from rfl]; grind
  have hj : (2 : Rat) * (1000 * own_w) + 1000 * own_w ≤ 1 / 8 := by decide +kernel
  refine own_Rmk (r := x' - y') (J := 2 * (k * own_w) + l * own_w) (by grind) ?_ ?_ hm (by grind) (by grind) ?_ ?_ (fun h => ?_)
  · rw [Rat.pow_succ]; have := own_npos m; grind
  · rw [Rat.pow_succ]
    have q : x / 2 * (2 ^ m * 2) ≤ (x - y) * (2 ^ m * 2) := Rat.mul_le_mul_of_nonneg_right (by grind) (by have := own_npos m; grind)
    grind
  · obtain ⟨a1, a2⟩ := Ix
    obtain ⟨b1, b2⟩ := Iy
    generalize (k : Rat) * own_w = K at *
    generalize (l : Rat) * own_w = L at *
    have q1 := Rat.mul_le_mul_of_nonneg_right hxy K0
    have q2 := Rat.mul_le_mul_of_nonneg_right hxy L0
    have q3 := Rat.mul_nonneg (Rat.le_of_lt x0) K0
    have q4 := Rat.mul_nonneg (Rat.le_of_lt y0) L0
    have q5 := Rat.mul_nonneg (Rat.le_of_lt x0) L0
    constructor <;> grind
  · rw [hs]; grind
  · refine own_Vsub Vx Vy Rat.le_refl ?_ h
    obtain ⟨a1, a2⟩ := Ix
    obtain ⟨b1, b2⟩ := Iy
    have q1 := Rat.mul_le_mul_of_nonneg_left K1 (Rat.le_of_lt x0)
    have q2 := Rat.mul_le_mul_of_nonneg_left L1 (Rat.le_of_lt y0)
    have q3 := Rat.mul_le_mul_of_nonneg_left hw (Rat.le_of_lt x0)
    have q4 := Rat.mul_le_mul_of_nonneg_left hw (Rat.le_of_lt y0)
    grind
theorem own_Rw {b : UInt64} {v : Rat} {k m k' m' : Nat} (h : own_Rel b v k m) (hk : k ≤ k') (hm : m ≤ m') : own_Rel b v k' m' := by
  obtain ⟨x0, x1, x2, x', Vx, i1, i2⟩ := h
  have p := own_p2le hm
  have q := Rat.mul_le_mul_of_nonneg_left p (Rat.le_of_lt x0)
  have r : (k : Rat) * own_w ≤ k' * own_w := Rat.mul_le_mul_of_nonneg_right (Rat.natCast_le_natCast.mpr hk) (Rat.le_of_lt own_wpos)
  have r2 := Rat.mul_le_mul_of_nonneg_left r (Rat.le_of_lt x0)
  exact ⟨x0, Rat.le_trans x1 p, Rat.le_trans x2 q, x', Vx, by grind, by grind⟩
theorem own_Rm {b : UInt64} {v : Rat} {k m m' : Nat} (h : own_Rel b v k m) (h1 : v ≤ 2 ^ m') (h2 : 1 ≤ v * 2 ^ m') : own_Rel b v k m' := by
  obtain ⟨x0, x1, x2, x', Vx, i⟩ := h
  exact ⟨x0, h1, h2, x', Vx, i⟩
def own_Rel0 (b : UInt64) (v : Rat) (k m : Nat) : Prop := 0 ≤ v ∧ v ≤ 2 ^ m ∧ ∃ v', own_V b v' ∧ own_In v' v (k * own_w)
theorem own_R0 {b : UInt64} {v : Rat} {k m : Nat} (h : own_Rel b v k m) : own_Rel0 b v k m := by
  obtain ⟨x0, x1, x2, x', Vx, i⟩ := h
  exact ⟨Rat.le_of_lt x0, x1, x', Vx, i⟩
theorem own_R0w {b : UInt64} {v : Rat} {k m k' m' : Nat} (h : own_Rel0 b v k m) (hk : k ≤ k') (hm : m ≤ m') : own_Rel0 b v k' m' := by
  obtain ⟨x0, x1, x', Vx, i1, i2⟩ := h
  have p := own_p2le hm
  have r : (k : Rat) * own_w ≤ k' * own_w := Rat.mul_le_mul_of_nonneg_right (Rat.natCast_le_natCast.mpr hk) (Rat.le_of_lt own_wpos)
  have r2 := Rat.mul_le_mul_of_nonneg_left r x0
  exact ⟨x0, Rat.le_trans x1 p, x', Vx, by grind, by grind⟩
theorem own_R0zero (k m : Nat) : own_Rel0 Jvm.FP.dconst0 0 k m := by
  refine ⟨Rat.le_refl, Rat.le_of_lt (own_npos m), 0, ⟨false, 0, -1074, by decide, ?_⟩, ?_, ?_⟩
  · unfold own_mg; rw [show ((0 : Nat) : Rat) = 0 from rfl]; grind
  · grind
  · grind
theorem own_R0add {a b : UInt64} {x y : Rat} {k l m n : Nat} (ha : own_Rel0 a x k m) (hb : own_Rel b y l n) (hk : max k l + 1 ≤ 1000) (hm : max m n + 1 ≤ 900) : own_Rel (dadd a b) (x + y) (max k l + 1) (max m n + 1) := by
  obtain ⟨x0, x1, x', Vx, Ix⟩ := ha
  obtain ⟨y0, y1, y2, y', Vy, Iy⟩ := hb
  have wp := own_wpos
  have hK : (k : Rat) * own_w ≤ (max k l : Nat) * own_w := Rat.mul_le_mul_of_nonneg_right (Rat.natCast_le_natCast.mpr (by omega)) (Rat.le_of_lt wp)
  have hL : (l : Rat) * own_w ≤ (max k l : Nat) * own_w := Rat.mul_le_mul_of_nonneg_right (Rat.natCast_le_natCast.mpr (by omega)) (Rat.le_of_lt wp)
  obtain ⟨J0, J1⟩ := own_kw (k := max k l) (by omega)
  have hw := own_1000w
  have x'0 : 0 ≤ x' := by
    have := Ix.1
    have q : x * (k * own_w) ≤ x * 1 := Rat.mul_le_mul_of_nonneg_left (by grind) x0
    grind
  have y'0 := own_Inpos y0 (by grind) Iy
  have hs : ((max k l + 1 : Nat) : Rat) * own_w = (max k l : Nat) * own_w + own_w := by rw [Rat.natCast_add]; rw [show ((1 : Nat) : Rat) = 1 from rfl]; grind
  have p1 := own_p2le (m := m) (n := max m n) (by omega)
  have p2 := own_p2le (m := n) (n := max m n) (by omega)
  refine own_Rmk (r := x' + y') (J := (max k l : Nat) * own_w) (by grind) ?_ ?_ hm J0 (by grind) ?_ ?_ (fun h => own_Vadd Vx Vy Rat.le_refl (by grind) h)
  · rw [Rat.pow_succ]; grind
  · rw [Rat.pow_succ]
    have q1 := Rat.mul_le_mul_of_nonneg_left p2 (Rat.le_of_lt y0)
    have q2 := Rat.mul_nonneg x0 (Rat.le_of_lt (own_npos (max m n)))
    have q3 := Rat.mul_nonneg (Rat.le_of_lt y0) (Rat.le_of_lt (own_npos (max m n)))
    grind
  · obtain ⟨a1, a2⟩ := Ix
    obtain ⟨b1, b2⟩ := Iy
    have q1 := Rat.mul_le_mul_of_nonneg_left hK x0
    have q2 := Rat.mul_le_mul_of_nonneg_left hL (Rat.le_of_lt y0)
    constructor <;> grind
  · rw [hs]; grind
theorem own_Rcst {b : UInt64} {v : Rat} {k m : Nat} (c : Nat) (q : Int) (h : val64 b = .fin false c q) (h0 : 0 < v) (h1 : v ≤ 2 ^ m) (h2 : 1 ≤ v * 2 ^ m) (h3 : v - v * (k * own_w) ≤ c * 2 ^ q) (h4 : c * 2 ^ q ≤ v + v * (k * own_w)) : own_Rel b v k m :=
  ⟨h0, h1, h2, _, ⟨false, c, q, h, rfl⟩, by unfold own_sg own_mg; rw [if_neg (by decide)]; grind, by unfold own_sg own_mg; rw [if_neg (by decide)]; grind⟩
theorem own_R1 : own_Rel Jvm.FP.dconst1 1 0 0 := own_Rcst 4503599627370496 (-52) (by decide) (by decide +kernel) (by decide +kernel) (by decide +kernel) (by decide +kernel) (by decide +kernel)
theorem own_Ri2d {i : Int32} {m : Nat} (h0 : 0 < i.toInt) (h1 : i.toInt ≤ (2 ^ m : Nat)) (hm : m ≤ 900) : own_Rel (i2d i) (i.toInt : Rat) 1 m := by
  have e : (2 : Rat) ^ m = (((2 ^ m : Nat) : Int) : Rat) := by rw [Rat.intCast_natCast, own_cast2]
  have z0 : (0 : Rat) < (i.toInt : Rat) := Rat.intCast_pos.mpr h0
  have z1 : (1 : Rat) ≤ (i.toInt : Rat) := Rat.intCast_le_intCast.mpr (show (1 : Int) ≤ i.toInt by omega)
  have z2 : (i.toInt : Rat) ≤ 2 ^ m := by rw [e]; exact Rat.intCast_le_intCast.mpr h1
  have z3 : (1 : Rat) ≤ 2 ^ m := Rat.le_trans z1 z2
  have hs : ((1 : Nat) : Rat) * own_w = own_w := by rw [show ((1 : Nat) : Rat) = 1 from rfl]; grind
  have wp := own_wpos
  refine own_Rmk (r := (i.toInt : Rat)) (J := 0) z0 z2 ?_ hm Rat.le_refl (by decide +kernel) ⟨by grind, by grind⟩ (by rw [hs]; grind) (fun h => ?_)
  · have := own_mulm (by decide +kernel) z1 (by decide +kernel) z3; grind
  · obtain ⟨c', q', e1, e2⟩ := own_rsigD (decide (i.toInt < 0)) i.toInt.natAbs 0 (r := (i.toInt : Rat)) (m := (i.toInt : Rat)) (by
      rw [decide_eq_false (by omega)]; unfold own_sg own_mg; rw [if_neg (by decide)]
      have : ((i.toInt.natAbs : Int) : Rat) = (i.toInt : Rat) := by rw [show (i.toInt.natAbs : Int) = i.toInt by omega]
      rw [Rat.intCast_natCast] at this
      rw [this, Rat.zpow_zero]; grind) Rat.le_refl (by grind) h
    exact ⟨_, ⟨_, c', q', by rw [val64_i2d]; exact e1, rfl⟩, e2⟩
theorem own_Rfin {b : UInt64} {v : Rat} {k m : Nat} (h : own_Rel b v k m) : DFin b := by
  obtain ⟨x0, x1, x2, x', Vx, i⟩ := h; exact own_Vfin Vx
theorem own_c6 : own_Rel (0x3FC5555555555555 : UInt64) (1 / 6) 1 3 := own_Rcst 6004799503160661 (-55) (by decide) (by decide +kernel) (by decide +kernel) (by decide +kernel) (by decide +kernel) (by decide +kernel)
def own_S (Y : Rat) : Rat := 1 / Y + 1 / 2 * (1 / (Y * Y)) + 1 / (Y * Y) / Y * (1 / 6 - 1 / (Y * Y) * (1 / 30 - 1 / (Y * Y) * (1 / 42 - 1 / (Y * Y) * (1 / 30 - 1 / (Y * Y) * (5 / 66)))))
def own_L (X : Rat) : Rat := 1 / X + 1 / 2 / (X * X) + 1 / (6 * (X * X * X)) - 1 / (30 * (X * X * X * (X * X)))
def own_U (X : Rat) : Rat := own_L X + 1 / (42 * (X * X * X * (X * X) * (X * X)))
def own_B (Y : Rat) : Rat := own_S Y - 691 / 2730 * (1 / Y ^ 13)
theorem own_inv {y : Rat} (h : 0 < y) : y * (1 / y) = 1 := by grind
theorem own_pk {p y : Rat} (h : y * p = 1) (k n : Nat) : p ^ k * y ^ (k + n) = y ^ n := by
  induction k with
  | zero => rw [Nat.zero_add, Rat.pow_zero]; grind
  | succ k ih => rw [show k + 1 + n = k + n + 1 by omega, Rat.pow_succ, Rat.pow_succ, ← ih]; generalize y ^ (k + n) = z; generalize p ^ k = w; grind
theorem own_i {a b : Rat} (h : a * b = 1) : 1 / a = b := by
  have h0 : a ≠ 0 := by intro q; rw [q, Rat.zero_mul] at h; exact absurd h (by decide)
  have h1 : 1 / a * a = 1 := Rat.div_mul_cancel h0
  calc 1 / a = 1 / a * (a * b) := by rw [h, Rat.mul_one]
    _ = 1 / a * a * b := by rw [Rat.mul_assoc]
    _ = b := by rw [h1, Rat.one_mul]
theorem own_S_x {y p : Rat} (h1 : y * p = 1) : own_S y = 1 * p ^ 1 + 1 / 2 * p ^ 2 + 1 / 6 * p ^ 3 - 1 / 30 * p ^ 5 + 1 / 42 * p ^ 7 - 1 / 30 * p ^ 9 + 5 / 66 * p ^ 11 := by
  have e0 : 1 / y = p := own_i h1
  have e : (1 : Rat) / (y * y) = p * p := own_i (by calc y * y * (p * p) = (y * p) * (y * p) := by grind
                                                        _ = 1 := by rw [h1]; decide +kernel)
  have e2 : p * p / y = p * p * p := by rw [← e0]; grind
  unfold own_S; rw [e, e0, e2]; grind
theorem own_S_p {y : Rat} (h : 0 < y) : own_S y * (2310 * y ^ 11) = 2310 * y ^ 10 + 1155 * y ^ 9 + 385 * y ^ 8 - 77 * y ^ 6 + 55 * y ^ 4 - 77 * y ^ 2 + 175 := by
  have h1 := own_inv h
  rw [own_S_x h1]
  generalize 1 / y = p at *
  have f1 : p ^ 1 * y ^ 11 = y ^ 10 := own_pk h1 1 10
  have f2 : p ^ 2 * y ^ 11 = y ^ 9 := own_pk h1 2 9
  have f3 : p ^ 3 * y ^ 11 = y ^ 8 := own_pk h1 3 8
  have f5 : p ^ 5 * y ^ 11 = y ^ 6 := own_pk h1 5 6
  have f7 : p ^ 7 * y ^ 11 = y ^ 4 := own_pk h1 7 4
  have f9 : p ^ 9 * y ^ 11 = y ^ 2 := own_pk h1 9 2
  have f11 : p ^ 11 * y ^ 11 = y ^ 0 := own_pk h1 11 0
  grind
theorem own_L_x {y p : Rat} (h1 : y * p = 1) : own_L y = 1 * p ^ 1 + 1 / 2 * p ^ 2 + 1 / 6 * p ^ 3 - 1 / 30 * p ^ 5 := by
  have e0 : 1 / y = p := own_i h1
  have e : 1 / 2 / (y * y) = 1 / 2 * (p * p) := by
    have : (1 : Rat) / (y * y) = p * p := own_i (by calc y * y * (p * p) = (y * p) * (y * p) := by grind
                                                        _ = 1 := by rw [h1]; decide +kernel)
    rw [← this]; grind
  have e2 : 1 / (6 * (y * y * y)) = 1 / 6 * (p * p * p) := own_i (by calc 6 * (y * y * y) * (1 / 6 * (p * p * p)) = (y * p) * (y * p) * (y * p) := by grind
                                                                      _ = 1 := by rw [h1]; decide +kernel)
  have e3 : 1 / (30 * (y * y * y * (y * y))) = 1 / 30 * (p * p * p * (p * p)) := own_i (by calc 30 * (y * y * y * (y * y)) * (1 / 30 * (p * p * p * (p * p))) = (y * p) * (y * p) * (y * p) * (y * p) * (y * p) := by grind
                                                                                            _ = 1 := by rw [h1]; decide +kernel)
  unfold own_L; rw [e, e0, e2, e3]; grind
theorem own_L_p {y : Rat} (h : 0 < y) : own_L y * (30 * y ^ 5) = 30 * y ^ 4 + 15 * y ^ 3 + 5 * y ^ 2 - 1 := by
  have h1 := own_inv h
  rw [own_L_x h1]
  generalize 1 / y = p at *
  have f1 : p ^ 1 * y ^ 5 = y ^ 4 := own_pk h1 1 4
  have f2 : p ^ 2 * y ^ 5 = y ^ 3 := own_pk h1 2 3
  have f3 : p ^ 3 * y ^ 5 = y ^ 2 := own_pk h1 3 2
  have f5 : p ^ 5 * y ^ 5 = y ^ 0 := own_pk h1 5 0
  grind
theorem own_U_x {y p : Rat} (h1 : y * p = 1) : own_U y = 1 * p ^ 1 + 1 / 2 * p ^ 2 + 1 / 6 * p ^ 3 - 1 / 30 * p ^ 5 + 1 / 42 * p ^ 7 := by
  have e3 : 1 / (42 * (y * y * y * (y * y) * (y * y))) = 1 / 42 * (p * p * p * (p * p) * (p * p)) := own_i (by calc 42 * (y * y * y * (y * y) * (y * y)) * (1 / 42 * (p * p * p * (p * p) * (p * p))) = (y * p) * (y * p) * (y * p) * (y * p) * (y * p) * (y * p) * (y * p) := by grind
                                                                                            _ = 1 := by rw [h1]; decide +kernel)
  unfold own_U; rw [e3, own_L_x h1]; grind
theorem own_U_p {y : Rat} (h : 0 < y) : own_U y * (210 * y ^ 7) = 210 * y ^ 6 + 105 * y ^ 5 + 35 * y ^ 4 - 7 * y ^ 2 + 5 := by
  have h1 := own_inv h
  rw [own_U_x h1]
  generalize 1 / y = p at *
  have f1 : p ^ 1 * y ^ 7 = y ^ 6 := own_pk h1 1 6
  have f2 : p ^ 2 * y ^ 7 = y ^ 5 := own_pk h1 2 5
  have f3 : p ^ 3 * y ^ 7 = y ^ 4 := own_pk h1 3 4
  have f5 : p ^ 5 * y ^ 7 = y ^ 2 := own_pk h1 5 2
  have f7 : p ^ 7 * y ^ 7 = y ^ 0 := own_pk h1 7 0
  grind
theorem own_B_x {y p : Rat} (h1 : y * p = 1) : own_B y = 1 * p ^ 1 + 1 / 2 * p ^ 2 + 1 / 6 * p ^ 3 - 1 / 30 * p ^ 5 + 1 / 42 * p ^ 7 - 1 / 30 * p ^ 9 + 5 / 66 * p ^ 11 - 691 / 2730 * p ^ 13 := by
  have e3 : 1 / y ^ 13 = p ^ 13 := own_i (by have := own_pk h1 13 0; rw [Rat.pow_zero] at this; rw [Rat.mul_comm]; exact this)
  unfold own_B; rw [e3, own_S_x h1]
theorem own_B_p {y : Rat} (h : 0 < y) : own_B y * (30030 * y ^ 13) = 30030 * y ^ 12 + 15015 * y ^ 11 + 5005 * y ^ 10 - 1001 * y ^ 8 + 715 * y ^ 6 - 1001 * y ^ 4 + 2275 * y ^ 2 - 7601 := by
  have h1 := own_inv h
  rw [own_B_x h1]
  generalize 1 / y = p at *
  have f1 : p ^ 1 * y ^ 13 = y ^ 12 := own_pk h1 1 12
  have f2 : p ^ 2 * y ^ 13 = y ^ 11 := own_pk h1 2 11
  have f3 : p ^ 3 * y ^ 13 = y ^ 10 := own_pk h1 3 10
  have f5 : p ^ 5 * y ^ 13 = y ^ 8 := own_pk h1 5 8
  have f7 : p ^ 7 * y ^ 13 = y ^ 6 := own_pk h1 7 6
  have f9 : p ^ 9 * y ^ 13 = y ^ 4 := own_pk h1 9 4
  have f11 : p ^ 11 * y ^ 13 = y ^ 2 := own_pk h1 11 2
  have f13 : p ^ 13 * y ^ 13 = y ^ 0 := own_pk h1 13 0
  grind
theorem own_tel {f g e c P Q a b p2 N : Rat} (hf : f * (c * P) = a) (hg : g * (c * Q) = b) (he : e * P = p2) (hN : a * Q - b * P - c * p2 * Q = N) : (f - g - e) * (c * P * Q) = N := by grind
theorem own_e2 {y : Rat} (h : 0 < y) (n : Nat) : 1 / (y * y) * y ^ (n + 2) = y ^ n := by
  have h1 := own_inv h
  have e : (1 : Rat) / (y * y) = 1 / y * (1 / y) := by grind
  rw [e, Rat.pow_succ, Rat.pow_succ]
  generalize 1 / y = p at *; generalize y ^ n = z at *; grind
theorem own_le_of {d D N : Rat} (h : d * D = N) (hD : 0 < D) (hN : 0 ≤ N) : 0 ≤ d := by
  apply Rat.not_lt.mp
  intro q
  have := Rat.mul_lt_mul_of_pos_right q hD
  grind
theorem own_ge_of {d D N : Rat} (h : d * D = N) (hD : 0 < D) (hN : N ≤ 0) : d ≤ 0 := by
  apply Rat.not_lt.mp
  intro q
  have := Rat.mul_pos q hD
  grind
theorem own_tL {y : Rat} (h : 0 < y) : own_L y - own_L (y + 1) ≤ 1 / (y * y) := by
  have h1 : 0 < y + 1 := by grind
  have t := own_tel (own_L_p h) (own_L_p h1) (own_e2 h 3) (N := -(1 + 5 * y + 5 * y ^ 2)) (by grind)
  have := own_ge_of t (Rat.mul_pos (Rat.mul_pos (by decide +kernel) (Rat.pow_pos h)) (Rat.pow_pos h1)) (by have := Rat.pow_pos (n := 2) h; grind)
  grind
theorem own_tU {y : Rat} (h : 0 < y) : 1 / (y * y) ≤ own_U y - own_U (y + 1) := by
  have h1 : 0 < y + 1 := by grind
  have t := own_tel (own_U_p h) (own_U_p h1) (own_e2 h 5) (N := 5 + 35 * y + 98 * y ^ 2 + 126 * y ^ 3 + 63 * y ^ 4) (by grind)
  have := own_le_of t (Rat.mul_pos (Rat.mul_pos (by decide +kernel) (Rat.pow_pos h)) (Rat.pow_pos h1)) (by have := Rat.pow_pos (n := 2) h; have := Rat.pow_pos (n := 3) h; have := Rat.pow_pos (n := 4) h; grind)
  grind
theorem own_tS {y : Rat} (h : 0 < y) : 1 / (y * y) ≤ own_S y - own_S (y + 1) := by
  have h1 : 0 < y + 1 := by grind
  have t := own_tel (own_S_p h) (own_S_p h1) (own_e2 h 9) (N := 175 + 1925 * y + 9548 * y ^ 2 + 28028 * y ^ 3 + 53570 * y ^ 4 + 68750 * y ^ 5 + 58388 * y ^ 6 + 30404 * y ^ 7 + 7601 * y ^ 8) (by grind)
  have := own_le_of t (Rat.mul_pos (Rat.mul_pos (by decide +kernel) (Rat.pow_pos h)) (Rat.pow_pos h1)) (by have := Rat.pow_pos (n := 2) h; have := Rat.pow_pos (n := 3) h; have := Rat.pow_pos (n := 4) h; have := Rat.pow_pos (n := 5) h; have := Rat.pow_pos (n := 6) h; have := Rat.pow_pos (n := 7) h; have := Rat.pow_pos (n := 8) h; grind)
  grind
theorem own_tB {y : Rat} (h : 0 < y) : own_B y - own_B (y + 1) ≤ 1 / (y * y) := by
  have h1 : 0 < y + 1 := by grind
  have t := own_tel (own_B_p h) (own_B_p h1) (own_e2 h 11) (N := -(7601 + 98813 * y + 590603 * y ^ 2 + 2144311 * y ^ 3 + 5258266 * y ^ 4 + 9144850 * y ^ 5 + 11494054 * y ^ 6 + 10392382 * y ^ 7 + 6539533 * y ^ 8 + 2627625 * y ^ 9 + 525525 * y ^ 10)) (by grind)
  have := own_ge_of t (Rat.mul_pos (Rat.mul_pos (by decide +kernel) (Rat.pow_pos h)) (Rat.pow_pos h1)) (by have := Rat.pow_pos (n := 2) h; have := Rat.pow_pos (n := 3) h; have := Rat.pow_pos (n := 4) h; have := Rat.pow_pos (n := 5) h; have := Rat.pow_pos (n := 6) h; have := Rat.pow_pos (n := 7) h; have := Rat.pow_pos (n := 8) h; have := Rat.pow_pos (n := 9) h; have := Rat.pow_pos (n := 10) h; grind)
  grind
def own_H (X : Rat) : Nat → Rat
  | 0 => 0
  | k + 1 => own_H X k + 1 / ((X + k) * (X + k))
def own_T (X : Rat) (K : Nat) : Rat := own_H X K + own_S (X + K)
theorem own_cs (X : Rat) (k : Nat) : X + ((k + 1 : Nat) : Rat) = X + k + 1 := by rw [Rat.natCast_add, show ((1 : Nat) : Rat) = 1 from rfl]; grind
theorem own_Xk {X : Rat} (h : 0 < X) (k : Nat) : 0 < X + k := by have : (0 : Rat) ≤ k := Rat.natCast_nonneg; grind
theorem own_HL {X : Rat} (h : 0 < X) (K : Nat) : own_L X ≤ own_H X K + own_L (X + K) := by
  induction K with
  | zero => rw [show ((0 : Nat) : Rat) = 0 from rfl, Rat.add_zero]; unfold own_H; grind
  | succ k ih => rw [own_cs]; have := own_tL (own_Xk h k); unfold own_H; grind
theorem own_HU {X : Rat} (h : 0 < X) (K : Nat) : own_H X K + own_U (X + K) ≤ own_U X := by
  induction K with
  | zero => rw [show ((0 : Nat) : Rat) = 0 from rfl, Rat.add_zero]; unfold own_H; grind
  | succ k ih => rw [own_cs]; have := own_tU (own_Xk h k); unfold own_H; grind
theorem own_TS {X : Rat} (h : 0 < X) (K j : Nat) : own_T X (K + j) ≤ own_T X K := by
  induction j with
  | zero => exact Rat.le_refl
  | succ j ih => rw [← Nat.add_assoc]; unfold own_T at *; rw [own_cs]; have := own_tS (own_Xk h (K + j)); rw [show own_H X (K + j + 1) = own_H X (K + j) + 1 / ((X + (K + j : Nat)) * (X + (K + j : Nat))) from rfl]; grind
theorem own_TB {X : Rat} (h : 0 < X) (K j : Nat) : own_H X K + own_B (X + K) ≤ own_H X (K + j) + own_B (X + (K + j : Nat)) := by
  induction j with
  | zero => exact Rat.le_refl
  | succ j ih => rw [← Nat.add_assoc, own_cs]; have := own_tB (own_Xk h (K + j)); rw [show own_H X (K + j + 1) = own_H X (K + j) + 1 / ((X + (K + j : Nat)) * (X + (K + j : Nat))) from rfl]; grind
theorem own_Hnn {X : Rat} (h : 0 < X) (K : Nat) : 0 ≤ own_H X K := by
  induction K with
  | zero => exact Rat.le_refl
  | succ k ih =>
    have h1 := own_Xk h k
    have h2 := Rat.mul_pos h1 h1
    have h3 : 0 < 1 / ((X + k) * (X + k)) := by rw [Rat.div_def, Rat.one_mul]; exact Rat.inv_pos.mpr h2
    unfold own_H; grind
/-- powers of a small p -/
theorem own_sm {p : Rat} (h0 : 0 < p) (h : p ≤ 1 / 19) : 0 < p ^ 2 ∧ 0 < p ^ 3 ∧ 0 < p ^ 5 ∧ 0 < p ^ 7 ∧ 0 < p ^ 9 ∧ 0 < p ^ 11 ∧ 0 < p ^ 13 ∧ p ^ 2 ≤ p / 19 ∧ p ^ 3 ≤ p ^ 2 / 19 ∧ p ^ 5 ≤ p ^ 3 / 361 ∧ p ^ 7 ≤ p ^ 5 / 361 ∧ p ^ 9 ≤ p ^ 7 / 361 ∧ p ^ 11 ≤ p ^ 9 / 361 ∧ p ^ 13 ≤ p ^ 11 / 361 := by
  have h2 := Rat.pow_pos (n := 2) h0; have h3 := Rat.pow_pos (n := 3) h0; have h5 := Rat.pow_pos (n := 5) h0; have h7 := Rat.pow_pos (n := 7) h0; have h9 := Rat.pow_pos (n := 9) h0; have h11 := Rat.pow_pos (n := 11) h0; have h13 := Rat.pow_pos (n := 13) h0
  have q2 : p * p ≤ p * (1 / 19) := Rat.mul_le_mul_of_nonneg_left h (Rat.le_of_lt h0)
  have q : p ^ 2 ≤ 1 / 361 := by grind
  have s (n : Nat) : p ^ (n + 2) ≤ p ^ n / 361 := by
    have := Rat.mul_le_mul_of_nonneg_left q (Rat.le_of_lt (Rat.pow_pos (n := n) h0))
    rw [show p ^ (n + 2) = p ^ n * p ^ 2 by rw [Rat.pow_succ, Rat.pow_succ, Rat.pow_succ, Rat.pow_succ, Rat.pow_zero]; grind]
    generalize p ^ n = z at *; generalize p ^ 2 = w at *; grind
  have q3 : p ^ 2 * p ≤ p ^ 2 * (1 / 19) := Rat.mul_le_mul_of_nonneg_left h (Rat.le_of_lt h2)
  exact ⟨h2, h3, h5, h7, h9, h11, h13, by grind, by grind, s 3, s 5, s 7, s 9, s 11⟩
theorem own_pinv {Y : Rat} (h : 19 ≤ Y) : ∃ p, Y * p = 1 ∧ 0 < p ∧ p ≤ 1 / 19 := by
  have h0 : 0 < Y := by grind
  refine ⟨1 / Y, own_inv h0, ?_, ?_⟩
  · rw [Rat.div_def, Rat.one_mul]; exact Rat.inv_pos.mpr h0
  · have e := own_inv h0
    refine Rat.le_of_mul_le_mul_left (c := Y) ?_ h0
    rw [e]; grind
theorem own_LS {Y : Rat} (h : 19 ≤ Y) : own_L Y ≤ own_S Y ∧ own_S Y ≤ own_U Y ∧ 0 < own_B Y ∧ own_S Y - own_B Y ≤ own_B Y * (1 / 1000000000000000) ∧ 1 / (Y * Y) ≤ own_B Y := by
  obtain ⟨p, h1, h2, h3⟩ := own_pinv h
  obtain ⟨a2, a3, a5, a7, a9, a11, a13, b2, b3, b5, b7, b9, b11, b13⟩ := own_sm h2 h3
  have e : (1 : Rat) / (Y * Y) = p ^ 2 := own_i (by calc Y * Y * p ^ 2 = (Y * p) * (Y * p) := by grind
                                                     _ = 1 := by rw [h1]; decide +kernel)
  rw [own_L_x h1, own_S_x h1, own_U_x h1, own_B_x h1, e]
  generalize p ^ 13 = c13 at *; generalize p ^ 11 = c11 at *; generalize p ^ 9 = c9 at *; generalize p ^ 7 = c7 at *; generalize p ^ 5 = c5 at *; generalize p ^ 3 = c3 at *; generalize p ^ 2 = c2 at *
  rw [show p ^ 1 = p by rw [Rat.pow_one]]
  clear h1 e
  refine ⟨by grind, by grind, by grind, by grind, by grind⟩
theorem own_TL {X : Rat} (h : 0 < X) {K : Nat} (hK : 19 ≤ X + K) : own_L X ≤ own_T X K := by
  have := own_HL h K; have := (own_LS hK).1; unfold own_T; grind
theorem own_TU {X : Rat} (h : 0 < X) {K : Nat} (hK : 19 ≤ X + K) : own_T X K ≤ own_U X := by
  have := own_HU h K; have := (own_LS hK).2.1; unfold own_T; grind
theorem own_Tpos {X : Rat} (h : 0 < X) {K : Nat} (hK : 19 ≤ X + K) : 0 < own_T X K := by
  have h1 := own_Hnn h K; obtain ⟨-, -, h2, h3, -⟩ := own_LS hK
  have h4 : own_B (X + K) ≤ own_S (X + K) := by
    have : 0 < 1 / (X + K) ^ 13 := by rw [Rat.div_def, Rat.one_mul]; exact Rat.inv_pos.mpr (Rat.pow_pos (own_Xk h K))
    unfold own_B; grind
  unfold own_T; grind
theorem own_gap1 {X : Rat} (h : 0 < X) {K : Nat} (j : Nat) (hK : 19 ≤ X + K) : own_T X (K + j) ≤ own_T X K ∧ own_T X K ≤ own_T X (K + j) + own_T X (K + j) * (1 / 1000000000000000) := by
  refine ⟨own_TS h K j, ?_⟩
  have h1 := own_TB h K j
  obtain ⟨-, -, h2, h3, -⟩ := own_LS hK
  have h5 := own_Hnn h K
  have hk : (0 : Rat) ≤ j := Rat.natCast_nonneg
  have h4 : own_B (X + (K + j : Nat)) ≤ own_S (X + (K + j : Nat)) := by
    have : 0 < 1 / (X + (K + j : Nat)) ^ 13 := by rw [Rat.div_def, Rat.one_mul]; exact Rat.inv_pos.mpr (Rat.pow_pos (own_Xk h (K + j)))
    unfold own_B; grind
  unfold own_T
  generalize own_S (X + (K + j : Nat)) = s1 at *; generalize own_B (X + (K + j : Nat)) = b1 at *; generalize own_H X (K + j) = g1 at *; generalize own_S (X + K) = s0 at *; generalize own_B (X + K) = b0 at *; generalize own_H X K = g0 at *
  grind
theorem own_gap {X : Rat} (h : 0 < X) {K K' : Nat} (hK : 19 ≤ X + K) (hK' : 19 ≤ X + K') : own_T X K ≤ own_T X K' + own_T X K' * (1 / 1000000000000000) := by
  have p1 := own_Tpos h hK'
  rcases Nat.le_total K K' with q | q
  · obtain ⟨j, rfl⟩ := Nat.le.dest q
    exact (own_gap1 h j hK).2
  · obtain ⟨j, rfl⟩ := Nat.le.dest q
    have := (own_gap1 h j hK').1
    grind
theorem own_Hs (X : Rat) (K : Nat) : own_H X (K + 1) = 1 / (X * X) + own_H (X + 1) K := by
  induction K with
  | zero => unfold own_H own_H; rw [show ((0 : Nat) : Rat) = 0 from rfl, Rat.add_zero]; rw [Rat.zero_add, Rat.add_zero]
  | succ k ih =>
    rw [show own_H X (k + 1 + 1) = own_H X (k + 1) + 1 / ((X + (k + 1 : Nat)) * (X + (k + 1 : Nat))) from rfl, ih, show own_H (X + 1) (k + 1) = own_H (X + 1) k + 1 / ((X + 1 + k) * (X + 1 + k)) from rfl, own_cs, show X + k + 1 = X + 1 + k by grind]
    grind
theorem own_Ts (X : Rat) (K : Nat) : own_T (X + 1) K + 1 / (X * X) = own_T X (K + 1) := by
  unfold own_T; rw [own_Hs, own_cs, show X + K + 1 = X + 1 + K by grind]; grind
theorem own_Tsq {X : Rat} (h : 0 < X) {K : Nat} (hK : 19 ≤ X + K) : 1 / (X * X) ≤ own_T X K := by
  cases K with
  | zero =>
    rw [show ((0 : Nat) : Rat) = 0 from rfl, Rat.add_zero] at hK
    obtain ⟨-, -, h2, h3, h5⟩ := own_LS hK
    have h4 : own_B X ≤ own_S X := by
      have : 0 < 1 / X ^ 13 := by rw [Rat.div_def, Rat.one_mul]; exact Rat.inv_pos.mpr (Rat.pow_pos h)
      unfold own_B; grind
    unfold own_T own_H; rw [show ((0 : Nat) : Rat) = 0 from rfl, Rat.add_zero]; grind
  | succ k =>
    rw [← own_Ts]
    have : 0 < own_T (X + 1) k := own_Tpos (by grind) (by rw [own_cs] at hK; grind)
    grind
theorem own_hk {v v' : Rat} {k : Nat} (hv : 0 < v) (hk : k ≤ 310) (h : own_In v' v (k * own_w)) : v' ≤ v + v * (7 / 100000000000000) ∧ v - v * (7 / 100000000000000) ≤ v' := by
  have h1 : (k : Rat) ≤ 310 := Rat.natCast_le_natCast.mpr hk
  have h2 : (k : Rat) * own_w ≤ 310 * own_w := Rat.mul_le_mul_of_nonneg_right h1 (Rat.le_of_lt own_wpos)
  have h3 : (310 : Rat) * own_w ≤ 7 / 100000000000000 := by decide +kernel
  have h4 := Rat.mul_le_mul_of_nonneg_left (Rat.le_trans h2 h3) (Rat.le_of_lt hv)
  obtain ⟨a, b⟩ := h
  generalize v * ((k : Rat) * own_w) = A at *
  constructor <;> grind
theorem own_hk2 {v v' : Rat} {k : Nat} (hv : 0 < v) (hk : k ≤ 30) (h : own_In v' v (k * own_w)) : v' ≤ v + v * (7 / 1000000000000000) ∧ v - v * (7 / 1000000000000000) ≤ v' := by
  have h1 : (k : Rat) ≤ 30 := Rat.natCast_le_natCast.mpr hk
  have h2 : (k : Rat) * own_w ≤ 30 * own_w := Rat.mul_le_mul_of_nonneg_right h1 (Rat.le_of_lt own_wpos)
  have h3 : (30 : Rat) * own_w ≤ 7 / 1000000000000000 := by decide +kernel
  have h4 := Rat.mul_le_mul_of_nonneg_left (Rat.le_trans h2 h3) (Rat.le_of_lt hv)
  obtain ⟨a, b⟩ := h
  generalize v * ((k : Rat) * own_w) = A at *
  constructor <;> grind
theorem own_tiny2 {v : Rat} {m : Nat} (h : 1 ≤ v * 2 ^ m) (hm : m ≤ 900) : (2 : Rat) ^ (-1075 : Int) ≤ v / 1000000000000000000000000000000 := by
  have h1 := own_tiny h hm
  have hc : (2 : Rat) ^ 100 = 1267650600228229401496703205376 := by decide +kernel
  rw [hc] at h1
  have : 0 ≤ (2 : Rat) ^ (-1075 : Int) := Rat.le_of_lt (own_zpos _)
  generalize (2 : Rat) ^ (-1075 : Int) = g at *
  grind
theorem own_big2 {m : Nat} (h : m ≤ 900) {v r : Rat} (h1 : v ≤ 2 ^ m) (h2 : r ≤ 8 * v) : r < (2 : Rat) ^ (1000 : Int) := by
  have h3 := own_p2le h
  have e : 8 * (2 : Rat) ^ 900 < (2 : Rat) ^ (1000 : Int) := by decide +kernel
  generalize (2 : Rat) ^ 900 = P at *
  generalize (2 : Rat) ^ (1000 : Int) = Q at *
  generalize (2 : Rat) ^ m = R at *
  grind
/-- the recurrence's difference -/
theorem own_diff {t s : UInt64} {T T2 : Rat} {m n k l : Nat} (ht : own_Rel t T k m) (hs : own_Rel s T2 l n) (hk : k ≤ 310) (hl : l ≤ 310) (hm : m ≤ 900) (g1 : T ≤ T2 + T2 * (1 / 1000000000000000)) (g2 : T2 ≤ T + T * (1 / 1000000000000000)) : ∃ v, own_V (dsub t s) v ∧ v ≤ T * (1 / 5000000000000) ∧ -v ≤ T * (1 / 5000000000000) := by
  obtain ⟨x0, x1, x2, x', Vx, Ix⟩ := ht
  obtain ⟨y0, y1, y2, y', Vy, Iy⟩ := hs
  obtain ⟨a1, a2⟩ := own_hk x0 hk Ix
  obtain ⟨b1, b2⟩ := own_hk y0 hl Iy
  have ht := own_tiny2 x2 hm
  obtain ⟨v, hV, n1, n2⟩ := own_Vsub Vx Vy (m := T * (15 / 100000000000000)) (by grind) (by grind) (own_big2 hm x1 (by grind))
  rw [own_u53] at n1 n2
  generalize (2 : Rat) ^ (-1075 : Int) = g at *
  refine ⟨v, hV, ?_, ?_⟩ <;> grind
theorem own_lt {a b : UInt64} {x v : Rat} {k m : Nat} (ha : own_V a x) (hb : own_Rel b v k m) (hk : k ≤ 310) (h : x < v - v * (7 / 100000000000000)) : dcmp a b = some .lt := by
  obtain ⟨y0, y1, y2, y', Vy, Iy⟩ := hb
  obtain ⟨b1, b2⟩ := own_hk y0 hk Iy
  exact (own_Vcmp ha Vy).1 (by grind)
theorem own_gt0 {b : UInt64} {v : Rat} {k m : Nat} (hb : own_Rel b v k m) (hk : k ≤ 310) : dcmp b Jvm.FP.dconst0 = some .gt := by
  obtain ⟨y0, y1, y2, y', Vy, Iy⟩ := hb
  obtain ⟨b1, b2⟩ := own_hk y0 hk Iy
  obtain ⟨-, -, z, Vz, i1, i2⟩ := own_R0zero 0 0
  exact (own_Vcmp Vy Vz).2.2 (by grind)
/-- a difference that may cancel -/
theorem own_low {p n : UInt64} {P N : Rat} {k l i j : Nat} (hp : own_Rel p P k i) (hn : own_Rel n N l j) (hk : k ≤ 30) (hl : l ≤ 30) (hi : i ≤ 900) (hj : j ≤ i) : ∃ v, own_V (dsub p n) v ∧ v ≤ P - N + (P + N) * (1 / 100000000000000) ∧ P - N - (P + N) * (1 / 100000000000000) ≤ v := by
  obtain ⟨x0, x1, x2, x', Vx, Ix⟩ := hp
  obtain ⟨y0, y1, y2, y', Vy, Iy⟩ := hn
  obtain ⟨a1, a2⟩ := own_hk2 x0 hk Ix
  obtain ⟨b1, b2⟩ := own_hk2 y0 hl Iy
  have ht := own_tiny2 x2 hi
  have y1 := Rat.le_trans y1 (own_p2le hj)
  obtain ⟨v, hV, n1, n2⟩ := own_Vsub Vx Vy (m := 2 * (P + N)) (by grind) (by grind) (by
    have h3 := own_p2le hi
    have e : 8 * (2 : Rat) ^ 900 < (2 : Rat) ^ (1000 : Int) := by decide +kernel
    generalize (2 : Rat) ^ 900 = A at *
    generalize (2 : Rat) ^ (1000 : Int) = B at *
    generalize (2 : Rat) ^ i = C at *
    grind)
  rw [own_u53] at n1 n2
  generalize (2 : Rat) ^ (-1075 : Int) = g at *
  refine ⟨v, hV, ?_, ?_⟩ <;> grind
theorem own_upp {lo mm : UInt64} {P N M x : Rat} {k i : Nat} (hl : own_V lo x) (h0 : 0 < P) (h1 : 0 < N) (hN : N ≤ 2 ^ i) (hP : P ≤ 2 ^ i) (g1 : x ≤ P - N + (P + N) * (1 / 100000000000000)) (g2 : P - N - (P + N) * (1 / 100000000000000) ≤ x) (hm : own_Rel mm M k i) (hk : k ≤ 30) (hi : i ≤ 900) : ∃ v, own_V (dadd lo mm) v ∧ P - N + M - (P + N + M) * (2 / 100000000000000) ≤ v := by
  obtain ⟨y0, y1, y2, y', Vy, Iy⟩ := hm
  obtain ⟨b1, b2⟩ := own_hk2 y0 hk Iy
  have ht := own_tiny2 y2 hi
  obtain ⟨v, hV, n1, n2⟩ := own_Vadd hl Vy (m := 2 * (P + N + M)) (by grind) (by grind) (by
    have h3 := own_p2le hi
    have e : 8 * (2 : Rat) ^ 900 < (2 : Rat) ^ (1000 : Int) := by decide +kernel
    generalize (2 : Rat) ^ 900 = A at *
    generalize (2 : Rat) ^ (1000 : Int) = B at *
    generalize (2 : Rat) ^ i = C at *
    grind)
  rw [own_u53] at n1 n2
  generalize (2 : Rat) ^ (-1075 : Int) = g at *
  refine ⟨v, hV, ?_⟩; grind
/-- the law's two bounds, over z = 1/X -/
theorem own_bnd {z T P N M : Rat} (hz : 0 < z) (hP : P = z + 1 / 2 * z ^ 2 + 1 / 6 * z ^ 3) (hN : N = 1 / 30 * z ^ 5) (hM : M = 1 / 42 * z ^ 7) (hT0 : 0 < T) (hL : P - N ≤ T) (hU : T ≤ P - N + M) (hT : z ^ 2 ≤ T) :
    (P - N + (P + N) * (1 / 100000000000000) < (T + T * (9 / 10000000000000))) ∧ (T - T * (9 / 10000000000000) < P - N + M - (P + N + M) * (2 / 100000000000000)) := by
  have z2 := Rat.pow_pos (n := 2) hz; have z3 := Rat.pow_pos (n := 3) hz; have z5 := Rat.pow_pos (n := 5) hz; have z7 := Rat.pow_pos (n := 7) hz
  have e5 : z ^ 5 = z ^ 2 * z ^ 3 := by grind
  have e7 : z ^ 7 = z ^ 5 * z ^ 2 := by grind
  rcases Rat.le_total (a := z) (b := 4) with h | h
  · have q2 : z * z ≤ 4 * 4 := own_mulm (Rat.le_of_lt hz) h (Rat.le_of_lt hz) h
    have q2' : z ^ 2 ≤ 16 := by grind
    have q3 : z ^ 2 * z ≤ 16 * 4 := own_mulm (Rat.le_of_lt z2) q2' (Rat.le_of_lt hz) h
    have q3' : z ^ 3 ≤ 64 := by grind
    have q5 := Rat.mul_le_mul_of_nonneg_left q3' (Rat.le_of_lt z2)
    rw [← e5] at q5
    have q7 := Rat.mul_le_mul_of_nonneg_left q2' (Rat.le_of_lt z5)
    rw [← e7] at q7
    clear e5 e7 q2 q3
    generalize z ^ 7 = c7 at *; generalize z ^ 5 = c5 at *; generalize z ^ 3 = c3 at *; generalize z ^ 2 = c2 at *
    constructor <;> grind
  · have q2 : 4 * 4 ≤ z * z := own_mulm (by decide +kernel) h (by decide +kernel) h
    have q2' : 16 ≤ z ^ 2 := by grind
    have q2a : z * 4 ≤ z * z := Rat.mul_le_mul_of_nonneg_left h (Rat.le_of_lt hz)
    have q2b : 4 * z ≤ z ^ 2 := by grind
    have q3 : z ^ 2 * 4 ≤ z ^ 2 * z := Rat.mul_le_mul_of_nonneg_left h (Rat.le_of_lt z2)
    have q3' : 4 * z ^ 2 ≤ z ^ 3 := by grind
    have q5 := Rat.mul_le_mul_of_nonneg_right q2' (Rat.le_of_lt z3)
    rw [← e5] at q5
    have q7 := Rat.mul_le_mul_of_nonneg_left q2' (Rat.le_of_lt z5)
    rw [← e7] at q7
    clear e5 e7 q2 q3 q2a q2'
    generalize z ^ 7 = c7 at *; generalize z ^ 5 = c5 at *; generalize z ^ 3 = c3 at *; generalize z ^ 2 = c2 at *
    constructor <;> grind
/-! the walk's own facts -/
theorem own_y0 {x : UInt64} {X : Rat} (h : own_Rel x X 4 25) : own_Rel x (X + ((0 : Nat) : Rat)) (4 + 0) 26 := by
  rw [show ((0 : Nat) : Rat) = 0 from rfl, Rat.add_zero]; exact own_Rw h (by decide) (by decide)
theorem own_ystep {y : UInt64} {X : Rat} {k : Nat} {x : UInt64} (hX : own_Rel x X 4 25) (h : own_Rel y (X + (k : Rat)) (4 + k) 26) (hk : k ≤ 19) : own_Rel (dadd y Jvm.FP.dconst1) (X + ((k + 1 : Nat) : Rat)) (4 + (k + 1)) 26 := by
  have h1 := own_Radd h own_R1 (by omega) (by omega)
  rw [own_cs, show 4 + (k + 1) = max (4 + k) 0 + 1 by omega]
  obtain ⟨x0, x1, x2, -⟩ := hX
  have hk' : (k : Rat) ≤ 19 := Rat.natCast_le_natCast.mpr hk
  have hk0 : (0 : Rat) ≤ k := Rat.natCast_nonneg
  have e1 : (2 : Rat) ^ 25 = 33554432 := by decide +kernel
  have e2 : (2 : Rat) ^ 26 = 67108864 := by decide +kernel
  refine own_Rm h1 ?_ ?_
  · rw [e1] at x1; rw [e2]; grind
  · rw [e2]; grind
theorem own_sstep {sh t : UInt64} {X : Rat} {k : Nat} (h : own_Rel0 sh (own_H X k) (51 + k) (52 + k)) (ht : own_Rel t (1 / ((X + (k : Rat)) * (X + (k : Rat)))) 50 52) (hk : k ≤ 20) : own_Rel (dadd sh t) (own_H X (k + 1)) (51 + (k + 1)) (52 + (k + 1)) := by
  have h1 := own_R0add h ht (by omega) (by omega)
  rw [show 51 + (k + 1) = max (51 + k) 50 + 1 by omega, show 52 + (k + 1) = max (52 + k) 52 + 1 by omega]
  exact h1
theorem own_ycmp {y : UInt64} {X : Rat} {k : Nat} {x : UInt64} (hX : own_Rel x X 4 25) (h : own_Rel y (X + (k : Rat)) (4 + k) 26) (hk : k ≤ 20) : ∃ v : Int32, cmpValue (Jvm.FP.dcmp y 4626322717216342016) .g = v ∧ ((v.toInt < 0 ∧ k ≤ 19) ∨ (0 ≤ v.toInt ∧ 19 ≤ X + (k : Rat))) := by
  obtain ⟨x0, x1, x2, -⟩ := hX
  have e1 : (2 : Rat) ^ 25 = 33554432 := by decide +kernel
  rw [e1] at x2
  obtain ⟨y0, -, -, y', Vy, Iy⟩ := own_Rw h (show 4 + k ≤ 24 by omega) (Nat.le_refl _)
  have V20 : own_V (4626322717216342016 : UInt64) 20 := ⟨false, 5629499534213120, -48, by decide, by decide +kernel⟩
  have hw : ((24 : Nat) : Rat) * own_w ≤ 1 / 100000000000000 := by decide +kernel
  have hq := Rat.mul_le_mul_of_nonneg_left hw (Rat.le_of_lt y0)
  obtain ⟨i1, i2⟩ := Iy
  generalize (X + (k : Rat)) * (((24 : Nat) : Rat) * own_w) = D at *
  obtain ⟨c1, c2, c3⟩ := own_Vcmp Vy V20
  rcases Rat.le_total (a := 20) (b := y') with q | q
  · rcases Rat.le_iff_lt_or_eq.mp q with q | q
    · exact ⟨1, by rw [show Jvm.FP.dcmp y 4626322717216342016 = some .gt from c3 q]; rfl, Or.inr ⟨by decide, by grind⟩⟩
    · exact ⟨0, by rw [show Jvm.FP.dcmp y 4626322717216342016 = some .eq from c2 q.symm]; rfl, Or.inr ⟨by decide, by grind⟩⟩
  · rcases Rat.le_iff_lt_or_eq.mp q with q | q
    · refine ⟨-1, by rw [show Jvm.FP.dcmp y 4626322717216342016 = some .lt from c1 q]; rfl, Or.inl ⟨by decide, ?_⟩⟩
      apply Nat.le_of_lt_succ
      apply Nat.lt_of_le_of_ne hk
      rintro rfl
      rw [show ((20 : Nat) : Rat) = 20 from rfl] at *
      grind
    · exact ⟨0, by rw [show Jvm.FP.dcmp y 4626322717216342016 = some .eq from c2 q]; rfl, Or.inr ⟨by decide, by grind⟩⟩
theorem own_ser {Y : Rat} (h : 19 ≤ Y) : 4 * (1 / (Y * Y) * (5 / 66)) ≤ 1 / 30 ∧ 4 * (1 / (Y * Y) * (1 / 30 - 1 / (Y * Y) * (5 / 66))) ≤ 1 / 42 ∧ 4 * (1 / (Y * Y) * (1 / 42 - 1 / (Y * Y) * (1 / 30 - 1 / (Y * Y) * (5 / 66)))) ≤ 1 / 30 ∧ 4 * (1 / (Y * Y) * (1 / 30 - 1 / (Y * Y) * (1 / 42 - 1 / (Y * Y) * (1 / 30 - 1 / (Y * Y) * (5 / 66))))) ≤ 1 / 6 := by
  obtain ⟨p, h1, h2, h3⟩ := own_pinv h
  have e : (1 : Rat) / (Y * Y) = p * p := own_i (by calc Y * Y * (p * p) = (Y * p) * (Y * p) := by grind
                                                     _ = 1 := by rw [h1]; decide +kernel)
  have q0 : 0 < p * p := Rat.mul_pos h2 h2
  have q1 : p * p ≤ 1 / 19 * (1 / 19) := own_mulm (Rat.le_of_lt h2) h3 (Rat.le_of_lt h2) h3
  rw [e]
  generalize p * p = I at *
  have q1 : I ≤ 1 / 361 := by grind
  have a1 : 0 ≤ 1 / 30 - I * (5 / 66) := by grind
  have a2 : I * (1 / 30 - I * (5 / 66)) ≤ 1 / 361 * (1 / 30) := own_mulm (Rat.le_of_lt q0) q1 a1 (by grind)
  have a2' := Rat.mul_nonneg (Rat.le_of_lt q0) a1
  generalize I * (1 / 30 - I * (5 / 66)) = r1 at *
  have a3 : 0 ≤ 1 / 42 - r1 := by grind
  have a4 : I * (1 / 42 - r1) ≤ 1 / 361 * (1 / 42) := own_mulm (Rat.le_of_lt q0) q1 a3 (by grind)
  have a4' := Rat.mul_nonneg (Rat.le_of_lt q0) a3
  generalize I * (1 / 42 - r1) = r2 at *
  have a5 : 0 ≤ 1 / 30 - r2 := by grind
  have a6 : I * (1 / 30 - r2) ≤ 1 / 361 * (1 / 30) := own_mulm (Rat.le_of_lt q0) q1 a5 (by grind)
  generalize I * (1 / 30 - r2) = r3 at *
  refine ⟨by grind, by grind, by grind, by grind⟩
theorem own_eT (H Y a b J : Rat) : H + a + b + J = H + (a + b + J) := by grind
theorem own_xm {x : UInt64} {A B : Rat} (hA : 1 ≤ A) (hA2 : A ≤ 16777216) (hB : 1 ≤ B) (hB2 : B ≤ 1048576) (h : own_Rel x (A / B) 3 44) : own_Rel x (A / B) 3 24 := by
  have e1 : (2 : Rat) ^ 24 = 16777216 := by decide +kernel
  have b0 : 0 < B := by grind
  have e : A / B * B = A := Rat.div_mul_cancel (by grind)
  have x0 := h.1
  refine own_Rm h ?_ ?_
  · rw [e1]; refine Rat.le_of_mul_le_mul_right (c := B) ?_ b0; grind
  · rw [e1]
    have q := Rat.mul_le_mul_of_nonneg_left hB2 (Rat.le_of_lt x0)
    generalize A / B = X at *
    grind
theorem own_cvl {x y : UInt64} (h : dcmp x y = some .lt) (o : CmpOp) : cmpValue (Jvm.FP.dcmp x y) o = -1 := by rw [show Jvm.FP.dcmp x y = some .lt from h]; rfl
theorem own_cvg {x y : UInt64} (h : dcmp x y = some .gt) (o : CmpOp) : cmpValue (Jvm.FP.dcmp x y) o = 1 := by rw [show Jvm.FP.dcmp x y = some .gt from h]; rfl
theorem own_PNM {X z : Rat} (h1 : X * z = 1) : 1 / X + 1 / 2 / (X * X) + 1 / (6 * (X * X * X)) = z + 1 / 2 * z ^ 2 + 1 / 6 * z ^ 3 ∧ 1 / (30 * (X * X * X * (X * X))) = 1 / 30 * z ^ 5 ∧ 1 / (42 * (X * X * X * (X * X) * (X * X))) = 1 / 42 * z ^ 7 ∧ 1 / (X * X) = z ^ 2 := by
  have e0 : 1 / X = z := own_i h1
  have e : (1 : Rat) / (X * X) = z * z := own_i (by calc X * X * (z * z) = (X * z) * (X * z) := by grind
                                                     _ = 1 := by rw [h1]; decide +kernel)
  have e1 : 1 / 2 / (X * X) = 1 / 2 * (z * z) := by rw [← e]; grind
  have e2 : 1 / (6 * (X * X * X)) = 1 / 6 * (z * z * z) := own_i (by calc 6 * (X * X * X) * (1 / 6 * (z * z * z)) = (X * z) * (X * z) * (X * z) := by grind
                                                                      _ = 1 := by rw [h1]; decide +kernel)
  have e3 : 1 / (30 * (X * X * X * (X * X))) = 1 / 30 * (z * z * z * (z * z)) := own_i (by calc 30 * (X * X * X * (X * X)) * (1 / 30 * (z * z * z * (z * z))) = (X * z) * (X * z) * (X * z) * (X * z) * (X * z) := by grind
                                                                                            _ = 1 := by rw [h1]; decide +kernel)
  have e4 : 1 / (42 * (X * X * X * (X * X) * (X * X))) = 1 / 42 * (z * z * z * (z * z) * (z * z)) := own_i (by calc 42 * (X * X * X * (X * X) * (X * X)) * (1 / 42 * (z * z * z * (z * z) * (z * z))) = (X * z) * (X * z) * (X * z) * (X * z) * (X * z) * (X * z) * (X * z) := by grind
                                                                                            _ = 1 := by rw [h1]; decide +kernel)
  rw [e0, e1, e2, e3, e4, e]
  refine ⟨by grind, by grind, by grind, by grind⟩
theorem own_bnds {X : Rat} (h : 0 < X) {K : Nat} (hK : 19 ≤ X + (K : Rat)) {P N M : Rat} (hP : P = 1 / X + 1 / 2 / (X * X) + 1 / (6 * (X * X * X))) (hN : N = 1 / (30 * (X * X * X * (X * X)))) (hM : M = 1 / (42 * (X * X * X * (X * X) * (X * X)))) : (P - N + (P + N) * (1 / 100000000000000) < (own_T X K + own_T X K * (9 / 10000000000000))) ∧ (own_T X K - own_T X K * (9 / 10000000000000) < P - N + M - (P + N + M) * (2 / 100000000000000)) := by
  have h1 := own_inv h
  have hz : 0 < 1 / X := by rw [Rat.div_def, Rat.one_mul]; exact Rat.inv_pos.mpr h
  obtain ⟨p1, p2, p3, p4⟩ := own_PNM h1
  have t1 := own_TL h hK
  have t2 := own_TU h hK
  have t3 := own_Tsq h hK
  rw [p4] at t3
  unfold own_U at t2
  unfold own_L at t1 t2
  rw [← hP, ← hN] at t1 t2
  rw [← hM] at t2
  exact own_bnd hz (hP.trans p1) (hN.trans p2) (hM.trans p3) (own_Tpos h hK) t1 t2 t3
theorem own_lo_lt {lo tb : UInt64} {T P N lv : Rat} {k m : Nat} (LV : own_V lo lv) (h : lv ≤ P - N + (P + N) * (1 / 100000000000000)) (hb : P - N + (P + N) * (1 / 100000000000000) < T + T * (9 / 10000000000000)) (T0 : 0 < T) (R : own_Rel tb (T * (1 + 1 / 1000000000000)) k m) (hk : k ≤ 310) : dcmp lo tb = some .lt := own_lt LV R hk (by grind)
theorem own_up_lt {up tb : UInt64} {T W uv : Rat} {k m : Nat} (UV : own_V up uv) (h : W ≤ uv) (hb : T - T * (9 / 10000000000000) < W) (T0 : 0 < T) (R : own_Rel tb (T * (1 - 1 / 1000000000000)) k m) (hk : k ≤ 310) : dcmp tb up = some .lt := by
  obtain ⟨y0, y1, y2, y', Vy, Iy⟩ := R
  obtain ⟨b1, b2⟩ := own_hk y0 hk Iy
  exact (own_Vcmp Vy UV).1 (by grind)
theorem own_d_lt {d tb : UInt64} {T dv : Rat} {k m : Nat} (DV : own_V d dv) (h : dv ≤ T * (1 / 5000000000000)) (T0 : 0 < T) (R : own_Rel tb (1 / 1000000000000 * T) k m) (hk : k ≤ 310) : dcmp d tb = some .lt := own_lt DV R hk (by grind)
theorem own_VnegF {a : UInt64} {x : Rat} (ha : own_V a x) : own_V (Jvm.FP.dneg a) (-x) := by
  obtain ⟨s, c, q, ea, rfl⟩ := ha
  refine ⟨!s, c, q, by rw [Jvm.FP.val64_dneg, ea]; rfl, ?_⟩
  unfold own_sg; cases s <;> simp <;> grind
theorem own_k0 : own_Rel (4595172819793696085 : UInt64) (1 / 6) 1 3 := own_Rcst 6004799503160661 (-55) (by decide) (by decide +kernel) (by decide +kernel) (by decide +kernel) (by decide +kernel) (by decide +kernel)
theorem own_k1 : own_Rel (4584964660638322961 : UInt64) (1 / 30) 1 5 := own_Rcst 4803839602528529 (-57) (by decide) (by decide +kernel) (by decide +kernel) (by decide +kernel) (by decide +kernel) (by decide +kernel)
theorem own_k2 : own_Rel (4582519849412036120 : UInt64) (1 / 42) 1 6 := own_Rcst 6862628003612184 (-58) (by decide) (by decide +kernel) (by decide +kernel) (by decide +kernel) (by decide +kernel) (by decide +kernel)
theorem own_k3 : own_Rel (4590123329302401893 : UInt64) (5 / 66) 1 4 := own_Rcst 5458908639236965 (-56) (by decide) (by decide +kernel) (by decide +kernel) (by decide +kernel) (by decide +kernel) (by decide +kernel)
theorem own_k4 : own_Rel (4602678819172646912 : UInt64) (1 / 2) 0 1 := own_Rcst 4503599627370496 (-53) (by decide) (by decide +kernel) (by decide +kernel) (by decide +kernel) (by decide +kernel) (by decide +kernel)
theorem own_k5 : own_Rel (4618441417868443648 : UInt64) (6) 0 3 := own_Rcst 6755399441055744 (-50) (by decide) (by decide +kernel) (by decide +kernel) (by decide +kernel) (by decide +kernel) (by decide +kernel)
theorem own_k6 : own_Rel (4629137466983448576 : UInt64) (30) 0 5 := own_Rcst 8444249301319680 (-48) (by decide) (by decide +kernel) (by decide +kernel) (by decide +kernel) (by decide +kernel) (by decide +kernel)
theorem own_k7 : own_Rel (4631107791820423168 : UInt64) (42) 0 6 := own_Rcst 5910974510923776 (-47) (by decide) (by decide +kernel) (by decide +kernel) (by decide +kernel) (by decide +kernel) (by decide +kernel)
theorem own_k8 : own_Rel (4427486594234968593 : UInt64) (1 / 1000000000000) 1 40 := own_Rcst 4951760157141521 (-92) (by decide) (by decide +kernel) (by decide +kernel) (by decide +kernel) (by decide +kernel) (by decide +kernel)
theorem own_Rf {b : UInt64} {v : Rat} {k m : Nat} (h : own_Rel b v k m) : Jvm.Free.Fl.Fin64 b := Jvm.Free.Fl.fin64_core.mpr (own_Rfin h)
theorem own_Vf {b : UInt64} {v : Rat} (h : own_V b v) : Jvm.Free.Fl.Fin64 b := Jvm.Free.Fl.fin64_core.mpr (own_Vfin h)
theorem own_msk (p : Int32) (M : Int32) (k : Nat) (hk : k ≤ 24) (hM : M.toBitVec.toNat = 2 ^ k - 1) : 0 < ((p &&& M) + 1).toInt ∧ ((p &&& M) + 1).toInt ≤ (2 ^ k : Nat) := by
  have h1 : (p &&& M).toInt = p.toInt % (2 ^ k : Nat) := c_mask p M k (by omega) hM
  have h2 : (2 ^ k : Nat) ≤ 2 ^ 24 := Nat.pow_le_pow_right (by decide) hk
  have h3 := Nat.two_pow_pos k
  generalize (2 ^ k : Nat) = Q at *
  have h4 : 0 ≤ p.toInt % (Q : Int) := Int.emod_nonneg _ (by omega)
  have h5 : p.toInt % (Q : Int) < Q := Int.emod_lt_of_pos _ (by omega)
  have h6 := c_iadd (p &&& M) 1
  have h7 := rng32 ((p &&& M) + 1)
  rw [show (1 : Int32).toInt = 1 from rfl] at h6
  omega
theorem own_cI {a : Int} {m : Nat} (h : 0 < a ∧ a ≤ (2 ^ m : Nat)) {N : Rat} (hN : ((2 ^ m : Nat) : Rat) = N) : 1 ≤ (a : Rat) ∧ (a : Rat) ≤ N := by
  refine ⟨Rat.intCast_le_intCast.mpr (show (1 : Int) ≤ a by omega), ?_⟩
  rw [← hN, ← Rat.intCast_natCast]; exact Rat.intCast_le_intCast.mpr h.2
end OwnR
theorem d1_0 : decode prog_41_method_14_code 0 = .ok (.dconst 0, 1) := by decide +kernel
theorem d1_1 : decode prog_41_method_14_code 1 = .ok (.dstore_n 2, 1) := by decide +kernel
theorem d1_2 : decode prog_41_method_14_code 2 = .ok (.dload_n 0, 1) := by decide +kernel
theorem d1_3 : decode prog_41_method_14_code 3 = .ok (.dstore 4, 2) := by decide +kernel
theorem d1_5 : decode prog_41_method_14_code 5 = .ok (.dload 4, 2) := by decide +kernel
theorem d1_7 : decode prog_41_method_14_code 7 = .ok (.ldc2_w 208, 3) := by decide +kernel
theorem d1_10 : decode prog_41_method_14_code 10 = .ok (.dcmp .g, 1) := by decide +kernel
theorem d1_11 : decode prog_41_method_14_code 11 = .ok (.ifCond .ge 22, 3) := by decide +kernel
theorem d1_14 : decode prog_41_method_14_code 14 = .ok (.dload_n 2, 1) := by decide +kernel
theorem d1_15 : decode prog_41_method_14_code 15 = .ok (.dconst 1, 1) := by decide +kernel
theorem d1_16 : decode prog_41_method_14_code 16 = .ok (.dload 4, 2) := by decide +kernel
theorem d1_18 : decode prog_41_method_14_code 18 = .ok (.dload 4, 2) := by decide +kernel
theorem d1_20 : decode prog_41_method_14_code 20 = .ok (.dmul, 1) := by decide +kernel
theorem d1_21 : decode prog_41_method_14_code 21 = .ok (.ddiv, 1) := by decide +kernel
theorem d1_22 : decode prog_41_method_14_code 22 = .ok (.dadd, 1) := by decide +kernel
theorem d1_23 : decode prog_41_method_14_code 23 = .ok (.dstore_n 2, 1) := by decide +kernel
theorem d1_24 : decode prog_41_method_14_code 24 = .ok (.dload 4, 2) := by decide +kernel
theorem d1_26 : decode prog_41_method_14_code 26 = .ok (.dconst 1, 1) := by decide +kernel
theorem d1_27 : decode prog_41_method_14_code 27 = .ok (.dadd, 1) := by decide +kernel
theorem d1_28 : decode prog_41_method_14_code 28 = .ok (.dstore 4, 2) := by decide +kernel
theorem d1_30 : decode prog_41_method_14_code 30 = .ok (.goto (-25), 3) := by decide +kernel
theorem d1_33 : decode prog_41_method_14_code 33 = .ok (.dconst 1, 1) := by decide +kernel
theorem d1_34 : decode prog_41_method_14_code 34 = .ok (.dload 4, 2) := by decide +kernel
theorem d1_36 : decode prog_41_method_14_code 36 = .ok (.dload 4, 2) := by decide +kernel
theorem d1_38 : decode prog_41_method_14_code 38 = .ok (.dmul, 1) := by decide +kernel
theorem d1_39 : decode prog_41_method_14_code 39 = .ok (.ddiv, 1) := by decide +kernel
theorem d1_40 : decode prog_41_method_14_code 40 = .ok (.dstore 6, 2) := by decide +kernel
theorem d1_42 : decode prog_41_method_14_code 42 = .ok (.dload 6, 2) := by decide +kernel
theorem d1_44 : decode prog_41_method_14_code 44 = .ok (.dload 4, 2) := by decide +kernel
theorem d1_46 : decode prog_41_method_14_code 46 = .ok (.ddiv, 1) := by decide +kernel
theorem d1_47 : decode prog_41_method_14_code 47 = .ok (.ldc2_w 222, 3) := by decide +kernel
theorem d1_50 : decode prog_41_method_14_code 50 = .ok (.dload 6, 2) := by decide +kernel
theorem d1_52 : decode prog_41_method_14_code 52 = .ok (.ldc2_w 224, 3) := by decide +kernel
theorem d1_55 : decode prog_41_method_14_code 55 = .ok (.dload 6, 2) := by decide +kernel
theorem d1_57 : decode prog_41_method_14_code 57 = .ok (.ldc2_w 226, 3) := by decide +kernel
theorem d1_60 : decode prog_41_method_14_code 60 = .ok (.dload 6, 2) := by decide +kernel
theorem d1_62 : decode prog_41_method_14_code 62 = .ok (.ldc2_w 224, 3) := by decide +kernel
theorem d1_65 : decode prog_41_method_14_code 65 = .ok (.dload 6, 2) := by decide +kernel
theorem d1_67 : decode prog_41_method_14_code 67 = .ok (.ldc2_w 228, 3) := by decide +kernel
theorem d1_70 : decode prog_41_method_14_code 70 = .ok (.dmul, 1) := by decide +kernel
theorem d1_71 : decode prog_41_method_14_code 71 = .ok (.dsub, 1) := by decide +kernel
theorem d1_72 : decode prog_41_method_14_code 72 = .ok (.dmul, 1) := by decide +kernel
theorem d1_73 : decode prog_41_method_14_code 73 = .ok (.dsub, 1) := by decide +kernel
theorem d1_74 : decode prog_41_method_14_code 74 = .ok (.dmul, 1) := by decide +kernel
theorem d1_75 : decode prog_41_method_14_code 75 = .ok (.dsub, 1) := by decide +kernel
theorem d1_76 : decode prog_41_method_14_code 76 = .ok (.dmul, 1) := by decide +kernel
theorem d1_77 : decode prog_41_method_14_code 77 = .ok (.dsub, 1) := by decide +kernel
theorem d1_78 : decode prog_41_method_14_code 78 = .ok (.dmul, 1) := by decide +kernel
theorem d1_79 : decode prog_41_method_14_code 79 = .ok (.dstore 8, 2) := by decide +kernel
theorem d1_81 : decode prog_41_method_14_code 81 = .ok (.dload_n 2, 1) := by decide +kernel
theorem d1_82 : decode prog_41_method_14_code 82 = .ok (.dconst 1, 1) := by decide +kernel
theorem d1_83 : decode prog_41_method_14_code 83 = .ok (.dload 4, 2) := by decide +kernel
theorem d1_85 : decode prog_41_method_14_code 85 = .ok (.ddiv, 1) := by decide +kernel
theorem d1_86 : decode prog_41_method_14_code 86 = .ok (.dadd, 1) := by decide +kernel
theorem d1_87 : decode prog_41_method_14_code 87 = .ok (.ldc2_w 220, 3) := by decide +kernel
theorem d1_90 : decode prog_41_method_14_code 90 = .ok (.dload 6, 2) := by decide +kernel
theorem d1_92 : decode prog_41_method_14_code 92 = .ok (.dmul, 1) := by decide +kernel
theorem d1_93 : decode prog_41_method_14_code 93 = .ok (.dadd, 1) := by decide +kernel
theorem d1_94 : decode prog_41_method_14_code 94 = .ok (.dload 8, 2) := by decide +kernel
theorem d1_96 : decode prog_41_method_14_code 96 = .ok (.dadd, 1) := by decide +kernel
theorem d1_97 : decode prog_41_method_14_code 97 = .ok (.dreturn, 1) := by decide +kernel
theorem own_pn1 : plainFor (⟨"com/example/prudent_query/prudentquery/service/Dirichlet", "trigamma", "(D)D"⟩ : MethodName) = true := plainFor_of_name (show plainName "com/example/prudent_query/prudentquery/service/Dirichlet" = true by first | (simp [plainName, overriddenIn]; done) | decide +kernel)
theorem own_ef1 (m : MethodId) (x1 : UInt64)  : entryFrame m #[(.double x1)] 10 = mkF m 0 #[.val (.double x1), .second, .unset, .unset, .unset, .unset, .unset, .unset, .unset, .unset] [] := by first | (simp [entryFrame, mkF, argsToLocals, Value.category, maxLocals]; done) | rfl
set_option maxRecDepth 65536 in
set_option maxHeartbeats 40000000 in
theorem own_rm1 (l : Launch) (Z : State) (a0 : Array Value) (hw : ∀ d ∈ tables_1, d.before a0 Z = true) (ws : List Jvm.Cond) (x1 : UInt64) (X : Rat) (h0 : Heap) (RX : own_Rel x1 X 4 25) :
    MetFree l (⟨"com/example/prudent_query/prudentquery/service/Dirichlet", "trigamma", "(D)D"⟩ : MethodName) (head1 (Jvm.Cond.code (⟨"com/example/prudent_query/prudentquery/service/Dirichlet", "trigamma", "(D)D"⟩ : MethodName) prog_41_method_14_code 10 (some .double) :: ws) ({ frames := 0, cells := 0, slots := 0, locals := 0 } : Room)) (fun a U => a = #[(.double x1)] ∧ Z.Warmed39 U.vm ∧ U.heap = h0) (fun _ _ _ _ _ => True) (fun _ U o U' => ∃ v L, o = .returned v ∧ (fun v h L => (∃ w, v = some w ∧ (fun w => ∃ z : UInt64, w = .double z ∧ ∃ K : Nat, 19 ≤ X + (K : Rat) ∧ own_Rel z (own_T X K) 294 83) w) ∧ L = [] ∧ h = h0) v U'.heap L ∧ FrameEnd U o U' L ({ frames := 0, cells := 0, slots := 0, locals := 0 } : Room).cells ({ frames := 0, cells := 0, slots := 0, locals := 0 } : Room).slots) := by
  refine own_body (y := (⟨"com/example/prudent_query/prudentquery/service/Dirichlet", "trigamma", "(D)D"⟩ : MethodName)) (Q := fun v h L => (∃ w, v = some w ∧ (fun w => ∃ z : UInt64, w = .double z ∧ ∃ K : Nat, 19 ≤ X + (K : Rat) ∧ own_Rel z (own_T X K) 294 83) w) ∧ L = [] ∧ h = h0) (rm := ({ frames := 0, cells := 0, slots := 0, locals := 0 } : Room)) (as' := #[(.double x1)]) (h0 := h0) (Z := Z) own_pn1 ?_
  intro p e s m below meth c s₁ hx hby hml hown hnm hret hlk hZ X0 e0
  have hown : s.vm.findClass "com/example/prudent_query/prudentquery/service/Dirichlet" = some m.cls := hown
  rw [own_ef1]
  refine own_dconst0 X0 hx (hb hby d1_0) (q := 1) rfl ?_
  refine own_dstore_n X0 hx (hb hby d1_1) (l' := #[.val (.double x1), .second, .val (.double FP.dconst0), .second, .unset, .unset, .unset, .unset, .unset, .unset]) rfl (q := 2) rfl ?_
  refine own_dload_n X0 hx (hb hby d1_2) rfl (q := 3) rfl ?_
  refine own_dstore X0 hx (hb hby d1_3) (l' := #[.val (.double x1), .second, .val (.double FP.dconst0), .second, .val (.double x1), .second, .unset, .unset, .unset, .unset]) rfl (q := 5) rfl ?_
  have P5_1 : ∀ (k_ : Nat) (T2 : State) (X2 : Stand p l e ({ frames := 0, cells := 0, slots := 0, locals := 0 } : Room) s m #[(.double x1)] below meth c T2 [] (0) (0)) (e2 : T2.heap = h0) (sh : UInt64) (y : UInt64) (n_ : Nat) (hk_ : 20 - n_ = k_) (g5_0 : n_ ≤ 20) (g5_1 : own_Rel y (X + (n_ : Rat)) (4 + n_) 26) (g5_2 : own_Rel0 sh (own_H X n_) (51 + n_) (52 + n_)), own_G p e below (own_En s ({ frames := 0, cells := 0, slots := 0, locals := 0 } : Room).cells ({ frames := 0, cells := 0, slots := 0, locals := 0 } : Room).slots (fun v h L => (∃ w, v = some w ∧ (fun w => ∃ z : UInt64, w = .double z ∧ ∃ K : Nat, 19 ≤ X + (K : Rat) ∧ own_Rel z (own_T X K) 294 83) w) ∧ L = [] ∧ h = h0)) (T2.setTop (mkF m 5 #[.val (.double x1), .second, .val (.double sh), .second, .val (.double y), .second, .unset, .unset, .unset, .unset] [])) := by
    intro k_
    induction k_ using Nat.strongRecOn with
    | _ k_ ih_5 =>
    intro T2 X2 e2 sh y n_ hk_ g5_0 g5_1 g5_2
    refine own_dload X2 hx (hb hby d1_5) rfl (q := 7) rfl ?_
    refine own_ldcD X2 hx hZ hown (hw _ (List.mem_of_getElem? (i := 6) rfl)) (hb hby d1_7) (q := 10) rfl ?_
    obtain ⟨v10, ev10, hv10⟩ := own_ycmp RX g5_1 g5_0
    refine own_dcmp X2 hx (hb hby d1_10) (v := v10) (ev10) (q := 11) rfl ?_
    refine own_if X2 hx (hb hby d1_11) (by decide) (q := 33) rfl (q' := 14) rfl (own_z_ge _) (fun h11 => ?_) (fun h11 => ?_)
    · replace h11 : 0 ≤ v10.toInt := h11
      have hY0 : 19 ≤ X + (n_ : Rat) := by rcases hv10 with ⟨q1, -⟩ | ⟨-, q1⟩; (exfalso; omega); exact q1
      have Ry : own_Rel y (X + (n_ : Rat)) 24 26 := own_Rw g5_1 (by omega) (Nat.le_refl _)
      have Z0 : own_Rel0 sh (own_H X n_) 71 72 := own_R0w g5_2 (by omega) (by omega)
      have eT : own_T X n_ = own_H X n_ + own_S (X + (n_ : Rat)) := rfl
      obtain ⟨Y, eY⟩ : ∃ z, z = X + (n_ : Rat) := ⟨_, rfl⟩
      have hY : 19 ≤ Y := by rw [eY]; exact hY0
      rw [← eY] at Ry eT
      obtain ⟨Hn, eH⟩ : ∃ z, z = own_H X n_ := ⟨_, rfl⟩
      rw [← eH] at Z0 eT
      obtain ⟨hs1, hs2, hs3, hs4⟩ := own_ser hY
      refine own_dconst1 X2 hx (hb hby d1_33) (q := 34) rfl ?_
      refine own_dload X2 hx (hb hby d1_34) rfl (q := 36) rfl ?_
      refine own_dload X2 hx (hb hby d1_36) rfl (q := 38) rfl ?_
      have R3 : own_Rel (FP.dmul y y) (Y * Y) 49 52 := own_Rmul Ry Ry (by decide) (by decide)
      refine own_dmul X2 hx (hb hby d1_38) (own_Rf R3) (q := 39) rfl ?_
      obtain ⟨v3, ev3⟩ : ∃ z, z = (FP.dmul y y) := ⟨_, rfl⟩
      rw [← ev3] at R3 ⊢
      have R4 : own_Rel (FP.ddiv FP.dconst1 v3) (1 / (Y * Y)) 50 52 := own_Rdiv own_R1 R3 (by decide) (by decide)
      refine own_ddiv X2 hx (hb hby d1_39) (own_Rf R4) (q := 40) rfl ?_
      obtain ⟨v4, ev4⟩ : ∃ z, z = (FP.ddiv FP.dconst1 v3) := ⟨_, rfl⟩
      rw [← ev4] at R4 ⊢
      refine own_dstore X2 hx (hb hby d1_40) (l' := #[.val (.double x1), .second, .val (.double sh), .second, .val (.double y), .second, .val (.double v4), .second, .unset, .unset]) rfl (q := 42) rfl ?_
      refine own_dload X2 hx (hb hby d1_42) rfl (q := 44) rfl ?_
      refine own_dload X2 hx (hb hby d1_44) rfl (q := 46) rfl ?_
      have R5 : own_Rel (FP.ddiv v4 y) ((1 / (Y * Y)) / Y) 75 78 := own_Rdiv R4 Ry (by decide) (by decide)
      refine own_ddiv X2 hx (hb hby d1_46) (own_Rf R5) (q := 47) rfl ?_
      obtain ⟨v5, ev5⟩ : ∃ z, z = (FP.ddiv v4 y) := ⟨_, rfl⟩
      rw [← ev5] at R5 ⊢
      refine own_ldcD X2 hx hZ hown (hw _ (List.mem_of_getElem? (i := 7) rfl)) (hb hby d1_47) (q := 50) rfl ?_
      refine own_dload X2 hx (hb hby d1_50) rfl (q := 52) rfl ?_
      refine own_ldcD X2 hx hZ hown (hw _ (List.mem_of_getElem? (i := 8) rfl)) (hb hby d1_52) (q := 55) rfl ?_
      refine own_dload X2 hx (hb hby d1_55) rfl (q := 57) rfl ?_
      refine own_ldcD X2 hx hZ hown (hw _ (List.mem_of_getElem? (i := 9) rfl)) (hb hby d1_57) (q := 60) rfl ?_
      refine own_dload X2 hx (hb hby d1_60) rfl (q := 62) rfl ?_
      refine own_ldcD X2 hx hZ hown (hw _ (List.mem_of_getElem? (i := 8) rfl)) (hb hby d1_62) (q := 65) rfl ?_
      refine own_dload X2 hx (hb hby d1_65) rfl (q := 67) rfl ?_
      refine own_ldcD X2 hx hZ hown (hw _ (List.mem_of_getElem? (i := 10) rfl)) (hb hby d1_67) (q := 70) rfl ?_
      have R6 : own_Rel (FP.dmul v4 (4590123329302401893 : UInt64)) ((1 / (Y * Y)) * (5 / 66)) 52 56 := own_Rmul R4 own_k3 (by decide) (by decide)
      refine own_dmul X2 hx (hb hby d1_70) (own_Rf R6) (q := 71) rfl ?_
      obtain ⟨v6, ev6⟩ : ∃ z, z = (FP.dmul v4 (4590123329302401893 : UInt64)) := ⟨_, rfl⟩
      rw [← ev6] at R6 ⊢
      have R7 : own_Rel (FP.dsub (4584964660638322961 : UInt64) v6) ((1 / 30) - ((1 / (Y * Y)) * (5 / 66))) 55 6 := own_Rsub own_k1 R6 (hs1) (by decide) (by decide)
      refine own_dsub X2 hx (hb hby d1_71) (own_Rf R7) (q := 72) rfl ?_
      obtain ⟨v7, ev7⟩ : ∃ z, z = (FP.dsub (4584964660638322961 : UInt64) v6) := ⟨_, rfl⟩
      rw [← ev7] at R7 ⊢
      have R8 : own_Rel (FP.dmul v4 v7) ((1 / (Y * Y)) * ((1 / 30) - ((1 / (Y * Y)) * (5 / 66)))) 106 58 := own_Rmul R4 R7 (by decide) (by decide)
      refine own_dmul X2 hx (hb hby d1_72) (own_Rf R8) (q := 73) rfl ?_
      obtain ⟨v8, ev8⟩ : ∃ z, z = (FP.dmul v4 v7) := ⟨_, rfl⟩
      rw [← ev8] at R8 ⊢
      have R9 : own_Rel (FP.dsub (4582519849412036120 : UInt64) v8) ((1 / 42) - ((1 / (Y * Y)) * ((1 / 30) - ((1 / (Y * Y)) * (5 / 66))))) 109 7 := own_Rsub own_k2 R8 (hs2) (by decide) (by decide)
      refine own_dsub X2 hx (hb hby d1_73) (own_Rf R9) (q := 74) rfl ?_
      obtain ⟨v9, ev9⟩ : ∃ z, z = (FP.dsub (4582519849412036120 : UInt64) v8) := ⟨_, rfl⟩
      rw [← ev9] at R9 ⊢
      have R10 : own_Rel (FP.dmul v4 v9) ((1 / (Y * Y)) * ((1 / 42) - ((1 / (Y * Y)) * ((1 / 30) - ((1 / (Y * Y)) * (5 / 66)))))) 160 59 := own_Rmul R4 R9 (by decide) (by decide)
      refine own_dmul X2 hx (hb hby d1_74) (own_Rf R10) (q := 75) rfl ?_
      obtain ⟨v10, ev10⟩ : ∃ z, z = (FP.dmul v4 v9) := ⟨_, rfl⟩
      rw [← ev10] at R10 ⊢
      have R11 : own_Rel (FP.dsub (4584964660638322961 : UInt64) v10) ((1 / 30) - ((1 / (Y * Y)) * ((1 / 42) - ((1 / (Y * Y)) * ((1 / 30) - ((1 / (Y * Y)) * (5 / 66))))))) 163 6 := own_Rsub own_k1 R10 (hs3) (by decide) (by decide)
      refine own_dsub X2 hx (hb hby d1_75) (own_Rf R11) (q := 76) rfl ?_
      obtain ⟨v11, ev11⟩ : ∃ z, z = (FP.dsub (4584964660638322961 : UInt64) v10) := ⟨_, rfl⟩
      rw [← ev11] at R11 ⊢
      have R12 : own_Rel (FP.dmul v4 v11) ((1 / (Y * Y)) * ((1 / 30) - ((1 / (Y * Y)) * ((1 / 42) - ((1 / (Y * Y)) * ((1 / 30) - ((1 / (Y * Y)) * (5 / 66)))))))) 214 58 := own_Rmul R4 R11 (by decide) (by decide)
      refine own_dmul X2 hx (hb hby d1_76) (own_Rf R12) (q := 77) rfl ?_
      obtain ⟨v12, ev12⟩ : ∃ z, z = (FP.dmul v4 v11) := ⟨_, rfl⟩
      rw [← ev12] at R12 ⊢
      have R13 : own_Rel (FP.dsub (4595172819793696085 : UInt64) v12) ((1 / 6) - ((1 / (Y * Y)) * ((1 / 30) - ((1 / (Y * Y)) * ((1 / 42) - ((1 / (Y * Y)) * ((1 / 30) - ((1 / (Y * Y)) * (5 / 66))))))))) 217 4 := own_Rsub own_k0 R12 (hs4) (by decide) (by decide)
      refine own_dsub X2 hx (hb hby d1_77) (own_Rf R13) (q := 78) rfl ?_
      obtain ⟨v13, ev13⟩ : ∃ z, z = (FP.dsub (4595172819793696085 : UInt64) v12) := ⟨_, rfl⟩
      rw [← ev13] at R13 ⊢
      have R14 : own_Rel (FP.dmul v5 v13) (((1 / (Y * Y)) / Y) * ((1 / 6) - ((1 / (Y * Y)) * ((1 / 30) - ((1 / (Y * Y)) * ((1 / 42) - ((1 / (Y * Y)) * ((1 / 30) - ((1 / (Y * Y)) * (5 / 66)))))))))) 293 82 := own_Rmul R5 R13 (by decide) (by decide)
      refine own_dmul X2 hx (hb hby d1_78) (own_Rf R14) (q := 79) rfl ?_
      obtain ⟨v14, ev14⟩ : ∃ z, z = (FP.dmul v5 v13) := ⟨_, rfl⟩
      rw [← ev14] at R14 ⊢
      refine own_dstore X2 hx (hb hby d1_79) (l' := #[.val (.double x1), .second, .val (.double sh), .second, .val (.double y), .second, .val (.double v4), .second, .val (.double v14), .second]) rfl (q := 81) rfl ?_
      refine own_dload_n X2 hx (hb hby d1_81) rfl (q := 82) rfl ?_
      refine own_dconst1 X2 hx (hb hby d1_82) (q := 83) rfl ?_
      refine own_dload X2 hx (hb hby d1_83) rfl (q := 85) rfl ?_
      have R15 : own_Rel (FP.ddiv FP.dconst1 y) (1 / Y) 25 26 := own_Rdiv own_R1 Ry (by decide) (by decide)
      refine own_ddiv X2 hx (hb hby d1_85) (own_Rf R15) (q := 86) rfl ?_
      obtain ⟨v15, ev15⟩ : ∃ z, z = (FP.ddiv FP.dconst1 y) := ⟨_, rfl⟩
      rw [← ev15] at R15 ⊢
      have R16 : own_Rel (FP.dadd sh v15) (Hn + (1 / Y)) 72 73 := own_R0add Z0 R15 (by decide) (by decide)
      refine own_dadd X2 hx (hb hby d1_86) (own_Rf R16) (q := 87) rfl ?_
      obtain ⟨v16, ev16⟩ : ∃ z, z = (FP.dadd sh v15) := ⟨_, rfl⟩
      rw [← ev16] at R16 ⊢
      refine own_ldcD X2 hx hZ hown (hw _ (List.mem_of_getElem? (i := 11) rfl)) (hb hby d1_87) (q := 90) rfl ?_
      refine own_dload X2 hx (hb hby d1_90) rfl (q := 92) rfl ?_
      have R17 : own_Rel (FP.dmul (4602678819172646912 : UInt64) v4) ((1 / 2) * (1 / (Y * Y))) 51 53 := own_Rmul own_k4 R4 (by decide) (by decide)
      refine own_dmul X2 hx (hb hby d1_92) (own_Rf R17) (q := 93) rfl ?_
      obtain ⟨v17, ev17⟩ : ∃ z, z = (FP.dmul (4602678819172646912 : UInt64) v4) := ⟨_, rfl⟩
      rw [← ev17] at R17 ⊢
      have R18 : own_Rel (FP.dadd v16 v17) ((Hn + (1 / Y)) + ((1 / 2) * (1 / (Y * Y)))) 73 74 := own_Radd R16 R17 (by decide) (by decide)
      refine own_dadd X2 hx (hb hby d1_93) (own_Rf R18) (q := 94) rfl ?_
      obtain ⟨v18, ev18⟩ : ∃ z, z = (FP.dadd v16 v17) := ⟨_, rfl⟩
      rw [← ev18] at R18 ⊢
      refine own_dload X2 hx (hb hby d1_94) rfl (q := 96) rfl ?_
      have R19 : own_Rel (FP.dadd v18 v14) (((Hn + (1 / Y)) + ((1 / 2) * (1 / (Y * Y)))) + (((1 / (Y * Y)) / Y) * ((1 / 6) - ((1 / (Y * Y)) * ((1 / 30) - ((1 / (Y * Y)) * ((1 / 42) - ((1 / (Y * Y)) * ((1 / 30) - ((1 / (Y * Y)) * (5 / 66))))))))))) 294 83 := own_Radd R18 R14 (by decide) (by decide)
      refine own_dadd X2 hx (hb hby d1_96) (own_Rf R19) (q := 97) rfl ?_
      obtain ⟨v19, ev19⟩ : ∃ z, z = (FP.dadd v18 v14) := ⟨_, rfl⟩
      rw [← ev19] at R19 ⊢
      have Rz : own_Rel v19 (own_T X n_) 294 83 := by rw [eT]; unfold own_S; rw [← own_eT Hn Y]; exact R19
      exact own_retD X2 hx hret hlk (hb hby d1_97) (by decide) (by decide) ⟨⟨_, rfl, _, rfl, n_, hY0, Rz⟩, rfl, e2⟩
    · replace h11 : ¬ (0 ≤ v10.toInt) := h11
      have hn19 : n_ ≤ 19 := by rcases hv10 with ⟨-, q1⟩ | ⟨q1, -⟩; exact q1; (exfalso; omega)
      have Ry : own_Rel y (X + (n_ : Rat)) 24 26 := own_Rw g5_1 (by omega) (Nat.le_refl _)
      refine own_dload_n X2 hx (hb hby d1_14) rfl (q := 15) rfl ?_
      refine own_dconst1 X2 hx (hb hby d1_15) (q := 16) rfl ?_
      refine own_dload X2 hx (hb hby d1_16) rfl (q := 18) rfl ?_
      refine own_dload X2 hx (hb hby d1_18) rfl (q := 20) rfl ?_
      have R20 : own_Rel (FP.dmul y y) ((X + (n_ : Rat)) * (X + (n_ : Rat))) 49 52 := own_Rmul Ry Ry (by decide) (by decide)
      refine own_dmul X2 hx (hb hby d1_20) (own_Rf R20) (q := 21) rfl ?_
      obtain ⟨v20, ev20⟩ : ∃ z, z = (FP.dmul y y) := ⟨_, rfl⟩
      rw [← ev20] at R20 ⊢
      have R21 : own_Rel (FP.ddiv FP.dconst1 v20) (1 / ((X + (n_ : Rat)) * (X + (n_ : Rat)))) 50 52 := own_Rdiv own_R1 R20 (by decide) (by decide)
      refine own_ddiv X2 hx (hb hby d1_21) (own_Rf R21) (q := 22) rfl ?_
      obtain ⟨v21, ev21⟩ : ∃ z, z = (FP.ddiv FP.dconst1 v20) := ⟨_, rfl⟩
      rw [← ev21] at R21 ⊢
      have R22 : own_Rel (FP.dadd sh v21) (own_H X (n_ + 1)) (51 + (n_ + 1)) (52 + (n_ + 1)) := own_sstep g5_2 R21 (by omega)
      refine own_dadd X2 hx (hb hby d1_22) (own_Rf R22) (q := 23) rfl ?_
      obtain ⟨v22, ev22⟩ : ∃ z, z = (FP.dadd sh v21) := ⟨_, rfl⟩
      rw [← ev22] at R22 ⊢
      refine own_dstore_n X2 hx (hb hby d1_23) (l' := #[.val (.double x1), .second, .val (.double v22), .second, .val (.double y), .second, .unset, .unset, .unset, .unset]) rfl (q := 24) rfl ?_
      refine own_dload X2 hx (hb hby d1_24) rfl (q := 26) rfl ?_
      refine own_dconst1 X2 hx (hb hby d1_26) (q := 27) rfl ?_
      have R23 : own_Rel (FP.dadd y FP.dconst1) (X + ((n_ + 1 : Nat) : Rat)) (4 + (n_ + 1)) 26 := own_ystep RX g5_1 hn19
      refine own_dadd X2 hx (hb hby d1_27) (own_Rf R23) (q := 28) rfl ?_
      obtain ⟨v23, ev23⟩ : ∃ z, z = (FP.dadd y FP.dconst1) := ⟨_, rfl⟩
      rw [← ev23] at R23 ⊢
      refine own_dstore X2 hx (hb hby d1_28) (l' := #[.val (.double x1), .second, .val (.double v22), .second, .val (.double v23), .second, .unset, .unset, .unset, .unset]) rfl (q := 30) rfl ?_
      refine own_goto X2 hx (hb hby d1_30) (by decide) (q := 5) rfl ?_
      exact ih_5 _ (by omega) T2 X2 e2 v22 v23 (n_ + 1) rfl (by omega) (R23) (own_R0 R22)
  exact P5_1 _ s₁ X0 e0 FP.dconst0 x1 0 rfl (by decide) (own_y0 RX) (own_R0zero _ _)
theorem own_pn0 : plainFor x = true := plainFor_of_name (show plainName "com/example/prudent_query/prudentquery/service/DirichletTrigammaPinLaw" = true by first | (simp [plainName, overriddenIn]; done) | decide +kernel)
theorem own_ef0 (m : MethodId) (p1 : Int32) (p2 : Int32)  : entryFrame m #[(.int p1), (.int p2)] maxLocals = mkF m 0 #[.val (.int p1), .val (.int p2), .unset, .unset, .unset, .unset, .unset, .unset, .unset, .unset, .unset, .unset, .unset, .unset, .unset, .unset, .unset, .unset, .unset, .unset, .unset, .unset, .unset, .unset, .unset, .unset, .unset, .unset, .unset, .unset, .unset] [] := by first | (simp [entryFrame, mkF, argsToLocals, Value.category, maxLocals]; done) | rfl
set_option maxRecDepth 65536 in
set_option maxHeartbeats 40000000 in
theorem own_rm0 (l : Launch) (Z : State) (a0 : Array Value) (hw : ∀ d ∈ tables_1, d.before a0 Z = true) (ws : List Jvm.Cond) (p1 : Int32) (p2 : Int32)  (h0 : Heap)  :
    MetFree l x (head1 (Jvm.Cond.code x code maxLocals ret :: ws) room_1) (fun a U => a = #[(.int p1), (.int p2)] ∧ Z.Warmed39 U.vm ∧ U.heap = h0) (fun _ _ _ _ _ => True) (fun _ U o U' => ∃ v L, o = .returned v ∧ (fun v h L => v = some (.int 1) ∧ Fr h0.size L) v U'.heap L ∧ FrameEnd U o U' L room_1.cells room_1.slots) := by
  refine own_body (y := x) (Q := fun v h L => v = some (.int 1) ∧ Fr h0.size L) (rm := room_1) (as' := #[(.int p1), (.int p2)]) (h0 := h0) (Z := Z) own_pn0 ?_
  intro p e s m below meth c s₁ hx hby hml hown hnm hret hlk hZ X0 e0
  have hown : s.vm.findClass "com/example/prudent_query/prudentquery/service/DirichletTrigammaPinLaw" = some m.cls := hown
  rw [own_ef0]
  refine own_iload_n X0 hx (hb hby at_0) rfl (q := 1) rfl ?_
  refine own_ldcI X0 hx hZ hown (hw _ (List.mem_of_getElem? (i := 0) rfl)) (hb hby at_1) (q := 3) rfl ?_
  refine own_iand X0 hx (hb hby at_3) (q := 4) rfl ?_
  refine own_iconst X0 hx (hb hby at_4) (v := (1 : Int32)) rfl (q := 5) rfl ?_
  refine own_iadd X0 hx (hb hby at_5) (q := 6) rfl ?_
  have hm1 := own_msk p1 (16777215 : Int32) 24 (by decide) (by decide)
  have R1 : own_Rel (FP.i2d ((p1 &&& (16777215 : Int32)) + (1 : Int32))) ((((p1 &&& (16777215 : Int32)) + (1 : Int32)).toInt : Int) : Rat) 1 24 := own_Ri2d hm1.1 hm1.2 (by decide)
  have hbA := own_cI hm1 (N := 16777216) (by decide +kernel)
  obtain ⟨A, eA⟩ : ∃ z, z = ((((p1 &&& (16777215 : Int32)) + (1 : Int32)).toInt : Int) : Rat) := ⟨_, rfl⟩
  rw [← eA] at R1 hbA
  refine own_i2d X0 hx (hb hby at_6) (q := 7) rfl ?_
  obtain ⟨v1, ev1⟩ : ∃ z, z = (FP.i2d ((p1 &&& (16777215 : Int32)) + (1 : Int32))) := ⟨_, rfl⟩
  rw [← ev1] at R1 ⊢
  refine own_dstore_n X0 hx (hb hby at_7) (l' := #[.val (.int p1), .val (.int p2), .val (.double v1), .second, .unset, .unset, .unset, .unset, .unset, .unset, .unset, .unset, .unset, .unset, .unset, .unset, .unset, .unset, .unset, .unset, .unset, .unset, .unset, .unset, .unset, .unset, .unset, .unset, .unset, .unset, .unset]) rfl (q := 8) rfl ?_
  refine own_iload_n X0 hx (hb hby at_8) rfl (q := 9) rfl ?_
  refine own_ldcI X0 hx hZ hown (hw _ (List.mem_of_getElem? (i := 1) rfl)) (hb hby at_9) (q := 11) rfl ?_
  refine own_iand X0 hx (hb hby at_11) (q := 12) rfl ?_
  refine own_iconst X0 hx (hb hby at_12) (v := (1 : Int32)) rfl (q := 13) rfl ?_
  refine own_iadd X0 hx (hb hby at_13) (q := 14) rfl ?_
  have hm2 := own_msk p2 (1048575 : Int32) 20 (by decide) (by decide)
  have R2 : own_Rel (FP.i2d ((p2 &&& (1048575 : Int32)) + (1 : Int32))) ((((p2 &&& (1048575 : Int32)) + (1 : Int32)).toInt : Int) : Rat) 1 20 := own_Ri2d hm2.1 hm2.2 (by decide)
  have hbB := own_cI hm2 (N := 1048576) (by decide +kernel)
  obtain ⟨B, eB⟩ : ∃ z, z = ((((p2 &&& (1048575 : Int32)) + (1 : Int32)).toInt : Int) : Rat) := ⟨_, rfl⟩
  rw [← eB] at R2 hbB
  refine own_i2d X0 hx (hb hby at_14) (q := 15) rfl ?_
  obtain ⟨v2, ev2⟩ : ∃ z, z = (FP.i2d ((p2 &&& (1048575 : Int32)) + (1 : Int32))) := ⟨_, rfl⟩
  rw [← ev2] at R2 ⊢
  refine own_dstore X0 hx (hb hby at_15) (l' := #[.val (.int p1), .val (.int p2), .val (.double v1), .second, .val (.double v2), .second, .unset, .unset, .unset, .unset, .unset, .unset, .unset, .unset, .unset, .unset, .unset, .unset, .unset, .unset, .unset, .unset, .unset, .unset, .unset, .unset, .unset, .unset, .unset, .unset, .unset]) rfl (q := 17) rfl ?_
  refine own_dload_n X0 hx (hb hby at_17) rfl (q := 18) rfl ?_
  refine own_dload X0 hx (hb hby at_18) rfl (q := 20) rfl ?_
  have R3 : own_Rel (FP.ddiv v1 v2) (A / B) 3 44 := own_Rdiv R1 R2 (by decide) (by decide)
  refine own_ddiv X0 hx (hb hby at_20) (own_Rf R3) (q := 21) rfl ?_
  obtain ⟨v3, ev3⟩ : ∃ z, z = (FP.ddiv v1 v2) := ⟨_, rfl⟩
  rw [← ev3] at R3 ⊢
  have RX := own_xm hbA.1 hbA.2 hbB.1 hbB.2 R3
  obtain ⟨X, eX⟩ : ∃ z, z = (A / B) := ⟨_, rfl⟩
  rw [← eX] at RX
  have hX := RX.1
  refine own_dstore X0 hx (hb hby at_21) (l' := #[.val (.int p1), .val (.int p2), .val (.double v1), .second, .val (.double v2), .second, .val (.double v3), .second, .unset, .unset, .unset, .unset, .unset, .unset, .unset, .unset, .unset, .unset, .unset, .unset, .unset, .unset, .unset, .unset, .unset, .unset, .unset, .unset, .unset, .unset, .unset]) rfl (q := 23) rfl ?_
  refine own_dload X0 hx (hb hby at_23) rfl (q := 25) rfl ?_
  refine own_callSP X0 hx hZ hown (hw _ (List.mem_of_getElem? (i := 2) rfl)) (hw _ (List.mem_of_getElem? (i := 3) rfl)) (hw _ (List.mem_of_getElem? (i := 4) rfl)) (hw _ (List.mem_of_getElem? (i := 5) rfl)) (by decide) (own_rm1 l Z a0 hw [] v3 X h0 (own_Rw RX (by decide) (by decide))) (by decide) (by decide) e0 (by rw [hml]; rfl) (argsL := [(.double v3)]) (rest := []) (lenOf own_pd0 rfl) rfl (W := 0) rfl (hb hby at_25) (q := 28) rfl rfl rfl rfl (by decide) (by decide) ?_
  rintro _ T4 ⟨z4, rfl, K, hK, R4⟩ X4 e4
  refine own_dstore X4 hx (hb hby at_28) (l' := #[.val (.int p1), .val (.int p2), .val (.double v1), .second, .val (.double v2), .second, .val (.double v3), .second, .val (.double z4), .second, .unset, .unset, .unset, .unset, .unset, .unset, .unset, .unset, .unset, .unset, .unset, .unset, .unset, .unset, .unset, .unset, .unset, .unset, .unset, .unset, .unset]) rfl (q := 30) rfl ?_
  refine own_dload X4 hx (hb hby at_30) rfl (q := 32) rfl ?_
  refine own_dconst1 X4 hx (hb hby at_32) (q := 33) rfl ?_
  have R5 : own_Rel (FP.dadd v3 FP.dconst1) (X + 1) 4 25 := own_Radd RX own_R1 (by decide) (by decide)
  refine own_dadd X4 hx (hb hby at_33) (own_Rf R5) (q := 34) rfl ?_
  obtain ⟨v5, ev5⟩ : ∃ z, z = (FP.dadd v3 FP.dconst1) := ⟨_, rfl⟩
  rw [← ev5] at R5 ⊢
  refine own_callSP X4 hx hZ hown (hw _ (List.mem_of_getElem? (i := 2) rfl)) (hw _ (List.mem_of_getElem? (i := 3) rfl)) (hw _ (List.mem_of_getElem? (i := 4) rfl)) (hw _ (List.mem_of_getElem? (i := 5) rfl)) (by decide) (own_rm1 l Z a0 hw [] v5 (X + 1) h0 R5) (by decide) (by decide) e4 (by rw [hml]; rfl) (argsL := [(.double v5)]) (rest := []) (lenOf own_pd0 rfl) rfl (W := 0) rfl (hb hby at_34) (q := 37) rfl rfl rfl rfl (by decide) (by decide) ?_
  rintro _ T6 ⟨z6, rfl, J, hJ, R6⟩ X6 e6
  refine own_dstore X6 hx (hb hby at_37) (l' := #[.val (.int p1), .val (.int p2), .val (.double v1), .second, .val (.double v2), .second, .val (.double v3), .second, .val (.double z4), .second, .val (.double z6), .second, .unset, .unset, .unset, .unset, .unset, .unset, .unset, .unset, .unset, .unset, .unset, .unset, .unset, .unset, .unset, .unset, .unset, .unset, .unset]) rfl (q := 39) rfl ?_
  refine own_dload X6 hx (hb hby at_39) rfl (q := 41) rfl ?_
  refine own_dload X6 hx (hb hby at_41) rfl (q := 43) rfl ?_
  have R7 : own_Rel (FP.dmul v3 v3) (X * X) 7 48 := own_Rmul RX RX (by decide) (by decide)
  refine own_dmul X6 hx (hb hby at_43) (own_Rf R7) (q := 44) rfl ?_
  obtain ⟨v7, ev7⟩ : ∃ z, z = (FP.dmul v3 v3) := ⟨_, rfl⟩
  rw [← ev7] at R7 ⊢
  refine own_dstore X6 hx (hb hby at_44) (l' := #[.val (.int p1), .val (.int p2), .val (.double v1), .second, .val (.double v2), .second, .val (.double v3), .second, .val (.double z4), .second, .val (.double z6), .second, .val (.double v7), .second, .unset, .unset, .unset, .unset, .unset, .unset, .unset, .unset, .unset, .unset, .unset, .unset, .unset, .unset, .unset, .unset, .unset]) rfl (q := 46) rfl ?_
  refine own_dload X6 hx (hb hby at_46) rfl (q := 48) rfl ?_
  refine own_dload X6 hx (hb hby at_48) rfl (q := 50) rfl ?_
  have R8 : own_Rel (FP.dmul v7 v3) ((X * X) * X) 11 72 := own_Rmul R7 RX (by decide) (by decide)
  refine own_dmul X6 hx (hb hby at_50) (own_Rf R8) (q := 51) rfl ?_
  obtain ⟨v8, ev8⟩ : ∃ z, z = (FP.dmul v7 v3) := ⟨_, rfl⟩
  rw [← ev8] at R8 ⊢
  refine own_dstore X6 hx (hb hby at_51) (l' := #[.val (.int p1), .val (.int p2), .val (.double v1), .second, .val (.double v2), .second, .val (.double v3), .second, .val (.double z4), .second, .val (.double z6), .second, .val (.double v7), .second, .val (.double v8), .second, .unset, .unset, .unset, .unset, .unset, .unset, .unset, .unset, .unset, .unset, .unset, .unset, .unset, .unset, .unset]) rfl (q := 53) rfl ?_
  refine own_dload X6 hx (hb hby at_53) rfl (q := 55) rfl ?_
  refine own_dload X6 hx (hb hby at_55) rfl (q := 57) rfl ?_
  have R9 : own_Rel (FP.dmul v8 v7) (((X * X) * X) * (X * X)) 19 120 := own_Rmul R8 R7 (by decide) (by decide)
  refine own_dmul X6 hx (hb hby at_57) (own_Rf R9) (q := 58) rfl ?_
  obtain ⟨v9, ev9⟩ : ∃ z, z = (FP.dmul v8 v7) := ⟨_, rfl⟩
  rw [← ev9] at R9 ⊢
  refine own_dstore X6 hx (hb hby at_58) (l' := #[.val (.int p1), .val (.int p2), .val (.double v1), .second, .val (.double v2), .second, .val (.double v3), .second, .val (.double z4), .second, .val (.double z6), .second, .val (.double v7), .second, .val (.double v8), .second, .val (.double v9), .second, .unset, .unset, .unset, .unset, .unset, .unset, .unset, .unset, .unset, .unset, .unset, .unset, .unset]) rfl (q := 60) rfl ?_
  refine own_dload X6 hx (hb hby at_60) rfl (q := 62) rfl ?_
  refine own_dload X6 hx (hb hby at_62) rfl (q := 64) rfl ?_
  have R10 : own_Rel (FP.dmul v9 v7) ((((X * X) * X) * (X * X)) * (X * X)) 27 168 := own_Rmul R9 R7 (by decide) (by decide)
  refine own_dmul X6 hx (hb hby at_64) (own_Rf R10) (q := 65) rfl ?_
  obtain ⟨v10, ev10⟩ : ∃ z, z = (FP.dmul v9 v7) := ⟨_, rfl⟩
  rw [← ev10] at R10 ⊢
  refine own_dstore X6 hx (hb hby at_65) (l' := #[.val (.int p1), .val (.int p2), .val (.double v1), .second, .val (.double v2), .second, .val (.double v3), .second, .val (.double z4), .second, .val (.double z6), .second, .val (.double v7), .second, .val (.double v8), .second, .val (.double v9), .second, .val (.double v10), .second, .unset, .unset, .unset, .unset, .unset, .unset, .unset, .unset, .unset, .unset, .unset]) rfl (q := 67) rfl ?_
  refine own_dconst1 X6 hx (hb hby at_67) (q := 68) rfl ?_
  refine own_dload X6 hx (hb hby at_68) rfl (q := 70) rfl ?_
  have R11 : own_Rel (FP.ddiv FP.dconst1 v3) (1 / X) 4 24 := own_Rdiv own_R1 RX (by decide) (by decide)
  refine own_ddiv X6 hx (hb hby at_70) (own_Rf R11) (q := 71) rfl ?_
  obtain ⟨v11, ev11⟩ : ∃ z, z = (FP.ddiv FP.dconst1 v3) := ⟨_, rfl⟩
  rw [← ev11] at R11 ⊢
  refine own_ldcD X6 hx hZ hown (hw _ (List.mem_of_getElem? (i := 12) rfl)) (hb hby at_71) (q := 74) rfl ?_
  refine own_dload X6 hx (hb hby at_74) rfl (q := 76) rfl ?_
  have R12 : own_Rel (FP.ddiv (4602678819172646912 : UInt64) v7) ((1 / 2) / (X * X)) 8 49 := own_Rdiv own_k4 R7 (by decide) (by decide)
  refine own_ddiv X6 hx (hb hby at_76) (own_Rf R12) (q := 77) rfl ?_
  obtain ⟨v12, ev12⟩ : ∃ z, z = (FP.ddiv (4602678819172646912 : UInt64) v7) := ⟨_, rfl⟩
  rw [← ev12] at R12 ⊢
  have R13 : own_Rel (FP.dadd v11 v12) ((1 / X) + ((1 / 2) / (X * X))) 9 50 := own_Radd R11 R12 (by decide) (by decide)
  refine own_dadd X6 hx (hb hby at_77) (own_Rf R13) (q := 78) rfl ?_
  obtain ⟨v13, ev13⟩ : ∃ z, z = (FP.dadd v11 v12) := ⟨_, rfl⟩
  rw [← ev13] at R13 ⊢
  refine own_dconst1 X6 hx (hb hby at_78) (q := 79) rfl ?_
  refine own_ldcD X6 hx hZ hown (hw _ (List.mem_of_getElem? (i := 13) rfl)) (hb hby at_79) (q := 82) rfl ?_
  refine own_dload X6 hx (hb hby at_82) rfl (q := 84) rfl ?_
  have R14 : own_Rel (FP.dmul (4618441417868443648 : UInt64) v8) ((6) * ((X * X) * X)) 12 75 := own_Rmul own_k5 R8 (by decide) (by decide)
  refine own_dmul X6 hx (hb hby at_84) (own_Rf R14) (q := 85) rfl ?_
  obtain ⟨v14, ev14⟩ : ∃ z, z = (FP.dmul (4618441417868443648 : UInt64) v8) := ⟨_, rfl⟩
  rw [← ev14] at R14 ⊢
  have R15 : own_Rel (FP.ddiv FP.dconst1 v14) (1 / ((6) * ((X * X) * X))) 13 75 := own_Rdiv own_R1 R14 (by decide) (by decide)
  refine own_ddiv X6 hx (hb hby at_85) (own_Rf R15) (q := 86) rfl ?_
  obtain ⟨v15, ev15⟩ : ∃ z, z = (FP.ddiv FP.dconst1 v14) := ⟨_, rfl⟩
  rw [← ev15] at R15 ⊢
  have R16 : own_Rel (FP.dadd v13 v15) (((1 / X) + ((1 / 2) / (X * X))) + (1 / ((6) * ((X * X) * X)))) 14 76 := own_Radd R13 R15 (by decide) (by decide)
  refine own_dadd X6 hx (hb hby at_86) (own_Rf R16) (q := 87) rfl ?_
  obtain ⟨v16, ev16⟩ : ∃ z, z = (FP.dadd v13 v15) := ⟨_, rfl⟩
  rw [← ev16] at R16 ⊢
  refine own_dconst1 X6 hx (hb hby at_87) (q := 88) rfl ?_
  refine own_ldcD X6 hx hZ hown (hw _ (List.mem_of_getElem? (i := 14) rfl)) (hb hby at_88) (q := 91) rfl ?_
  refine own_dload X6 hx (hb hby at_91) rfl (q := 93) rfl ?_
  have R17 : own_Rel (FP.dmul (4629137466983448576 : UInt64) v9) ((30) * (((X * X) * X) * (X * X))) 20 125 := own_Rmul own_k6 R9 (by decide) (by decide)
  refine own_dmul X6 hx (hb hby at_93) (own_Rf R17) (q := 94) rfl ?_
  obtain ⟨v17, ev17⟩ : ∃ z, z = (FP.dmul (4629137466983448576 : UInt64) v9) := ⟨_, rfl⟩
  rw [← ev17] at R17 ⊢
  have R18 : own_Rel (FP.ddiv FP.dconst1 v17) (1 / ((30) * (((X * X) * X) * (X * X)))) 21 125 := own_Rdiv own_R1 R17 (by decide) (by decide)
  refine own_ddiv X6 hx (hb hby at_94) (own_Rf R18) (q := 95) rfl ?_
  obtain ⟨v18, ev18⟩ : ∃ z, z = (FP.ddiv FP.dconst1 v17) := ⟨_, rfl⟩
  rw [← ev18] at R18 ⊢
  have RP := own_Rw R16 (Nat.le_refl 14) (show 76 ≤ 200 by decide)
  have RN := own_Rw R18 (Nat.le_refl 21) (show 125 ≤ 200 by decide)
  obtain ⟨P, eP⟩ : ∃ z, z = (((1 / X) + ((1 / 2) / (X * X))) + (1 / ((6) * ((X * X) * X)))) := ⟨_, rfl⟩
  obtain ⟨N, eN⟩ : ∃ z, z = (1 / ((30) * (((X * X) * X) * (X * X)))) := ⟨_, rfl⟩
  rw [← eP] at RP
  rw [← eN] at RN
  obtain ⟨lv, LV, lv1, lv2⟩ := own_low RP RN (by decide) (by decide) (by decide) (Nat.le_refl _)
  replace LV : own_V (FP.dsub v16 v18) lv := LV
  refine own_dsub X6 hx (hb hby at_95) (own_Vf LV) (q := 96) rfl ?_
  obtain ⟨v19, ev19⟩ : ∃ z, z = (FP.dsub v16 v18) := ⟨_, rfl⟩
  rw [← ev19] at LV ⊢
  refine own_dstore X6 hx (hb hby at_96) (l' := #[.val (.int p1), .val (.int p2), .val (.double v1), .second, .val (.double v2), .second, .val (.double v3), .second, .val (.double z4), .second, .val (.double z6), .second, .val (.double v7), .second, .val (.double v8), .second, .val (.double v9), .second, .val (.double v10), .second, .val (.double v19), .second, .unset, .unset, .unset, .unset, .unset, .unset, .unset, .unset, .unset]) rfl (q := 98) rfl ?_
  refine own_dload X6 hx (hb hby at_98) rfl (q := 100) rfl ?_
  refine own_dconst1 X6 hx (hb hby at_100) (q := 101) rfl ?_
  refine own_ldcD X6 hx hZ hown (hw _ (List.mem_of_getElem? (i := 15) rfl)) (hb hby at_101) (q := 104) rfl ?_
  refine own_dload X6 hx (hb hby at_104) rfl (q := 106) rfl ?_
  have R20 : own_Rel (FP.dmul (4631107791820423168 : UInt64) v10) ((42) * ((((X * X) * X) * (X * X)) * (X * X))) 28 174 := own_Rmul own_k7 R10 (by decide) (by decide)
  refine own_dmul X6 hx (hb hby at_106) (own_Rf R20) (q := 107) rfl ?_
  obtain ⟨v20, ev20⟩ : ∃ z, z = (FP.dmul (4631107791820423168 : UInt64) v10) := ⟨_, rfl⟩
  rw [← ev20] at R20 ⊢
  have R21 : own_Rel (FP.ddiv FP.dconst1 v20) (1 / ((42) * ((((X * X) * X) * (X * X)) * (X * X)))) 29 174 := own_Rdiv own_R1 R20 (by decide) (by decide)
  refine own_ddiv X6 hx (hb hby at_107) (own_Rf R21) (q := 108) rfl ?_
  obtain ⟨v21, ev21⟩ : ∃ z, z = (FP.ddiv FP.dconst1 v20) := ⟨_, rfl⟩
  rw [← ev21] at R21 ⊢
  have RM := own_Rw R21 (Nat.le_refl 29) (show 174 ≤ 200 by decide)
  obtain ⟨M, eM⟩ : ∃ z, z = (1 / ((42) * ((((X * X) * X) * (X * X)) * (X * X)))) := ⟨_, rfl⟩
  rw [← eM] at RM
  obtain ⟨uv, UV, uv1⟩ := own_upp LV RP.1 RN.1 RN.2.1 RP.2.1 lv1 lv2 RM (by decide) (by decide)
  have hB := own_bnds hX hK eP eN eM
  have hT := own_Tpos hX hK
  replace UV : own_V (FP.dadd v19 v21) uv := UV
  refine own_dadd X6 hx (hb hby at_108) (own_Vf UV) (q := 109) rfl ?_
  obtain ⟨v22, ev22⟩ : ∃ z, z = (FP.dadd v19 v21) := ⟨_, rfl⟩
  rw [← ev22] at UV ⊢
  refine own_dstore X6 hx (hb hby at_109) (l' := #[.val (.int p1), .val (.int p2), .val (.double v1), .second, .val (.double v2), .second, .val (.double v3), .second, .val (.double z4), .second, .val (.double z6), .second, .val (.double v7), .second, .val (.double v8), .second, .val (.double v9), .second, .val (.double v10), .second, .val (.double v19), .second, .val (.double v22), .second, .unset, .unset, .unset, .unset, .unset, .unset, .unset]) rfl (q := 111) rfl ?_
  refine own_ldcD X6 hx hZ hown (hw _ (List.mem_of_getElem? (i := 16) rfl)) (hb hby at_111) (q := 114) rfl ?_
  refine own_dstore X6 hx (hb hby at_114) (l' := #[.val (.int p1), .val (.int p2), .val (.double v1), .second, .val (.double v2), .second, .val (.double v3), .second, .val (.double z4), .second, .val (.double z6), .second, .val (.double v7), .second, .val (.double v8), .second, .val (.double v9), .second, .val (.double v10), .second, .val (.double v19), .second, .val (.double v22), .second, .val (.double (4427486594234968593 : UInt64)), .second, .unset, .unset, .unset, .unset, .unset]) rfl (q := 116) rfl ?_
  refine own_dload X6 hx (hb hby at_116) rfl (q := 118) rfl ?_
  refine own_dconst0 X6 hx (hb hby at_118) (q := 119) rfl ?_
  refine own_dcmp X6 hx (hb hby at_119) (v := (1 : Int32)) (own_cvg (own_gt0 R4 (by decide)) .l) (q := 120) rfl ?_
  refine own_if X6 hx (hb hby at_120) (by decide) (q := 127) rfl (q' := 123) rfl (own_z_le _) (fun h120 => ?_) (fun h120 => ?_)
  · replace h120 : (1 : Int) ≤ 0 := h120
    exact absurd h120 (by decide)
  · replace h120 : ¬ ((1 : Int) ≤ 0) := h120
    refine own_iconst X6 hx (hb hby at_123) (v := (1 : Int32)) rfl (q := 124) rfl ?_
    refine own_goto X6 hx (hb hby at_124) (by decide) (q := 128) rfl ?_
    refine own_istore X6 hx (hb hby at_128) (l' := #[.val (.int p1), .val (.int p2), .val (.double v1), .second, .val (.double v2), .second, .val (.double v3), .second, .val (.double z4), .second, .val (.double z6), .second, .val (.double v7), .second, .val (.double v8), .second, .val (.double v9), .second, .val (.double v10), .second, .val (.double v19), .second, .val (.double v22), .second, .val (.double (4427486594234968593 : UInt64)), .second, .val (.int (1 : Int32)), .unset, .unset, .unset, .unset]) rfl (q := 130) rfl ?_
    refine own_dload X6 hx (hb hby at_130) rfl (q := 132) rfl ?_
    refine own_dload X6 hx (hb hby at_132) rfl (q := 134) rfl ?_
    refine own_dconst1 X6 hx (hb hby at_134) (q := 135) rfl ?_
    refine own_dload X6 hx (hb hby at_135) rfl (q := 137) rfl ?_
    have R23 : own_Rel (FP.ddiv FP.dconst1 v7) (1 / (X * X)) 8 48 := own_Rdiv own_R1 R7 (by decide) (by decide)
    refine own_ddiv X6 hx (hb hby at_137) (own_Rf R23) (q := 138) rfl ?_
    obtain ⟨v23, ev23⟩ : ∃ z, z = (FP.ddiv FP.dconst1 v7) := ⟨_, rfl⟩
    rw [← ev23] at R23 ⊢
    have R24 : own_Rel (FP.dadd z6 v23) ((own_T (X + 1) J) + (1 / (X * X))) 295 84 := own_Radd R6 R23 (by decide) (by decide)
    refine own_dadd X6 hx (hb hby at_138) (own_Rf R24) (q := 139) rfl ?_
    obtain ⟨v24, ev24⟩ : ∃ z, z = (FP.dadd z6 v23) := ⟨_, rfl⟩
    rw [← ev24] at R24 ⊢
    have hJ' : 19 ≤ X + ((J + 1 : Nat) : Rat) := by rw [own_cs]; have := hJ; grind
    have RS := R24
    rw [own_Ts] at RS
    obtain ⟨dv, DV, dv1, dv2⟩ := own_diff R4 RS (by decide) (by decide) (by decide) (own_gap hX hK hJ') (own_gap hX hJ' hK)
    replace DV : own_V (FP.dsub z4 v24) dv := DV
    refine own_dsub X6 hx (hb hby at_139) (own_Vf DV) (q := 140) rfl ?_
    obtain ⟨v25, ev25⟩ : ∃ z, z = (FP.dsub z4 v24) := ⟨_, rfl⟩
    rw [← ev25] at DV ⊢
    refine own_dstore X6 hx (hb hby at_140) (l' := #[.val (.int p1), .val (.int p2), .val (.double v1), .second, .val (.double v2), .second, .val (.double v3), .second, .val (.double z4), .second, .val (.double z6), .second, .val (.double v7), .second, .val (.double v8), .second, .val (.double v9), .second, .val (.double v10), .second, .val (.double v19), .second, .val (.double v22), .second, .val (.double (4427486594234968593 : UInt64)), .second, .val (.int (1 : Int32)), .val (.double v25), .second, .unset, .unset]) rfl (q := 142) rfl ?_
    refine own_dload X6 hx (hb hby at_142) rfl (q := 144) rfl ?_
    refine own_dload X6 hx (hb hby at_144) rfl (q := 146) rfl ?_
    refine own_dload X6 hx (hb hby at_146) rfl (q := 148) rfl ?_
    have R26 : own_Rel (FP.dmul (4427486594234968593 : UInt64) z4) ((1 / 1000000000000) * (own_T X K)) 296 123 := own_Rmul own_k8 R4 (by decide) (by decide)
    refine own_dmul X6 hx (hb hby at_148) (own_Rf R26) (q := 149) rfl ?_
    obtain ⟨v26, ev26⟩ : ∃ z, z = (FP.dmul (4427486594234968593 : UInt64) z4) := ⟨_, rfl⟩
    rw [← ev26] at R26 ⊢
    refine own_dcmp X6 hx (hb hby at_149) (v := (-1 : Int32)) (own_cvl (own_d_lt DV dv1 hT R26 (by decide)) .g) (q := 150) rfl ?_
    refine own_if X6 hx (hb hby at_150) (by decide) (q := 169) rfl (q' := 153) rfl (own_z_gt _) (fun h150 => ?_) (fun h150 => ?_)
    · replace h150 : 0 < (-1 : Int) := h150
      exact absurd h150 (by decide)
    · replace h150 : ¬ (0 < (-1 : Int)) := h150
      refine own_dload X6 hx (hb hby at_153) rfl (q := 155) rfl ?_
      have DN := own_VnegF DV
      refine own_dneg X6 hx (hb hby at_155) (q := 156) rfl ?_
      refine own_dload X6 hx (hb hby at_156) rfl (q := 158) rfl ?_
      refine own_dload X6 hx (hb hby at_158) rfl (q := 160) rfl ?_
      have R27 : own_Rel (FP.dmul (4427486594234968593 : UInt64) z4) ((1 / 1000000000000) * (own_T X K)) 296 123 := own_Rmul own_k8 R4 (by decide) (by decide)
      refine own_dmul X6 hx (hb hby at_160) (own_Rf R27) (q := 161) rfl ?_
      obtain ⟨v27, ev27⟩ : ∃ z, z = (FP.dmul (4427486594234968593 : UInt64) z4) := ⟨_, rfl⟩
      rw [← ev27] at R27 ⊢
      refine own_dcmp X6 hx (hb hby at_161) (v := (-1 : Int32)) (own_cvl (own_d_lt DN dv2 hT R27 (by decide)) .g) (q := 162) rfl ?_
      refine own_if X6 hx (hb hby at_162) (by decide) (q := 169) rfl (q' := 165) rfl (own_z_gt _) (fun h162 => ?_) (fun h162 => ?_)
      · replace h162 : 0 < (-1 : Int) := h162
        exact absurd h162 (by decide)
      · replace h162 : ¬ (0 < (-1 : Int)) := h162
        refine own_iconst X6 hx (hb hby at_165) (v := (1 : Int32)) rfl (q := 166) rfl ?_
        refine own_goto X6 hx (hb hby at_166) (by decide) (q := 170) rfl ?_
        refine own_istore X6 hx (hb hby at_170) (l' := #[.val (.int p1), .val (.int p2), .val (.double v1), .second, .val (.double v2), .second, .val (.double v3), .second, .val (.double z4), .second, .val (.double z6), .second, .val (.double v7), .second, .val (.double v8), .second, .val (.double v9), .second, .val (.double v10), .second, .val (.double v19), .second, .val (.double v22), .second, .val (.double (4427486594234968593 : UInt64)), .second, .val (.int (1 : Int32)), .val (.double v25), .second, .val (.int (1 : Int32)), .unset]) rfl (q := 172) rfl ?_
        refine own_dload X6 hx (hb hby at_172) rfl (q := 174) rfl ?_
        refine own_dload X6 hx (hb hby at_174) rfl (q := 176) rfl ?_
        refine own_dconst1 X6 hx (hb hby at_176) (q := 177) rfl ?_
        refine own_dload X6 hx (hb hby at_177) rfl (q := 179) rfl ?_
        have R28 : own_Rel (FP.dadd FP.dconst1 (4427486594234968593 : UInt64)) (1 + (1 / 1000000000000)) 2 41 := own_Radd own_R1 own_k8 (by decide) (by decide)
        refine own_dadd X6 hx (hb hby at_179) (own_Rf R28) (q := 180) rfl ?_
        obtain ⟨v28, ev28⟩ : ∃ z, z = (FP.dadd FP.dconst1 (4427486594234968593 : UInt64)) := ⟨_, rfl⟩
        rw [← ev28] at R28 ⊢
        have R29 : own_Rel (FP.dmul z4 v28) ((own_T X K) * (1 + (1 / 1000000000000))) 297 124 := own_Rmul R4 R28 (by decide) (by decide)
        refine own_dmul X6 hx (hb hby at_180) (own_Rf R29) (q := 181) rfl ?_
        obtain ⟨v29, ev29⟩ : ∃ z, z = (FP.dmul z4 v28) := ⟨_, rfl⟩
        rw [← ev29] at R29 ⊢
        refine own_dcmp X6 hx (hb hby at_181) (v := (-1 : Int32)) (own_cvl (own_lo_lt LV lv1 hB.1 hT R29 (by decide)) .g) (q := 182) rfl ?_
        refine own_if X6 hx (hb hby at_182) (by decide) (q := 202) rfl (q' := 185) rfl (own_z_gt _) (fun h182 => ?_) (fun h182 => ?_)
        · replace h182 : 0 < (-1 : Int) := h182
          exact absurd h182 (by decide)
        · replace h182 : ¬ (0 < (-1 : Int)) := h182
          refine own_dload X6 hx (hb hby at_185) rfl (q := 187) rfl ?_
          refine own_dconst1 X6 hx (hb hby at_187) (q := 188) rfl ?_
          refine own_dload X6 hx (hb hby at_188) rfl (q := 190) rfl ?_
          have R30 : own_Rel (FP.dsub FP.dconst1 (4427486594234968593 : UInt64)) (1 - (1 / 1000000000000)) 2 1 := own_Rsub own_R1 own_k8 (by decide +kernel) (by decide) (by decide)
          refine own_dsub X6 hx (hb hby at_190) (own_Rf R30) (q := 191) rfl ?_
          obtain ⟨v30, ev30⟩ : ∃ z, z = (FP.dsub FP.dconst1 (4427486594234968593 : UInt64)) := ⟨_, rfl⟩
          rw [← ev30] at R30 ⊢
          have R31 : own_Rel (FP.dmul z4 v30) ((own_T X K) * (1 - (1 / 1000000000000))) 297 84 := own_Rmul R4 R30 (by decide) (by decide)
          refine own_dmul X6 hx (hb hby at_191) (own_Rf R31) (q := 192) rfl ?_
          obtain ⟨v31, ev31⟩ : ∃ z, z = (FP.dmul z4 v30) := ⟨_, rfl⟩
          rw [← ev31] at R31 ⊢
          refine own_dload X6 hx (hb hby at_192) rfl (q := 194) rfl ?_
          refine own_dcmp X6 hx (hb hby at_194) (v := (-1 : Int32)) (own_cvl (own_up_lt UV uv1 hB.2 hT R31 (by decide)) .g) (q := 195) rfl ?_
          refine own_if X6 hx (hb hby at_195) (by decide) (q := 202) rfl (q' := 198) rfl (own_z_gt _) (fun h195 => ?_) (fun h195 => ?_)
          · replace h195 : 0 < (-1 : Int) := h195
            exact absurd h195 (by decide)
          · replace h195 : ¬ (0 < (-1 : Int)) := h195
            refine own_iconst X6 hx (hb hby at_198) (v := (1 : Int32)) rfl (q := 199) rfl ?_
            refine own_goto X6 hx (hb hby at_199) (by decide) (q := 203) rfl ?_
            refine own_istore X6 hx (hb hby at_203) (l' := #[.val (.int p1), .val (.int p2), .val (.double v1), .second, .val (.double v2), .second, .val (.double v3), .second, .val (.double z4), .second, .val (.double z6), .second, .val (.double v7), .second, .val (.double v8), .second, .val (.double v9), .second, .val (.double v10), .second, .val (.double v19), .second, .val (.double v22), .second, .val (.double (4427486594234968593 : UInt64)), .second, .val (.int (1 : Int32)), .val (.double v25), .second, .val (.int (1 : Int32)), .val (.int (1 : Int32))]) rfl (q := 205) rfl ?_
            refine own_iload X6 hx (hb hby at_205) rfl (q := 207) rfl ?_
            refine own_if X6 hx (hb hby at_207) (by decide) (q := 224) rfl (q' := 210) rfl (own_z_eq _) (fun h207 => ?_) (fun h207 => ?_)
            · replace h207 : (1 : Int) = 0 := h207
              exact absurd h207 (by decide)
            · replace h207 : ¬ ((1 : Int) = 0) := h207
              refine own_iload X6 hx (hb hby at_210) rfl (q := 212) rfl ?_
              refine own_if X6 hx (hb hby at_212) (by decide) (q := 224) rfl (q' := 215) rfl (own_z_eq _) (fun h212 => ?_) (fun h212 => ?_)
              · replace h212 : (1 : Int) = 0 := h212
                exact absurd h212 (by decide)
              · replace h212 : ¬ ((1 : Int) = 0) := h212
                refine own_iload X6 hx (hb hby at_215) rfl (q := 217) rfl ?_
                refine own_if X6 hx (hb hby at_217) (by decide) (q := 224) rfl (q' := 220) rfl (own_z_eq _) (fun h217 => ?_) (fun h217 => ?_)
                · replace h217 : (1 : Int) = 0 := h217
                  exact absurd h217 (by decide)
                · replace h217 : ¬ ((1 : Int) = 0) := h217
                  refine own_iconst X6 hx (hb hby at_220) (v := (1 : Int32)) rfl (q := 221) rfl ?_
                  refine own_goto X6 hx (hb hby at_221) (by decide) (q := 225) rfl ?_
                  exact own_retN X6 hx (t := .boolean) hret hlk (by simp) (hb hby at_225) (by decide) (by decide) (w := 1) rfl ⟨rfl, (Fr.nil _)⟩
set_option maxRecDepth 65536 in
set_option maxHeartbeats 40000000 in
theorem own_comes {Post : Tables → Env → Array Value → State → Outcome → State → Prop} (hpost : ∀ tb e args s v u, (limb_1_1.after args s (.returned v) u = true ∧ limb_1_2.after args s (.returned v) u = true ∧ True) → FrameEnd s (.returned v) u (Jvm.fieldLocs frame_1_writes args s ++ Jvm.arrayLocs frame_1_arrays args s ++ Jvm.staticLocs frame_1_statics s) 0 0 → Post tb e args s (.returned v) u) :
    ArmFor flags0 classFile x code maxLocals ret World_1 tables_1 room_1 Calls_1 rest_1 Pre_1 Post := by
  intro l hfl _ _ p e ha hc hk s m args below hf hA hF happ hP
  obtain ⟨hcalls, hrest, hpre⟩ := hP
  obtain ⟨-, -, -, hnamed, -, -, -, hat⟩ := (Spec.applies_iff hf).mp happ
  obtain ⟨hg, hn⟩ := and_e (Cond.before_iff.mp (show (Jvm.Cond.and given_1 narrow_1).before args s = true from hpre))
  obtain ⟨hcount, k0⟩ := and_e hg
  obtain ⟨w0, w1, rfl⟩ : ∃ w0 w1 : Value, args = #[w0, w1] := by
    have hs : args.size = 2 := by simpa [Cond.value, given_1] using hcount
    obtain ⟨L⟩ := args
    match L, hs with
    | [w0, w1], _ => exact ⟨w0, w1, rfl⟩
  have hw := fun d (hd : d ∈ tables_1) => atoms_spec (ws := Jvm.Cond.code x code maxLocals ret :: tables_1) hat d (List.mem_cons_of_mem _ hd)
  have hfit : Fit s := fun {y c} hc i hi => by
    obtain ⟨ha, rfl⟩ := Array.getElem?_eq_some_iff.mp hc
    have q := List.all_eq_true.mp ((Array.all_eq_true_iff_forall_mem.mp hF) _ (Array.getElem_mem ha)) i (List.mem_range.mpr hi)
    simpa [Array.getElem?_eq_getElem hi] using q
  obtain ⟨j0, k1⟩ := and_e k0
  obtain ⟨i0, e0⟩ := is_v j0
  obtain rfl : w0 = (.int i0) := Option.some.inj e0
  have j1 := k1
  obtain ⟨i1, e1⟩ := is_v j1
  obtain rfl : w1 = (.int i1) := Option.some.inj e1
  obtain ⟨n, o, h1, h2, h3, _, L, rfl, ⟨rfl, N⟩, hq⟩ := own_rm0 l s _ hw tables_1 i0 i1 s.heap p e ha hc hk s m _ below hf ((Spec.applies_iff_loose hf).mp happ).1 ⟨rfl, State.Warmed39.refl s, rfl⟩ trivial
  refine ⟨n, _, h1, h2, h3, hpost _ _ _ _ _ _ ⟨Cond.after_iff.mpr rfl, Cond.after_iff.mpr (eq_i res_at (Term.int_eval (1)) rfl), trivial⟩ ⟨hq.1, hq.2.1, (hq.2.2.sift fun y hy => Or.inr (N y hy)).mono (by decide) (by decide)⟩⟩
theorem main_1_1 : Claimed_1_1 := own_comes fun _ _ _ _ _ _ h hF => ⟨h.1, hF⟩
theorem main_1_2 : Claimed_1_2 := own_comes fun _ _ _ _ _ _ h hF => ⟨h.2.1, hF⟩
end Jvm.Pilot.@@N@@
namespace Jvm.Pilot.@@N@@
open Jvm Jvm.ClassFile Sem Op Lib Jvm.Free Jvm.Stand Jvm.Pilot.@@N@@.Jvm.D
/-! MADE BY PROGRAM (witnessworld.py) out of the Statement's table words and the real class files: 9 classes; the members and pool entries that the words name. The judged class is class 1, her method 1. -/
namespace start1
open Jvm.ClassFile
def u (s : String) : CpInfo := .utf8 (stringToUtf16 s)
/-- a pool by its gaps: so many unusable entries, then the entry; so many at the end -/
def gap : Nat → List CpInfo → List CpInfo
  | 0, r => r
  | n + 1, r => .unusable :: gap n r
def poolList (es : List (Nat × CpInfo)) (last : Nat) : List CpInfo := es.foldr (fun e r => gap e.1 (e.2 :: r)) (gap last [])
def pool (es : List (Nat × CpInfo)) (last : Nat) : Array CpInfo := ⟨poolList es last⟩
def fileOf (pool : Array CpInfo) (this : Nat) (attrs : Array Attribute := #[]) (ms : Array MethodInfo := #[]) (fl : Nat := 33) (sup : Nat := 0) (ifs : Array Nat := #[]) (fds : Array FieldInfo := #[]) : ClassFile where
  minorVersion := 0
  majorVersion := 65
  constantPool := pool
  accessFlags := fl
  thisClass := this
  superClass := sup
  interfaces := ifs
  fields := fds
  methods := ms
  attributes := attrs
def plain (name : String) (sup : Option ClassId) : Class where
  name := name
  kind := .ordinary
  loader := none
  accessFlags := 33
  super := sup
  interfaces := #[]
  cf := none
  fields := #[]
  methods := #[]
  instanceTypes := #[]
  staticTypes := #[]
  resolved := #[]
  callSites := []
  init := .initialized
  statics := none
  mirror := none

def pool0 : Array CpInfo := pool [(5, u "<init>"), (0, u "()V"), (1, .class_ 10), (1, u "java/lang/Object")] 113

def k0m0 : Method := { name := "<init>", desc := "()V", sig := { parameters := [], returnType := none }, accessFlags := 1, code := none }
/-- java/lang/Object -/
def k0 : Class := { plain "java/lang/Object" none with
  accessFlags := 33
  interfaces := #[]
  cf := some (fileOf pool0 8 #[] #[{ accessFlags := 1, nameIndex := 5, descriptorIndex := 6, attributes := #[] }] 33 0 #[] #[])
  fields := #[]
  methods := #[k0m0]
  instanceTypes := #[]
  staticTypes := #[]
  resolved := Array.replicate 124 none
  statics := none }

def pool1 : Array CpInfo := pool [(2, .class_ 4), (1, u "java/lang/Object"), (0, u "<init>"), (0, u "()V"), (0, .integer 16777215), (0, .integer 1048575), (0, .methodref 10 11), (0, .class_ 12), (0, .nameAndType 13 14), (0, u "com/example/prudent_query/prudentquery/service/Dirichlet"), (0, u "trigamma"), (0, u "(D)D"), (0, .double 4602678819172646912), (1, .double 4618441417868443648), (1, .double 4629137466983448576), (1, .double 4631107791820423168), (1, .double 4427486594234968593), (1, .class_ 26), (0, u "com/example/prudent_query/prudentquery/service/DirichletTrigammaPinLaw"), (2, u "law"), (0, u "(II)Z")] 3

def k1m0 : Method := { name := "<init>", desc := "()V", sig := { parameters := [], returnType := none }, accessFlags := 1, code := none }
def k1c1 : Code := { maxStack := 8, maxLocals := 31, code := code, exceptionTable := #[], attributes := #[] }
def k1m1 : Method := { name := "law", desc := "(II)Z", sig := { parameters := [.int, .int], returnType := some .boolean }, accessFlags := 9, code := some k1c1 }
/-- com/example/prudent_query/prudentquery/service/DirichletTrigammaPinLaw -/
def k1 : Class := { plain "com/example/prudent_query/prudentquery/service/DirichletTrigammaPinLaw" (some 0) with
  accessFlags := 49
  interfaces := #[]
  cf := some (fileOf pool1 25 #[] #[{ accessFlags := 1, nameIndex := 5, descriptorIndex := 6, attributes := #[] }, { accessFlags := 9, nameIndex := 29, descriptorIndex := 30, attributes := #[] }] 49 2 #[] #[])
  fields := #[]
  methods := #[k1m0, k1m1]
  instanceTypes := #[]
  staticTypes := #[]
  resolved := Array.replicate 34 none
  statics := none }

def pool2 : Array CpInfo := pool [(2, .class_ 4), (1, u "java/lang/Object"), (9, .class_ 16), (1, u "com/example/prudent_query/prudentquery/service/Dirichlet"), (0, u "parameters"), (0, u "Ljava/util/SortedMap;"), (30, u "precision"), (0, u "D"), (71, .class_ 124), (1, u "com/example/prudent_query/prudentquery/service/Dirichlet$1"), (47, u "(D)D"), (25, u "trigamma"), (9, .double 4626322717216342016), (11, .double 4602678819172646912), (1, .double 4595172819793696085), (1, .double 4584964660638322961), (1, .double 4582519849412036120), (1, .double 4590123329302401893), (7, u "MAX_PRECISION"), (1, u "ABSENT_SHARE"), (0, u "MAX_ROUNDS"), (0, u "I"), (1, u "MAX_NEWTON_STEPS"), (1, u "TOLERANCE"), (0, u "EULER_GAMMA"), (0, u "ASYMPTOTIC_FROM")] 35

def k2c0 : Code := { maxStack := 20, maxLocals := 10, code := prog_41_method_14_code, exceptionTable := #[], attributes := #[] }
def k2m0 : Method := { name := "trigamma", desc := "(D)D", sig := { parameters := [.double], returnType := some .double }, accessFlags := 8, code := some k2c0 }
/-- com/example/prudent_query/prudentquery/service/Dirichlet -/
def k2 : Class := { plain "com/example/prudent_query/prudentquery/service/Dirichlet" (some 0) with
  accessFlags := 48
  interfaces := #[]
  cf := some (fileOf pool2 14 #[.nestMembers #[122]] #[{ accessFlags := 8, nameIndex := 198, descriptorIndex := 172, attributes := #[] }] 48 2 #[] #[{ accessFlags := 24, nameIndex := 236, descriptorIndex := 50, attributes := #[] }, { accessFlags := 24, nameIndex := 238, descriptorIndex := 50, attributes := #[] }, { accessFlags := 26, nameIndex := 239, descriptorIndex := 240, attributes := #[] }, { accessFlags := 26, nameIndex := 242, descriptorIndex := 240, attributes := #[] }, { accessFlags := 26, nameIndex := 244, descriptorIndex := 50, attributes := #[] }, { accessFlags := 26, nameIndex := 245, descriptorIndex := 50, attributes := #[] }, { accessFlags := 26, nameIndex := 246, descriptorIndex := 50, attributes := #[] }, { accessFlags := 18, nameIndex := 17, descriptorIndex := 18, attributes := #[] }, { accessFlags := 18, nameIndex := 49, descriptorIndex := 50, attributes := #[] }])
  fields := #[{ name := "MAX_PRECISION", type := .double, accessFlags := 24, slot := 0, constantValue := 0 }, { name := "ABSENT_SHARE", type := .double, accessFlags := 24, slot := 1, constantValue := 0 }, { name := "MAX_ROUNDS", type := .int, accessFlags := 26, slot := 2, constantValue := 0 }, { name := "MAX_NEWTON_STEPS", type := .int, accessFlags := 26, slot := 3, constantValue := 0 }, { name := "TOLERANCE", type := .double, accessFlags := 26, slot := 4, constantValue := 0 }, { name := "EULER_GAMMA", type := .double, accessFlags := 26, slot := 5, constantValue := 0 }, { name := "ASYMPTOTIC_FROM", type := .double, accessFlags := 26, slot := 6, constantValue := 0 }, { name := "parameters", type := (.object "java/util/SortedMap"), accessFlags := 18, slot := 0, constantValue := 0 }, { name := "precision", type := .double, accessFlags := 18, slot := 1, constantValue := 0 }]
  methods := #[k2m0]
  instanceTypes := #[(.object "java/util/SortedMap"), .double]
  staticTypes := #[.double, .double, .int, .int, .double, .double, .double]
  resolved := Array.replicate 282 none
  statics := none }

def pool3 : Array CpInfo := pool [(1, u "java/lang/Cloneable"), (0, .class_ 1), (0, u "java/lang/Object"), (0, .class_ 3)] 3

/-- java/lang/Cloneable -/
def k3 : Class := { plain "java/lang/Cloneable" (some 0) with
  accessFlags := 1537
  interfaces := #[]
  cf := some (fileOf pool3 2 #[] #[] 1537 4 #[] #[])
  fields := #[]
  methods := #[]
  instanceTypes := #[]
  staticTypes := #[]
  resolved := Array.replicate 8 none
  statics := none }

def pool4 : Array CpInfo := pool [(1, u "java/io/Serializable"), (0, .class_ 1), (0, u "java/lang/Object"), (0, .class_ 3)] 3

/-- java/io/Serializable -/
def k4 : Class := { plain "java/io/Serializable" (some 0) with
  accessFlags := 1537
  interfaces := #[]
  cf := some (fileOf pool4 2 #[] #[] 1537 4 #[] #[])
  fields := #[]
  methods := #[]
  instanceTypes := #[]
  staticTypes := #[]
  resolved := Array.replicate 8 none
  statics := none }

/-- the primitive byte -/
def k5 : Class := { plain "byte" none with kind := .primitive 'B', accessFlags := 0x411 }
/-- [B -/
def k6 : Class := { plain "[B" (some 0) with kind := .array 5 .byte, interfaces := #[3, 4], accessFlags := 1041 }

/-- the primitive int -/
def k7 : Class := { plain "int" none with kind := .primitive 'I', accessFlags := 0x411 }
/-- [I -/
def k8 : Class := { plain "[I" (some 0) with kind := .array 7 .int, interfaces := #[3, 4], accessFlags := 1041 }

def heap : Heap := #[]
def classes : Array Class := #[k0, k1, k2, k3, k4, k5, k6, k7, k8]
def interned : List (Array UInt16 × Addr) := []
def slotsUsed : Nat := 0
def theMethod : MethodId := ⟨1, 1⟩
def args0 : Array Value := #[.int 5, .int 7]
def aboutOver (below : List Frame) : State where
  vm := { classes := classes, interned := interned.toArray }
  heap := heap
  slotsUsed := slotsUsed
  threads := #[{ frames := .invoking theMethod args0 :: below }]
def below0 : List Frame := [.native { method := ⟨0, 0⟩, args := #[] }]
def about1 : State := aboutOver below0
def p0 : Program := .bare "" "" ""
def e0 : Env := launch0.env 0 0 0
theorem w_frames : about1.frames = Frame.invoking theMethod args0 :: below0 := rfl
set_option maxRecDepth 65536 in
theorem w_args : argsFit about1.vm theMethod args0 = true := by decide +kernel
set_option maxRecDepth 65536 in
theorem w_heap : heapFits about1 = true := by decide +kernel
set_option maxRecDepth 65536 in
theorem w_runnable : about1.curStatus? = some .runnable := by decide +kernel
set_option maxRecDepth 65536 in
theorem w_alone : about1.alone = true := by decide +kernel
set_option maxRecDepth 65536 in
theorem w_named : about1.methodNamed? x = some theMethod := by decide +kernel
set_option maxRecDepth 65536 in
theorem w_hears : about1.hears theMethod below0 = true := by decide +kernel
set_option maxRecDepth 65536 in
theorem w_ripe : about1.ripe theMethod args0 below0 = true := by decide +kernel
theorem w_running : about1.status = .running := rfl
set_option maxRecDepth 65536 in
theorem w_room : about1.hasRoom e0.platform room_1 = true :=
  launch0.hasRoom_least _ room_1 (by decide +kernel) (by decide +kernel) (by decide +kernel) (by decide +kernel) (by decide +kernel) (by decide +kernel)
theorem allAtoms_all (ts : List Jvm.Cond) (a : Array Jvm.Value) (st : Jvm.State) : (allAtoms ts).before a st = ts.all (fun c => c.before a st) := by
  induction ts with
  | nil => rfl
  | cons c t ih =>
    show (Jvm.Cond.and c (allAtoms t)).before a st = _
    rw [Jvm.Cond.before_and, ih, List.all_cons]
def words1 : List Jvm.Cond := Jvm.Cond.code x code maxLocals ret :: tables_1
/-- a 'code' word, met by the world's own term for the bytes: nothing is compared byte by byte -/
theorem code_word {y : MethodName} {bytes : ByteArray} {mx : Nat} {rt : Option FieldType} {a : Array Value} {s : State} {m : MethodId} {meth : Method} {c : Code} (h1 : s.methodNamed? y = some m) (h2 : s.vm.method? m = some meth) (h3 : meth.code = some c) (h4 : c.code = bytes)
    (h5 : (c.maxLocals == mx && c.exceptionTable.isEmpty && decide (c.maxStack ≤ mostOperands) && decide (meth.sig.returnType = rt) && !meth.locks && decide (parseMethodDescriptor y.desc = some meth.sig)) = true) : (Jvm.Cond.code y bytes mx rt).before a s = true := by
  simp only [Bool.and_eq_true, beq_iff_eq, Bool.not_eq_true', decide_eq_true_eq] at h5
  obtain ⟨⟨⟨⟨⟨g1, g2⟩, g3⟩, g4⟩, g5⟩, g6⟩ := h5
  simp [Cond.before, Cond.holds, Cond.value, h1, h2, h3, h4, g1, g2, g3, g4, g5, g6]
def isCode : Jvm.Cond → Bool
  | .code _ _ _ _ => true
  | _ => false
theorem all_split {L : List Jvm.Cond} {P : Jvm.Cond → Bool} (h1 : L.all (fun c => isCode c || P c) = true) (h2 : ∀ c ∈ L.filter isCode, P c = true) : L.all P = true := by
  refine List.all_eq_true.mpr fun c hc => ?_
  have h := List.all_eq_true.mp h1 c hc
  rcases Bool.eq_false_or_eq_true (isCode c) with hi | hi
  · exact h2 c (List.mem_filter.mpr ⟨hc, hi⟩)
  · simpa [hi] using h
set_option maxRecDepth 65536 in
theorem w_c0 : (Jvm.Cond.code x code maxLocals ret).before args0 about1 = true := code_word (m := ⟨1, 1⟩) (meth := k1m1) (c := k1c1) (by decide +kernel) rfl rfl rfl (by decide +kernel)
set_option maxRecDepth 65536 in
theorem w_c1 : (Jvm.Cond.code ({ cls := "com/example/prudent_query/prudentquery/service/Dirichlet", name := "trigamma", desc := "(D)D" } : Jvm.MethodName) prog_41_method_14_code (10 : Nat) (Option.some Jvm.ClassFile.FieldType.double)).before args0 about1 = true := code_word (m := ⟨2, 0⟩) (meth := k2m0) (c := k2c0) (by decide +kernel) rfl rfl rfl (by decide +kernel)
def codes1 : List Jvm.Cond := [Jvm.Cond.code x code maxLocals ret, Jvm.Cond.code ({ cls := "com/example/prudent_query/prudentquery/service/Dirichlet", name := "trigamma", desc := "(D)D" } : Jvm.MethodName) prog_41_method_14_code (10 : Nat) (Option.some Jvm.ClassFile.FieldType.double)]
set_option maxRecDepth 65536 in
theorem codes_eq : words1.filter isCode = codes1 := rfl
theorem w_codes : ∀ c ∈ words1.filter isCode, c.before args0 about1 = true := by
  rw [codes_eq]
  intro c hc
  simp only [codes1, List.mem_cons, List.not_mem_nil, or_false] at hc
  rcases hc with rfl | rfl
  · exact w_c0
  · exact w_c1
set_option maxRecDepth 65536 in
theorem w_t1 : words1.all (fun c => isCode c || c.before args0 about1) = true := by decide +kernel
theorem w_tables : (allAtoms (Jvm.Cond.code x code maxLocals ret :: tables_1)).before args0 about1 = true := by
  rw [allAtoms_all]
  show words1.all (fun c => c.before args0 about1) = true
  refine all_split ?_ w_codes
  rw [w_t1]
set_option maxRecDepth 65536 in
theorem w_case : (Jvm.Cond.and given_1 narrow_1).before args0 about1 = true := by decide +kernel
theorem w_applies : (headSpec (Jvm.Cond.code x code maxLocals ret :: tables_1) room_1).applies x e0.platform about1 = true :=
  (Spec.applies_iff w_frames).mpr ⟨w_running, w_runnable, w_alone, w_named, w_hears, w_ripe, w_room, w_tables⟩
theorem atStart : AtStart classFile x code maxLocals ret World_1 tables_1 room_1 Calls_1 rest_1 Pre_1 launch0 p0 e0 about1 theMethod args0 below0 :=
  ⟨lists_1, trivial, launch0.admits_env _ _ _, launch0.least_env, fairChoices_fair.cas, fairChoices_fair.clock, w_frames, w_args, w_heap, w_applies, trivial, trivial, w_case⟩
end start1
theorem witness_1 : WitnessClaimed_1 := ⟨start1.p0, start1.e0, start1.about1, start1.theMethod, start1.args0, start1.below0, start1.atStart⟩
end Jvm.Pilot.@@N@@
