import JvmDerived
import JvmDerived.Pilot.@@N@@Statement
import JvmDerived.Pilot.@@N@@Code
set_option linter.unusedVariables false
set_option linter.unusedSimpArgs false
namespace Jvm.Pilot.@@N@@
open Jvm Jvm.ClassFile Sem Op Lib Jvm.Free Jvm.Stand Jvm.LawKit Jvm.RoadKit Bundle Jvm.Pilot.@@N@@.Jvm.D
section Own
variable {p : Program} {l : Launch} {e : Env} {R : Room} {s : State} {m : MethodId} {args : Array Value} {below : List Frame} {meth : Method} {c : Code} {T : State} {locs : List Loc} {cells slots : Nat} {k n : Nat} {Q : Option Value → Heap → List Loc → Prop} {FF : State → Option Value → Prop} {pc q q' : Nat} {Ls l' : Array Slot} {st rest : List Value}
/-- from U the run comes to a return that FF allows -/
def own_G (p : Program) (e : Env) (below : List Frame) (FF : State → Option Value → Prop) (U : State) : Prop :=
  ∃ s₂ v, Steps p.tables e below U s₂ ∧ s₂.status = .running ∧ Ended s₂ below (.returned v) ∧ FF s₂ v
/-- .. that Q allows, with at most k cells and n slots made since s -/
def own_En (s : State) (k n : Nat) (Q : Option Value → Heap → List Loc → Prop) : State → Option Value → Prop := fun s₂ v => ∃ L, Q v s₂.heap L ∧ FrameEnd s (.returned v) s₂ L k n
theorem own_G.via {U U' : State} (g : own_G p e below FF U') (h : ∀ t, Steps p.tables e below U' t → Steps p.tables e below U t) : own_G p e below FF U := by
  obtain ⟨s₂, o, h1, h2⟩ := g
  exact ⟨s₂, o, h _ h1, h2⟩
theorem own_retI (X : Stand p l e R s m args below meth c T locs cells slots) (hx : p.tables.exec = Jvm.exec) {z : Int32} (hret : meth.sig.returnType = some .int) (hlk : meth.locks = false) (hd : decode c.code pc = .ok (.ireturn, 1)) (hk : cells ≤ k) (hn : slots ≤ n) (hq : Q (some (.int z)) T.heap locs) :
    own_G p e below (own_En s k n Q) (T.setTop (mkF m pc Ls [.int z])) := by
  obtain ⟨fs, hr, hrun, hended, hW, hsame⟩ := X.leave (v := some (.int z)) (fun h => by rw [hret] at h; cases h) hlk
  exact ⟨_, _, X.ireturnOut hx hret rfl (Or.inl rfl) hd hr, hrun, hended, _, hq, ⟨_, rfl⟩, hW, hsame.mono hk hn⟩
theorem own_retN (X : Stand p l e R s m args below meth c T locs cells slots) (hx : p.tables.exec = Jvm.exec) {z w : Int32} {t : FieldType} (hret : meth.sig.returnType = some t) (hlk : meth.locks = false) (ht : t = .boolean ∨ t = .byte ∨ t = .char ∨ t = .short) (hd : decode c.code pc = .ok (.ireturn, 1)) (hk : cells ≤ k) (hn : slots ≤ n) (hz : nar t z = w) (hq : Q (some (.int w)) T.heap locs) :
    own_G p e below (own_En s k n Q) (T.setTop (mkF m pc Ls [.int z])) := by
  subst hz
  obtain ⟨fs, hr, hrun, hended, hW, hsame⟩ := X.leave (v := some (.int (nar t z))) (fun h => by rw [hret] at h; cases h) hlk
  exact ⟨_, _, retN X hx hret ht hd hr, hrun, hended, _, hq, ⟨_, rfl⟩, hW, hsame.mono hk hn⟩
theorem own_retL (X : Stand p l e R s m args below meth c T locs cells slots) (hx : p.tables.exec = Jvm.exec) {z : Int64} (hret : meth.sig.returnType = some .long) (hlk : meth.locks = false) (hd : decode c.code pc = .ok (.lreturn, 1)) (hk : cells ≤ k) (hn : slots ≤ n) (hq : Q (some (.long z)) T.heap locs) :
    own_G p e below (own_En s k n Q) (T.setTop (mkF m pc Ls [.long z])) := by
  obtain ⟨fs, hr, hrun, hended, hW, hsame⟩ := X.leave (v := some (.long z)) (fun h => by rw [hret] at h; cases h) hlk
  exact ⟨_, _, X.lreturnOut hx hret hd hr, hrun, hended, _, hq, ⟨_, rfl⟩, hW, hsame.mono hk hn⟩
theorem own_retV (X : Stand p l e R s m args below meth c T locs cells slots) (hx : p.tables.exec = Jvm.exec) (hret : meth.sig.returnType = none) (hlk : meth.locks = false) (hd : decode c.code pc = .ok (.return_, 1)) (hk : cells ≤ k) (hn : slots ≤ n) (hq : Q none T.heap locs) :
    own_G p e below (own_En s k n Q) (T.setTop (mkF m pc Ls [])) := by
  obtain ⟨fs, hr, hrun, hended, hW, hsame⟩ := X.leave (v := none) (fun _ => rfl) hlk
  exact ⟨_, _, X.returnOut hx hret hd hr, hrun, hended, _, hq, ⟨_, rfl⟩, hW, hsame.mono hk hn⟩
theorem own_body {y : MethodName} {bytes : ByteArray} {maxL : Nat} {ret : Option FieldType} {ws : List Jvm.Cond} {rm : Room} {as' : Array Value} {h0 : Heap} {Z : State} (hpn : plainFor y = true)
    (body : ∀ (p : Program) (e : Env) (s : State) (m : MethodId) (below : List Frame) (meth : Method) (c : Code) (s₁ : State), p.tables.exec = Jvm.exec → c.code = bytes → c.maxLocals = maxL → s.vm.findClass y.cls = some m.cls → meth.name = y.name → meth.sig.returnType = ret → meth.locks = false → Z.Warmed39 s.vm →
      Stand p l e rm s m as' below meth c s₁ [] 0 0 → s₁.heap = h0 → own_G p e below (own_En s rm.cells rm.slots Q) (s₁.setTop (entryFrame m as' maxL))) :
    MetFree l y (head1 (Jvm.Cond.code y bytes maxL ret :: ws) rm) (fun a U => a = as' ∧ Z.Warmed39 U.vm ∧ U.heap = h0) (fun _ _ _ _ _ => True) (fun _ U o U' => ∃ v L, o = .returned v ∧ Q v U'.heap L ∧ FrameEnd U o U' L rm.cells rm.slots) := by
  refine MetFree.of_bodySF hpn hisR ?_
  intro p e s m args below meth c s₁ Bd hml0 hP hK
  obtain ⟨rfl, hZ, hh⟩ := hP
  obtain ⟨s₂, v, h1, h2, h3, L, hq, hf⟩ := body p e s m below meth c s₁ Bd.exec Bd.bytes hml0 (findClass_of_methodNamed Bd.named) (name_of_methodNamed Bd.named Bd.method).1 Bd.returns Bd.notSynchronized hZ (Stand.of_body Bd) (by rw [← hh, Bd.state]; rfl)
  exact ⟨s₂, _, h1, h2, h3, v, L, rfl, hq, hf⟩
/-- a static call by the callee's contract -/
theorem own_callS {Z : State} {a0 : Array Value} {h : Heap} (X : Stand p l e R s m args below meth c T locs cells slots) (hx : p.tables.exec = Jvm.exec) (hZ : Z.Warmed39 s.vm) {own : String} {index : Nat} {y : MethodName} {bytes : ByteArray} {maxL : Nat} {ret : Option FieldType}
    (hown : s.vm.findClass own = some m.cls) (w1 : (Jvm.Cond.methodLink own index y).before a0 Z = true) (w2 : (Jvm.Cond.static y).before a0 Z = true) (w3 : (Jvm.Cond.initialized y.cls).before a0 Z = true) (w4 : (Jvm.Cond.code y bytes maxL ret).before a0 Z = true)
    (hy : y.cls ≠ "java/lang/invoke/MethodHandle" ∧ y.cls ≠ "java/lang/invoke/VarHandle") {rm : Room} {as' : Array Value} {Q' : Option Value → Heap → List Loc → Prop} {W : Nat}
    (hM : MetFree l y (head1 [Jvm.Cond.code y bytes maxL ret] rm) (fun a U => a = as' ∧ Z.Warmed39 U.vm ∧ U.heap = h) (fun _ _ _ _ _ => True) (fun _ U o U' => ∃ v L, o = .returned v ∧ Q' v U'.heap L ∧ FrameEnd U o U' L rm.cells rm.slots))
    (hf : rm.frames + 1 ≤ R.frames) (hl : W + (maxL + 11) + rm.locals ≤ R.locals) (eT : T.heap = h) (hsize : Ls.size = c.maxLocals) {argsL : List Value}
    (hlen : ∀ sig, parseMethodDescriptor y.desc = some sig → argsL.length = sig.parameters.length) (hst : st = argsL.reverse ++ rest) (hW : (rest.map fun v => v.category).sum = W) (hd : decode c.code pc = .ok (.invokestatic index, 3)) (hq : pc + 3 = q) (has : argsL.toArray = as') (hc : cells + rm.cells ≤ R.cells) (hs : slots + rm.slots ≤ R.slots)
    (g : ∀ v T' L, Q' v T'.heap L → Stand p l e R s m args below meth c T' (locs ++ L) (cells + rm.cells) (slots + rm.slots) → own_G p e below FF (T'.setTop (mkF m q Ls (v.toList ++ rest)))) :
    own_G p e below FF (T.setTop (mkF m pc Ls st)) := by
  subst hq hst
  obtain ⟨v, _, ⟨T7, L7, k7, n7⟩, -, X7, ⟨Lc7, hQ7, l7, y7, z7⟩, st7⟩ := Jvm.LawKit.callS X hx hown (mvT hZ w1) (mvT hZ w2) (mvT hZ w3) (mvT hZ w4) hy (backOf (W := W) hM hZ w4 w3 hf hl) (g := mkF m pc Ls (argsL.reverse ++ rest)) rfl hsize hlen rfl (by show 2 * 0 + _ ≤ _; rw [hW]; omega) hd (fun _ _ => ⟨has, eT, hc, hs⟩)
  dsimp only [Pt.U, Pt.locs, Pt.cells, Pt.slots] at X7 l7 y7 z7 st7 hQ7
  subst l7 y7 z7
  exact (g v T7 Lc7 hQ7 X7).via fun t => st7 t
/-- a static call that leaves the heap as it was -/
theorem own_callSP {Z : State} {a0 : Array Value} {h : Heap} (X : Stand p l e R s m args below meth c T locs cells slots) (hx : p.tables.exec = Jvm.exec) (hZ : Z.Warmed39 s.vm) {own : String} {index : Nat} {y : MethodName} {bytes : ByteArray} {maxL : Nat} {ret : Option FieldType}
    (hown : s.vm.findClass own = some m.cls) (w1 : (Jvm.Cond.methodLink own index y).before a0 Z = true) (w2 : (Jvm.Cond.static y).before a0 Z = true) (w3 : (Jvm.Cond.initialized y.cls).before a0 Z = true) (w4 : (Jvm.Cond.code y bytes maxL ret).before a0 Z = true)
    (hy : y.cls ≠ "java/lang/invoke/MethodHandle" ∧ y.cls ≠ "java/lang/invoke/VarHandle") {rm : Room} {as' : Array Value} {P : Value → Prop} {W : Nat}
    (hM : MetFree l y (head1 [Jvm.Cond.code y bytes maxL ret] rm) (fun a U => a = as' ∧ Z.Warmed39 U.vm ∧ U.heap = h) (fun _ _ _ _ _ => True) (fun _ U o U' => ∃ v L, o = .returned v ∧ ((∃ w, v = some w ∧ P w) ∧ L = [] ∧ U'.heap = h) ∧ FrameEnd U o U' L rm.cells rm.slots))
    (hf : rm.frames + 1 ≤ R.frames) (hl : W + (maxL + 11) + rm.locals ≤ R.locals) (eT : T.heap = h) (hsize : Ls.size = c.maxLocals) {argsL : List Value}
    (hlen : ∀ sig, parseMethodDescriptor y.desc = some sig → argsL.length = sig.parameters.length) (hst : st = argsL.reverse ++ rest) (hW : (rest.map fun v => v.category).sum = W) (hd : decode c.code pc = .ok (.invokestatic index, 3)) (hq : pc + 3 = q) (has : argsL.toArray = as') (hc : rm.cells = 0) (hs : rm.slots = 0) (hcc : cells ≤ R.cells) (hss : slots ≤ R.slots)
    (g : ∀ w T', P w → Stand p l e R s m args below meth c T' locs cells slots → T'.heap = h → own_G p e below FF (T'.setTop (mkF m q Ls (w :: rest)))) :
    own_G p e below FF (T.setTop (mkF m pc Ls st)) := by
  refine own_callS (Q' := fun v U L => (∃ w, v = some w ∧ P w) ∧ L = [] ∧ U = h) X hx hZ hown w1 w2 w3 w4 hy hM hf hl eT hsize hlen hst hW hd hq has (by rw [hc]; exact hcc) (by rw [hs]; exact hss) ?_
  rintro v T' L ⟨⟨w, rfl, hP⟩, rfl, e'⟩ X'
  rw [List.append_nil, hc, hs] at X'
  exact g w T' hP X' e'
/-- a virtual call by the callee's contract; the receiver is exactly of class C -/
theorem own_callV {Z : State} {a0 : Array Value} {h : Heap} (X : Stand p l e R s m args below meth c T locs cells slots) (hx : p.tables.exec = Jvm.exec) (hZ : Z.Warmed39 s.vm) {own C : String} {index : Nat} {y : MethodName} {bytes : ByteArray} {maxL : Nat} {ret : Option FieldType}
    (hown : s.vm.findClass own = some m.cls) (w1 : (Jvm.Cond.methodLink own index y).before a0 Z = true) (w2 : (Jvm.Cond.declares y).before a0 Z = true) (w3 : (Jvm.Cond.selects C y y).before a0 Z = true) (w4 : (Jvm.Cond.instanceMethod y).before a0 Z = true) (w5 : (Jvm.Cond.code y bytes maxL ret).before a0 Z = true) (w6 : (Jvm.Cond.initialized y.cls).before a0 Z = true)
    (hy : y.cls ≠ "java/lang/invoke/MethodHandle" ∧ y.cls ≠ "java/lang/invoke/VarHandle") {rm : Room} {as' : Array Value} {Q' : Option Value → Heap → List Loc → Prop} {W : Nat}
    (hM : MetFree l y (head1 [Jvm.Cond.code y bytes maxL ret] rm) (fun a U => a = as' ∧ Z.Warmed39 U.vm ∧ U.heap = h) (fun _ _ _ _ _ => True) (fun _ U o U' => ∃ v L, o = .returned v ∧ Q' v U'.heap L ∧ FrameEnd U o U' L rm.cells rm.slots))
    {b : Addr} (E : Exa Z h b C)
    (hf : rm.frames + 1 ≤ R.frames) (hl : W + (maxL + 11) + rm.locals ≤ R.locals) (eT : T.heap = h) (hsize : Ls.size = c.maxLocals) {argsL : List Value}
    (hlen : ∀ sig, parseMethodDescriptor y.desc = some sig → argsL.length = sig.parameters.length) (hst : st = argsL.reverse ++ .ref b :: rest) (hW : (rest.map fun v => v.category).sum = W) (hd : decode c.code pc = .ok (.invokevirtual index, 3)) (hq : pc + 3 = q) (has : (.ref b :: argsL).toArray = as') (hc : cells + rm.cells ≤ R.cells) (hs : slots + rm.slots ≤ R.slots)
    (g : ∀ v T' L, Q' v T'.heap L → Stand p l e R s m args below meth c T' (locs ++ L) (cells + rm.cells) (slots + rm.slots) → own_G p e below FF (T'.setTop (mkF m q Ls (v.toList ++ rest)))) :
    own_G p e below FF (T.setTop (mkF m pc Ls st)) := by
  subst hq hst
  obtain ⟨cq, kq, qa, qb, qc⟩ := isOf hZ eT E
  obtain ⟨v, _, ⟨T7, L7, k7, n7⟩, -, X7, ⟨Lc7, hQ7, l7, y7, z7⟩, st7⟩ := X.virtualBack hx hown (mvT hZ w1) (mvT hZ w2) (notFace_of_selects (args := #[]) (mvT hZ w3)) (mvT hZ w3) (mvT hZ w4) hy (backOf (W := W) hM hZ w5 w6 hf hl) qa qc (g := mkF m pc Ls (argsL.reverse ++ .ref b :: rest)) rfl hsize (Steps.refl _) (argsL := argsL) (rest := rest) hlen rfl (by show 2 * 0 + _ ≤ _; rw [hW]; omega) hd (fun _ _ => ⟨has, eT, hc, hs⟩)
  dsimp only [Pt.U, Pt.locs, Pt.cells, Pt.slots] at X7 l7 y7 z7 st7 hQ7
  subst l7 y7 z7
  exact (g v T7 Lc7 hQ7 X7).via fun t hh => st7.trans hh
/-- a constructor's call by its contract -/
theorem own_callN {Z : State} {a0 : Array Value} {h : Heap} (X : Stand p l e R s m args below meth c T locs cells slots) (hx : p.tables.exec = Jvm.exec) (hZ : Z.Warmed39 s.vm) {own : String} {index : Nat} {y : MethodName} {bytes : ByteArray} {maxL : Nat}
    (hyn : y.name = "<init>") (hown : s.vm.findClass own = some m.cls) (w1 : (Jvm.Cond.methodLink own index y).before a0 Z = true) (w2 : (Jvm.Cond.instanceMethod y).before a0 Z = true) (w3 : (Jvm.Cond.initialized y.cls).before a0 Z = true) (w4 : (Jvm.Cond.code y bytes maxL none).before a0 Z = true)
    (hy : y.cls ≠ "java/lang/invoke/MethodHandle" ∧ y.cls ≠ "java/lang/invoke/VarHandle") {rm : Room} {as' : Array Value} {Q' : Option Value → Heap → List Loc → Prop} {W : Nat}
    (hM : MetFree l y (head1 [Jvm.Cond.code y bytes maxL none] rm) (fun a U => a = as' ∧ Z.Warmed39 U.vm ∧ U.heap = h) (fun _ _ _ _ _ => True) (fun _ U o U' => ∃ v L, o = .returned v ∧ Q' v U'.heap L ∧ FrameEnd U o U' L rm.cells rm.slots))
    {b : Addr} (hf : rm.frames + 1 ≤ R.frames) (hl : W + (maxL + 11) + rm.locals ≤ R.locals) (eT : T.heap = h) (hsize : Ls.size = c.maxLocals) {argsL : List Value}
    (hlen : ∀ sig, parseMethodDescriptor y.desc = some sig → argsL.length = sig.parameters.length) (hst : st = argsL.reverse ++ .ref b :: rest) (hW : (rest.map fun v => v.category).sum = W) (hd : decode c.code pc = .ok (.invokespecial index, 3)) (hq : pc + 3 = q) (has : (.ref b :: argsL).toArray = as') (hc : cells + rm.cells ≤ R.cells) (hs : slots + rm.slots ≤ R.slots)
    (g : ∀ v T' L, Q' v T'.heap L → Stand p l e R s m args below meth c T' (locs ++ L) (cells + rm.cells) (slots + rm.slots) → own_G p e below FF (T'.setTop (mkF m q Ls (v.toList ++ rest)))) :
    own_G p e below FF (T.setTop (mkF m pc Ls st)) := by
  subst hq hst
  obtain ⟨v, _, ⟨T7, L7, k7, n7⟩, -, X7, ⟨Lc7, hQ7, l7, y7, z7⟩, st7⟩ := X.specialBack hx hyn hown (mvT hZ w1) (mvT hZ w2) (mvT hZ w4) hy (backOf (W := W) hM hZ w4 w3 hf hl) (g := mkF m pc Ls (argsL.reverse ++ .ref b :: rest)) rfl hsize (Steps.refl _) (a := b) (argsL := argsL) (rest := rest) hlen rfl (by show 2 * 0 + _ ≤ _; rw [hW]; omega) hd (fun _ _ => ⟨has, eT, hc, hs⟩)
  dsimp only [Pt.U, Pt.locs, Pt.cells, Pt.slots] at X7 l7 y7 z7 st7 hQ7
  subst l7 y7 z7
  exact (g v T7 Lc7 hQ7 X7).via fun t hh => st7.trans hh
theorem own_ldcI {Z : State} {a0 : Array Value} (X : Stand p l e R s m args below meth c T locs cells slots) (hx : p.tables.exec = Jvm.exec) (hZ : Z.Warmed39 s.vm) {own : String} {index : Nat} {v : Int32} (hown : s.vm.findClass own = some m.cls) (w : (Jvm.Cond.constant own index v).before a0 Z = true) (hd : decode c.code pc = .ok (.ldc index, 2)) (hq : pc + 2 = q)
    (g : own_G p e below FF (T.setTop (mkF m q Ls (.int v :: st)))) : own_G p e below FF (T.setTop (mkF m pc Ls st)) := by
  subst hq; exact g.via fun t => X.ldcInt hx hown (mvT hZ w) (g := mkF m pc Ls st) rfl hd t
theorem own_ldcL {Z : State} {a0 : Array Value} (X : Stand p l e R s m args below meth c T locs cells slots) (hx : p.tables.exec = Jvm.exec) (hZ : Z.Warmed39 s.vm) {own : String} {index : Nat} {v : Int64} (hown : s.vm.findClass own = some m.cls) (w : (Jvm.Cond.constantLong own index v).before a0 Z = true) (hd : decode c.code pc = .ok (.ldc2_w index, 3)) (hq : pc + 3 = q)
    (g : own_G p e below FF (T.setTop (mkF m q Ls (.long v :: st)))) : own_G p e below FF (T.setTop (mkF m pc Ls st)) := by
  subst hq; exact g.via fun t => X.ldc2Long hx hown (mvT hZ w) (g := mkF m pc Ls st) rfl hd t
theorem own_iadd (X : Stand p l e R s m args below meth c T locs cells slots) (hx : p.tables.exec = Jvm.exec) {x y : Int32} (hd : decode c.code pc = .ok (.iadd, 1))  (hq : pc + 1 = q) (g : own_G p e below FF (T.setTop (mkF m q Ls (.int (x + y) :: rest)))) : own_G p e below FF (T.setTop (mkF m pc Ls (.int y :: .int x :: rest))) := by
  subst hq; exact g.via fun _ hr_ => XS.iadd (g := mkF m pc Ls (.int y :: .int x :: rest)) X.here hx rfl hd rfl hr_
theorem own_isub (X : Stand p l e R s m args below meth c T locs cells slots) (hx : p.tables.exec = Jvm.exec) {x y : Int32} (hd : decode c.code pc = .ok (.isub, 1))  (hq : pc + 1 = q) (g : own_G p e below FF (T.setTop (mkF m q Ls (.int (x - y) :: rest)))) : own_G p e below FF (T.setTop (mkF m pc Ls (.int y :: .int x :: rest))) := by
  subst hq; exact g.via fun _ hr_ => XS.isub (g := mkF m pc Ls (.int y :: .int x :: rest)) X.here hx rfl hd rfl hr_
theorem own_imul (X : Stand p l e R s m args below meth c T locs cells slots) (hx : p.tables.exec = Jvm.exec) {x y : Int32} (hd : decode c.code pc = .ok (.imul, 1))  (hq : pc + 1 = q) (g : own_G p e below FF (T.setTop (mkF m q Ls (.int (x * y) :: rest)))) : own_G p e below FF (T.setTop (mkF m pc Ls (.int y :: .int x :: rest))) := by
  subst hq; exact g.via fun _ hr_ => XS.imul (g := mkF m pc Ls (.int y :: .int x :: rest)) X.here hx rfl hd rfl hr_
theorem own_iand (X : Stand p l e R s m args below meth c T locs cells slots) (hx : p.tables.exec = Jvm.exec) {x y : Int32} (hd : decode c.code pc = .ok (.iand, 1))  (hq : pc + 1 = q) (g : own_G p e below FF (T.setTop (mkF m q Ls (.int (x &&& y) :: rest)))) : own_G p e below FF (T.setTop (mkF m pc Ls (.int y :: .int x :: rest))) := by
  subst hq; exact g.via fun _ hr_ => XS.iand (g := mkF m pc Ls (.int y :: .int x :: rest)) X.here hx rfl hd rfl hr_
theorem own_ixor (X : Stand p l e R s m args below meth c T locs cells slots) (hx : p.tables.exec = Jvm.exec) {x y : Int32} (hd : decode c.code pc = .ok (.ixor, 1))  (hq : pc + 1 = q) (g : own_G p e below FF (T.setTop (mkF m q Ls (.int (x ^^^ y) :: rest)))) : own_G p e below FF (T.setTop (mkF m pc Ls (.int y :: .int x :: rest))) := by
  subst hq; exact g.via fun _ hr_ => XT.ixor (g := mkF m pc Ls (.int y :: .int x :: rest)) X.here hx rfl hd rfl hr_
theorem own_ior (X : Stand p l e R s m args below meth c T locs cells slots) (hx : p.tables.exec = Jvm.exec) {x y : Int32} (hd : decode c.code pc = .ok (.ior, 1))  (hq : pc + 1 = q) (g : own_G p e below FF (T.setTop (mkF m q Ls (.int (x ||| y) :: rest)))) : own_G p e below FF (T.setTop (mkF m pc Ls (.int y :: .int x :: rest))) := by
  subst hq; exact g.via fun _ hr_ => XT.ior (g := mkF m pc Ls (.int y :: .int x :: rest)) X.here hx rfl hd rfl hr_
theorem own_ishl (X : Stand p l e R s m args below meth c T locs cells slots) (hx : p.tables.exec = Jvm.exec) {x y : Int32} (hd : decode c.code pc = .ok (.ishl, 1))  (hq : pc + 1 = q) (g : own_G p e below FF (T.setTop (mkF m q Ls (.int (x <<< (y &&& 31)) :: rest)))) : own_G p e below FF (T.setTop (mkF m pc Ls (.int y :: .int x :: rest))) := by
  subst hq; exact g.via fun _ hr_ => XT.ishl (g := mkF m pc Ls (.int y :: .int x :: rest)) X.here hx rfl hd rfl hr_
theorem own_ishr (X : Stand p l e R s m args below meth c T locs cells slots) (hx : p.tables.exec = Jvm.exec) {x y : Int32} (hd : decode c.code pc = .ok (.ishr, 1))  (hq : pc + 1 = q) (g : own_G p e below FF (T.setTop (mkF m q Ls (.int (x >>> (y &&& 31)) :: rest)))) : own_G p e below FF (T.setTop (mkF m pc Ls (.int y :: .int x :: rest))) := by
  subst hq; exact g.via fun _ hr_ => XT.ishr (g := mkF m pc Ls (.int y :: .int x :: rest)) X.here hx rfl hd rfl hr_
theorem own_iushr (X : Stand p l e R s m args below meth c T locs cells slots) (hx : p.tables.exec = Jvm.exec) {x y : Int32} (hd : decode c.code pc = .ok (.iushr, 1))  (hq : pc + 1 = q) (g : own_G p e below FF (T.setTop (mkF m q Ls (.int (XT.ushr x y) :: rest)))) : own_G p e below FF (T.setTop (mkF m pc Ls (.int y :: .int x :: rest))) := by
  subst hq; exact g.via fun _ hr_ => XT.iushr (g := mkF m pc Ls (.int y :: .int x :: rest)) X.here hx rfl hd rfl hr_
theorem own_idiv (X : Stand p l e R s m args below meth c T locs cells slots) (hx : p.tables.exec = Jvm.exec) {x y : Int32} (hd : decode c.code pc = .ok (.idiv, 1)) (hy : y ≠ 0) (hq : pc + 1 = q) (g : own_G p e below FF (T.setTop (mkF m q Ls (.int (x / y) :: rest)))) : own_G p e below FF (T.setTop (mkF m pc Ls (.int y :: .int x :: rest))) := by
  subst hq; exact g.via fun _ hr_ => XS.idiv (g := mkF m pc Ls (.int y :: .int x :: rest)) X.here hx rfl hd rfl hy hr_
theorem own_irem (X : Stand p l e R s m args below meth c T locs cells slots) (hx : p.tables.exec = Jvm.exec) {x y : Int32} (hd : decode c.code pc = .ok (.irem, 1)) (hy : y ≠ 0) (hq : pc + 1 = q) (g : own_G p e below FF (T.setTop (mkF m q Ls (.int (x - (x / y) * y) :: rest)))) : own_G p e below FF (T.setTop (mkF m pc Ls (.int y :: .int x :: rest))) := by
  subst hq; exact g.via fun _ hr_ => XS.irem (g := mkF m pc Ls (.int y :: .int x :: rest)) X.here hx rfl hd rfl hy hr_
theorem own_ladd (X : Stand p l e R s m args below meth c T locs cells slots) (hx : p.tables.exec = Jvm.exec) {x y : Int64} (hd : decode c.code pc = .ok (.ladd, 1))  (hq : pc + 1 = q) (g : own_G p e below FF (T.setTop (mkF m q Ls (.long (x + y) :: rest)))) : own_G p e below FF (T.setTop (mkF m pc Ls (.long y :: .long x :: rest))) := by
  subst hq; exact g.via fun _ hr_ => XT.ladd (g := mkF m pc Ls (.long y :: .long x :: rest)) X.here hx rfl hd rfl hr_
theorem own_lsub (X : Stand p l e R s m args below meth c T locs cells slots) (hx : p.tables.exec = Jvm.exec) {x y : Int64} (hd : decode c.code pc = .ok (.lsub, 1))  (hq : pc + 1 = q) (g : own_G p e below FF (T.setTop (mkF m q Ls (.long (x - y) :: rest)))) : own_G p e below FF (T.setTop (mkF m pc Ls (.long y :: .long x :: rest))) := by
  subst hq; exact g.via fun _ hr_ => XT.lsub (g := mkF m pc Ls (.long y :: .long x :: rest)) X.here hx rfl hd rfl hr_
theorem own_lmul (X : Stand p l e R s m args below meth c T locs cells slots) (hx : p.tables.exec = Jvm.exec) {x y : Int64} (hd : decode c.code pc = .ok (.lmul, 1))  (hq : pc + 1 = q) (g : own_G p e below FF (T.setTop (mkF m q Ls (.long (x * y) :: rest)))) : own_G p e below FF (T.setTop (mkF m pc Ls (.long y :: .long x :: rest))) := by
  subst hq; exact g.via fun _ hr_ => XT.lmul (g := mkF m pc Ls (.long y :: .long x :: rest)) X.here hx rfl hd rfl hr_
theorem own_land (X : Stand p l e R s m args below meth c T locs cells slots) (hx : p.tables.exec = Jvm.exec) {x y : Int64} (hd : decode c.code pc = .ok (.land, 1))  (hq : pc + 1 = q) (g : own_G p e below FF (T.setTop (mkF m q Ls (.long (x &&& y) :: rest)))) : own_G p e below FF (T.setTop (mkF m pc Ls (.long y :: .long x :: rest))) := by
  subst hq; exact g.via fun _ hr_ => XT.land (g := mkF m pc Ls (.long y :: .long x :: rest)) X.here hx rfl hd rfl hr_
theorem own_lor (X : Stand p l e R s m args below meth c T locs cells slots) (hx : p.tables.exec = Jvm.exec) {x y : Int64} (hd : decode c.code pc = .ok (.lor, 1))  (hq : pc + 1 = q) (g : own_G p e below FF (T.setTop (mkF m q Ls (.long (x ||| y) :: rest)))) : own_G p e below FF (T.setTop (mkF m pc Ls (.long y :: .long x :: rest))) := by
  subst hq; exact g.via fun _ hr_ => XT.lor (g := mkF m pc Ls (.long y :: .long x :: rest)) X.here hx rfl hd rfl hr_
theorem own_lxor (X : Stand p l e R s m args below meth c T locs cells slots) (hx : p.tables.exec = Jvm.exec) {x y : Int64} (hd : decode c.code pc = .ok (.lxor, 1))  (hq : pc + 1 = q) (g : own_G p e below FF (T.setTop (mkF m q Ls (.long (x ^^^ y) :: rest)))) : own_G p e below FF (T.setTop (mkF m pc Ls (.long y :: .long x :: rest))) := by
  subst hq; exact g.via fun _ hr_ => XT.lxor (g := mkF m pc Ls (.long y :: .long x :: rest)) X.here hx rfl hd rfl hr_
theorem own_ldiv (X : Stand p l e R s m args below meth c T locs cells slots) (hx : p.tables.exec = Jvm.exec) {x y : Int64} (hd : decode c.code pc = .ok (.ldiv, 1)) (hy : y ≠ 0) (hq : pc + 1 = q) (g : own_G p e below FF (T.setTop (mkF m q Ls (.long (x / y) :: rest)))) : own_G p e below FF (T.setTop (mkF m pc Ls (.long y :: .long x :: rest))) := by
  subst hq; exact g.via fun _ hr_ => XT.ldiv (g := mkF m pc Ls (.long y :: .long x :: rest)) X.here hx rfl hd rfl hy hr_
theorem own_lrem (X : Stand p l e R s m args below meth c T locs cells slots) (hx : p.tables.exec = Jvm.exec) {x y : Int64} (hd : decode c.code pc = .ok (.lrem, 1)) (hy : y ≠ 0) (hq : pc + 1 = q) (g : own_G p e below FF (T.setTop (mkF m q Ls (.long (x - (x / y) * y) :: rest)))) : own_G p e below FF (T.setTop (mkF m pc Ls (.long y :: .long x :: rest))) := by
  subst hq; exact g.via fun _ hr_ => XT.lrem (g := mkF m pc Ls (.long y :: .long x :: rest)) X.here hx rfl hd rfl hy hr_
theorem own_lcmp (X : Stand p l e R s m args below meth c T locs cells slots) (hx : p.tables.exec = Jvm.exec) {x y : Int64} (hd : decode c.code pc = .ok (.lcmp, 1))  (hq : pc + 1 = q) (g : own_G p e below FF (T.setTop (mkF m q Ls (.int (XT.cmpL x y) :: rest)))) : own_G p e below FF (T.setTop (mkF m pc Ls (.long y :: .long x :: rest))) := by
  subst hq; exact g.via fun _ hr_ => XT.lcmp (g := mkF m pc Ls (.long y :: .long x :: rest)) X.here hx rfl hd rfl hr_
theorem own_lshl (X : Stand p l e R s m args below meth c T locs cells slots) (hx : p.tables.exec = Jvm.exec) {x : Int64} {y : Int32} (hd : decode c.code pc = .ok (.lshl, 1))  (hq : pc + 1 = q) (g : own_G p e below FF (T.setTop (mkF m q Ls (.long (x <<< (y.toInt64 &&& 63)) :: rest)))) : own_G p e below FF (T.setTop (mkF m pc Ls (.int y :: .long x :: rest))) := by
  subst hq; exact g.via fun _ hr_ => XT.lshl (g := mkF m pc Ls (.int y :: .long x :: rest)) X.here hx rfl hd rfl hr_
theorem own_lshr (X : Stand p l e R s m args below meth c T locs cells slots) (hx : p.tables.exec = Jvm.exec) {x : Int64} {y : Int32} (hd : decode c.code pc = .ok (.lshr, 1))  (hq : pc + 1 = q) (g : own_G p e below FF (T.setTop (mkF m q Ls (.long (x >>> (y.toInt64 &&& 63)) :: rest)))) : own_G p e below FF (T.setTop (mkF m pc Ls (.int y :: .long x :: rest))) := by
  subst hq; exact g.via fun _ hr_ => XT.lshr (g := mkF m pc Ls (.int y :: .long x :: rest)) X.here hx rfl hd rfl hr_
theorem own_lushr (X : Stand p l e R s m args below meth c T locs cells slots) (hx : p.tables.exec = Jvm.exec) {x : Int64} {y : Int32} (hd : decode c.code pc = .ok (.lushr, 1))  (hq : pc + 1 = q) (g : own_G p e below FF (T.setTop (mkF m q Ls (.long (XT.ushrL x y) :: rest)))) : own_G p e below FF (T.setTop (mkF m pc Ls (.int y :: .long x :: rest))) := by
  subst hq; exact g.via fun _ hr_ => XT.lushr (g := mkF m pc Ls (.int y :: .long x :: rest)) X.here hx rfl hd rfl hr_
theorem own_ineg (X : Stand p l e R s m args below meth c T locs cells slots) (hx : p.tables.exec = Jvm.exec) {x : Int32} (hd : decode c.code pc = .ok (.ineg, 1))  (hq : pc + 1 = q) (g : own_G p e below FF (T.setTop (mkF m q Ls (.int (-x) :: rest)))) : own_G p e below FF (T.setTop (mkF m pc Ls (.int x :: rest))) := by
  subst hq; exact g.via fun _ hr_ => XS.ineg (g := mkF m pc Ls (.int x :: rest)) X.here hx rfl hd rfl hr_
theorem own_lneg (X : Stand p l e R s m args below meth c T locs cells slots) (hx : p.tables.exec = Jvm.exec) {x : Int64} (hd : decode c.code pc = .ok (.lneg, 1))  (hq : pc + 1 = q) (g : own_G p e below FF (T.setTop (mkF m q Ls (.long (-x) :: rest)))) : own_G p e below FF (T.setTop (mkF m pc Ls (.long x :: rest))) := by
  subst hq; exact g.via fun _ hr_ => XT.lneg (g := mkF m pc Ls (.long x :: rest)) X.here hx rfl hd rfl hr_
theorem own_i2l (X : Stand p l e R s m args below meth c T locs cells slots) (hx : p.tables.exec = Jvm.exec) {x : Int32} (hd : decode c.code pc = .ok (.i2l, 1))  (hq : pc + 1 = q) (g : own_G p e below FF (T.setTop (mkF m q Ls (.long (x.toInt64) :: rest)))) : own_G p e below FF (T.setTop (mkF m pc Ls (.int x :: rest))) := by
  subst hq; exact g.via fun _ hr_ => XT.i2l (g := mkF m pc Ls (.int x :: rest)) X.here hx rfl hd rfl hr_
theorem own_l2i (X : Stand p l e R s m args below meth c T locs cells slots) (hx : p.tables.exec = Jvm.exec) {x : Int64} (hd : decode c.code pc = .ok (.l2i, 1))  (hq : pc + 1 = q) (g : own_G p e below FF (T.setTop (mkF m q Ls (.int (x.toInt32) :: rest)))) : own_G p e below FF (T.setTop (mkF m pc Ls (.long x :: rest))) := by
  subst hq; exact g.via fun _ hr_ => XT.l2i (g := mkF m pc Ls (.long x :: rest)) X.here hx rfl hd rfl hr_
theorem own_i2b (X : Stand p l e R s m args below meth c T locs cells slots) (hx : p.tables.exec = Jvm.exec) {x : Int32} (hd : decode c.code pc = .ok (.i2b, 1))  (hq : pc + 1 = q) (g : own_G p e below FF (T.setTop (mkF m q Ls (.int (x.toInt8.toInt32) :: rest)))) : own_G p e below FF (T.setTop (mkF m pc Ls (.int x :: rest))) := by
  subst hq; exact g.via fun _ hr_ => XT.i2b (g := mkF m pc Ls (.int x :: rest)) X.here hx rfl hd rfl hr_
theorem own_i2c (X : Stand p l e R s m args below meth c T locs cells slots) (hx : p.tables.exec = Jvm.exec) {x : Int32} (hd : decode c.code pc = .ok (.i2c, 1))  (hq : pc + 1 = q) (g : own_G p e below FF (T.setTop (mkF m q Ls (.int (x.toUInt32.toUInt16.toUInt32.toInt32) :: rest)))) : own_G p e below FF (T.setTop (mkF m pc Ls (.int x :: rest))) := by
  subst hq; exact g.via fun _ hr_ => XT.i2c (g := mkF m pc Ls (.int x :: rest)) X.here hx rfl hd rfl hr_
theorem own_iconst (X : Stand p l e R s m args below meth c T locs cells slots) (hx : p.tables.exec = Jvm.exec) {i : Int} {v : Int32} (hd : decode c.code pc = .ok (.iconst i, 1)) (hv : Int32.ofInt i = v) (hq : pc + 1 = q) (g : own_G p e below FF (T.setTop (mkF m q Ls (.int v :: st)))) : own_G p e below FF (T.setTop (mkF m pc Ls (st))) := by
  subst hq; subst hv; exact g.via fun _ hr_ => XS.iconst (g := mkF m pc Ls (st)) X.here hx rfl hd  hr_
theorem own_bipush (X : Stand p l e R s m args below meth c T locs cells slots) (hx : p.tables.exec = Jvm.exec) {i : Int} {v : Int32} (hd : decode c.code pc = .ok (.bipush i, 2)) (hv : (Int8.ofInt i).toInt32 = v) (hq : pc + 2 = q) (g : own_G p e below FF (T.setTop (mkF m q Ls (.int v :: st)))) : own_G p e below FF (T.setTop (mkF m pc Ls (st))) := by
  subst hq; subst hv; exact g.via fun _ hr_ => XS.bipush (g := mkF m pc Ls (st)) X.here hx rfl hd  hr_
theorem own_sipush (X : Stand p l e R s m args below meth c T locs cells slots) (hx : p.tables.exec = Jvm.exec) {i : Int} {v : Int32} (hd : decode c.code pc = .ok (.sipush i, 3)) (hv : (Int16.ofInt i).toInt32 = v) (hq : pc + 3 = q) (g : own_G p e below FF (T.setTop (mkF m q Ls (.int v :: st)))) : own_G p e below FF (T.setTop (mkF m pc Ls (st))) := by
  subst hq; subst hv; exact g.via fun _ hr_ => XS.sipush (g := mkF m pc Ls (st)) X.here hx rfl hd  hr_
theorem own_lconst (X : Stand p l e R s m args below meth c T locs cells slots) (hx : p.tables.exec = Jvm.exec) {i : Fin 2} {v : Int64} (hd : decode c.code pc = .ok (.lconst i, 1)) (hv : Int64.ofNat i = v) (hq : pc + 1 = q) (g : own_G p e below FF (T.setTop (mkF m q Ls (.long v :: st)))) : own_G p e below FF (T.setTop (mkF m pc Ls (st))) := by
  subst hq; subst hv; exact g.via fun _ hr_ => XT.lconst (g := mkF m pc Ls (st)) X.here hx rfl hd  hr_
theorem own_aconst_null (X : Stand p l e R s m args below meth c T locs cells slots) (hx : p.tables.exec = Jvm.exec)  (hd : decode c.code pc = .ok (.aconst_null, 1))  (hq : pc + 1 = q) (g : own_G p e below FF (T.setTop (mkF m q Ls (.null :: st)))) : own_G p e below FF (T.setTop (mkF m pc Ls (st))) := by
  subst hq; exact g.via fun _ hr_ => XS.aconstNull (g := mkF m pc Ls (st)) X.here hx rfl hd  hr_
theorem own_iload_n (X : Stand p l e R s m args below meth c T locs cells slots) (hx : p.tables.exec = Jvm.exec) {i : Fin 4} {v : Int32} (hd : decode c.code pc = .ok (.iload_n i, 1)) (hl : Ls[i.val]? = some (.val (.int v))) (hq : pc + 1 = q) (g : own_G p e below FF (T.setTop (mkF m q Ls (.int v :: st)))) : own_G p e below FF (T.setTop (mkF m pc Ls (st))) := by
  subst hq; exact g.via fun _ hr_ => XS.iloadN (g := mkF m pc Ls (st)) X.here hx rfl hd hl hr_
theorem own_iload (X : Stand p l e R s m args below meth c T locs cells slots) (hx : p.tables.exec = Jvm.exec) {i : Nat} {v : Int32} (hd : decode c.code pc = .ok (.iload i, 2)) (hl : Ls[i]? = some (.val (.int v))) (hq : pc + 2 = q) (g : own_G p e below FF (T.setTop (mkF m q Ls (.int v :: st)))) : own_G p e below FF (T.setTop (mkF m pc Ls (st))) := by
  subst hq; exact g.via fun _ hr_ => XS.iload (g := mkF m pc Ls (st)) X.here hx rfl hd hl hr_
theorem own_lload_n (X : Stand p l e R s m args below meth c T locs cells slots) (hx : p.tables.exec = Jvm.exec) {i : Fin 4} {v : Int64} (hd : decode c.code pc = .ok (.lload_n i, 1)) (hl : Ls[i.val]? = some (.val (.long v))) (hq : pc + 1 = q) (g : own_G p e below FF (T.setTop (mkF m q Ls (.long v :: st)))) : own_G p e below FF (T.setTop (mkF m pc Ls (st))) := by
  subst hq; exact g.via fun _ hr_ => XT.lloadN (g := mkF m pc Ls (st)) X.here hx rfl hd hl hr_
theorem own_lload (X : Stand p l e R s m args below meth c T locs cells slots) (hx : p.tables.exec = Jvm.exec) {i : Nat} {v : Int64} (hd : decode c.code pc = .ok (.lload i, 2)) (hl : Ls[i]? = some (.val (.long v))) (hq : pc + 2 = q) (g : own_G p e below FF (T.setTop (mkF m q Ls (.long v :: st)))) : own_G p e below FF (T.setTop (mkF m pc Ls (st))) := by
  subst hq; exact g.via fun _ hr_ => XT.lload (g := mkF m pc Ls (st)) X.here hx rfl hd hl hr_
theorem own_aload_n (X : Stand p l e R s m args below meth c T locs cells slots) (hx : p.tables.exec = Jvm.exec) {i : Fin 4} {v : Value} (hd : decode c.code pc = .ok (.aload_n i, 1)) (hl : Ls[i.val]? = some (.val v)) (hr : v.isRef = true) (hq : pc + 1 = q) (g : own_G p e below FF (T.setTop (mkF m q Ls (v :: st)))) : own_G p e below FF (T.setTop (mkF m pc Ls (st))) := by
  subst hq; exact g.via fun _ hr_ => XS.aloadN (g := mkF m pc Ls (st)) X.here hx rfl hd hl hr hr_
theorem own_aload (X : Stand p l e R s m args below meth c T locs cells slots) (hx : p.tables.exec = Jvm.exec) {i : Nat} {v : Value} (hd : decode c.code pc = .ok (.aload i, 2)) (hl : Ls[i]? = some (.val v)) (hr : v.isRef = true) (hq : pc + 2 = q) (g : own_G p e below FF (T.setTop (mkF m q Ls (v :: st)))) : own_G p e below FF (T.setTop (mkF m pc Ls (st))) := by
  subst hq; exact g.via fun _ hr_ => XS.aload (g := mkF m pc Ls (st)) X.here hx rfl hd hl hr hr_
theorem own_istore_n (X : Stand p l e R s m args below meth c T locs cells slots) (hx : p.tables.exec = Jvm.exec) {i : Fin 4} {v : Int32} (hd : decode c.code pc = .ok (.istore_n i, 1)) (hl : storeLocals Ls i.val (.int v) = some l') (hq : pc + 1 = q) (g : own_G p e below FF (T.setTop (mkF m q l' (rest)))) : own_G p e below FF (T.setTop (mkF m pc Ls (.int v :: rest))) := by
  subst hq; exact g.via fun _ hr_ => XS.istoreN (g := mkF m pc Ls (.int v :: rest)) X.here hx rfl hd rfl hl hr_
theorem own_istore (X : Stand p l e R s m args below meth c T locs cells slots) (hx : p.tables.exec = Jvm.exec) {i : Nat} {v : Int32} (hd : decode c.code pc = .ok (.istore i, 2)) (hl : storeLocals Ls i (.int v) = some l') (hq : pc + 2 = q) (g : own_G p e below FF (T.setTop (mkF m q l' (rest)))) : own_G p e below FF (T.setTop (mkF m pc Ls (.int v :: rest))) := by
  subst hq; exact g.via fun _ hr_ => XS.istore (g := mkF m pc Ls (.int v :: rest)) X.here hx rfl hd rfl hl hr_
theorem own_lstore_n (X : Stand p l e R s m args below meth c T locs cells slots) (hx : p.tables.exec = Jvm.exec) {i : Fin 4} {v : Int64} (hd : decode c.code pc = .ok (.lstore_n i, 1)) (hl : storeLocals Ls i.val (.long v) = some l') (hq : pc + 1 = q) (g : own_G p e below FF (T.setTop (mkF m q l' (rest)))) : own_G p e below FF (T.setTop (mkF m pc Ls (.long v :: rest))) := by
  subst hq; exact g.via fun _ hr_ => XT.lstoreN (g := mkF m pc Ls (.long v :: rest)) X.here hx rfl hd rfl hl hr_
theorem own_lstore (X : Stand p l e R s m args below meth c T locs cells slots) (hx : p.tables.exec = Jvm.exec) {i : Nat} {v : Int64} (hd : decode c.code pc = .ok (.lstore i, 2)) (hl : storeLocals Ls i (.long v) = some l') (hq : pc + 2 = q) (g : own_G p e below FF (T.setTop (mkF m q l' (rest)))) : own_G p e below FF (T.setTop (mkF m pc Ls (.long v :: rest))) := by
  subst hq; exact g.via fun _ hr_ => XT.lstore (g := mkF m pc Ls (.long v :: rest)) X.here hx rfl hd rfl hl hr_
theorem own_astore_n (X : Stand p l e R s m args below meth c T locs cells slots) (hx : p.tables.exec = Jvm.exec) {i : Fin 4} {v : Value} (hd : decode c.code pc = .ok (.astore_n i, 1)) (hr : v.isRef = true) (hl : storeLocals Ls i.val v = some l') (hq : pc + 1 = q) (g : own_G p e below FF (T.setTop (mkF m q l' (rest)))) : own_G p e below FF (T.setTop (mkF m pc Ls (v :: rest))) := by
  subst hq; exact g.via fun _ hr_ => XS.astoreN (g := mkF m pc Ls (v :: rest)) X.here hx rfl hd rfl hr hl hr_
theorem own_astore (X : Stand p l e R s m args below meth c T locs cells slots) (hx : p.tables.exec = Jvm.exec) {i : Nat} {v : Value} (hd : decode c.code pc = .ok (.astore i, 2)) (hr : v.isRef = true) (hl : storeLocals Ls i v = some l') (hq : pc + 2 = q) (g : own_G p e below FF (T.setTop (mkF m q l' (rest)))) : own_G p e below FF (T.setTop (mkF m pc Ls (v :: rest))) := by
  subst hq; exact g.via fun _ hr_ => XS.astore (g := mkF m pc Ls (v :: rest)) X.here hx rfl hd rfl hr hl hr_
theorem own_iinc (X : Stand p l e R s m args below meth c T locs cells slots) (hx : p.tables.exec = Jvm.exec) {i : Nat} {cst : Int} {v w : Int32} (hd : decode c.code pc = .ok (.iinc i cst, 3)) (hl : Ls[i]? = some (.val (.int v))) (hv : v + Int32.ofInt cst = w) (hs : storeLocals Ls i (.int w) = some l') (hq : pc + 3 = q) (g : own_G p e below FF (T.setTop (mkF m q l' (st)))) : own_G p e below FF (T.setTop (mkF m pc Ls (st))) := by
  subst hq; subst hv; exact g.via fun _ hr_ => XS.iinc (g := mkF m pc Ls (st)) X.here hx rfl hd hl hs hr_
theorem own_dup (X : Stand p l e R s m args below meth c T locs cells slots) (hx : p.tables.exec = Jvm.exec) {v : Value} (hd : decode c.code pc = .ok (.dup, 1)) (hc : v.category = 1) (hq : pc + 1 = q) (g : own_G p e below FF (T.setTop (mkF m q Ls (v :: v :: rest)))) : own_G p e below FF (T.setTop (mkF m pc Ls (v :: rest))) := by
  subst hq; exact g.via fun _ hr_ => XS.dup (g := mkF m pc Ls (v :: rest)) X.here hx rfl hd rfl hc hr_
theorem own_pop (X : Stand p l e R s m args below meth c T locs cells slots) (hx : p.tables.exec = Jvm.exec) {v : Value} (hd : decode c.code pc = .ok (.pop, 1)) (hc : v.category = 1) (hq : pc + 1 = q) (g : own_G p e below FF (T.setTop (mkF m q Ls (rest)))) : own_G p e below FF (T.setTop (mkF m pc Ls (v :: rest))) := by
  subst hq; exact g.via fun _ hr_ => XT.pop (g := mkF m pc Ls (v :: rest)) X.here hx rfl hd rfl hc hr_
theorem own_dup2L (X : Stand p l e R s m args below meth c T locs cells slots) (hx : p.tables.exec = Jvm.exec) {x : Int64} (hd : decode c.code pc = .ok (.dup2, 1))  (hq : pc + 1 = q) (g : own_G p e below FF (T.setTop (mkF m q Ls (.long x :: .long x :: rest)))) : own_G p e below FF (T.setTop (mkF m pc Ls (.long x :: rest))) := by
  subst hq; exact g.via fun _ hr_ => XT.dup2L (g := mkF m pc Ls (.long x :: rest)) X.here hx rfl hd rfl hr_
theorem own_dup2 (X : Stand p l e R s m args below meth c T locs cells slots) (hx : p.tables.exec = Jvm.exec) {v w : Value} (hd : decode c.code pc = .ok (.dup2, 1)) (hc : v.category = 1) (hc' : w.category = 1) (hq : pc + 1 = q) (g : own_G p e below FF (T.setTop (mkF m q Ls (v :: w :: v :: w :: rest)))) : own_G p e below FF (T.setTop (mkF m pc Ls (v :: w :: rest))) := by
  subst hq; exact g.via fun _ hr_ => XT.dup2 (g := mkF m pc Ls (v :: w :: rest)) X.here hx rfl hd rfl hc hc' hr_
theorem own_dup_x1 (X : Stand p l e R s m args below meth c T locs cells slots) (hx : p.tables.exec = Jvm.exec) {v w : Value} (hd : decode c.code pc = .ok (.dup_x1, 1)) (hc : v.category = 1) (hc' : w.category = 1) (hq : pc + 1 = q) (g : own_G p e below FF (T.setTop (mkF m q Ls (v :: w :: v :: rest)))) : own_G p e below FF (T.setTop (mkF m pc Ls (v :: w :: rest))) := by
  subst hq; exact g.via fun _ hr_ => XT.dupX1 (g := mkF m pc Ls (v :: w :: rest)) X.here hx rfl hd rfl hc hc' hr_
theorem own_goto (X : Stand p l e R s m args below meth c T locs cells slots) (hx : p.tables.exec = Jvm.exec) {o : Int} (hd : decode c.code pc = .ok (.goto o, 3)) (ho : 0 ≤ (pc : Int) + o) (hp : ((pc : Int) + o).toNat = q) (g : own_G p e below FF (T.setTop (mkF m q Ls st))) : own_G p e below FF (T.setTop (mkF m pc Ls st)) :=
  g.via fun _ hr => XS.goto (g := mkF m pc Ls st) X.here hx rfl (pc0 := pc) rfl hd ho hp hr
theorem own_if (X : Stand p l e R s m args below meth c T locs cells slots) (hx : p.tables.exec = Jvm.exec) {cd : ClassFile.Cond} {x : Int32} {o : Int} {P : Prop} [Decidable P] (hd : decode c.code pc = .ok (.ifCond cd o, 3)) (ho : 0 ≤ (pc : Int) + o) (hp : ((pc : Int) + o).toNat = q) (hq : pc + 3 = q') (hP : ifCond.holds cd x = decide P) (gy : P → own_G p e below FF (T.setTop (mkF m q Ls rest))) (gn : ¬ P → own_G p e below FF (T.setTop (mkF m q' Ls rest))) : own_G p e below FF (T.setTop (mkF m pc Ls (.int x :: rest))) := by
  by_cases h : P
  · exact (gy h).via fun _ hr => XS.ifYes (g := mkF m pc Ls (.int x :: rest)) X.here hx rfl (pc0 := pc) rfl hd rfl (by rw [hP]; exact decide_eq_true h) ho hp hr
  · subst hq; exact (gn h).via fun _ hr => XS.ifNo (g := mkF m pc Ls (.int x :: rest)) X.here hx rfl hd rfl (by rw [hP]; exact decide_eq_false h) hr
theorem own_icmp (X : Stand p l e R s m args below meth c T locs cells slots) (hx : p.tables.exec = Jvm.exec) {cd : ClassFile.Cond} {x y : Int32} {o : Int} {P : Prop} [Decidable P] (hd : decode c.code pc = .ok (.if_icmp cd o, 3)) (ho : 0 ≤ (pc : Int) + o) (hp : ((pc : Int) + o).toNat = q) (hq : pc + 3 = q') (hP : if_icmp.holds cd x y = decide P) (gy : P → own_G p e below FF (T.setTop (mkF m q Ls rest))) (gn : ¬ P → own_G p e below FF (T.setTop (mkF m q' Ls rest))) : own_G p e below FF (T.setTop (mkF m pc Ls (.int y :: .int x :: rest))) := by
  by_cases h : P
  · exact (gy h).via fun _ hr => XS.icmpYes (g := mkF m pc Ls (.int y :: .int x :: rest)) X.here hx rfl (pc0 := pc) rfl hd rfl (by rw [hP]; exact decide_eq_true h) ho hp hr
  · subst hq; exact (gn h).via fun _ hr => XS.icmpNo (g := mkF m pc Ls (.int y :: .int x :: rest)) X.here hx rfl hd rfl (by rw [hP]; exact decide_eq_false h) hr
theorem own_h_eq (x y : Int32) : if_icmp.holds .eq x y = decide (x.toInt = y.toInt) := by
  by_cases h : x = y
  · rw [(teq h).1, h]; simp
  · rw [(feq h).1]; symm; exact decide_eq_false fun q => h (Int32.toInt_inj.mp q)
theorem own_h_ne (x y : Int32) : if_icmp.holds .ne x y = decide (x.toInt ≠ y.toInt) := by
  by_cases h : x = y
  · rw [(teq h).2, h]; simp
  · rw [(feq h).2]; symm; exact decide_eq_true fun q => h (Int32.toInt_inj.mp q)
theorem own_h_lt (x y : Int32) : if_icmp.holds .lt x y = decide (x.toInt < y.toInt) := by
  by_cases h : x < y
  · rw [(tlt h).1]; symm; exact decide_eq_true (Int32.lt_iff_toInt_lt.mp h)
  · rw [(flt h).1]; symm; exact decide_eq_false fun q => h (Int32.lt_iff_toInt_lt.mpr q)
theorem own_h_ge (x y : Int32) : if_icmp.holds .ge x y = decide (y.toInt ≤ x.toInt) := by
  by_cases h : x < y
  · rw [(tlt h).2.1]; symm; exact decide_eq_false fun q => absurd (Int32.lt_iff_toInt_lt.mp h) (by omega)
  · rw [(flt h).2.1]; symm; exact decide_eq_true (Int.not_lt.mp fun q => h (Int32.lt_iff_toInt_lt.mpr q))
theorem own_h_gt (x y : Int32) : if_icmp.holds .gt x y = decide (y.toInt < x.toInt) := by
  by_cases h : y < x
  · rw [(tlt h).2.2.1]; symm; exact decide_eq_true (Int32.lt_iff_toInt_lt.mp h)
  · rw [(flt h).2.2.1]; symm; exact decide_eq_false fun q => h (Int32.lt_iff_toInt_lt.mpr q)
theorem own_h_le (x y : Int32) : if_icmp.holds .le x y = decide (x.toInt ≤ y.toInt) := by
  by_cases h : y < x
  · rw [(tlt h).2.2.2]; symm; exact decide_eq_false fun q => absurd (Int32.lt_iff_toInt_lt.mp h) (by omega)
  · rw [(flt h).2.2.2]; symm; exact decide_eq_true (Int.not_lt.mp fun q => h (Int32.lt_iff_toInt_lt.mpr q))
theorem own_z_eq (x : Int32) : ifCond.holds .eq x = decide (x.toInt = 0) := (if0 _ _).trans (own_h_eq x 0)
theorem own_z_ne (x : Int32) : ifCond.holds .ne x = decide (x.toInt ≠ 0) := (if0 _ _).trans (own_h_ne x 0)
theorem own_z_lt (x : Int32) : ifCond.holds .lt x = decide (x.toInt < 0) := (if0 _ _).trans (own_h_lt x 0)
theorem own_z_ge (x : Int32) : ifCond.holds .ge x = decide (0 ≤ x.toInt) := (if0 _ _).trans (own_h_ge x 0)
theorem own_z_gt (x : Int32) : ifCond.holds .gt x = decide (0 < x.toInt) := (if0 _ _).trans (own_h_gt x 0)
theorem own_z_le (x : Int32) : ifCond.holds .le x = decide (x.toInt ≤ 0) := (if0 _ _).trans (own_h_le x 0)
theorem own_cmpL (x y : Int64) : (x.toInt < y.toInt ∧ (XT.cmpL x y).toInt = -1) ∨ (x.toInt = y.toInt ∧ (XT.cmpL x y).toInt = 0) ∨ (y.toInt < x.toInt ∧ (XT.cmpL x y).toInt = 1) := by
  unfold XT.cmpL
  by_cases h1 : y < x
  · rw [if_pos h1]; exact Or.inr (Or.inr ⟨Int64.lt_iff_toInt_lt.mp h1, rfl⟩)
  · rw [if_neg h1]
    by_cases h2 : x = y
    · rw [if_pos h2]; exact Or.inr (Or.inl ⟨by rw [h2], rfl⟩)
    · rw [if_neg h2]
      have h3 : ¬ y.toInt < x.toInt := fun q => h1 (Int64.lt_iff_toInt_lt.mpr q)
      have h4 : ¬ x.toInt = y.toInt := fun q => h2 (Int64.toInt_inj.mp q)
      exact Or.inl ⟨by omega, rfl⟩
theorem own_l_eq (x y : Int64) : ifCond.holds .eq (XT.cmpL x y) = decide (x.toInt = y.toInt) := by
  rw [own_z_eq]; rcases own_cmpL x y with ⟨h, q⟩ | ⟨h, q⟩ | ⟨h, q⟩ <;> rw [q] <;> simp <;> omega
theorem own_l_ne (x y : Int64) : ifCond.holds .ne (XT.cmpL x y) = decide (x.toInt ≠ y.toInt) := by
  rw [own_z_ne]; rcases own_cmpL x y with ⟨h, q⟩ | ⟨h, q⟩ | ⟨h, q⟩ <;> rw [q] <;> simp <;> omega
theorem own_l_lt (x y : Int64) : ifCond.holds .lt (XT.cmpL x y) = decide (x.toInt < y.toInt) := by
  rw [own_z_lt]; rcases own_cmpL x y with ⟨h, q⟩ | ⟨h, q⟩ | ⟨h, q⟩ <;> rw [q] <;> simp <;> omega
theorem own_l_ge (x y : Int64) : ifCond.holds .ge (XT.cmpL x y) = decide (y.toInt ≤ x.toInt) := by
  rw [own_z_ge]; rcases own_cmpL x y with ⟨h, q⟩ | ⟨h, q⟩ | ⟨h, q⟩ <;> rw [q] <;> simp <;> omega
theorem own_l_gt (x y : Int64) : ifCond.holds .gt (XT.cmpL x y) = decide (y.toInt < x.toInt) := by
  rw [own_z_gt]; rcases own_cmpL x y with ⟨h, q⟩ | ⟨h, q⟩ | ⟨h, q⟩ <;> rw [q] <;> simp <;> omega
theorem own_l_le (x y : Int64) : ifCond.holds .le (XT.cmpL x y) = decide (x.toInt ≤ y.toInt) := by
  rw [own_z_le]; rcases own_cmpL x y with ⟨h, q⟩ | ⟨h, q⟩ | ⟨h, q⟩ <;> rw [q] <;> simp <;> omega
theorem own_addI (x y : Int32) (h1 : -2147483648 ≤ x.toInt + y.toInt) (h2 : x.toInt + y.toInt < 2147483648) : (x + y).toInt = x.toInt + y.toInt := by
  have := c_iadd x y; have := rng32 (x + y); omega
theorem own_subI (x y : Int32) (h1 : -2147483648 ≤ x.toInt - y.toInt) (h2 : x.toInt - y.toInt < 2147483648) : (x - y).toInt = x.toInt - y.toInt := by
  have := c_isub x y; have := rng32 (x - y); omega
theorem own_mulI (x y : Int32) (h1 : -2147483648 ≤ x.toInt * y.toInt) (h2 : x.toInt * y.toInt < 2147483648) : (x * y).toInt = x.toInt * y.toInt := by
  have := c_imul x y; have := rng32 (x * y); omega
theorem own_rem (x y : Int32) (h0 : 0 ≤ x.toInt) (hy : 0 < y.toInt) : (x - (x / y) * y).toInt = x.toInt % y.toInt := by
  have hne : y ≠ -1 := fun q => by rw [q] at hy; exact absurd hy (by decide)
  have h1 := (c_idiv x y y.toInt rfl hne).1 h0
  have h2 := c_imul (x / y) y
  rw [h1] at h2
  have h3 := c_isub x ((x / y) * y)
  have h4 := rng32 (x - (x / y) * y)
  have h5 := Int.emod_def x.toInt y.toInt
  rw [Int.mul_comm] at h5
  have h6 := Int.emod_nonneg x.toInt (Int.ne_of_gt hy)
  have h7 := Int.emod_lt_of_pos x.toInt hy
  have h8 := rng32 y
  generalize x.toInt / y.toInt * y.toInt = P at *
  generalize x.toInt % y.toInt = M at *
  omega
end Own
section Own2
variable {p : Program} {l : Launch} {e : Env} {R : Room} {s : State} {m : MethodId} {args : Array Value} {below : List Frame} {meth : Method} {c : Code} {T : State} {locs : List Loc} {cells slots : Nat} {k n : Nat} {Q : Option Value → Heap → List Loc → Prop} {FF : State → Option Value → Prop} {pc q q' : Nat} {Ls l' : Array Slot} {st rest : List Value}
variable {Z : State} {a0 : Array Value} {h h' : Heap} {a b : Addr} {ty : FieldType} {N i : Nat} {f : Nat → Value} {v : Value} {ws : List Addr} {sl n0 : Nat} {j x : Int32}
/-- an array of N places that hold f 0 .. f (N - 1) -/
def own_Arr (Z : State) (h : Heap) (a : Addr) (ty : FieldType) (N : Nat) (f : Nat → Value) : Prop := ∃ c : Cell, Arr Z h a c ty ∧ c.slots.size = N ∧ N < 2 ^ 31 ∧ ∀ i, i < N → c.slots[i]? = some (f i)
def own_upd (f : Nat → Value) (j : Nat) (v : Value) : Nat → Value := fun i => if i = j then v else f i
theorem own_upd_same (f : Nat → Value) (j : Nat) (v : Value) : own_upd f j v j = v := if_pos rfl
theorem own_upd_ne (f : Nat → Value) {i j : Nat} (v : Value) (q : i ≠ j) : own_upd f j v i = f i := if_neg q
def own_updI (f : Nat → Int32) (j : Nat) (v : Int32) : Nat → Int32 := fun i => if i = j then v else f i
def own_zero : Nat → Int32 := fun _ => 0
theorem own_updI_same (f : Nat → Int32) (j : Nat) (v : Int32) : own_updI f j v j = v := if_pos rfl
theorem own_updI_ne (f : Nat → Int32) {i j : Nat} (v : Int32) (q : i ≠ j) : own_updI f j v i = f i := if_neg q
theorem own_upd_I (f : Nat → Int32) (j : Nat) (v : Int32) : own_upd (fun i => .int (f i)) j (.int v) = fun i => .int (own_updI f j v i) := by
  funext i
  show (if i = j then Value.int v else Value.int (f i)) = Value.int (if i = j then v else f i)
  split <;> rfl
theorem own_Arr.ext (F : own_Arr Z h a ty N f) (E : Ext h h') : own_Arr Z h' a ty N f := by obtain ⟨c, A, r⟩ := F; exact ⟨c, A.ext E, r⟩
theorem own_Arr.keep (F : own_Arr Z h a ty N f) (K : Keep h h' ws) (q : a ∉ ws) : own_Arr Z h' a ty N f := by obtain ⟨c, A, r⟩ := F; exact ⟨c, ⟨K.2.1 a c A.1 q, A.2⟩, r⟩
theorem own_Arr.lt (F : own_Arr Z h a ty N f) : a < h.size := by obtain ⟨c, A, -⟩ := F; exact A.lt
theorem own_Arr.set (F : own_Arr Z h a ty N f) (W : Wr h h' a i v) : own_Arr Z h' a ty N (own_upd f i v) := by
  obtain ⟨c, A, S, hN, H⟩ := F
  refine ⟨_, Arr.same W A, by rw [sz_set]; exact S, hN, fun t ht => ?_⟩
  show (c.slots.setIfInBounds i v)[t]? = _
  rw [Array.getElem?_setIfInBounds]
  by_cases q : t = i
  · subst q; simp [own_upd, S, ht]
  · rw [if_neg (fun z => q z.symm), own_upd, if_neg q]; exact H t ht
theorem own_idx (hj : j.toInt = (i : Int)) (hi : i < N) : ¬ (j < 0 ∨ N ≤ j.toNatClampNeg) ∧ j.toNatClampNeg = i := by
  have h1 : j.toNatClampNeg = i := by show j.toInt.toNat = i; omega
  refine ⟨fun q => ?_, h1⟩
  rcases q with q | q
  · have := Int32.lt_iff_toInt_lt.mp q; have : (0 : Int32).toInt = 0 := rfl; omega
  · omega
theorem own_newP (X : Stand p l e R s m args below meth c T locs cells slots) (hx : p.tables.exec = Jvm.exec) (hZ : Z.Warmed39 s.vm) {aty : ArrayType} (w : (Jvm.Cond.arrayClass (newarray.typeOf aty)).before a0 Z = true) (eT : T.heap = h) (hd : decode c.code pc = .ok (.newarray aty, 2)) (hn : j.toInt = (N : Int)) {cap : Nat} (hcap : N ≤ cap) (hb : cap * 8 ≤ 536870912) (hc : cells + 1 ≤ R.cells) (hl : slots + cap ≤ R.slots) (hq : pc + 2 = q)
    (g : ∀ T' h' b, b = h.size → Stand p l e R s m args below meth c T' locs (cells + 1) (slots + cap) → T'.heap = h' → Ext h h' → own_Arr Z h' b (newarray.typeOf aty) N (fun _ => defaultValue (newarray.typeOf aty)) → own_G p e below FF (T'.setTop (mkF m q Ls (.ref b :: rest)))) :
    own_G p e below FF (T.setTop (mkF m pc Ls (.int j :: rest))) := by
  subst hq
  have hN : j.toNatClampNeg = N := by show j.toInt.toNat = N; omega
  have hn0 : ¬ j < 0 := fun q => by have := Int32.lt_iff_toInt_lt.mp q; have : (0 : Int32).toInt = 0 := rfl; omega
  obtain ⟨T', h', cA, X', e', E, A, st⟩ := newP X hx hZ w eT (g := mkF m pc Ls (.int j :: rest)) rfl hd rfl hn0 (cap := cap) (by rw [hN]; exact hcap) hb hc hl
  refine (g T' h' h.size rfl X' e' E ⟨_, A, by rw [sz_new]; exact hN, ?_, fun t ht => ?_⟩).via st
  · have := (back32 hn0).2; omega
  · show (Array.replicate j.toNatClampNeg _)[t]? = _
    rw [Array.getElem?_replicate, if_pos (by omega)]
theorem own_stB (X : Stand p l e R s m args below meth c T locs cells slots) (hx : p.tables.exec = Jvm.exec) (hZ : Z.Warmed39 s.vm) (eT : T.heap = h) {fi : Nat → Int32} (A : own_Arr Z h a .byte N (fun i => .int (fi i))) (hd : decode c.code pc = .ok (.bastore, 1)) (hj : j.toInt = (i : Int)) (hi : i < N) (Nf : Fr n0 locs) (ha : n0 ≤ a) (hq : pc + 1 = q)
    (g : ∀ T' h' L', Stand p l e R s m args below meth c T' L' cells slots → Fr n0 L' → T'.heap = h' → own_Arr Z h' a .byte N (fun t => .int (own_updI fi i (x.toInt8.toInt32) t)) → Wr h h' a i (.int (x.toInt8.toInt32)) → own_G p e below FF (T'.setTop (mkF m q Ls rest))) :
    own_G p e below FF (T.setTop (mkF m pc Ls (.int x :: .int j :: .ref a :: rest))) := by
  subst hq
  have A0 := A
  obtain ⟨cl, Ar, S, hN, H⟩ := A
  obtain ⟨h1, h2⟩ := own_idx (N := cl.slots.size) hj (by omega)
  obtain ⟨T', h', X', e', W, st⟩ := stB X hx hZ eT Ar (j := j) (x := x) h1 (g := mkF m pc Ls (.int x :: .int j :: .ref a :: rest)) rfl rfl hd
  have N' := Fr.snoc X' Nf ha
  rw [h2] at W
  have A1 := A0.set W
  rw [show (Value.int (nar .byte x)) = .int (x.toInt8.toInt32) from rfl, own_upd_I] at A1
  exact (g T' h' _ X' N' e' A1 W).via st
theorem own_baload (X : Stand p l e R s m args below meth c T locs cells slots) (hx : p.tables.exec = Jvm.exec) (hZ : Z.Warmed39 s.vm) (eT : T.heap = h) (A : own_Arr Z h a .byte N f) (hd : decode c.code pc = .ok (.baload, 1)) (hj : j.toInt = (i : Int)) (hi : i < N) (hv : f i = v) (hq : pc + 1 = q)
    (g : own_G p e below FF (T.setTop (mkF m q Ls (v :: rest)))) :
    own_G p e below FF (T.setTop (mkF m pc Ls (.int j :: .ref a :: rest))) := by
  subst hq
  obtain ⟨cl, Ar, S, hN, H⟩ := A
  obtain ⟨h1, h2⟩ := own_idx (N := cl.slots.size) hj (by omega)
  exact g.via fun t => X.baloadBytes hx (j := j) (v := v) (by rw [eT]; exact Ar.1) (State.isArrayOf_alike hZ.alike Ar.2.1) Ar.2.2 h1 (by rw [h2, ← hv]; exact H i hi) (g := mkF m pc Ls (.int j :: .ref a :: rest)) rfl rfl hd t
theorem own_zaload (X : Stand p l e R s m args below meth c T locs cells slots) (hx : p.tables.exec = Jvm.exec) (hZ : Z.Warmed39 s.vm) (eT : T.heap = h) (A : own_Arr Z h a .boolean N f) (hd : decode c.code pc = .ok (.baload, 1)) (hj : j.toInt = (i : Int)) (hi : i < N) (hv : f i = v) (hq : pc + 1 = q)
    (g : own_G p e below FF (T.setTop (mkF m q Ls (v :: rest)))) :
    own_G p e below FF (T.setTop (mkF m pc Ls (.int j :: .ref a :: rest))) := by
  subst hq
  obtain ⟨cl, Ar, S, hN, H⟩ := A
  obtain ⟨h1, h2⟩ := own_idx (N := cl.slots.size) hj (by omega)
  exact g.via fun t => X.baloadBooleans hx (j := j) (v := v) (by rw [eT]; exact Ar.1) (State.isArrayOf_alike hZ.alike Ar.2.1) Ar.2.2 h1 (by rw [h2, ← hv]; exact H i hi) (g := mkF m pc Ls (.int j :: .ref a :: rest)) rfl rfl hd t
theorem own_newO (X : Stand p l e R s m args below meth c T locs cells slots) (hx : p.tables.exec = Jvm.exec) (hZ : Z.Warmed39 s.vm) {own C : String} {index sz : Nat} (hown : s.vm.findClass own = some m.cls) (w : (Jvm.Cond.classLink own index C).before a0 Z = true) (wi : (Jvm.Cond.instantiable C sz).before a0 Z = true) (wz : (Jvm.Cond.initialized C).before a0 Z = true) (eT : T.heap = h) (hd : decode c.code pc = .ok (.new index, 3)) (hc : cells + 1 ≤ R.cells) (hl : slots + sz ≤ R.slots) (hq : pc + 3 = q)
    (g : ∀ T' h' b, b = h.size → Stand p l e R s m args below meth c T' locs (cells + 1) (slots + sz) → T'.heap = h' → Ext h h' → Exa Z h' b C → (∀ {O nm d : String} {ty : FieldType}, Laid Z a0 C O nm d → parseFieldDescriptor d = some ty → Fld Z h' b O nm d (defaultValue ty)) → own_G p e below FF (T'.setTop (mkF m q Ls (.ref b :: st)))) :
    own_G p e below FF (T.setTop (mkF m pc Ls st)) := by
  subst hq
  obtain ⟨T', h', X', e', E, A, D, -, stp⟩ := newO X hx hZ hown w wi wz eT (g := mkF m pc Ls st) rfl hd hc hl
  exact (g T' h' h.size rfl X' e' E A D).via stp
theorem own_initO (X : Stand p l e R s m args below meth c T locs cells slots) (hx : p.tables.exec = Jvm.exec) (hZ : Z.Warmed39 s.vm) {own : String} {idx : Nat} (hown : s.vm.findClass own = some m.cls) (w1 : (Jvm.Cond.methodLink own idx Lib.objectInit).before a0 Z = true) (w2 : (Jvm.Cond.instanceMethod Lib.objectInit).before a0 Z = true)
    (w3 : (Jvm.Cond.code Lib.objectInit ⟨#[0xb1]⟩ 1 none).before a0 Z = true) (eT : T.heap = h) (hsize : Ls.size = c.maxLocals) (hd : decode c.code pc = .ok (.invokespecial idx, 3)) (hf : 1 ≤ R.frames) {W : Nat} (hW : (rest.map fun v => v.category).sum = W) (hl : W + 12 ≤ R.locals) (hq : pc + 3 = q)
    (g : ∀ T', Stand p l e R s m args below meth c T' locs cells slots → T'.heap = h → own_G p e below FF (T'.setTop (mkF m q Ls rest))) :
    own_G p e below FF (T.setTop (mkF m pc Ls (.ref a :: rest))) := by
  subst hq
  obtain ⟨T', X', e', st⟩ := initO X hx hZ hown w1 w2 w3 eT (g := mkF m pc Ls (.ref a :: rest)) rfl hsize rfl hd hf (W := W) (by show 2 * 0 + _ ≤ _; rw [hW]; omega) hl
  exact (g T' X' e').via st
theorem own_putF (X : Stand p l e R s m args below meth c T locs cells slots) (hx : p.tables.exec = Jvm.exec) (hZ : Z.Warmed39 s.vm) {own O nm d C : String} {index kk : Nat} {ft : FieldType} (hown : s.vm.findClass own = some m.cls) (w : (Jvm.Cond.fieldLink own index O nm d).before a0 Z = true)
    (eT : T.heap = h) {old : Value} (F : Fld Z h a O nm d old) (E : Exa Z h a C) (L : (Jvm.Cond.lays C O nm d).before a0 Z = true ∨ ((Jvm.Cond.laysFinal C O nm d).before a0 Z = true ∧ own = O ∧ meth.name = "<init>")) (wi : (Jvm.Cond.instantiable C kk).before a0 Z = true)
    (hty : parseFieldDescriptor d = some ft) (hn : narrow ft v = v) (hf : fits ft v = true) (hd : decode c.code pc = .ok (.putfield index, 3)) (Nf : Fr n0 locs) (ha : n0 ≤ a) (hq : pc + 3 = q)
    (g : ∀ T' h' L', Stand p l e R s m args below meth c T' L' cells slots → Fr n0 L' → T'.heap = h' → Wr h h' a (Jvm.RoadKit.slotOf Z O nm d) v → own_G p e below FF (T'.setTop (mkF m q Ls rest))) :
    own_G p e below FF (T.setTop (mkF m pc Ls (v :: .ref a :: rest))) := by
  subst hq
  obtain ⟨T', h', X', e', W, st⟩ := putF X hx hZ hown (host := "") (Or.inl w) Via.refl eT F E L wi hty hn hf (g := mkF m pc Ls (v :: .ref a :: rest)) rfl rfl hd
  exact (g T' h' _ X' (Fr.snoc X' Nf ha) e' W).via st
theorem own_getF (X : Stand p l e R s m args below meth c T locs cells slots) (hx : p.tables.exec = Jvm.exec) (hZ : Z.Warmed39 s.vm) {own O nm d : String} {index : Nat} (hown : s.vm.findClass own = some m.cls) (w : (Jvm.Cond.fieldLink own index O nm d).before a0 Z = true)
    (eT : T.heap = h) (F : Fld Z h a O nm d v) (hd : decode c.code pc = .ok (.getfield index, 3)) (hq : pc + 3 = q)
    (g : ∀ T', Stand p l e R s m args below meth c T' locs cells slots → T'.heap = h → own_G p e below FF (T'.setTop (mkF m q Ls (v :: rest)))) :
    own_G p e below FF (T.setTop (mkF m pc Ls (.ref a :: rest))) := by
  subst hq
  obtain ⟨T', X', e', st⟩ := getF X hx hZ hown (host := "") (Or.inl w) Via.refl eT F (g := mkF m pc Ls (.ref a :: rest)) rfl rfl hd
  exact (g T' X' e').via st
theorem own_getS (X : Stand p l e R s m args below meth c T locs cells slots) (hx : p.tables.exec = Jvm.exec) (hZ : Z.Warmed39 s.vm) {own O nm d : String} {index : Nat} (hown : s.vm.findClass own = some m.cls) (w : (Jvm.Cond.fieldLink own index O nm d).before a0 Z = true)
    (eT : T.heap = h) (F : Sta Z h O nm d v) (hd : decode c.code pc = .ok (.getstatic index, 3)) (hq : pc + 3 = q)
    (g : ∀ T', Stand p l e R s m args below meth c T' locs cells slots → T'.heap = h → own_G p e below FF (T'.setTop (mkF m q Ls (v :: st)))) :
    own_G p e below FF (T.setTop (mkF m pc Ls st)) := by
  subst hq
  obtain ⟨T', X', e', stp⟩ := getS X hx hZ (host := "") hown w Via.refl eT F (g := mkF m pc Ls st) rfl hd
  exact (g T' X' e').via stp
theorem own_retA (X : Stand p l e R s m args below meth c T locs cells slots) (hx : p.tables.exec = Jvm.exec) {t : FieldType} (hv : v.isRef = true) (hret : meth.sig.returnType = some t) (ht : t.isReference = true) (hlk : meth.locks = false) (hd : decode c.code pc = .ok (.areturn, 1)) (hk : cells ≤ k) (hn : slots ≤ n) (hq : Q (some v) T.heap locs) :
    own_G p e below (own_En s k n Q) (T.setTop (mkF m pc Ls [v])) := by
  obtain ⟨fs, hr, hrun, hended, hW, hsame⟩ := X.leave (v := some v) (fun h => by rw [hret] at h; cases h) hlk
  exact ⟨_, _, X.areturnOut hx hv hret ht hd hr, hrun, hended, _, hq, ⟨_, rfl⟩, hW, hsame.mono hk hn⟩
theorem own_newR (X : Stand p l e R s m args below meth c T locs cells slots) (hx : p.tables.exec = Jvm.exec) (hZ : Z.Warmed39 s.vm) {own C : String} {index : Nat} (hown : s.vm.findClass own = some m.cls) (w1 : (Jvm.Cond.classLink own index C).before a0 Z = true) (w2 : (Jvm.Cond.arrayOver (.object C)).before a0 Z = true) (eT : T.heap = h) (hd : decode c.code pc = .ok (.anewarray index, 3)) (hn : j.toInt = (N : Int)) {cap : Nat} (hcap : N ≤ cap) (hb : cap * 8 ≤ 536870912) (hc : cells + 1 ≤ R.cells) (hl : slots + cap ≤ R.slots) (hq : pc + 3 = q)
    (g : ∀ T' h' b, b = h.size → Stand p l e R s m args below meth c T' locs (cells + 1) (slots + cap) → T'.heap = h' → Ext h h' → own_Arr Z h' b (.object C) N (fun _ => .null) → (∃ cl, Arr Z h' b cl (.object C) ∧ Ovr Z cl.cls C) → own_G p e below FF (T'.setTop (mkF m q Ls (.ref b :: rest)))) :
    own_G p e below FF (T.setTop (mkF m pc Ls (.int j :: rest))) := by
  subst hq
  have hN : j.toNatClampNeg = N := by show j.toInt.toNat = N; omega
  have hn0 : ¬ j < 0 := fun q => by have := Int32.lt_iff_toInt_lt.mp q; have : (0 : Int32).toInt = 0 := rfl; omega
  obtain ⟨T', h', cA, X', e', E, A, O, st⟩ := newR X hx hZ hown w1 w2 eT (g := mkF m pc Ls (.int j :: rest)) rfl hd rfl hn0 (cap := cap) (by rw [hN]; exact hcap) hb hc hl
  refine (g T' h' h.size rfl X' e' E ⟨_, A, by rw [sz_new]; exact hN, ?_, fun t ht => ?_⟩ ⟨_, A, O⟩).via st
  · have := (back32 hn0).2; omega
  · show (Array.replicate j.toNatClampNeg _)[t]? = _
    rw [Array.getElem?_replicate, if_pos (by omega)]; rfl
theorem own_ovr_keep {C : String} (F : ∃ cl : Cell, Arr Z h a cl (.object C) ∧ Ovr Z cl.cls C) (W : Wr h h' a i v) : ∃ cl : Cell, Arr Z h' a cl (.object C) ∧ Ovr Z cl.cls C := by
  obtain ⟨cl, A, O⟩ := F
  exact ⟨_, Arr.same W A, O⟩
theorem own_stR {C : String} (X : Stand p l e R s m args below meth c T locs cells slots) (hx : p.tables.exec = Jvm.exec) (hZ : Z.Warmed39 s.vm) (eT : T.heap = h) (A : own_Arr Z h a (.object C) N f) (O : ∃ cl : Cell, Arr Z h a cl (.object C) ∧ Ovr Z cl.cls C) (I : Ins Z h b C true) (hd : decode c.code pc = .ok (.aastore, 1)) (hj : j.toInt = (i : Int)) (hi : i < N) (Nf : Fr n0 locs) (ha : n0 ≤ a) (hq : pc + 1 = q)
    (g : ∀ T' h' L', Stand p l e R s m args below meth c T' L' cells slots → Fr n0 L' → T'.heap = h' → own_Arr Z h' a (.object C) N (own_upd f i (.ref b)) → (∃ cl : Cell, Arr Z h' a cl (.object C) ∧ Ovr Z cl.cls C) → Wr h h' a i (.ref b) → own_G p e below FF (T'.setTop (mkF m q Ls rest))) :
    own_G p e below FF (T.setTop (mkF m pc Ls (.ref b :: .int j :: .ref a :: rest))) := by
  subst hq
  have A0 := A
  have O0 := O
  obtain ⟨cl, Ar, S, hN, H⟩ := A
  obtain ⟨cl', Ar', Ov⟩ := O
  cases Ar.1.symm.trans Ar'.1
  obtain ⟨h1, h2⟩ := own_idx (N := cl.slots.size) hj (by omega)
  obtain ⟨T', h', X', e', W, st⟩ := stR X hx hZ eT Ar (j := j) (v := .ref b) h1 rfl (Sto.of Ar Ov I) (g := mkF m pc Ls (.ref b :: .int j :: .ref a :: rest)) rfl rfl hd
  have N' := Fr.snoc X' Nf ha
  rw [h2] at W
  exact (g T' h' _ X' N' e' (A0.set W) (own_ovr_keep O0 W) W).via st
theorem own_aaload {C : String} (X : Stand p l e R s m args below meth c T locs cells slots) (hx : p.tables.exec = Jvm.exec) (hZ : Z.Warmed39 s.vm) (eT : T.heap = h) (A : own_Arr Z h a (.object C) N f) (hd : decode c.code pc = .ok (.aaload, 1)) (hj : j.toInt = (i : Int)) (hi : i < N) (hv : f i = v) (hq : pc + 1 = q)
    (g : own_G p e below FF (T.setTop (mkF m q Ls (v :: rest)))) :
    own_G p e below FF (T.setTop (mkF m pc Ls (.int j :: .ref a :: rest))) := by
  subst hq
  obtain ⟨cl, Ar, S, hN, H⟩ := A
  obtain ⟨h1, h2⟩ := own_idx (N := cl.slots.size) hj (by omega)
  exact g.via fun t => X.aaload hx (j := j) (v := v) (by rw [eT]; exact Ar.1) (State.isArrayOf_alike hZ.alike Ar.2.1) rfl Ar.2.2 h1 (by rw [h2, ← hv]; exact H i hi) (g := mkF m pc Ls (.int j :: .ref a :: rest)) rfl rfl hd t
theorem own_acmp (X : Stand p l e R s m args below meth c T locs cells slots) (hx : p.tables.exec = Jvm.exec) {cd : ClassFile.ACond} {o : Int} {P : Prop} [Decidable P] {u v : Value} (hd : decode c.code pc = .ok (.if_acmp cd o, 3)) (ho : 0 ≤ (pc : Int) + o) (hp : ((pc : Int) + o).toNat = q) (hq : pc + 3 = q') (hu : u.isRef = true) (hv : v.isRef = true) (hP : XT.acmp cd u v = decide P) (gy : P → own_G p e below FF (T.setTop (mkF m q Ls rest))) (gn : ¬ P → own_G p e below FF (T.setTop (mkF m q' Ls rest))) : own_G p e below FF (T.setTop (mkF m pc Ls (v :: u :: rest))) := by
  by_cases h : P
  · exact (gy h).via fun _ hr => XT.acmpYes (g := mkF m pc Ls (v :: u :: rest)) X.here hx rfl (pc0 := pc) rfl hd rfl hu hv (by rw [hP]; exact decide_eq_true h) ho hp hr
  · subst hq; exact (gn h).via fun _ hr => XT.acmpNo (g := mkF m pc Ls (v :: u :: rest)) X.here hx rfl hd rfl hu hv (by rw [hP]; exact decide_eq_false h) hr
theorem own_callVP {C own : String} {index : Nat} {y : MethodName} {bytes : ByteArray} {maxL : Nat} {ret : Option FieldType} (X : Stand p l e R s m args below meth c T locs cells slots) (hx : p.tables.exec = Jvm.exec) (hZ : Z.Warmed39 s.vm)
    (hown : s.vm.findClass own = some m.cls) (w1 : (Jvm.Cond.methodLink own index y).before a0 Z = true) (w2 : (Jvm.Cond.declares y).before a0 Z = true) (w3 : (Jvm.Cond.selects C y y).before a0 Z = true) (w4 : (Jvm.Cond.instanceMethod y).before a0 Z = true) (w5 : (Jvm.Cond.code y bytes maxL ret).before a0 Z = true) (w6 : (Jvm.Cond.initialized y.cls).before a0 Z = true)
    (hy : y.cls ≠ "java/lang/invoke/MethodHandle" ∧ y.cls ≠ "java/lang/invoke/VarHandle") {rm : Room} {as' : Array Value} {P : Value → Prop} {W : Nat}
    (hM : MetFree l y (head1 [Jvm.Cond.code y bytes maxL ret] rm) (fun a U => a = as' ∧ Z.Warmed39 U.vm ∧ U.heap = h) (fun _ _ _ _ _ => True) (fun _ U o U' => ∃ v L, o = .returned v ∧ ((∃ w, v = some w ∧ P w) ∧ L = [] ∧ U'.heap = h) ∧ FrameEnd U o U' L rm.cells rm.slots))
    (E : Exa Z h b C) (hf : rm.frames + 1 ≤ R.frames) (hl : W + (maxL + 11) + rm.locals ≤ R.locals) (eT : T.heap = h) (hsize : Ls.size = c.maxLocals) {argsL : List Value}
    (hlen : ∀ sig, parseMethodDescriptor y.desc = some sig → argsL.length = sig.parameters.length) (hst : st = argsL.reverse ++ .ref b :: rest) (hW : (rest.map fun v => v.category).sum = W) (hd : decode c.code pc = .ok (.invokevirtual index, 3)) (hq : pc + 3 = q) (has : (.ref b :: argsL).toArray = as') (hc : rm.cells = 0) (hs : rm.slots = 0) (hcc : cells ≤ R.cells) (hss : slots ≤ R.slots)
    (g : ∀ w T', P w → Stand p l e R s m args below meth c T' locs cells slots → T'.heap = h → own_G p e below FF (T'.setTop (mkF m q Ls (w :: rest)))) :
    own_G p e below FF (T.setTop (mkF m pc Ls st)) := by
  refine own_callV (Q' := fun v U L => (∃ w, v = some w ∧ P w) ∧ L = [] ∧ U = h) X hx hZ hown w1 w2 w3 w4 w5 w6 hy hM E hf hl eT hsize hlen hst hW hd hq has (by rw [hc]; exact hcc) (by rw [hs]; exact hss) ?_
  rintro v T' L ⟨⟨w, rfl, hP⟩, rfl, e'⟩ X'
  rw [List.append_nil, hc, hs] at X'
  exact g w T' hP X' e'
/-- a private method by invokevirtual, the heap left as it was -/
theorem own_callPP {C own : String} {index kk : Nat} {y : MethodName} {bytes : ByteArray} {maxL : Nat} {ret : Option FieldType} (X : Stand p l e R s m args below meth c T locs cells slots) (hx : p.tables.exec = Jvm.exec) (hZ : Z.Warmed39 s.vm)
    (hown : s.vm.findClass own = some m.cls) (w1 : (Jvm.Cond.methodLink own index y).before a0 Z = true) (w2 : (Jvm.Cond.privateMethod y).before a0 Z = true) (w3 : (Jvm.Cond.instantiable y.cls kk).before a0 Z = true) (w4 : (Jvm.Cond.instanceMethod y).before a0 Z = true) (w5 : (Jvm.Cond.code y bytes maxL ret).before a0 Z = true) (w6 : (Jvm.Cond.initialized y.cls).before a0 Z = true)
    (hy : y.cls ≠ "java/lang/invoke/MethodHandle" ∧ y.cls ≠ "java/lang/invoke/VarHandle") {rm : Room} {as' : Array Value} {P : Value → Prop} {W : Nat}
    (hM : MetFree l y (head1 [Jvm.Cond.code y bytes maxL ret] rm) (fun a U => a = as' ∧ Z.Warmed39 U.vm ∧ U.heap = h) (fun _ _ _ _ _ => True) (fun _ U o U' => ∃ v L, o = .returned v ∧ ((∃ w, v = some w ∧ P w) ∧ L = [] ∧ U'.heap = h) ∧ FrameEnd U o U' L rm.cells rm.slots))
    (E : Exa Z h b C) (hf : rm.frames + 1 ≤ R.frames) (hl : W + (maxL + 11) + rm.locals ≤ R.locals) (eT : T.heap = h) (hsize : Ls.size = c.maxLocals) {argsL : List Value}
    (hlen : ∀ sig, parseMethodDescriptor y.desc = some sig → argsL.length = sig.parameters.length) (hst : st = argsL.reverse ++ .ref b :: rest) (hW : (rest.map fun v => v.category).sum = W) (hd : decode c.code pc = .ok (.invokevirtual index, 3)) (hq : pc + 3 = q) (has : (.ref b :: argsL).toArray = as') (hc : rm.cells = 0) (hs : rm.slots = 0) (hcc : cells ≤ R.cells) (hss : slots ≤ R.slots)
    (g : ∀ w T', P w → Stand p l e R s m args below meth c T' locs cells slots → T'.heap = h → own_G p e below FF (T'.setTop (mkF m q Ls (w :: rest)))) :
    own_G p e below FF (T.setTop (mkF m pc Ls st)) := by
  subst hq hst
  obtain ⟨cq, q1, q2⟩ := E.cell
  have hi := mvT (args := args) hZ w4
  have hp := Cond.privateMethod_at (mvP (args := #[]) hZ w2)
  obtain ⟨ci, ki, f1, f2, -, f3, -⟩ := Cond.instantiable_spec (mvT (args := args) hZ w3)
  have hsel := selects_self_of_private f1 f2 (Bool.or_eq_false_iff.mp f3).1 hp hi hy
  obtain ⟨v, _, ⟨T7, L7, k7, n7⟩, -, X7, ⟨Lc7, hQ7, l7, y7, z7⟩, st7⟩ := X.privateBack hx hown (mvT hZ w1) hi hsel hp (mvT hZ w5) hy (backOf (W := W) (Q := fun v U L => (∃ w, v = some w ∧ P w) ∧ L = [] ∧ U = h) hM hZ w5 w6 hf hl) (g := mkF m pc Ls (argsL.reverse ++ .ref b :: rest)) rfl hsize (Steps.refl _) (a := b) (by rw [eT]; exact q1) q2 (argsL := argsL) (rest := rest) hlen rfl (by show 2 * 0 + _ ≤ _; rw [hW]; omega) hd (fun _ _ => ⟨has, eT, by rw [hc]; exact hcc, by rw [hs]; exact hss⟩)
  dsimp only [Pt.U, Pt.locs, Pt.cells, Pt.slots] at X7 l7 y7 z7 st7 hQ7
  obtain ⟨⟨w, rfl, hP⟩, rfl, e'⟩ := hQ7
  rw [List.append_nil] at l7
  rw [hc] at y7
  rw [hs] at z7
  subst l7 y7 z7
  exact (g w T7 hP X7 e').via fun t hh => st7.trans hh
/-- a constructor that leaves the heap as it was (Record's, say) -/
theorem own_callNP {own : String} {index : Nat} {y : MethodName} {bytes : ByteArray} {maxL : Nat} (X : Stand p l e R s m args below meth c T locs cells slots) (hx : p.tables.exec = Jvm.exec) (hZ : Z.Warmed39 s.vm)
    (hyn : y.name = "<init>") (hown : s.vm.findClass own = some m.cls) (w1 : (Jvm.Cond.methodLink own index y).before a0 Z = true) (w2 : (Jvm.Cond.instanceMethod y).before a0 Z = true) (w3 : (Jvm.Cond.initialized y.cls).before a0 Z = true) (w4 : (Jvm.Cond.code y bytes maxL none).before a0 Z = true)
    (hy : y.cls ≠ "java/lang/invoke/MethodHandle" ∧ y.cls ≠ "java/lang/invoke/VarHandle") {rm : Room} {as' : Array Value} {W : Nat}
    (hM : MetFree l y (head1 [Jvm.Cond.code y bytes maxL none] rm) (fun a U => a = as' ∧ Z.Warmed39 U.vm ∧ U.heap = h) (fun _ _ _ _ _ => True) (fun _ U o U' => ∃ v L, o = .returned v ∧ (v = none ∧ L = [] ∧ U'.heap = h) ∧ FrameEnd U o U' L rm.cells rm.slots))
    (hf : rm.frames + 1 ≤ R.frames) (hl : W + (maxL + 11) + rm.locals ≤ R.locals) (eT : T.heap = h) (hsize : Ls.size = c.maxLocals) {argsL : List Value}
    (hlen : ∀ sig, parseMethodDescriptor y.desc = some sig → argsL.length = sig.parameters.length) (hst : st = argsL.reverse ++ .ref b :: rest) (hW : (rest.map fun v => v.category).sum = W) (hd : decode c.code pc = .ok (.invokespecial index, 3)) (hq : pc + 3 = q) (has : (.ref b :: argsL).toArray = as') (hc : rm.cells = 0) (hs : rm.slots = 0) (hcc : cells ≤ R.cells) (hss : slots ≤ R.slots)
    (g : ∀ T', Stand p l e R s m args below meth c T' locs cells slots → T'.heap = h → own_G p e below FF (T'.setTop (mkF m q Ls rest))) :
    own_G p e below FF (T.setTop (mkF m pc Ls st)) := by
  refine own_callN (Q' := fun v U L => v = none ∧ L = [] ∧ U = h) (b := b) X hx hZ hyn hown w1 w2 w3 w4 hy hM hf hl eT hsize hlen hst hW hd hq has (by rw [hc]; exact hcc) (by rw [hs]; exact hss) ?_
  rintro v T' L ⟨rfl, rfl, e'⟩ X'
  rw [List.append_nil, hc, hs] at X'
  exact g T' X' e'
theorem own_addL (x y : Int64) (h1 : -9223372036854775808 ≤ x.toInt + y.toInt) (h2 : x.toInt + y.toInt < 9223372036854775808) : (x + y).toInt = x.toInt + y.toInt := by
  have := c_ladd x y; have := rng64 (x + y); omega
theorem own_subL (x y : Int64) (h1 : -9223372036854775808 ≤ x.toInt - y.toInt) (h2 : x.toInt - y.toInt < 9223372036854775808) : (x - y).toInt = x.toInt - y.toInt := by
  have := c_lsub x y; have := rng64 (x - y); omega
theorem own_mulL (x y : Int64) (h1 : -9223372036854775808 ≤ x.toInt * y.toInt) (h2 : x.toInt * y.toInt < 9223372036854775808) : (x * y).toInt = x.toInt * y.toInt := by
  have := c_lmul x y; have := rng64 (x * y); omega
theorem own_nb (z : Int32) (h : z.toInt = 0 ∨ z.toInt = 1) : nar .boolean z = z := by
  rcases h with h | h
  · rw [show z = 0 from Int32.toInt_inj.mp h]; rfl
  · rw [show z = 1 from Int32.toInt_inj.mp h]; rfl
theorem own_rngU {f : Nat → Int32} (hf : ∀ j, -128 ≤ (f j).toInt ∧ (f j).toInt < 128) (i : Nat) (x : Int32) : ∀ j, -128 ≤ (own_updI f i (x.toInt8.toInt32) j).toInt ∧ (own_updI f i (x.toInt8.toInt32) j).toInt < 128 := by
  intro j
  by_cases q : j = i
  · subst q; rw [own_updI_same]; exact (c_i2b x).2
  · rw [own_updI_ne _ _ q]; exact hf j
theorem own_rng0 : ∀ j, -128 ≤ (own_zero j).toInt ∧ (own_zero j).toInt < 128 := fun _ => ⟨show (-128 : Int) ≤ (0 : Int32).toInt by decide, show (0 : Int32).toInt < (128 : Int) by decide⟩
end Own2
section Own3
variable {p : Program} {l : Launch} {e : Env} {R : Room} {s : State} {m : MethodId} {args : Array Value} {below : List Frame} {meth : Method} {c : Code} {T : State} {locs : List Loc} {cells slots : Nat} {k n : Nat} {Q : Option Value → Heap → List Loc → Prop} {FF : State → Option Value → Prop} {pc q q' : Nat} {Ls l' : Array Slot} {st rest : List Value} {Z : State} {a0 : Array Value} {h h' : Heap} {ws : List Addr}
theorem own_i2d (X : Stand p l e R s m args below meth c T locs cells slots) (hx : p.tables.exec = Jvm.exec) {x : Int32} (hd : decode c.code pc = .ok (.i2d, 1)) (hq : pc + 1 = q) (g : own_G p e below FF (T.setTop (mkF m q Ls (.double (FP.i2d x) :: rest)))) : own_G p e below FF (T.setTop (mkF m pc Ls (.int x :: rest))) := by
  subst hq; exact g.via fun _ hr_ => XS.i2dS (g := mkF m pc Ls (.int x :: rest)) X.here hx rfl hd rfl rfl hr_
theorem own_l2d (X : Stand p l e R s m args below meth c T locs cells slots) (hx : p.tables.exec = Jvm.exec) {x : Int64} (hd : decode c.code pc = .ok (.l2d, 1)) (hq : pc + 1 = q) (g : own_G p e below FF (T.setTop (mkF m q Ls (.double (FP.l2d x) :: rest)))) : own_G p e below FF (T.setTop (mkF m pc Ls (.long x :: rest))) := by
  subst hq; exact g.via fun _ hr_ => XS.l2dS (g := mkF m pc Ls (.long x :: rest)) X.here hx rfl hd rfl rfl hr_
theorem own_dload (X : Stand p l e R s m args below meth c T locs cells slots) (hx : p.tables.exec = Jvm.exec) {i : Nat} {v : UInt64} (hd : decode c.code pc = .ok (.dload i, 2)) (hl : Ls[i]? = some (.val (.double v))) (hq : pc + 2 = q) (g : own_G p e below FF (T.setTop (mkF m q Ls (.double v :: st)))) : own_G p e below FF (T.setTop (mkF m pc Ls st)) := by
  subst hq; exact g.via fun _ hr_ => XS.dload (g := mkF m pc Ls st) X.here hx rfl hd hl hr_
theorem own_dload_n (X : Stand p l e R s m args below meth c T locs cells slots) (hx : p.tables.exec = Jvm.exec) {i : Fin 4} {v : UInt64} (hd : decode c.code pc = .ok (.dload_n i, 1)) (hl : Ls[i.val]? = some (.val (.double v))) (hq : pc + 1 = q) (g : own_G p e below FF (T.setTop (mkF m q Ls (.double v :: st)))) : own_G p e below FF (T.setTop (mkF m pc Ls st)) := by
  subst hq; exact g.via fun _ hr_ => XS.dloadN (g := mkF m pc Ls st) X.here hx rfl hd hl hr_
theorem own_dstore (X : Stand p l e R s m args below meth c T locs cells slots) (hx : p.tables.exec = Jvm.exec) {i : Nat} {v : UInt64} (hd : decode c.code pc = .ok (.dstore i, 2)) (hl : storeLocals Ls i (.double v) = some l') (hq : pc + 2 = q) (g : own_G p e below FF (T.setTop (mkF m q l' rest))) : own_G p e below FF (T.setTop (mkF m pc Ls (.double v :: rest))) := by
  subst hq; exact g.via fun _ hr_ => XS.dstore (g := mkF m pc Ls (.double v :: rest)) X.here hx rfl hd rfl hl hr_
theorem own_dstore_n (X : Stand p l e R s m args below meth c T locs cells slots) (hx : p.tables.exec = Jvm.exec) {i : Fin 4} {v : UInt64} (hd : decode c.code pc = .ok (.dstore_n i, 1)) (hl : storeLocals Ls i.val (.double v) = some l') (hq : pc + 1 = q) (g : own_G p e below FF (T.setTop (mkF m q l' rest))) : own_G p e below FF (T.setTop (mkF m pc Ls (.double v :: rest))) := by
  subst hq; exact g.via fun _ hr_ => XS.dstoreN (g := mkF m pc Ls (.double v :: rest)) X.here hx rfl hd rfl hl hr_
theorem own_dcmp (X : Stand p l e R s m args below meth c T locs cells slots) (hx : p.tables.exec = Jvm.exec) {o : CmpOp} {x y : UInt64} {v : Int32} (hd : decode c.code pc = .ok (.dcmp o, 1)) (hv : cmpValue (FP.dcmp x y) o = v) (hq : pc + 1 = q) (g : own_G p e below FF (T.setTop (mkF m q Ls (.int v :: rest)))) : own_G p e below FF (T.setTop (mkF m pc Ls (.double y :: .double x :: rest))) := by
  subst hq; exact g.via fun _ hr_ => XS.dcmpS (g := mkF m pc Ls (.double y :: .double x :: rest)) X.here hx rfl hd rfl hv hr_
theorem own_ldcD (X : Stand p l e R s m args below meth c T locs cells slots) (hx : p.tables.exec = Jvm.exec) (hZ : Z.Warmed39 s.vm) {own : String} {index : Nat} {v : UInt64} (hown : s.vm.findClass own = some m.cls) (w : (Jvm.Cond.constantDouble own index v).before a0 Z = true) (hd : decode c.code pc = .ok (.ldc2_w index, 3)) (hq : pc + 3 = q)
    (g : own_G p e below FF (T.setTop (mkF m q Ls (.double v :: st)))) : own_G p e below FF (T.setTop (mkF m pc Ls st)) := by
  subst hq; exact g.via fun t => X.ldc2DoubleC hx hown (mvT hZ w) (g := mkF m pc Ls st) rfl hd t
theorem own_kext (K : Keep h h' []) : Ext h h' := ⟨K.1, fun x c q => K.2.1 x c q nin0⟩
end Own3
section Own4
variable {p : Program} {l : Launch} {e : Env} {R : Room} {s : State} {m : MethodId} {args : Array Value} {below : List Frame} {meth : Method} {c : Code} {T : State} {locs : List Loc} {cells slots : Nat} {k n : Nat} {Q : Option Value → Heap → List Loc → Prop} {FF : State → Option Value → Prop} {pc q q' : Nat} {Ls l' : Array Slot} {st rest : List Value} {Z : State} {a0 : Array Value} {h h' : Heap} {ws : List Addr} {a : Addr} {ty : FieldType} {N i n0 : Nat} {f : Nat → Value} {j : Int32}
theorem own_dmul (X : Stand p l e R s m args below meth c T locs cells slots) (hx : p.tables.exec = Jvm.exec) {x y : UInt64} (hd : decode c.code pc = .ok (.dmul, 1)) (hn : Jvm.Free.Fl.Fin64 (FP.dmul x y)) (hq : pc + 1 = q) (g : own_G p e below FF (T.setTop (mkF m q Ls (.double (FP.dmul x y) :: rest)))) : own_G p e below FF (T.setTop (mkF m pc Ls (.double y :: .double x :: rest))) := by
  subst hq; exact g.via fun _ hr_ => XS.dmulS (g := mkF m pc Ls (.double y :: .double x :: rest)) X.here hx rfl hd rfl hn.noNaN rfl hr_
theorem own_dadd (X : Stand p l e R s m args below meth c T locs cells slots) (hx : p.tables.exec = Jvm.exec) {x y : UInt64} (hd : decode c.code pc = .ok (.dadd, 1)) (hn : Jvm.Free.Fl.Fin64 (FP.dadd x y)) (hq : pc + 1 = q) (g : own_G p e below FF (T.setTop (mkF m q Ls (.double (FP.dadd x y) :: rest)))) : own_G p e below FF (T.setTop (mkF m pc Ls (.double y :: .double x :: rest))) := by
  subst hq; exact g.via fun _ hr_ => XS.daddS (g := mkF m pc Ls (.double y :: .double x :: rest)) X.here hx rfl hd rfl hn.noNaN rfl hr_
theorem own_ddiv (X : Stand p l e R s m args below meth c T locs cells slots) (hx : p.tables.exec = Jvm.exec) {x y : UInt64} (hd : decode c.code pc = .ok (.ddiv, 1)) (hn : Jvm.Free.Fl.Fin64 (FP.ddiv x y)) (hq : pc + 1 = q) (g : own_G p e below FF (T.setTop (mkF m q Ls (.double (FP.ddiv x y) :: rest)))) : own_G p e below FF (T.setTop (mkF m pc Ls (.double y :: .double x :: rest))) := by
  subst hq; exact g.via fun _ hr_ => XS.ddivS (g := mkF m pc Ls (.double y :: .double x :: rest)) X.here hx rfl hd rfl hn.noNaN rfl hr_
theorem own_dconst0 (X : Stand p l e R s m args below meth c T locs cells slots) (hx : p.tables.exec = Jvm.exec) (hd : decode c.code pc = .ok (.dconst 0, 1)) (hq : pc + 1 = q) (g : own_G p e below FF (T.setTop (mkF m q Ls (.double FP.dconst0 :: st)))) : own_G p e below FF (T.setTop (mkF m pc Ls st)) := by
  subst hq; exact g.via fun _ hr_ => XS.dconst0 (g := mkF m pc Ls st) X.here hx rfl hd rfl hr_
theorem own_dconst1 (X : Stand p l e R s m args below meth c T locs cells slots) (hx : p.tables.exec = Jvm.exec) (hd : decode c.code pc = .ok (.dconst 1, 1)) (hq : pc + 1 = q) (g : own_G p e below FF (T.setTop (mkF m q Ls (.double FP.dconst1 :: st)))) : own_G p e below FF (T.setTop (mkF m pc Ls st)) := by
  subst hq; exact g.via fun _ hr_ => XS.dconst1 (g := mkF m pc Ls st) X.here hx rfl hd rfl hr_
theorem own_newPD (X : Stand p l e R s m args below meth c T locs cells slots) (hx : p.tables.exec = Jvm.exec) (hZ : Z.Warmed39 s.vm) {aty : ArrayType} (w : (Jvm.Cond.arrayClass (newarray.typeOf aty)).before a0 Z = true) (eT : T.heap = h) (hd : decode c.code pc = .ok (.newarray aty, 2)) (hn : j.toInt = (N : Int)) {cap : Nat} (hcap : N ≤ cap) (hb : cap * 8 ≤ 536870912) (hc : cells + 1 ≤ R.cells) (hl : slots + cap ≤ R.slots) {ad : String} (had : "[" ++ (newarray.typeOf aty).toString = ad) (hq : pc + 2 = q)
    (g : ∀ T' h' b, b = h.size → Stand p l e R s m args below meth c T' locs (cells + 1) (slots + cap) → T'.heap = h' → Ext h h' → own_Arr Z h' b (newarray.typeOf aty) N (fun _ => defaultValue (newarray.typeOf aty)) → Exa Z h' b ad → own_G p e below FF (T'.setTop (mkF m q Ls (.ref b :: rest)))) :
    own_G p e below FF (T.setTop (mkF m pc Ls (.int j :: rest))) := by
  subst hq
  have hN : j.toNatClampNeg = N := by show j.toInt.toNat = N; omega
  have hn0 : ¬ j < 0 := fun q => by have := Int32.lt_iff_toInt_lt.mp q; have : (0 : Int32).toInt = 0 := rfl; omega
  obtain ⟨T', h', cA, X', e', E, A, Ex, st⟩ := newPE X hx hZ w eT (g := mkF m pc Ls (.int j :: rest)) rfl hd rfl hn0 (cap := cap) (by rw [hN]; exact hcap) hb hc hl had
  refine (g T' h' h.size rfl X' e' E ⟨_, A, by rw [sz_new]; exact hN, ?_, fun t ht => ?_⟩ Ex).via st
  · have := (back32 hn0).2; omega
  · show (Array.replicate j.toNatClampNeg _)[t]? = _
    rw [Array.getElem?_replicate, if_pos (by omega)]
theorem own_stD (X : Stand p l e R s m args below meth c T locs cells slots) (hx : p.tables.exec = Jvm.exec) (hZ : Z.Warmed39 s.vm) (eT : T.heap = h) {x : UInt64} (A : own_Arr Z h a .double N f) (hd : decode c.code pc = .ok (.dastore, 1)) (hj : j.toInt = (i : Int)) (hi : i < N) (Nf : Fr n0 locs) (ha : n0 ≤ a) (hq : pc + 1 = q)
    (g : ∀ T' h' L', Stand p l e R s m args below meth c T' L' cells slots → Fr n0 L' → T'.heap = h' → own_Arr Z h' a .double N (own_upd f i (.double x)) → Wr h h' a i (.double x) → own_G p e below FF (T'.setTop (mkF m q Ls rest))) :
    own_G p e below FF (T.setTop (mkF m pc Ls (.double x :: .int j :: .ref a :: rest))) := by
  subst hq
  have A0 := A
  obtain ⟨cl, Ar, S, hN, H⟩ := A
  obtain ⟨h1, h2⟩ := own_idx (N := cl.slots.size) hj (by omega)
  obtain ⟨T', h', X', e', W, st⟩ := stD X hx hZ eT Ar (j := j) (x := x) h1 (g := mkF m pc Ls (.double x :: .int j :: .ref a :: rest)) rfl rfl hd
  have N' := Fr.snoc X' Nf ha
  rw [h2] at W
  exact (g T' h' _ X' N' e' (A0.set W) W).via st
theorem own_arraylength (X : Stand p l e R s m args below meth c T locs cells slots) (hx : p.tables.exec = Jvm.exec) (hZ : Z.Warmed39 s.vm) (eT : T.heap = h) (A : own_Arr Z h a ty N f) (hd : decode c.code pc = .ok (.arraylength, 1)) {v : Int32} (hv : N.toInt32 = v) (hq : pc + 1 = q)
    (g : own_G p e below FF (T.setTop (mkF m q Ls (.int v :: rest)))) :
    own_G p e below FF (T.setTop (mkF m pc Ls (.ref a :: rest))) := by
  subst hq hv
  obtain ⟨cl, Ar, S, hN, H⟩ := A
  subst S
  exact g.via fun t => X.arraylength hx (by rw [eT]; exact Ar.1) (State.isArrayOf_alike hZ.alike Ar.2.1) (g := mkF m pc Ls (.ref a :: rest)) rfl rfl hd t
theorem own_clone {own ad : String} {index : Nat} (X : Stand p l e R s m args below meth c T locs cells slots) (hx : p.tables.exec = Jvm.exec) (hZ : Z.Warmed39 s.vm) (hown : s.vm.findClass own = some m.cls)
    (w1 : (Jvm.Cond.methodLink own index ⟨ad, "clone", "()Ljava/lang/Object;"⟩).before a0 Z = true) (w2 : (Jvm.Cond.sameMethod ad "java/lang/Object" "clone" "()Ljava/lang/Object;").before a0 Z = true) (w3 : (Jvm.Cond.native ⟨"java/lang/Object", "clone", "()Ljava/lang/Object;"⟩).before a0 Z = true)
    (w4 : (Jvm.Cond.instanceMethod ⟨"java/lang/Object", "clone", "()Ljava/lang/Object;"⟩).before a0 Z = true) (w5 : (Jvm.Cond.selects ad ⟨ad, "clone", "()Ljava/lang/Object;"⟩ ⟨"java/lang/Object", "clone", "()Ljava/lang/Object;"⟩).before a0 Z = true) (w6 : (Jvm.Cond.castable ad "java/lang/Cloneable").before a0 Z = true)
    (eT : T.heap = h) (A : own_Arr Z h a ty N f) (E : Exa Z h a ad) (hf : ∀ i, i < N → fits ty (f i) = true) (hsize : Ls.size = c.maxLocals) (hd : decode c.code pc = .ok (.invokevirtual index, 3)) (hfr : 1 ≤ R.frames) {W cap : Nat} (hW : (rest.map fun v => v.category).sum = W) (hl : W + 14 ≤ R.locals) (hcap : N ≤ cap) (hc : cells + 1 ≤ R.cells) (hsl : slots + cap ≤ R.slots) (hq : pc + 3 = q)
    (g : ∀ T' h' b, b = h.size → Stand p l e R s m args below meth c T' locs (cells + 1) (slots + cap) → T'.heap = h' → Ext h h' → Exa Z h' b ad → own_G p e below FF (T'.setTop (mkF m q Ls (.ref b :: rest)))) :
    own_G p e below FF (T.setTop (mkF m pc Ls (.ref a :: rest))) := by
  subst hq
  obtain ⟨cl, Ar, S, hN, H⟩ := A
  have F : FitC Z cl := fitC_of Ar (fun i hi v hv => by rw [H i (by omega)] at hv; cases hv; exact hf i (by omega))
  obtain ⟨T', h', X', e', Ee, A', Ex, st⟩ := cloneA X hx hZ hown w1 w2 w3 w4 w5 w6 eT Ar E F (g := mkF m pc Ls (.ref a :: rest)) rfl hsize rfl hd hfr (W := W) (cap := cap) (by show 2 * 0 + _ ≤ _; rw [hW]; omega) hl (by omega) hc hsl
  exact (g T' h' h.size rfl X' e' Ee Ex).via st
theorem own_cast {own K : String} {index : Nat} (X : Stand p l e R s m args below meth c T locs cells slots) (hx : p.tables.exec = Jvm.exec) (hZ : Z.Warmed39 s.vm) (hown : s.vm.findClass own = some m.cls) (w : (Jvm.Cond.classLink own index K).before a0 Z = true) (eT : T.heap = h) (F : Ins Z h a K true) (hd : decode c.code pc = .ok (.checkcast index, 3)) (hq : pc + 3 = q)
    (g : ∀ T', Stand p l e R s m args below meth c T' locs cells slots → T'.heap = h → own_G p e below FF (T'.setTop (mkF m q Ls (.ref a :: rest)))) :
    own_G p e below FF (T.setTop (mkF m pc Ls (.ref a :: rest))) := by
  subst hq
  obtain ⟨T', X', e', st⟩ := castY X hx hZ hown w eT F (g := mkF m pc Ls (.ref a :: rest)) rfl rfl hd
  exact (g T' X' e').via st
theorem own_retD (X : Stand p l e R s m args below meth c T locs cells slots) (hx : p.tables.exec = Jvm.exec) {z : UInt64} (hret : meth.sig.returnType = some .double) (hlk : meth.locks = false) (hd : decode c.code pc = .ok (.dreturn, 1)) (hk : cells ≤ k) (hn : slots ≤ n) (hq : Q (some (.double z)) T.heap locs) :
    own_G p e below (own_En s k n Q) (T.setTop (mkF m pc Ls [.double z])) := by
  obtain ⟨fs, hr, hrun, hended, hW, hsame⟩ := X.leave (v := some (.double z)) (fun h => by rw [hret] at h; cases h) hlk
  have hm' : T.vm.method? m = some meth := X.method'
  refine ⟨_, _, ?_, hrun, hended, _, hq, ⟨_, rfl⟩, hW, hsame.mono hk hn⟩
  show Steps p.tables e below (T.setTop { method := m, pc := pc, locals := Ls, stack := [.double z], locked := none }) _
  jvm_step X.here [X.here.top, hx, hd, hm', hret]
  first | (intro acts; rw [hr _ acts rfl rfl rfl]) | rw [hr _ _ rfl rfl rfl]
  exact Steps.refl _
end Own4
section Own6
variable {p : Program} {l : Launch} {e : Env} {R : Room} {s : State} {m : MethodId} {args : Array Value} {below : List Frame} {meth : Method} {c : Code} {T : State} {locs : List Loc} {cells slots : Nat} {FF : State → Option Value → Prop} {pc q : Nat} {Ls l' : Array Slot} {st rest : List Value}
theorem own_dneg (X : Stand p l e R s m args below meth c T locs cells slots) (hx : p.tables.exec = Jvm.exec) {x : UInt64} (hd : decode c.code pc = .ok (.dneg, 1)) (hq : pc + 1 = q) (g : own_G p e below FF (T.setTop (mkF m q Ls (.double (FP.dneg x) :: rest)))) : own_G p e below FF (T.setTop (mkF m pc Ls (.double x :: rest))) := by
  subst hq; exact g.via fun _ hr_ => XS.dnegS (g := mkF m pc Ls (.double x :: rest)) X.here hx rfl hd rfl rfl hr_
theorem own_d2f (X : Stand p l e R s m args below meth c T locs cells slots) (hx : p.tables.exec = Jvm.exec) {x : UInt64} (hd : decode c.code pc = .ok (.d2f, 1)) (hn : Jvm.Free.Fl.NoNaN32 (FP.d2f x)) (hq : pc + 1 = q) (g : own_G p e below FF (T.setTop (mkF m q Ls (.float (FP.d2f x) :: rest)))) : own_G p e below FF (T.setTop (mkF m pc Ls (.double x :: rest))) := by
  subst hq; exact g.via fun _ hr_ => XS.d2fS (g := mkF m pc Ls (.double x :: rest)) X.here hx rfl hd rfl hn rfl hr_
theorem own_fload (X : Stand p l e R s m args below meth c T locs cells slots) (hx : p.tables.exec = Jvm.exec) {i : Nat} {v : UInt32} (hd : decode c.code pc = .ok (.fload i, 2)) (hl : Ls[i]? = some (.val (.float v))) (hq : pc + 2 = q) (g : own_G p e below FF (T.setTop (mkF m q Ls (.float v :: st)))) : own_G p e below FF (T.setTop (mkF m pc Ls st)) := by
  subst hq; exact g.via fun _ hr_ => XS.fload (g := mkF m pc Ls st) X.here hx rfl hd hl hr_
theorem own_fstore (X : Stand p l e R s m args below meth c T locs cells slots) (hx : p.tables.exec = Jvm.exec) {i : Nat} {v : UInt32} (hd : decode c.code pc = .ok (.fstore i, 2)) (hl : storeLocals Ls i (.float v) = some l') (hq : pc + 2 = q) (g : own_G p e below FF (T.setTop (mkF m q l' rest))) : own_G p e below FF (T.setTop (mkF m pc Ls (.float v :: rest))) := by
  subst hq; exact g.via fun _ hr_ => XS.fstore (g := mkF m pc Ls (.float v :: rest)) X.here hx rfl hd rfl hl hr_
theorem own_fcmp (X : Stand p l e R s m args below meth c T locs cells slots) (hx : p.tables.exec = Jvm.exec) {o : CmpOp} {x y : UInt32} {v : Int32} (hd : decode c.code pc = .ok (.fcmp o, 1)) (hv : cmpValue (FP.fcmp x y) o = v) (hq : pc + 1 = q) (g : own_G p e below FF (T.setTop (mkF m q Ls (.int v :: rest)))) : own_G p e below FF (T.setTop (mkF m pc Ls (.float y :: .float x :: rest))) := by
  subst hq; exact g.via fun _ hr_ => XS.fcmpS (g := mkF m pc Ls (.float y :: .float x :: rest)) X.here hx rfl hd rfl hv hr_
end Own6
theorem own_pd0 : parseMethodDescriptor "(J)I" = some ⟨[.long], (some .int)⟩ := by decide +kernel
theorem own_pd1 : parseMethodDescriptor "(J)Z" = some ⟨[.long], (some .boolean)⟩ := by decide +kernel
theorem own_pd2 : parseMethodDescriptor "(J)J" = some ⟨[.long], (some .long)⟩ := by decide +kernel
theorem own_pd3 : parseMethodDescriptor "(JJ)J" = some ⟨[.long, .long], (some .long)⟩ := by decide +kernel
theorem own_pd4 : parseMethodDescriptor "(JJ)D" = some ⟨[.long, .long], (some .double)⟩ := by decide +kernel
theorem own_pd5 : parseMethodDescriptor "(DD)I" = some ⟨[.double, .double], (some .int)⟩ := by decide +kernel
section OwnM
open Jvm Jvm.FP Jvm.FP.Core
def own_V (X Y : Nat) (a : Int) : Prop := X * 2 ^ a.toNat = Y * 2 ^ (-a).toNat
theorem own_two {X Y : Nat} {a : Int} (h : own_V X Y a) {P S : Nat} (hp : (P : Int) - S = a) : X * 2 ^ P = Y * 2 ^ S := by
  unfold own_V at h
  rcases Int.le_total 0 a with q | q
  · rw [show (-a).toNat = 0 by omega] at h
    rw [show P = a.toNat + S by omega, Nat.pow_add, ← Nat.mul_assoc, h]; simp
  · rw [show a.toNat = 0 by omega] at h
    rw [show S = (-a).toNat + P by omega, Nat.pow_add, ← Nat.mul_assoc, ← h]; simp
theorem own_V.mk' {X Y : Nat} {a : Int} {P S : Nat} (hp : (P : Int) - S = a) (h : X * 2 ^ P = Y * 2 ^ S) : own_V X Y a := by
  unfold own_V
  rcases Int.le_total 0 a with q | q
  · have e : P = a.toNat + S := by omega
    rw [show (-a).toNat = 0 by omega]
    rw [e, Nat.pow_add, ← Nat.mul_assoc] at h
    simpa using Nat.eq_of_mul_eq_mul_right (Nat.two_pow_pos S) h
  · have e : S = (-a).toNat + P := by omega
    rw [show a.toNat = 0 by omega]
    rw [e, Nat.pow_add, ← Nat.mul_assoc] at h
    simpa using Nat.eq_of_mul_eq_mul_right (Nat.two_pow_pos P) h
/-- the double is exactly n * 2^e, and not below 0 -/
def own_D (n : Nat) (e : Int) (x : UInt64) : Prop := ∃ c q, val64 x = .fin false c q ∧ own_V c n (q - e)
theorem own_round {n : Nat} {e : Int} (hn : n < 2 ^ 53) (he : -900 ≤ e) (he' : e ≤ 900) {x : UInt64} (h : val64 x = round b64 (.fin false n e)) : own_D n e x := by
  by_cases h0 : n = 0
  · subst h0
    refine ⟨0, b64.qmin, h, ?_⟩
    unfold own_V; simp
  · have hl : n.log2 ≤ 52 := by have := (Nat.log2_lt h0).mpr hn; omega
    have h1 : 2 ^ n.log2 ≤ n := Nat.log2_self_le h0
    have h2 : n < 2 ^ (n.log2 + 1) := Nat.lt_log2_self
    have hf : Jvm.FP.Core.fits b64 (Datum.fin false (n * 2 ^ (52 - n.log2)) (e - ((52 - n.log2 : Nat) : Int))) := by
      refine ⟨?_, ?_, ?_, Or.inr ?_⟩
      · show n * 2 ^ (52 - n.log2) < 2 ^ 53
        calc n * 2 ^ (52 - n.log2) < 2 ^ (n.log2 + 1) * 2 ^ (52 - n.log2) := Nat.mul_lt_mul_of_pos_right h2 (Nat.two_pow_pos _)
          _ = 2 ^ 53 := by rw [← Nat.pow_add]; congr 1; omega
      · show (2 - ((1023 : Nat) : Int) - ((53 : Nat) : Int)) ≤ _; omega
      · show _ ≤ (((1023 : Nat) : Int) - ((53 : Nat) : Int) + 1); omega
      · show 2 ^ 52 ≤ n * 2 ^ (52 - n.log2)
        calc 2 ^ 52 = 2 ^ n.log2 * 2 ^ (52 - n.log2) := by rw [← Nat.pow_add]; congr 1; omega
          _ ≤ n * 2 ^ (52 - n.log2) := Nat.mul_le_mul_right _ h1
    have hr : round b64 (.fin false n e) = .fin false (n * 2 ^ (52 - n.log2)) (e - ((52 - n.log2 : Nat) : Int)) := by
      refine roundRatio_exact good_b64 (by decide) hf ?_
      rw [show (e - (e - ((52 - n.log2 : Nat) : Int))).toNat = 52 - n.log2 by omega, show (e - ((52 - n.log2 : Nat) : Int) - e).toNat = 0 by omega]
      simp
    refine ⟨_, _, h.trans hr, ?_⟩
    refine own_V.mk' (P := 0) (S := 52 - n.log2) (by omega) ?_
    simp
theorem own_D.nn {n : Nat} {e : Int} {x : UInt64} (h : own_D n e x) : val64 x ≠ .nan := by obtain ⟨c, q, h1, -⟩ := h; rw [h1]; exact fun q => nomatch q
theorem own_Dl {a : Int64} (h : 0 ≤ a.toInt) : val64 (Core.l2d a) = round b64 (.fin false a.toInt.toNat 0) := by
  rw [val64_l2d]
  show round b64 (.fin (decide (a.toInt < 0)) a.toInt.natAbs 0) = _
  rw [decide_eq_false (by omega), show a.toInt.natAbs = a.toInt.toNat by omega]
/-- times or over a power of two, exact -/
theorem own_Ddiv {n w : Nat} {x y : UInt64} (hx : own_D n 0 x) (hy : own_D (2 ^ w) 0 y) : val64 (Core.ddiv x y) = round b64 (.fin false n (-(w : Int))) := by
  obtain ⟨c, q, e1, v1⟩ := hx
  obtain ⟨d, r, e2, v2⟩ := hy
  rw [val64_ddiv, e1, e2]
  have hd : d ≠ 0 := fun z => by
    subst z
    unfold own_V at v2
    have := Nat.mul_pos (Nat.two_pow_pos w) (Nat.two_pow_pos (-(r - 0)).toNat)
    omega
  show (if d = 0 then (if c = 0 then Datum.nan else Datum.inf (false != false)) else roundRatio b64 (false != false) c d (q - r)) = roundRatio b64 false n 1 _
  rw [if_neg hd]
  refine roundRatio_congr (by omega) (by decide) ?_
  -- c * 1 * 2^(q - r + w) = n * d * 2^..
  have t1 := own_two v1 (P := q.toNat) (S := (-q).toNat) (by omega)
  have t2 := own_two v2 (P := r.toNat) (S := (-r).toNat) (by omega)
  have key : c * (2 ^ q.toNat * 2 ^ (-r).toNat * 2 ^ w) = n * d * (2 ^ (-q).toNat * 2 ^ r.toNat) := by
    calc c * (2 ^ q.toNat * 2 ^ (-r).toNat * 2 ^ w) = (c * 2 ^ q.toNat) * (2 ^ w * 2 ^ (-r).toNat) := by ac_rfl
      _ = (n * 2 ^ (-q).toNat) * (d * 2 ^ r.toNat) := by rw [t1, t2]
      _ = _ := by ac_rfl
  rw [← Nat.pow_add, ← Nat.pow_add, ← Nat.pow_add] at key
  have := own_two (own_V.mk' (a := q - r - -(w : Int)) (by omega) key) (P := (q - r - -(w : Int)).toNat) (S := (-(w : Int) - (q - r)).toNat) (by omega)
  simpa using this
theorem own_C120 : val64 (5147614374084476928 : UInt64) = .fin false (2 ^ 52) 68 := by decide +kernel
theorem own_Dmul {n : Nat} {x : UInt64} (hx : own_D n 0 x) : val64 (Core.dmul x 5147614374084476928) = round b64 (.fin false n 120) := by
  obtain ⟨c, q, e1, v1⟩ := hx
  rw [val64_dmul, e1, own_C120]
  show roundRatio b64 (false != false) (c * 2 ^ 52) 1 (q + 68) = roundRatio b64 false n 1 120
  refine roundRatio_congr (by decide) (by decide) ?_
  have t1 := own_two v1 (P := 52 + (q + 68 - 120).toNat) (S := (120 - (q + 68)).toNat) (by omega)
  rw [Nat.pow_add, ← Nat.mul_assoc] at t1
  simpa using t1
theorem own_dm {n q r u : Nat} (hu : 0 < u) (h : n = q * u + r) (hr : r < u) : n / u = q ∧ n % u = r := by
  refine (Nat.div_mod_unique hu).mpr ⟨?_, hr⟩
  rw [h, Nat.mul_comm]; omega
/-- what 'key' reckons is the nearest whole number, ties to even -/
theorem own_near {k u n : Nat} {o : Int} (hk : 1 ≤ k) (hu : 1 ≤ u) (hn : (n : Int) = (k : Int) * u + o) (h1 : -(u : Int) ≤ o) (h2 : o ≤ u) :
    (2 * o.natAbs < u ∧ (nearest n u : Int) = k) ∨ (u < 2 * o.natAbs ∧ (nearest n u : Int) = k + (if o < 0 then -1 else 1)) ∨ (2 * o.natAbs = u ∧ (nearest n u : Int) = if k % 2 = 0 then (k : Int) else k + (if o < 0 then -1 else 1)) := by
  have e0 : ((k * u : Nat) : Int) = (k : Int) * u := by simp
  rcases Int.lt_or_le o 0 with q | q
  · rw [if_pos q]
    have e1 : (k - 1) * u + u = k * u := by rw [← Nat.succ_mul]; congr 1; omega
    rcases Int.lt_or_le (-(u : Int)) o with z | z
    · obtain ⟨d1, d2⟩ := own_dm (n := n) (q := k - 1) (r := u - o.natAbs) hu (by omega) (by omega)
      unfold nearest
      rw [d1, d2]
      split
      · refine Or.inr (Or.inl ⟨by omega, by omega⟩)
      · split
        · exact Or.inl ⟨by omega, by omega⟩
        · refine Or.inr (Or.inr ⟨by omega, ?_⟩)
          split <;> omega
    · obtain ⟨d1, d2⟩ := own_dm (n := n) (q := k - 1) (r := 0) hu (by omega) hu
      unfold nearest
      rw [d1, d2, if_pos (by omega)]
      exact Or.inr (Or.inl ⟨by omega, by omega⟩)
  · rw [if_neg (by omega)]
    have e1 : (k + 1) * u = k * u + u := Nat.succ_mul k u
    rcases Int.lt_or_le o u with z | z
    · obtain ⟨d1, d2⟩ := own_dm (n := n) (q := k) (r := o.natAbs) hu (by omega) (by omega)
      unfold nearest
      rw [d1, d2]
      split
      · exact Or.inl ⟨by omega, rfl⟩
      · split
        · exact Or.inr (Or.inl ⟨by omega, by omega⟩)
        · refine Or.inr (Or.inr ⟨by omega, ?_⟩)
          split <;> omega
    · obtain ⟨d1, d2⟩ := own_dm (n := n) (q := k + 1) (r := 0) hu (by omega) hu
      unfold nearest
      rw [d1, d2, if_pos (by omega)]
      exact Or.inr (Or.inl ⟨by omega, by omega⟩)
/-- a finite one as a float -/
theorem own_toF {n sh sc : Nat} {x : UInt64} (h : own_D n (-(sc : Int)) x) (h1 : 2 ^ 23 * 2 ^ sh ≤ n) (h2 : n ≤ (2 ^ 24 - 1) * 2 ^ sh) (hsh : sh ≤ 29) (hsc : sc ≤ 62) : val32 (Core.d2f x) = .fin false (nearest n (2 ^ sh)) ((sh : Int) - sc) := by
  obtain ⟨c, q, e1, v1⟩ := h
  have hp := Nat.two_pow_pos sh
  have hn0 : 0 < n := Nat.lt_of_lt_of_le (Nat.mul_pos (by decide) hp) h1
  rw [val32_d2f, e1]
  show roundRatio b32 false c 1 q = _
  rw [roundRatio_congr (A' := n) (B' := 1) (e' := -(sc : Int)) (by decide) (by decide) (by have := own_two v1 (P := (q - -(sc : Int)).toNat) (S := (-(sc : Int) - q).toNat) (by omega); simpa using this)]
  unfold roundRatio
  rw [if_neg (by omega)]
  have hq : quantum b32 n 1 (-(sc : Int)) = (sh : Int) - sc := by
    refine quantum_eq hn0 (by decide) ?_ ?_ (Or.inr ?_)
    · show (2 - ((127 : Nat) : Int) - ((24 : Nat) : Int)) ≤ _; omega
    · rw [show ((b32.p : Nat) : Int) = ((24 : Nat) : Int) from rfl, ← units_below]
      unfold unitsNum unitsDen
      rw [show (-(sc : Int) - ((sh : Int) - sc)).toNat = 0 by omega, show ((sh : Int) - sc - -(sc : Int)).toNat = sh by omega]
      simp only [Nat.pow_zero, Nat.mul_one, Nat.one_mul]
      refine Nat.lt_of_le_of_lt h2 (Nat.mul_lt_mul_of_pos_right (by decide) hp)
    · rw [show ((b32.p : Nat) : Int) - 1 = ((23 : Nat) : Int) from rfl, ← units_below]
      unfold unitsNum unitsDen
      rw [show (-(sc : Int) - ((sh : Int) - sc)).toNat = 0 by omega, show ((sh : Int) - sc - -(sc : Int)).toNat = sh by omega]
      simp only [Nat.pow_zero, Nat.mul_one, Nat.one_mul]
      omega
  rw [hq]
  unfold roundAt unitsNum unitsDen
  rw [show (-(sc : Int) - ((sh : Int) - sc)).toNat = 0 by omega, show ((sh : Int) - sc - -(sc : Int)).toNat = sh by omega]
  simp only [Nat.pow_zero, Nat.mul_one, Nat.one_mul]
  have hm := nearest_le (A := n) (B := 2 ^ sh) (M := 2 ^ 24 - 1) hp h2
  unfold settle bound
  rw [if_pos (show nearest n (2 ^ sh) < 2 ^ b32.p from (show nearest n (2 ^ sh) < 2 ^ 24 by omega)), if_pos (show (sh : Int) - sc ≤ b32.qmax from (show (sh : Int) - sc ≤ (((127 : Nat) : Int) - ((24 : Nat) : Int) + 1) by omega))]
/-- a great one as a float: infinity -/
theorem own_toI {n : Nat} {x : UInt64} (h : own_D n 120 x) (h1 : 2 ^ 9 ≤ n) : val32 (Core.d2f x) = .inf false := by
  obtain ⟨c, q, e1, v1⟩ := h
  rw [val32_d2f, e1]
  show roundRatio b32 false c 1 q = _
  rw [roundRatio_congr (A' := n) (B' := 1) (e' := 120) (by decide) (by decide) (by have := own_two v1 (P := (q - 120).toNat) (S := (120 - q).toNat) (by omega); simpa using this)]
  refine (roundRatio_inf good_b32 (e0 := -150) (by decide) (by decide) (by decide)).mpr ?_
  show (2 ^ 25 - 1) * 2 ^ 253 * 1 ≤ n * 2 ^ 270
  have : 2 ^ 9 * 2 ^ 270 ≤ n * 2 ^ 270 := Nat.mul_le_mul_right _ h1
  exact Nat.le_trans (by decide) this
theorem own_dneg32 (x : UInt64) : val32 (Core.d2f (FP.dneg x)) = negate (val32 (Core.d2f x)) := by
  rw [val32_d2f, val32_d2f, FP.val64_dneg, negate_round]
theorem own_zneg (f : Fmt) (d : Datum) : zval f (negate d) = -(zval f d) := by
  cases d with
  | nan => rfl
  | inf s => cases s <;> simp [zval, negate, Core.sgn, zmag, signed]
  | fin s c q => cases s <;> simp [zval, negate, Core.sgn, zmag, signed]
def own_TOP : Int := ((b32.tails * 2 ^ (b32.exps - 2) : Nat) : Int)
theorem own_top : 0 < own_TOP := by unfold own_TOP; exact Int.natCast_pos.mpr (Nat.mul_pos (Nat.two_pow_pos _) (Nat.two_pow_pos _))
/-- what the value says, as a float -/
def own_VX (md ng m j : Nat) (x : UInt64) : Prop := (val64 x ≠ .nan ∧ val32 (Core.d2f x) ≠ .nan) ∧ ∃ z : Int, zval b32 (val32 (Core.d2f x)) = (if ng = 0 then z else -z) ∧ ((md = 0 ∧ z = 0) ∨ (md = 3 ∧ z = own_TOP) ∨ (md ≠ 0 ∧ md ≠ 3 ∧ z = ((m * 2 ^ j : Nat) : Int) ∧ 0 < z ∧ z < own_TOP))
theorem own_VX_neg {md m j : Nat} {x : UInt64} (h : own_VX md 0 m j x) : own_VX md 1 m j (FP.dneg x) := by
  obtain ⟨⟨h0, h1⟩, z, h2, h3⟩ := h
  refine ⟨⟨?_, ?_⟩, z, ?_, h3⟩
  · rw [FP.val64_dneg]
    cases hv : val64 x with
    | nan => exact absurd hv h0
    | inf s => exact fun q => nomatch q
    | fin s c q => exact fun q => nomatch q
  · rw [own_dneg32]
    cases hv : val32 (Core.d2f x) with
    | nan => exact absurd hv h1
    | inf s => exact fun q => nomatch q
    | fin s c q => exact fun q => nomatch q
  · rw [own_dneg32, own_zneg, h2]; simp
theorem own_VX_0 {m j : Nat} {x : UInt64} (h : val64 x = .fin false 0 b64.qmin) : own_VX 0 0 m j x := by
  have e : val32 (Core.d2f x) = .fin false 0 b32.qmin := by rw [val32_d2f, h]; rfl
  exact ⟨⟨(by rw [h]; exact (fun q => nomatch q)), (by rw [e]; exact (fun q => nomatch q))⟩, 0, by rw [e]; simp [zval, Core.sgn, zmag, inUnits, signed], Or.inl ⟨rfl, rfl⟩⟩
theorem own_VX_3 {m j n : Nat} {x : UInt64} (h : own_D n 120 x) (h1 : 2 ^ 9 ≤ n) : own_VX 3 0 m j x := by
  have e := own_toI h h1
  exact ⟨⟨h.nn, (by rw [e]; exact (fun q => nomatch q))⟩, own_TOP, by rw [e]; simp [zval, Core.sgn, zmag, signed, own_TOP], Or.inr (Or.inl ⟨rfl, rfl⟩)⟩
theorem own_VX_1 {md n sh sc : Nat} {x : UInt64} (hmd : md ≠ 0) (hmd3 : md ≠ 3) (h : own_D n (-(sc : Int)) x) (h1 : 2 ^ 23 * 2 ^ sh ≤ n) (h2 : n ≤ (2 ^ 24 - 1) * 2 ^ sh) (hsh : sh ≤ 29) (hsc : sc ≤ 62) : own_VX md 0 (nearest n (2 ^ sh)) (sh + 149 - sc) x := by
  have e := own_toF h h1 h2 hsh hsc
  have hf := val32_fits (Core.d2f x)
  have hm := nearest_ge (A := n) (B := 2 ^ sh) (M := 2 ^ 23) (Nat.two_pow_pos sh) h1
  have ez : zval b32 (val32 (Core.d2f x)) = ((nearest n (2 ^ sh) * 2 ^ (sh + 149 - sc) : Nat) : Int) := by
    rw [e]
    show ((nearest n (2 ^ sh) * 2 ^ ((sh : Int) - sc - b32.qmin).toNat : Nat) : Int) = _
    rw [show ((sh : Int) - sc - b32.qmin).toNat = sh + 149 - sc by show ((sh : Int) - sc - (2 - ((127 : Nat) : Int) - ((24 : Nat) : Int))).toNat = _; omega]
  refine ⟨⟨h.nn, (by rw [e]; exact (fun q => nomatch q))⟩, _, by rw [ez]; rfl, Or.inr (Or.inr ⟨hmd, hmd3, rfl, ?_, ?_⟩)⟩
  · exact Int.natCast_pos.mpr (Nat.mul_pos (by omega) (Nat.two_pow_pos _))
  · rw [← ez, e]
    rw [e] at hf
    exact Int.ofNat_lt.mpr (zmag_lt_top good_b32 hf)
/-- what the key says, as a double -/
def own_KX (ng m j : Nat) (x : UInt64) : Prop := val64 x ≠ .nan ∧ zval b64 (val64 x) = (if ng = 0 then ((m * 2 ^ j : Nat) : Int) * ((2 ^ 925 : Nat) : Int) else -(((m * 2 ^ j : Nat) : Int) * ((2 ^ 925 : Nat) : Int)))
theorem own_KX_0 {m sh sc : Nat} {x : UInt64} (h : own_D (m * 2 ^ sh) (-(sc : Int)) x) (hsc : sc ≤ 62) : own_KX 0 m (sh + 149 - sc) x := by
  have hf := val64_fits x
  obtain ⟨c, q, e, v⟩ := h
  rw [e] at hf
  have hq : (2 - ((1023 : Nat) : Int) - ((53 : Nat) : Int)) ≤ q := hf.2.1
  refine ⟨(by rw [e]; exact (fun q => nomatch q)), ?_⟩
  rw [e, if_pos rfl]
  show ((c * 2 ^ (q - b64.qmin).toNat : Nat) : Int) = _
  rw [show (q - b64.qmin).toNat = (q + 1074).toNat by show (q - (2 - ((1023 : Nat) : Int) - ((53 : Nat) : Int))).toNat = _; omega]
  have t := own_two v (P := (q + 1074).toNat) (S := 1074 - sc) (by omega)
  rw [t, Nat.mul_assoc, ← Nat.pow_add, ← Int.natCast_mul, Nat.mul_assoc, ← Nat.pow_add, show sh + (1074 - sc) = sh + 149 - sc + 925 by omega]
theorem own_KX_neg {m j : Nat} {x : UInt64} (h : own_KX 0 m j x) : own_KX 1 m j (FP.dneg x) := by
  obtain ⟨h1, h2⟩ := h
  refine ⟨?_, ?_⟩
  · rw [FP.val64_dneg]
    cases hv : val64 x with
    | nan => exact absurd hv h1
    | inf s => exact fun q => nomatch q
    | fin s c q => exact fun q => nomatch q
  · rw [FP.val64_dneg, own_zneg, h2]; simp
theorem own_ordI (a b : Int) : (a < b ∧ compare a b = Ordering.lt) ∨ (a = b ∧ compare a b = Ordering.eq) ∨ (b < a ∧ compare a b = Ordering.gt) := by
  rw [compare_ite]
  rcases Int.lt_trichotomy a b with h | h | h
  · exact Or.inl ⟨h, if_pos h⟩
  · exact Or.inr (Or.inl ⟨h, by rw [if_neg (by omega), if_pos h]⟩)
  · exact Or.inr (Or.inr ⟨h, by rw [if_neg (by omega), if_neg (by omega)]⟩)
/-- the key's number is the float's, scaled -/
theorem own_kz {md ng m j : Nat} {x k : UInt64} (V : own_VX md ng m j x) (h0 : md ≠ 0) (h3 : md ≠ 3) (K : own_KX ng m j k) : zval b64 (val64 k) = zval b32 (val32 (Core.d2f x)) * ((2 ^ 925 : Nat) : Int) := by
  obtain ⟨-, z, e1, hz⟩ := V
  have e2 : z = ((m * 2 ^ j : Nat) : Int) := by
    rcases hz with ⟨q, -⟩ | ⟨q, -⟩ | ⟨-, -, q, -⟩
    · exact absurd q h0
    · exact absurd q h3
    · exact q
  rw [K.2, e1]
  by_cases hn : ng = 0
  · rw [if_pos hn, if_pos hn, e2]
  · rw [if_neg hn, if_neg hn, e2, Int.neg_mul]
theorem own_scl {a b P : Int} (hP : 0 < P) : (a * P < b * P ↔ a < b) ∧ (a * P = b * P ↔ a = b) := by
  refine ⟨⟨fun h => Int.lt_of_mul_lt_mul_right h (Int.le_of_lt hP), fun h => Int.mul_lt_mul_of_pos_right h hP⟩, ⟨fun h => Int.eq_of_mul_eq_mul_right (by omega) h, fun h => by rw [h]⟩⟩
/-- the tier tells where the float lies -/
theorem own_tier {md ng m j : Nat} {x : UInt64} (V : own_VX md ng m j x) (hng : ng < 2) {t : Int} (ht : t = (if ng = 0 then (if md = 0 then 0 else if md = 3 then 2 else 1) else -(if md = 0 then 0 else if md = 3 then 2 else (1 : Int)))) {z : Int} (hz : z = zval b32 (val32 (Core.d2f x))) :
    (t = 0 ∧ z = 0) ∨ (t = 1 ∧ 0 < z ∧ z < own_TOP ∧ md ≠ 0 ∧ md ≠ 3) ∨ (t = -1 ∧ -own_TOP < z ∧ z < 0 ∧ md ≠ 0 ∧ md ≠ 3) ∨ (t = 2 ∧ z = own_TOP) ∨ (t = -2 ∧ z = -own_TOP) := by
  obtain ⟨-, y, e1, hy⟩ := V
  have := own_top
  rw [e1] at hz
  generalize own_TOP = TT at *
  rcases hy with ⟨q, r⟩ | ⟨q, r⟩ | ⟨q, q', -, r, r'⟩
  · subst q
    by_cases hn : ng = 0 <;> simp [hn] at ht hz <;> omega
  · subst q
    by_cases hn : ng = 0 <;> simp [hn] at ht hz <;> omega
  · by_cases hn : ng = 0 <;> simp [hn, q, q'] at ht hz <;> omega
theorem own_Dp {a : Int64} {w : Nat} (h : a.toInt = ((2 ^ w : Nat) : Int)) (hw : w ≤ 62) : own_D (2 ^ w) 0 (Core.l2d a) := by
  have e : val64 (Core.l2d a) = round b64 (.fin false 1 (w : Int)) := by
    rw [own_Dl (by rw [h]; exact Int.natCast_nonneg _), h, Int.toNat_natCast]
    show roundRatio b64 false (2 ^ w) 1 0 = roundRatio b64 false 1 1 (w : Int)
    refine roundRatio_congr (by decide) (by decide) ?_
    rw [show ((0 : Int) - w).toNat = 0 by omega, show ((w : Int) - 0).toNat = w by omega]
    simp
  obtain ⟨c, q, e1, v⟩ := own_round (by decide) (by omega) (by omega) e
  have t := own_two v (P := q.toNat) (S := (-q).toNat + w) (by omega)
  refine ⟨c, q, e1, own_V.mk' (P := q.toNat) (S := (-q).toNat) (by omega) ?_⟩
  rw [t, Nat.pow_add]; simp [Nat.mul_comm]
theorem own_near' {k u n : Nat} {o sg : Int} (hk : 1 ≤ k) (hu : 1 ≤ u) (hn : (n : Int) = ((k * u : Nat) : Int) + o) (h1 : -(u : Int) ≤ o) (h2 : o ≤ u) (hsg : (o < 0 ∧ sg = -1) ∨ (0 ≤ o ∧ sg = 1)) :
    (2 * (o.natAbs : Int) < u ∧ (nearest n u : Int) = k) ∨ ((u : Int) < 2 * (o.natAbs : Int) ∧ (nearest n u : Int) = k + sg) ∨ (2 * (o.natAbs : Int) = u ∧ ((k % 2 = 0 ∧ (nearest n u : Int) = k) ∨ (k % 2 = 1 ∧ (nearest n u : Int) = k + sg))) := by
  have e : (if o < 0 then (-1 : Int) else 1) = sg := by
    rcases hsg with ⟨q, r⟩ | ⟨q, r⟩
    · rw [if_pos q, r]
    · rw [if_neg (by omega), r]
  have H := own_near hk hu (by rw [hn]; simp) h1 h2
  rw [e] at H
  generalize nearest n u = N at *
  rcases H with ⟨q, r⟩ | ⟨q, r⟩ | ⟨q, r⟩
  · exact Or.inl ⟨by omega, r⟩
  · exact Or.inr (Or.inl ⟨by omega, r⟩)
  · refine Or.inr (Or.inr ⟨by omega, ?_⟩)
    by_cases hk2 : k % 2 = 0
    · rw [if_pos hk2] at r; exact Or.inl ⟨hk2, r⟩
    · rw [if_neg hk2] at r; exact Or.inr ⟨by omega, r⟩
/-! the law's own numbers -/
def own_U (p : Int64) : Nat := (p.toInt % 18446744073709551616).toNat
def own_md (p : Int64) : Nat := own_U p / 2 % 4
def own_ng (p : Int64) : Nat := own_U p / 8 % 2
def own_sh (p : Int64) : Nat := own_U p / 16 % 32 % 30
def own_sc (p : Int64) : Nat := own_U p / 512 % 64 % 63
def own_mt (p : Int64) : Nat := 8388609 + own_U p / 32768 % 16777216 % 8388606
def own_of (p d : Int64) : Int := (((own_U d % 9223372036854775808) % (2 * 2 ^ own_sh p + 1) : Nat) : Int) - ((2 ^ own_sh p : Nat) : Int)
def own_nn (p d : Int64) : Nat := (((own_mt p * 2 ^ own_sh p : Nat) : Int) + own_of p d).toNat
def own_mm (p d : Int64) : Nat := nearest (own_nn p d) (2 ^ own_sh p)
def own_jj (p : Int64) : Nat := own_sh p + 149 - own_sc p
theorem own_pw (p : Int64) : own_sh p ≤ 29 ∧ own_sc p ≤ 62 ∧ 8388609 ≤ own_mt p ∧ own_mt p ≤ 16777214 ∧ 1 ≤ 2 ^ own_sh p ∧ 2 ^ own_sh p ≤ 536870912 := by
  have h1 : own_sh p ≤ 29 := by unfold own_sh; omega
  refine ⟨h1, by unfold own_sc; omega, by unfold own_mt; omega, by unfold own_mt; omega, Nat.two_pow_pos _, ?_⟩
  exact Nat.le_trans (Nat.pow_le_pow_right (by decide) h1) (by decide)
theorem own_sp (p d : Int64) : -((2 ^ own_sh p : Nat) : Int) ≤ own_of p d ∧ own_of p d ≤ ((2 ^ own_sh p : Nat) : Int) ∧ (own_nn p d : Int) = ((own_mt p * 2 ^ own_sh p : Nat) : Int) + own_of p d ∧ 2 ^ 23 * 2 ^ own_sh p ≤ own_nn p d ∧ own_nn p d ≤ (2 ^ 24 - 1) * 2 ^ own_sh p ∧ own_nn p d < 2 ^ 53 ∧ 2 ^ 9 ≤ own_nn p d ∧ own_mt p * 2 ^ own_sh p ≤ 9007198180999168 := by
  obtain ⟨h1, h2, h3, h4, h5, h6⟩ := own_pw p
  have b1 : 8388609 * 2 ^ own_sh p ≤ own_mt p * 2 ^ own_sh p := Nat.mul_le_mul_right _ h3
  have b2 : own_mt p * 2 ^ own_sh p ≤ 16777214 * 2 ^ own_sh p := Nat.mul_le_mul_right _ h4
  have o2 : own_of p d ≤ ((2 ^ own_sh p : Nat) : Int) := by
    have := Nat.mod_lt (own_U d % 9223372036854775808) (show 0 < 2 * 2 ^ own_sh p + 1 by omega)
    unfold own_of; generalize own_U d % 9223372036854775808 % (2 * 2 ^ own_sh p + 1) = R at *; omega
  have o1 : -((2 ^ own_sh p : Nat) : Int) ≤ own_of p d := by unfold own_of; omega
  have e : (own_nn p d : Int) = ((own_mt p * 2 ^ own_sh p : Nat) : Int) + own_of p d := by unfold own_nn; generalize own_of p d = o at *; omega
  generalize 2 ^ own_sh p = P at *
  generalize own_of p d = o at *
  generalize own_nn p d = N at *
  generalize own_mt p * P = M at *
  refine ⟨o1, o2, e, ?_, ?_, ?_, ?_, ?_⟩ <;> omega
theorem own_mmb (p d : Int64) : own_mm p d * 2 ^ own_sh p < 2 ^ 53 ∧ 8388608 ≤ own_mm p d ∧ own_mm p d ≤ 16777215 := by
  obtain ⟨h1, h2, h3, h4, h5, h6⟩ := own_pw p
  obtain ⟨o1, o2, e, a1, a2, a3, a4, a5⟩ := own_sp p d
  have m1 := nearest_ge (A := own_nn p d) (B := 2 ^ own_sh p) (M := 2 ^ 23) h5 a1
  have m2 := nearest_le (A := own_nn p d) (B := 2 ^ own_sh p) (M := 2 ^ 24 - 1) h5 a2
  have m3 : own_mm p d * 2 ^ own_sh p ≤ (2 ^ 24 - 1) * 536870912 := Nat.mul_le_mul m2 h6
  exact ⟨by omega, m1, m2⟩
theorem own_VXv (p d : Int64) {x : UInt64} (h0 : own_md p ≠ 0) (h3 : own_md p ≠ 3) (h : own_D (own_nn p d) (-(own_sc p : Int)) x) : own_VX (own_md p) 0 (own_mm p d) (own_jj p) x := by
  obtain ⟨-, -, -, a1, a2, -⟩ := own_sp p d
  exact own_VX_1 h0 h3 h a1 a2 (own_pw p).1 (own_pw p).2.1
end OwnM
section OwnN
open Jvm.FP Jvm.FP.Core
theorem own_fc {x y : UInt64} (hx : val64 x ≠ .nan ∧ val32 (Core.d2f x) ≠ .nan) (hy : val64 y ≠ .nan ∧ val32 (Core.d2f y) ≠ .nan) (o : CmpOp) : ∃ v : Int32, cmpValue (FP.fcmp (FP.d2f x) (FP.d2f y)) o = v ∧ ((zval b32 (val32 (Core.d2f x)) < zval b32 (val32 (Core.d2f y)) ∧ v.toInt = -1) ∨ (zval b32 (val32 (Core.d2f x)) = zval b32 (val32 (Core.d2f y)) ∧ v.toInt = 0) ∨ (zval b32 (val32 (Core.d2f y)) < zval b32 (val32 (Core.d2f x)) ∧ v.toInt = 1)) := by
  rw [FP.d2f_core ((notNaN_iff x).mpr hx.1), FP.d2f_core ((notNaN_iff y).mpr hy.1), show FP.fcmp (Core.d2f x) (Core.d2f y) = Core.fcmp (Core.d2f x) (Core.d2f y) from rfl, fcmp_zval hx.2 hy.2]
  rcases own_ordI (zval b32 (val32 (Core.d2f x))) (zval b32 (val32 (Core.d2f y))) with ⟨h, q⟩ | ⟨h, q⟩ | ⟨h, q⟩
  · rw [q]; exact ⟨-1, rfl, Or.inl ⟨h, rfl⟩⟩
  · rw [q]; exact ⟨0, rfl, Or.inr (Or.inl ⟨h, rfl⟩)⟩
  · rw [q]; exact ⟨1, rfl, Or.inr (Or.inr ⟨h, rfl⟩)⟩
theorem own_dc {x y : UInt64} (hx : val64 x ≠ .nan) (hy : val64 y ≠ .nan) {a b P : Int} (hP : 0 < P) (ea : zval b64 (val64 x) = a * P) (eb : zval b64 (val64 y) = b * P) (o : CmpOp) : ∃ v : Int32, cmpValue (FP.dcmp x y) o = v ∧ ((a < b ∧ v.toInt = -1) ∨ (a = b ∧ v.toInt = 0) ∨ (b < a ∧ v.toInt = 1)) := by
  rw [show FP.dcmp x y = Core.dcmp x y from rfl, dcmp_zval hx hy, ea, eb]
  rcases own_ordI (a * P) (b * P) with ⟨h, q⟩ | ⟨h, q⟩ | ⟨h, q⟩
  · rw [q]; exact ⟨-1, rfl, Or.inl ⟨(own_scl hP).1.mp h, rfl⟩⟩
  · rw [q]; exact ⟨0, rfl, Or.inr (Or.inl ⟨(own_scl hP).2.mp h, rfl⟩)⟩
  · rw [q]; exact ⟨1, rfl, Or.inr (Or.inr ⟨(own_scl hP).1.mp h, rfl⟩)⟩
theorem own_nn32 {x : UInt64} (hx : val64 x ≠ .nan ∧ val32 (Core.d2f x) ≠ .nan) : Jvm.Free.Fl.NoNaN32 (FP.d2f x) := by
  rw [FP.d2f_core ((notNaN_iff x).mpr hx.1)]; exact Jvm.Free.Fl.val32_no.mpr hx.2
theorem own_D.fin {n : Nat} {e : Int} {x : UInt64} (h : own_D n e x) : Jvm.Free.Fl.Fin64 x := by
  obtain ⟨c, q, h1, -⟩ := h
  exact Jvm.Free.Fl.fin64_core.mpr ⟨false, c, q, h1⟩
theorem own_p925 : (0 : Int) < ((2 ^ 925 : Nat) : Int) := Int.natCast_pos.mpr (Nat.two_pow_pos _)
theorem own_m63 (y : Int32) : (y.toInt64 &&& 63) = (y &&& 0x3f).toInt64 := by
  apply Int64.toInt_inj.mp
  rw [c_maskL _ 63 6 (by decide) (by decide), c_i2l, c_i2l, c_mask y 0x3f 6 (by decide) (by decide)]
theorem own_shl (x : Int64) (y : Int32) (k : Nat) (hy : y.toInt = (k : Int)) (hk : k < 64) {M : Int} (hM : x.toInt * ((2 ^ k : Nat) : Int) = M) (h1 : 0 ≤ M) (h2 : M < 9223372036854775808) : (x <<< (y.toInt64 &&& 63)).toInt = M := by
  have e1 := own_m63 y
  have hb := BitVec.toInt_eq_toNat_cond y.toBitVec
  rw [show y.toBitVec.toInt = (k : Int) from hy] at hb
  have hl := y.toBitVec.isLt
  have h3 := c_lshl x y k (by split at hb <;> omega)
  rw [e1]
  have h4 := rng64 (x <<< (y &&& 0x3f).toInt64)
  rw [hM] at h3
  generalize (x <<< (y &&& 0x3f).toInt64).toInt = V at *
  omega
theorem own_negI (x : Int32) (h : -2147483648 < x.toInt) : (-x).toInt = -x.toInt := by
  have := c_ineg x; have := rng32 (-x); have := rng32 x; omega
theorem own_remL (x y : Int64) (h0 : 0 ≤ x.toInt) : (x - (x / y) * y).toInt = x.toInt % y.toInt := (c_lrem x y y.toInt rfl).1 h0
theorem own_l2iv (x : Int64) (h0 : 0 ≤ x.toInt) (h1 : x.toInt < 2147483648) : x.toInt32.toInt = x.toInt := by
  have := c_l2i x; have := rng32 x.toInt32; omega
theorem own_ush (x : Int64) (q : Int32) (k : Nat) (hk : q.toBitVec.toNat % 64 = k) (h0 : 0 < k) : (XT.ushrL x q).toInt = ((own_U x / 2 ^ k : Nat) : Int) := by
  have h : (XT.ushrL x q).toInt = (x.toInt % 18446744073709551616) / (2 ^ k : Nat) := by
    show ((x.toUInt64 >>> (q.toInt64 &&& 63).toUInt64).toInt64).toInt = _
    rw [own_m63]; exact c_lushr x q k hk h0
  rw [h]; unfold own_U
  have e : ((x.toInt % 18446744073709551616).toNat : Int) = x.toInt % 18446744073709551616 := Int.toNat_of_nonneg (Int.emod_nonneg _ (by decide))
  rw [Int.natCast_ediv, e]
end OwnN
theorem d1_0 : decode method_3_code 0 = .ok (.lload_n 0, 1) := by decide +kernel
theorem d1_1 : decode method_3_code 1 = .ok (.iconst 1, 1) := by decide +kernel
theorem d1_2 : decode method_3_code 2 = .ok (.lushr, 1) := by decide +kernel
theorem d1_3 : decode method_3_code 3 = .ok (.ldc2_w 26, 3) := by decide +kernel
theorem d1_6 : decode method_3_code 6 = .ok (.land, 1) := by decide +kernel
theorem d1_7 : decode method_3_code 7 = .ok (.l2i, 1) := by decide +kernel
theorem d1_8 : decode method_3_code 8 = .ok (.ireturn, 1) := by decide +kernel
theorem own_pn1 : plainFor (⟨"com/example/prudent_query/prudentquery/model/HitCompareScoresPinLaw", "mode", "(J)I"⟩ : MethodName) = true := plainFor_of_name (show plainName "com/example/prudent_query/prudentquery/model/HitCompareScoresPinLaw" = true by first | (simp [plainName, overriddenIn]; done) | decide +kernel)
theorem own_ef1 (m : MethodId) (q1 : Int64)  : entryFrame m #[(.long q1)] 2 = mkF m 0 #[.val (.long q1), .second] [] := by first | (simp [entryFrame, mkF, argsToLocals, Value.category, maxLocals]; done) | rfl
set_option maxRecDepth 65536 in
set_option maxHeartbeats 40000000 in
theorem own_rm1 (l : Launch) (Z : State) (a0 : Array Value) (hw : ∀ d ∈ tables_1, d.before a0 Z = true) (ws : List Jvm.Cond) (q1 : Int64)  (h0 : Heap)  :
    MetFree l (⟨"com/example/prudent_query/prudentquery/model/HitCompareScoresPinLaw", "mode", "(J)I"⟩ : MethodName) (head1 (Jvm.Cond.code (⟨"com/example/prudent_query/prudentquery/model/HitCompareScoresPinLaw", "mode", "(J)I"⟩ : MethodName) method_3_code 2 (some .int) :: ws) ({ frames := 0, cells := 0, slots := 0, locals := 0 } : Room)) (fun a U => a = #[(.long q1)] ∧ Z.Warmed39 U.vm ∧ U.heap = h0) (fun _ _ _ _ _ => True) (fun _ U o U' => ∃ v L, o = .returned v ∧ (fun v h L => (∃ w, v = some w ∧ (fun w => ∃ z : Int32, w = .int z ∧ z.toInt = (own_md q1 : Int)) w) ∧ L = [] ∧ h = h0) v U'.heap L ∧ FrameEnd U o U' L ({ frames := 0, cells := 0, slots := 0, locals := 0 } : Room).cells ({ frames := 0, cells := 0, slots := 0, locals := 0 } : Room).slots) := by
  refine own_body (y := (⟨"com/example/prudent_query/prudentquery/model/HitCompareScoresPinLaw", "mode", "(J)I"⟩ : MethodName)) (Q := fun v h L => (∃ w, v = some w ∧ (fun w => ∃ z : Int32, w = .int z ∧ z.toInt = (own_md q1 : Int)) w) ∧ L = [] ∧ h = h0) (rm := ({ frames := 0, cells := 0, slots := 0, locals := 0 } : Room)) (as' := #[(.long q1)]) (h0 := h0) (Z := Z) own_pn1 ?_
  intro p e s m below meth c s₁ hx hby hml hown hnm hret hlk hZ X0 e0
  have hown : s.vm.findClass "com/example/prudent_query/prudentquery/model/HitCompareScoresPinLaw" = some m.cls := hown
  rw [own_ef1]
  refine own_lload_n X0 hx (hb hby d1_0) rfl (q := 1) rfl ?_
  refine own_iconst X0 hx (hb hby d1_1) (v := (1 : Int32)) rfl (q := 2) rfl ?_
  refine own_lushr X0 hx (hb hby d1_2) (q := 3) rfl ?_
  refine own_ldcL X0 hx hZ hown (hw _ (List.mem_of_getElem? (i := 7) rfl)) (hb hby d1_3) (q := 6) rfl ?_
  refine own_land X0 hx (hb hby d1_6) (q := 7) rfl ?_
  have e1 : (XT.ushrL q1 (1 : Int32)).toInt = ((own_U q1 / 2 ^ 1 : Nat) : Int) := own_ush q1 1 1 rfl (by decide)
  have e2 : ((XT.ushrL q1 (1 : Int32)) &&& (3 : Int64)).toInt = (XT.ushrL q1 (1 : Int32)).toInt % (2 ^ 2 : Nat) := c_maskL _ 3 2 (by decide) (by decide)
  rw [e1] at e2
  obtain ⟨vv, e_vv⟩ : ∃ z, z = ((XT.ushrL q1 (1 : Int32)) &&& (3 : Int64)) := ⟨_, rfl⟩
  rw [← e_vv] at e2 ⊢
  have e3 : vv.toInt = ((own_U q1 / 2 % 4 : Nat) : Int) := by rw [e2]; omega
  clear e1 e2
  refine own_l2i X0 hx (hb hby d1_7) (q := 8) rfl ?_
  have hfin : (vv.toInt32).toInt = (own_md q1 : Int) := by rw [own_l2iv vv (by omega) (by omega), e3]; rfl
  exact own_retI X0 hx hret hlk (hb hby d1_8) (by decide) (by decide) ⟨⟨_, rfl, ⟨_, rfl, hfin⟩⟩, rfl, e0⟩
theorem d2_0 : decode method_5_code 0 = .ok (.lload_n 0, 1) := by decide +kernel
theorem d2_1 : decode method_5_code 1 = .ok (.iconst 4, 1) := by decide +kernel
theorem d2_2 : decode method_5_code 2 = .ok (.lushr, 1) := by decide +kernel
theorem d2_3 : decode method_5_code 3 = .ok (.ldc2_w 28, 3) := by decide +kernel
theorem d2_6 : decode method_5_code 6 = .ok (.land, 1) := by decide +kernel
theorem d2_7 : decode method_5_code 7 = .ok (.ldc2_w 30, 3) := by decide +kernel
theorem d2_10 : decode method_5_code 10 = .ok (.lrem, 1) := by decide +kernel
theorem d2_11 : decode method_5_code 11 = .ok (.l2i, 1) := by decide +kernel
theorem d2_12 : decode method_5_code 12 = .ok (.ireturn, 1) := by decide +kernel
theorem own_pn2 : plainFor (⟨"com/example/prudent_query/prudentquery/model/HitCompareScoresPinLaw", "shift", "(J)I"⟩ : MethodName) = true := plainFor_of_name (show plainName "com/example/prudent_query/prudentquery/model/HitCompareScoresPinLaw" = true by first | (simp [plainName, overriddenIn]; done) | decide +kernel)
theorem own_ef2 (m : MethodId) (q1 : Int64)  : entryFrame m #[(.long q1)] 2 = mkF m 0 #[.val (.long q1), .second] [] := by first | (simp [entryFrame, mkF, argsToLocals, Value.category, maxLocals]; done) | rfl
set_option maxRecDepth 65536 in
set_option maxHeartbeats 40000000 in
theorem own_rm2 (l : Launch) (Z : State) (a0 : Array Value) (hw : ∀ d ∈ tables_1, d.before a0 Z = true) (ws : List Jvm.Cond) (q1 : Int64)  (h0 : Heap)  :
    MetFree l (⟨"com/example/prudent_query/prudentquery/model/HitCompareScoresPinLaw", "shift", "(J)I"⟩ : MethodName) (head1 (Jvm.Cond.code (⟨"com/example/prudent_query/prudentquery/model/HitCompareScoresPinLaw", "shift", "(J)I"⟩ : MethodName) method_5_code 2 (some .int) :: ws) ({ frames := 0, cells := 0, slots := 0, locals := 0 } : Room)) (fun a U => a = #[(.long q1)] ∧ Z.Warmed39 U.vm ∧ U.heap = h0) (fun _ _ _ _ _ => True) (fun _ U o U' => ∃ v L, o = .returned v ∧ (fun v h L => (∃ w, v = some w ∧ (fun w => ∃ z : Int32, w = .int z ∧ z.toInt = (own_sh q1 : Int)) w) ∧ L = [] ∧ h = h0) v U'.heap L ∧ FrameEnd U o U' L ({ frames := 0, cells := 0, slots := 0, locals := 0 } : Room).cells ({ frames := 0, cells := 0, slots := 0, locals := 0 } : Room).slots) := by
  refine own_body (y := (⟨"com/example/prudent_query/prudentquery/model/HitCompareScoresPinLaw", "shift", "(J)I"⟩ : MethodName)) (Q := fun v h L => (∃ w, v = some w ∧ (fun w => ∃ z : Int32, w = .int z ∧ z.toInt = (own_sh q1 : Int)) w) ∧ L = [] ∧ h = h0) (rm := ({ frames := 0, cells := 0, slots := 0, locals := 0 } : Room)) (as' := #[(.long q1)]) (h0 := h0) (Z := Z) own_pn2 ?_
  intro p e s m below meth c s₁ hx hby hml hown hnm hret hlk hZ X0 e0
  have hown : s.vm.findClass "com/example/prudent_query/prudentquery/model/HitCompareScoresPinLaw" = some m.cls := hown
  rw [own_ef2]
  refine own_lload_n X0 hx (hb hby d2_0) rfl (q := 1) rfl ?_
  refine own_iconst X0 hx (hb hby d2_1) (v := (4 : Int32)) rfl (q := 2) rfl ?_
  refine own_lushr X0 hx (hb hby d2_2) (q := 3) rfl ?_
  refine own_ldcL X0 hx hZ hown (hw _ (List.mem_of_getElem? (i := 17) rfl)) (hb hby d2_3) (q := 6) rfl ?_
  refine own_land X0 hx (hb hby d2_6) (q := 7) rfl ?_
  have e1 : (XT.ushrL q1 (4 : Int32)).toInt = ((own_U q1 / 2 ^ 4 : Nat) : Int) := own_ush q1 4 4 rfl (by decide)
  have e2 : ((XT.ushrL q1 (4 : Int32)) &&& (31 : Int64)).toInt = (XT.ushrL q1 (4 : Int32)).toInt % (2 ^ 5 : Nat) := c_maskL _ 31 5 (by decide) (by decide)
  rw [e1] at e2
  obtain ⟨vv, e_vv⟩ : ∃ z, z = ((XT.ushrL q1 (4 : Int32)) &&& (31 : Int64)) := ⟨_, rfl⟩
  rw [← e_vv] at e2 ⊢
  have e3 : vv.toInt = ((own_U q1 / 16 % 32 : Nat) : Int) := by rw [e2]; omega
  clear e1 e2
  refine own_ldcL X0 hx hZ hown (hw _ (List.mem_of_getElem? (i := 18) rfl)) (hb hby d2_7) (q := 10) rfl ?_
  refine own_lrem X0 hx (hb hby d2_10) (by decide) (q := 11) rfl ?_
  have e4 : (vv - (vv / (30 : Int64)) * (30 : Int64)).toInt = vv.toInt % (30 : Int64).toInt := own_remL _ _ (by omega)
  rw [show (30 : Int64).toInt = 30 from rfl] at e4
  obtain ⟨rr, e_rr⟩ : ∃ z, z = (vv - (vv / (30 : Int64)) * (30 : Int64)) := ⟨_, rfl⟩
  rw [← e_rr] at e4 ⊢
  refine own_l2i X0 hx (hb hby d2_11) (q := 12) rfl ?_
  have hfin : (rr.toInt32).toInt = (own_sh q1 : Int) := by rw [own_l2iv rr (by omega) (by omega), e4, e3]; rfl
  exact own_retI X0 hx hret hlk (hb hby d2_12) (by decide) (by decide) ⟨⟨_, rfl, ⟨_, rfl, hfin⟩⟩, rfl, e0⟩
theorem d3_0 : decode method_6_code 0 = .ok (.lload_n 0, 1) := by decide +kernel
theorem d3_1 : decode method_6_code 1 = .ok (.bipush 9, 2) := by decide +kernel
theorem d3_3 : decode method_6_code 3 = .ok (.lushr, 1) := by decide +kernel
theorem d3_4 : decode method_6_code 4 = .ok (.ldc2_w 32, 3) := by decide +kernel
theorem d3_7 : decode method_6_code 7 = .ok (.land, 1) := by decide +kernel
theorem d3_8 : decode method_6_code 8 = .ok (.ldc2_w 32, 3) := by decide +kernel
theorem d3_11 : decode method_6_code 11 = .ok (.lrem, 1) := by decide +kernel
theorem d3_12 : decode method_6_code 12 = .ok (.l2i, 1) := by decide +kernel
theorem d3_13 : decode method_6_code 13 = .ok (.ireturn, 1) := by decide +kernel
theorem own_pn3 : plainFor (⟨"com/example/prudent_query/prudentquery/model/HitCompareScoresPinLaw", "scale", "(J)I"⟩ : MethodName) = true := plainFor_of_name (show plainName "com/example/prudent_query/prudentquery/model/HitCompareScoresPinLaw" = true by first | (simp [plainName, overriddenIn]; done) | decide +kernel)
theorem own_ef3 (m : MethodId) (q1 : Int64)  : entryFrame m #[(.long q1)] 2 = mkF m 0 #[.val (.long q1), .second] [] := by first | (simp [entryFrame, mkF, argsToLocals, Value.category, maxLocals]; done) | rfl
set_option maxRecDepth 65536 in
set_option maxHeartbeats 40000000 in
theorem own_rm3 (l : Launch) (Z : State) (a0 : Array Value) (hw : ∀ d ∈ tables_1, d.before a0 Z = true) (ws : List Jvm.Cond) (q1 : Int64)  (h0 : Heap)  :
    MetFree l (⟨"com/example/prudent_query/prudentquery/model/HitCompareScoresPinLaw", "scale", "(J)I"⟩ : MethodName) (head1 (Jvm.Cond.code (⟨"com/example/prudent_query/prudentquery/model/HitCompareScoresPinLaw", "scale", "(J)I"⟩ : MethodName) method_6_code 2 (some .int) :: ws) ({ frames := 0, cells := 0, slots := 0, locals := 0 } : Room)) (fun a U => a = #[(.long q1)] ∧ Z.Warmed39 U.vm ∧ U.heap = h0) (fun _ _ _ _ _ => True) (fun _ U o U' => ∃ v L, o = .returned v ∧ (fun v h L => (∃ w, v = some w ∧ (fun w => ∃ z : Int32, w = .int z ∧ z.toInt = (own_sc q1 : Int)) w) ∧ L = [] ∧ h = h0) v U'.heap L ∧ FrameEnd U o U' L ({ frames := 0, cells := 0, slots := 0, locals := 0 } : Room).cells ({ frames := 0, cells := 0, slots := 0, locals := 0 } : Room).slots) := by
  refine own_body (y := (⟨"com/example/prudent_query/prudentquery/model/HitCompareScoresPinLaw", "scale", "(J)I"⟩ : MethodName)) (Q := fun v h L => (∃ w, v = some w ∧ (fun w => ∃ z : Int32, w = .int z ∧ z.toInt = (own_sc q1 : Int)) w) ∧ L = [] ∧ h = h0) (rm := ({ frames := 0, cells := 0, slots := 0, locals := 0 } : Room)) (as' := #[(.long q1)]) (h0 := h0) (Z := Z) own_pn3 ?_
  intro p e s m below meth c s₁ hx hby hml hown hnm hret hlk hZ X0 e0
  have hown : s.vm.findClass "com/example/prudent_query/prudentquery/model/HitCompareScoresPinLaw" = some m.cls := hown
  rw [own_ef3]
  refine own_lload_n X0 hx (hb hby d3_0) rfl (q := 1) rfl ?_
  refine own_bipush X0 hx (hb hby d3_1) (v := (9 : Int32)) rfl (q := 3) rfl ?_
  refine own_lushr X0 hx (hb hby d3_3) (q := 4) rfl ?_
  refine own_ldcL X0 hx hZ hown (hw _ (List.mem_of_getElem? (i := 27) rfl)) (hb hby d3_4) (q := 7) rfl ?_
  refine own_land X0 hx (hb hby d3_7) (q := 8) rfl ?_
  have e1 : (XT.ushrL q1 (9 : Int32)).toInt = ((own_U q1 / 2 ^ 9 : Nat) : Int) := own_ush q1 9 9 rfl (by decide)
  have e2 : ((XT.ushrL q1 (9 : Int32)) &&& (63 : Int64)).toInt = (XT.ushrL q1 (9 : Int32)).toInt % (2 ^ 6 : Nat) := c_maskL _ 63 6 (by decide) (by decide)
  rw [e1] at e2
  obtain ⟨vv, e_vv⟩ : ∃ z, z = ((XT.ushrL q1 (9 : Int32)) &&& (63 : Int64)) := ⟨_, rfl⟩
  rw [← e_vv] at e2 ⊢
  have e3 : vv.toInt = ((own_U q1 / 512 % 64 : Nat) : Int) := by rw [e2]; omega
  clear e1 e2
  refine own_ldcL X0 hx hZ hown (hw _ (List.mem_of_getElem? (i := 27) rfl)) (hb hby d3_8) (q := 11) rfl ?_
  refine own_lrem X0 hx (hb hby d3_11) (by decide) (q := 12) rfl ?_
  have e4 : (vv - (vv / (63 : Int64)) * (63 : Int64)).toInt = vv.toInt % (63 : Int64).toInt := own_remL _ _ (by omega)
  rw [show (63 : Int64).toInt = 63 from rfl] at e4
  obtain ⟨rr, e_rr⟩ : ∃ z, z = (vv - (vv / (63 : Int64)) * (63 : Int64)) := ⟨_, rfl⟩
  rw [← e_rr] at e4 ⊢
  refine own_l2i X0 hx (hb hby d3_12) (q := 13) rfl ?_
  have hfin : (rr.toInt32).toInt = (own_sc q1 : Int) := by rw [own_l2iv rr (by omega) (by omega), e4, e3]; rfl
  exact own_retI X0 hx hret hlk (hb hby d3_13) (by decide) (by decide) ⟨⟨_, rfl, ⟨_, rfl, hfin⟩⟩, rfl, e0⟩
theorem d4_0 : decode method_7_code 0 = .ok (.ldc2_w 34, 3) := by decide +kernel
theorem d4_3 : decode method_7_code 3 = .ok (.lload_n 0, 1) := by decide +kernel
theorem d4_4 : decode method_7_code 4 = .ok (.bipush 15, 2) := by decide +kernel
theorem d4_6 : decode method_7_code 6 = .ok (.lushr, 1) := by decide +kernel
theorem d4_7 : decode method_7_code 7 = .ok (.ldc2_w 36, 3) := by decide +kernel
theorem d4_10 : decode method_7_code 10 = .ok (.land, 1) := by decide +kernel
theorem d4_11 : decode method_7_code 11 = .ok (.ldc2_w 38, 3) := by decide +kernel
theorem d4_14 : decode method_7_code 14 = .ok (.lrem, 1) := by decide +kernel
theorem d4_15 : decode method_7_code 15 = .ok (.ladd, 1) := by decide +kernel
theorem d4_16 : decode method_7_code 16 = .ok (.lreturn, 1) := by decide +kernel
theorem own_pn4 : plainFor (⟨"com/example/prudent_query/prudentquery/model/HitCompareScoresPinLaw", "mant", "(J)J"⟩ : MethodName) = true := plainFor_of_name (show plainName "com/example/prudent_query/prudentquery/model/HitCompareScoresPinLaw" = true by first | (simp [plainName, overriddenIn]; done) | decide +kernel)
theorem own_ef4 (m : MethodId) (q1 : Int64)  : entryFrame m #[(.long q1)] 2 = mkF m 0 #[.val (.long q1), .second] [] := by first | (simp [entryFrame, mkF, argsToLocals, Value.category, maxLocals]; done) | rfl
set_option maxRecDepth 65536 in
set_option maxHeartbeats 40000000 in
theorem own_rm4 (l : Launch) (Z : State) (a0 : Array Value) (hw : ∀ d ∈ tables_1, d.before a0 Z = true) (ws : List Jvm.Cond) (q1 : Int64)  (h0 : Heap)  :
    MetFree l (⟨"com/example/prudent_query/prudentquery/model/HitCompareScoresPinLaw", "mant", "(J)J"⟩ : MethodName) (head1 (Jvm.Cond.code (⟨"com/example/prudent_query/prudentquery/model/HitCompareScoresPinLaw", "mant", "(J)J"⟩ : MethodName) method_7_code 2 (some .long) :: ws) ({ frames := 0, cells := 0, slots := 0, locals := 0 } : Room)) (fun a U => a = #[(.long q1)] ∧ Z.Warmed39 U.vm ∧ U.heap = h0) (fun _ _ _ _ _ => True) (fun _ U o U' => ∃ v L, o = .returned v ∧ (fun v h L => (∃ w, v = some w ∧ (fun w => ∃ z : Int64, w = .long z ∧ z.toInt = (own_mt q1 : Int)) w) ∧ L = [] ∧ h = h0) v U'.heap L ∧ FrameEnd U o U' L ({ frames := 0, cells := 0, slots := 0, locals := 0 } : Room).cells ({ frames := 0, cells := 0, slots := 0, locals := 0 } : Room).slots) := by
  refine own_body (y := (⟨"com/example/prudent_query/prudentquery/model/HitCompareScoresPinLaw", "mant", "(J)J"⟩ : MethodName)) (Q := fun v h L => (∃ w, v = some w ∧ (fun w => ∃ z : Int64, w = .long z ∧ z.toInt = (own_mt q1 : Int)) w) ∧ L = [] ∧ h = h0) (rm := ({ frames := 0, cells := 0, slots := 0, locals := 0 } : Room)) (as' := #[(.long q1)]) (h0 := h0) (Z := Z) own_pn4 ?_
  intro p e s m below meth c s₁ hx hby hml hown hnm hret hlk hZ X0 e0
  have hown : s.vm.findClass "com/example/prudent_query/prudentquery/model/HitCompareScoresPinLaw" = some m.cls := hown
  rw [own_ef4]
  refine own_ldcL X0 hx hZ hown (hw _ (List.mem_of_getElem? (i := 11) rfl)) (hb hby d4_0) (q := 3) rfl ?_
  refine own_lload_n X0 hx (hb hby d4_3) rfl (q := 4) rfl ?_
  refine own_bipush X0 hx (hb hby d4_4) (v := (15 : Int32)) rfl (q := 6) rfl ?_
  refine own_lushr X0 hx (hb hby d4_6) (q := 7) rfl ?_
  refine own_ldcL X0 hx hZ hown (hw _ (List.mem_of_getElem? (i := 12) rfl)) (hb hby d4_7) (q := 10) rfl ?_
  refine own_land X0 hx (hb hby d4_10) (q := 11) rfl ?_
  have e1 : (XT.ushrL q1 (15 : Int32)).toInt = ((own_U q1 / 2 ^ 15 : Nat) : Int) := own_ush q1 15 15 rfl (by decide)
  have e2 : ((XT.ushrL q1 (15 : Int32)) &&& (16777215 : Int64)).toInt = (XT.ushrL q1 (15 : Int32)).toInt % (2 ^ 24 : Nat) := c_maskL _ 16777215 24 (by decide) (by decide)
  rw [e1] at e2
  obtain ⟨vv, e_vv⟩ : ∃ z, z = ((XT.ushrL q1 (15 : Int32)) &&& (16777215 : Int64)) := ⟨_, rfl⟩
  rw [← e_vv] at e2 ⊢
  have e3 : vv.toInt = ((own_U q1 / 32768 % 16777216 : Nat) : Int) := by rw [e2]; omega
  clear e1 e2
  refine own_ldcL X0 hx hZ hown (hw _ (List.mem_of_getElem? (i := 13) rfl)) (hb hby d4_11) (q := 14) rfl ?_
  refine own_lrem X0 hx (hb hby d4_14) (by decide) (q := 15) rfl ?_
  have e4 : (vv - (vv / (8388606 : Int64)) * (8388606 : Int64)).toInt = vv.toInt % (8388606 : Int64).toInt := own_remL _ _ (by omega)
  rw [show (8388606 : Int64).toInt = 8388606 from rfl] at e4
  obtain ⟨rr, e_rr⟩ : ∃ z, z = (vv - (vv / (8388606 : Int64)) * (8388606 : Int64)) := ⟨_, rfl⟩
  rw [← e_rr] at e4 ⊢
  refine own_ladd X0 hx (hb hby d4_15) (q := 16) rfl ?_
  have hfin : ((8388609 : Int64) + rr).toInt = (own_mt q1 : Int) := by rw [own_addL _ _ (by rw [show (8388609 : Int64).toInt = 8388609 from rfl]; omega) (by rw [show (8388609 : Int64).toInt = 8388609 from rfl]; omega), e4, e3]; rfl
  exact own_retL X0 hx hret hlk (hb hby d4_16) (by decide) (by decide) ⟨⟨_, rfl, ⟨_, rfl, hfin⟩⟩, rfl, e0⟩
theorem d5_0 : decode method_4_code 0 = .ok (.lload_n 0, 1) := by decide +kernel
theorem d5_1 : decode method_4_code 1 = .ok (.iconst 3, 1) := by decide +kernel
theorem d5_2 : decode method_4_code 2 = .ok (.lushr, 1) := by decide +kernel
theorem d5_3 : decode method_4_code 3 = .ok (.lconst 1, 1) := by decide +kernel
theorem d5_4 : decode method_4_code 4 = .ok (.land, 1) := by decide +kernel
theorem d5_5 : decode method_4_code 5 = .ok (.lconst 0, 1) := by decide +kernel
theorem d5_6 : decode method_4_code 6 = .ok (.lcmp, 1) := by decide +kernel
theorem d5_7 : decode method_4_code 7 = .ok (.ifCond .eq 7, 3) := by decide +kernel
theorem d5_10 : decode method_4_code 10 = .ok (.iconst 1, 1) := by decide +kernel
theorem d5_11 : decode method_4_code 11 = .ok (.goto 4, 3) := by decide +kernel
theorem d5_14 : decode method_4_code 14 = .ok (.iconst 0, 1) := by decide +kernel
theorem d5_15 : decode method_4_code 15 = .ok (.ireturn, 1) := by decide +kernel
theorem own_pn5 : plainFor (⟨"com/example/prudent_query/prudentquery/model/HitCompareScoresPinLaw", "neg", "(J)Z"⟩ : MethodName) = true := plainFor_of_name (show plainName "com/example/prudent_query/prudentquery/model/HitCompareScoresPinLaw" = true by first | (simp [plainName, overriddenIn]; done) | decide +kernel)
theorem own_ef5 (m : MethodId) (q1 : Int64)  : entryFrame m #[(.long q1)] 2 = mkF m 0 #[.val (.long q1), .second] [] := by first | (simp [entryFrame, mkF, argsToLocals, Value.category, maxLocals]; done) | rfl
set_option maxRecDepth 65536 in
set_option maxHeartbeats 40000000 in
theorem own_rm5 (l : Launch) (Z : State) (a0 : Array Value) (hw : ∀ d ∈ tables_1, d.before a0 Z = true) (ws : List Jvm.Cond) (q1 : Int64)  (h0 : Heap)  :
    MetFree l (⟨"com/example/prudent_query/prudentquery/model/HitCompareScoresPinLaw", "neg", "(J)Z"⟩ : MethodName) (head1 (Jvm.Cond.code (⟨"com/example/prudent_query/prudentquery/model/HitCompareScoresPinLaw", "neg", "(J)Z"⟩ : MethodName) method_4_code 2 (some .boolean) :: ws) ({ frames := 0, cells := 0, slots := 0, locals := 0 } : Room)) (fun a U => a = #[(.long q1)] ∧ Z.Warmed39 U.vm ∧ U.heap = h0) (fun _ _ _ _ _ => True) (fun _ U o U' => ∃ v L, o = .returned v ∧ (fun v h L => (∃ w, v = some w ∧ (fun w => ∃ z : Int32, w = .int z ∧ z.toInt = (own_ng q1 : Int)) w) ∧ L = [] ∧ h = h0) v U'.heap L ∧ FrameEnd U o U' L ({ frames := 0, cells := 0, slots := 0, locals := 0 } : Room).cells ({ frames := 0, cells := 0, slots := 0, locals := 0 } : Room).slots) := by
  refine own_body (y := (⟨"com/example/prudent_query/prudentquery/model/HitCompareScoresPinLaw", "neg", "(J)Z"⟩ : MethodName)) (Q := fun v h L => (∃ w, v = some w ∧ (fun w => ∃ z : Int32, w = .int z ∧ z.toInt = (own_ng q1 : Int)) w) ∧ L = [] ∧ h = h0) (rm := ({ frames := 0, cells := 0, slots := 0, locals := 0 } : Room)) (as' := #[(.long q1)]) (h0 := h0) (Z := Z) own_pn5 ?_
  intro p e s m below meth c s₁ hx hby hml hown hnm hret hlk hZ X0 e0
  have hown : s.vm.findClass "com/example/prudent_query/prudentquery/model/HitCompareScoresPinLaw" = some m.cls := hown
  rw [own_ef5]
  refine own_lload_n X0 hx (hb hby d5_0) rfl (q := 1) rfl ?_
  refine own_iconst X0 hx (hb hby d5_1) (v := (3 : Int32)) rfl (q := 2) rfl ?_
  refine own_lushr X0 hx (hb hby d5_2) (q := 3) rfl ?_
  refine own_lconst X0 hx (hb hby d5_3) (v := (1 : Int64)) rfl (q := 4) rfl ?_
  refine own_land X0 hx (hb hby d5_4) (q := 5) rfl ?_
  have e1 : (XT.ushrL q1 (3 : Int32)).toInt = ((own_U q1 / 2 ^ 3 : Nat) : Int) := own_ush q1 3 3 rfl (by decide)
  have e2 : ((XT.ushrL q1 (3 : Int32)) &&& (1 : Int64)).toInt = (XT.ushrL q1 (3 : Int32)).toInt % (2 ^ 1 : Nat) := c_maskL _ 1 1 (by decide) (by decide)
  rw [e1] at e2
  obtain ⟨vv, e_vv⟩ : ∃ z, z = ((XT.ushrL q1 (3 : Int32)) &&& (1 : Int64)) := ⟨_, rfl⟩
  rw [← e_vv] at e2 ⊢
  have e3 : vv.toInt = ((own_U q1 / 8 % 2 : Nat) : Int) := by rw [e2]; omega
  clear e1 e2
  have e5 : (own_ng q1 : Int) = vv.toInt := by rw [e3]; rfl
  refine own_lconst X0 hx (hb hby d5_5) (v := (0 : Int64)) rfl (q := 6) rfl ?_
  refine own_lcmp X0 hx (hb hby d5_6) (q := 7) rfl ?_
  refine own_if X0 hx (hb hby d5_7) (by decide) (q := 14) rfl (q' := 10) rfl (own_l_eq _ _) (fun h7 => ?_) (fun h7 => ?_)
  · replace h7 : vv.toInt = (0 : Int) := h7
    refine own_iconst X0 hx (hb hby d5_14) (v := (0 : Int32)) rfl (q := 15) rfl ?_
    exact own_retN X0 hx (t := .boolean) hret hlk (by simp) (hb hby d5_15) (by decide) (by decide) (w := (0 : Int32)) rfl ⟨⟨_, rfl, ⟨_, rfl, by have hc_ : (0 : Int32).toInt = (0 : Int) := rfl; have c0_ : (0 : Int64).toInt = 0 := rfl; have b0_ : own_ng q1 < 2 := Nat.mod_lt _ (by decide); omega⟩⟩, rfl, e0⟩
  · replace h7 : ¬ (vv.toInt = (0 : Int)) := h7
    refine own_iconst X0 hx (hb hby d5_10) (v := (1 : Int32)) rfl (q := 11) rfl ?_
    refine own_goto X0 hx (hb hby d5_11) (by decide) (q := 15) rfl ?_
    exact own_retN X0 hx (t := .boolean) hret hlk (by simp) (hb hby d5_15) (by decide) (by decide) (w := (1 : Int32)) rfl ⟨⟨_, rfl, ⟨_, rfl, by have hc_ : (1 : Int32).toInt = (1 : Int) := rfl; have c0_ : (0 : Int64).toInt = 0 := rfl; have b0_ : own_ng q1 < 2 := Nat.mod_lt _ (by decide); omega⟩⟩, rfl, e0⟩
theorem d9_0 : decode jdk_29_method_61_code 0 = .ok (.lload_n 0, 1) := by decide +kernel
theorem d9_1 : decode jdk_29_method_61_code 1 = .ok (.lconst 0, 1) := by decide +kernel
theorem d9_2 : decode jdk_29_method_61_code 2 = .ok (.lcmp, 1) := by decide +kernel
theorem d9_3 : decode jdk_29_method_61_code 3 = .ok (.ifCond .ge 8, 3) := by decide +kernel
theorem d9_6 : decode jdk_29_method_61_code 6 = .ok (.lload_n 0, 1) := by decide +kernel
theorem d9_7 : decode jdk_29_method_61_code 7 = .ok (.lneg, 1) := by decide +kernel
theorem d9_8 : decode jdk_29_method_61_code 8 = .ok (.goto 4, 3) := by decide +kernel
theorem d9_11 : decode jdk_29_method_61_code 11 = .ok (.lload_n 0, 1) := by decide +kernel
theorem d9_12 : decode jdk_29_method_61_code 12 = .ok (.lreturn, 1) := by decide +kernel
theorem own_pn9 : plainFor (⟨"java/lang/Math", "abs", "(J)J"⟩ : MethodName) = true := by decide +kernel
theorem own_ef9 (m : MethodId) (q1 : Int64)  : entryFrame m #[(.long q1)] 2 = mkF m 0 #[.val (.long q1), .second] [] := by first | (simp [entryFrame, mkF, argsToLocals, Value.category, maxLocals]; done) | rfl
set_option maxRecDepth 65536 in
set_option maxHeartbeats 40000000 in
theorem own_rm9 (l : Launch) (Z : State) (a0 : Array Value) (hw : ∀ d ∈ tables_1, d.before a0 Z = true) (ws : List Jvm.Cond) (q1 : Int64)  (h0 : Heap) (h1 : -4611686018427387904 ≤ q1.toInt) (h2 : q1.toInt ≤ 4611686018427387904) :
    MetFree l (⟨"java/lang/Math", "abs", "(J)J"⟩ : MethodName) (head1 (Jvm.Cond.code (⟨"java/lang/Math", "abs", "(J)J"⟩ : MethodName) jdk_29_method_61_code 2 (some .long) :: ws) ({ frames := 0, cells := 0, slots := 0, locals := 0 } : Room)) (fun a U => a = #[(.long q1)] ∧ Z.Warmed39 U.vm ∧ U.heap = h0) (fun _ _ _ _ _ => True) (fun _ U o U' => ∃ v L, o = .returned v ∧ (fun v h L => (∃ w, v = some w ∧ (fun w => ∃ z : Int64, w = .long z ∧ z.toInt = (q1.toInt.natAbs : Int)) w) ∧ L = [] ∧ h = h0) v U'.heap L ∧ FrameEnd U o U' L ({ frames := 0, cells := 0, slots := 0, locals := 0 } : Room).cells ({ frames := 0, cells := 0, slots := 0, locals := 0 } : Room).slots) := by
  refine own_body (y := (⟨"java/lang/Math", "abs", "(J)J"⟩ : MethodName)) (Q := fun v h L => (∃ w, v = some w ∧ (fun w => ∃ z : Int64, w = .long z ∧ z.toInt = (q1.toInt.natAbs : Int)) w) ∧ L = [] ∧ h = h0) (rm := ({ frames := 0, cells := 0, slots := 0, locals := 0 } : Room)) (as' := #[(.long q1)]) (h0 := h0) (Z := Z) own_pn9 ?_
  intro p e s m below meth c s₁ hx hby hml hown hnm hret hlk hZ X0 e0
  have hown : s.vm.findClass "java/lang/Math" = some m.cls := hown
  rw [own_ef9]
  refine own_lload_n X0 hx (hb hby d9_0) rfl (q := 1) rfl ?_
  refine own_lconst X0 hx (hb hby d9_1) (v := (0 : Int64)) rfl (q := 2) rfl ?_
  refine own_lcmp X0 hx (hb hby d9_2) (q := 3) rfl ?_
  refine own_if X0 hx (hb hby d9_3) (by decide) (q := 11) rfl (q' := 6) rfl (own_l_ge _ _) (fun h3 => ?_) (fun h3 => ?_)
  · replace h3 : (0 : Int) ≤ q1.toInt := h3
    refine own_lload_n X0 hx (hb hby d9_11) rfl (q := 12) rfl ?_
    exact own_retL X0 hx hret hlk (hb hby d9_12) (by decide) (by decide) ⟨⟨_, rfl, ⟨_, rfl, by have c0_ : (0 : Int64).toInt = 0 := rfl; have n1_ := c_lneg q1; have n2_ := rng64 (-q1); omega⟩⟩, rfl, e0⟩
  · replace h3 : ¬ ((0 : Int) ≤ q1.toInt) := h3
    refine own_lload_n X0 hx (hb hby d9_6) rfl (q := 7) rfl ?_
    refine own_lneg X0 hx (hb hby d9_7) (q := 8) rfl ?_
    refine own_goto X0 hx (hb hby d9_8) (by decide) (q := 12) rfl ?_
    exact own_retL X0 hx hret hlk (hb hby d9_12) (by decide) (by decide) ⟨⟨_, rfl, ⟨_, rfl, by have c0_ : (0 : Int64).toInt = 0 := rfl; have n1_ := c_lneg q1; have n2_ := rng64 (-q1); omega⟩⟩, rfl, e0⟩
theorem d6_0 : decode method_8_code 0 = .ok (.lconst 1, 1) := by decide +kernel
theorem d6_1 : decode method_8_code 1 = .ok (.lload_n 0, 1) := by decide +kernel
theorem d6_2 : decode method_8_code 2 = .ok (.invokestatic 40, 3) := by decide +kernel
theorem d6_5 : decode method_8_code 5 = .ok (.lshl, 1) := by decide +kernel
theorem d6_6 : decode method_8_code 6 = .ok (.lstore 4, 2) := by decide +kernel
theorem d6_8 : decode method_8_code 8 = .ok (.lload_n 2, 1) := by decide +kernel
theorem d6_9 : decode method_8_code 9 = .ok (.ldc2_w 43, 3) := by decide +kernel
theorem d6_12 : decode method_8_code 12 = .ok (.land, 1) := by decide +kernel
theorem d6_13 : decode method_8_code 13 = .ok (.ldc2_w 45, 3) := by decide +kernel
theorem d6_16 : decode method_8_code 16 = .ok (.lload 4, 2) := by decide +kernel
theorem d6_18 : decode method_8_code 18 = .ok (.lmul, 1) := by decide +kernel
theorem d6_19 : decode method_8_code 19 = .ok (.lconst 1, 1) := by decide +kernel
theorem d6_20 : decode method_8_code 20 = .ok (.ladd, 1) := by decide +kernel
theorem d6_21 : decode method_8_code 21 = .ok (.lrem, 1) := by decide +kernel
theorem d6_22 : decode method_8_code 22 = .ok (.lload 4, 2) := by decide +kernel
theorem d6_24 : decode method_8_code 24 = .ok (.lsub, 1) := by decide +kernel
theorem d6_25 : decode method_8_code 25 = .ok (.lreturn, 1) := by decide +kernel
theorem own_pn6 : plainFor (⟨"com/example/prudent_query/prudentquery/model/HitCompareScoresPinLaw", "offset", "(JJ)J"⟩ : MethodName) = true := plainFor_of_name (show plainName "com/example/prudent_query/prudentquery/model/HitCompareScoresPinLaw" = true by first | (simp [plainName, overriddenIn]; done) | decide +kernel)
theorem own_ef6 (m : MethodId) (q1 : Int64) (q2 : Int64)  : entryFrame m #[(.long q1), (.long q2)] 6 = mkF m 0 #[.val (.long q1), .second, .val (.long q2), .second, .unset, .unset] [] := by first | (simp [entryFrame, mkF, argsToLocals, Value.category, maxLocals]; done) | rfl
set_option maxRecDepth 65536 in
set_option maxHeartbeats 40000000 in
theorem own_rm6 (l : Launch) (Z : State) (a0 : Array Value) (hw : ∀ d ∈ tables_1, d.before a0 Z = true) (ws : List Jvm.Cond) (q1 : Int64) (q2 : Int64)  (h0 : Heap)  :
    MetFree l (⟨"com/example/prudent_query/prudentquery/model/HitCompareScoresPinLaw", "offset", "(JJ)J"⟩ : MethodName) (head1 (Jvm.Cond.code (⟨"com/example/prudent_query/prudentquery/model/HitCompareScoresPinLaw", "offset", "(JJ)J"⟩ : MethodName) method_8_code 6 (some .long) :: ws) ({ frames := 1, cells := 0, slots := 0, locals := 15 } : Room)) (fun a U => a = #[(.long q1), (.long q2)] ∧ Z.Warmed39 U.vm ∧ U.heap = h0) (fun _ _ _ _ _ => True) (fun _ U o U' => ∃ v L, o = .returned v ∧ (fun v h L => (∃ w, v = some w ∧ (fun w => ∃ z : Int64, w = .long z ∧ z.toInt = own_of q1 q2) w) ∧ L = [] ∧ h = h0) v U'.heap L ∧ FrameEnd U o U' L ({ frames := 1, cells := 0, slots := 0, locals := 15 } : Room).cells ({ frames := 1, cells := 0, slots := 0, locals := 15 } : Room).slots) := by
  refine own_body (y := (⟨"com/example/prudent_query/prudentquery/model/HitCompareScoresPinLaw", "offset", "(JJ)J"⟩ : MethodName)) (Q := fun v h L => (∃ w, v = some w ∧ (fun w => ∃ z : Int64, w = .long z ∧ z.toInt = own_of q1 q2) w) ∧ L = [] ∧ h = h0) (rm := ({ frames := 1, cells := 0, slots := 0, locals := 15 } : Room)) (as' := #[(.long q1), (.long q2)]) (h0 := h0) (Z := Z) own_pn6 ?_
  intro p e s m below meth c s₁ hx hby hml hown hnm hret hlk hZ X0 e0
  have hown : s.vm.findClass "com/example/prudent_query/prudentquery/model/HitCompareScoresPinLaw" = some m.cls := hown
  rw [own_ef6]
  refine own_lconst X0 hx (hb hby d6_0) (v := (1 : Int64)) rfl (q := 1) rfl ?_
  refine own_lload_n X0 hx (hb hby d6_1) rfl (q := 2) rfl ?_
  refine own_callSP X0 hx hZ hown (hw _ (List.mem_of_getElem? (i := 14) rfl)) (hw _ (List.mem_of_getElem? (i := 15) rfl)) (hw _ (List.mem_of_getElem? (i := 2) rfl)) (hw _ (List.mem_of_getElem? (i := 16) rfl)) (by decide) (own_rm2 l Z a0 hw [] q1  h0 ) (by decide) (by decide) e0 (by rw [hml]; rfl) (argsL := [(.long q1)]) (rest := [(.long (1 : Int64))]) (lenOf own_pd0 rfl) rfl (W := 2) rfl (hb hby d6_2) (q := 5) rfl rfl rfl rfl (by decide) (by decide) ?_
  rintro _ T1 ⟨z1, rfl, hz1⟩ X1 e1
  refine own_lshl X1 hx (hb hby d6_5) (q := 6) rfl ?_
  have sb_up : own_sh q1 ≤ 29 := (own_pw q1).1
  have s3_up : 1 ≤ (2 : Nat) ^ own_sh q1 := Nat.two_pow_pos _
  have s2_up : (2 : Nat) ^ own_sh q1 ≤ 2 ^ 29 := Nat.pow_le_pow_right (by decide) sb_up
  have s1_up : ((1 : Int64) <<< (z1.toInt64 &&& 63)).toInt = ((2 ^ own_sh q1 : Nat) : Int) := own_shl 1 z1 (own_sh q1) hz1 (by omega) (by rw [show (1 : Int64).toInt = 1 from rfl, Int.one_mul]) (Int.natCast_nonneg _) (by omega)
  obtain ⟨up, e_up⟩ : ∃ z, z = ((1 : Int64) <<< (z1.toInt64 &&& 63)) := ⟨_, rfl⟩
  rw [← e_up] at s1_up ⊢
  refine own_lstore X1 hx (hb hby d6_6) (l' := #[.val (.long q1), .second, .val (.long q2), .second, .val (.long up), .second]) rfl (q := 8) rfl ?_
  refine own_lload_n X1 hx (hb hby d6_8) rfl (q := 9) rfl ?_
  refine own_ldcL X1 hx hZ hown (hw _ (List.mem_of_getElem? (i := 22) rfl)) (hb hby d6_9) (q := 12) rfl ?_
  refine own_land X1 hx (hb hby d6_12) (q := 13) rfl ?_
  have ye1 : (q2 &&& (9223372036854775807 : Int64)).toInt = q2.toInt % (2 ^ 63 : Nat) := c_maskL _ 9223372036854775807 63 (by decide) (by decide)
  obtain ⟨dm, e_dm⟩ : ∃ z, z = (q2 &&& (9223372036854775807 : Int64)) := ⟨_, rfl⟩
  rw [← e_dm] at ye1 ⊢
  have ye2 : dm.toInt = ((own_U q2 % 9223372036854775808 : Nat) : Int) := by rw [ye1]; unfold own_U; omega
  refine own_ldcL X1 hx hZ hown (hw _ (List.mem_of_getElem? (i := 23) rfl)) (hb hby d6_13) (q := 16) rfl ?_
  refine own_lload X1 hx (hb hby d6_16) rfl (q := 18) rfl ?_
  refine own_lmul X1 hx (hb hby d6_18) (q := 19) rfl ?_
  have ye3 : ((2 : Int64) * up).toInt = 2 * up.toInt := by rw [own_mulL _ _ (by rw [show (2 : Int64).toInt = 2 from rfl]; omega) (by rw [show (2 : Int64).toInt = 2 from rfl]; omega)]; rfl
  obtain ⟨u2, e_u2⟩ : ∃ z, z = ((2 : Int64) * up) := ⟨_, rfl⟩
  rw [← e_u2] at ye3 ⊢
  refine own_lconst X1 hx (hb hby d6_19) (v := (1 : Int64)) rfl (q := 20) rfl ?_
  refine own_ladd X1 hx (hb hby d6_20) (q := 21) rfl ?_
  have ye4 : (u2 + (1 : Int64)).toInt = u2.toInt + 1 := by rw [own_addL _ _ (by rw [show (1 : Int64).toInt = 1 from rfl]; omega) (by rw [show (1 : Int64).toInt = 1 from rfl]; omega)]; rfl
  obtain ⟨u3, e_u3⟩ : ∃ z, z = (u2 + (1 : Int64)) := ⟨_, rfl⟩
  rw [← e_u3] at ye4 ⊢
  refine own_lrem X1 hx (hb hby d6_21) (fun q => by have q1_ := congrArg Int64.toInt q; rw [show (0 : Int64).toInt = 0 from rfl] at q1_; omega) (q := 22) rfl ?_
  have ye5 : (dm - (dm / u3) * u3).toInt = dm.toInt % u3.toInt := own_remL _ _ (by omega)
  obtain ⟨rr, e_rr⟩ : ∃ z, z = (dm - (dm / u3) * u3) := ⟨_, rfl⟩
  rw [← e_rr] at ye5 ⊢
  have ye6 : rr.toInt = (((own_U q2 % 9223372036854775808) % (2 * 2 ^ own_sh q1 + 1) : Nat) : Int) := by rw [ye5, ye2, show u3.toInt = ((2 * 2 ^ own_sh q1 + 1 : Nat) : Int) by omega, ← Int.natCast_emod]
  have ye7 := Nat.mod_lt (own_U q2 % 9223372036854775808) (show 0 < 2 * 2 ^ own_sh q1 + 1 by omega)
  refine own_lload X1 hx (hb hby d6_22) rfl (q := 24) rfl ?_
  refine own_lsub X1 hx (hb hby d6_24) (q := 25) rfl ?_
  have hfin : (rr - up).toInt = own_of q1 q2 := by rw [own_subL _ _ (by omega) (by omega), ye6, s1_up]; rfl
  exact own_retL X1 hx hret hlk (hb hby d6_25) (by decide) (by decide) ⟨⟨_, rfl, ⟨_, rfl, hfin⟩⟩, rfl, e1⟩
theorem d7_0 : decode method_9_code 0 = .ok (.lload_n 0, 1) := by decide +kernel
theorem d7_1 : decode method_9_code 1 = .ok (.invokestatic 47, 3) := by decide +kernel
theorem d7_4 : decode method_9_code 4 = .ok (.istore 4, 2) := by decide +kernel
theorem d7_6 : decode method_9_code 6 = .ok (.iload 4, 2) := by decide +kernel
theorem d7_8 : decode method_9_code 8 = .ok (.ifCond .ne 9, 3) := by decide +kernel
theorem d7_11 : decode method_9_code 11 = .ok (.dconst 0, 1) := by decide +kernel
theorem d7_12 : decode method_9_code 12 = .ok (.dstore 5, 2) := by decide +kernel
theorem d7_14 : decode method_9_code 14 = .ok (.goto 51, 3) := by decide +kernel
theorem d7_17 : decode method_9_code 17 = .ok (.lload_n 0, 1) := by decide +kernel
theorem d7_18 : decode method_9_code 18 = .ok (.invokestatic 50, 3) := by decide +kernel
theorem d7_21 : decode method_9_code 21 = .ok (.lload_n 0, 1) := by decide +kernel
theorem d7_22 : decode method_9_code 22 = .ok (.invokestatic 40, 3) := by decide +kernel
theorem d7_25 : decode method_9_code 25 = .ok (.lshl, 1) := by decide +kernel
theorem d7_26 : decode method_9_code 26 = .ok (.lload_n 0, 1) := by decide +kernel
theorem d7_27 : decode method_9_code 27 = .ok (.lload_n 2, 1) := by decide +kernel
theorem d7_28 : decode method_9_code 28 = .ok (.invokestatic 54, 3) := by decide +kernel
theorem d7_31 : decode method_9_code 31 = .ok (.ladd, 1) := by decide +kernel
theorem d7_32 : decode method_9_code 32 = .ok (.lstore 7, 2) := by decide +kernel
theorem d7_34 : decode method_9_code 34 = .ok (.iload 4, 2) := by decide +kernel
theorem d7_36 : decode method_9_code 36 = .ok (.iconst 3, 1) := by decide +kernel
theorem d7_37 : decode method_9_code 37 = .ok (.if_icmp .ne 15, 3) := by decide +kernel
theorem d7_40 : decode method_9_code 40 = .ok (.lload 7, 2) := by decide +kernel
theorem d7_42 : decode method_9_code 42 = .ok (.l2d, 1) := by decide +kernel
theorem d7_43 : decode method_9_code 43 = .ok (.ldc2_w 58, 3) := by decide +kernel
theorem d7_46 : decode method_9_code 46 = .ok (.dmul, 1) := by decide +kernel
theorem d7_47 : decode method_9_code 47 = .ok (.dstore 5, 2) := by decide +kernel
theorem d7_49 : decode method_9_code 49 = .ok (.goto 16, 3) := by decide +kernel
theorem d7_52 : decode method_9_code 52 = .ok (.lload 7, 2) := by decide +kernel
theorem d7_54 : decode method_9_code 54 = .ok (.l2d, 1) := by decide +kernel
theorem d7_55 : decode method_9_code 55 = .ok (.lconst 1, 1) := by decide +kernel
theorem d7_56 : decode method_9_code 56 = .ok (.lload_n 0, 1) := by decide +kernel
theorem d7_57 : decode method_9_code 57 = .ok (.invokestatic 60, 3) := by decide +kernel
theorem d7_60 : decode method_9_code 60 = .ok (.lshl, 1) := by decide +kernel
theorem d7_61 : decode method_9_code 61 = .ok (.l2d, 1) := by decide +kernel
theorem d7_62 : decode method_9_code 62 = .ok (.ddiv, 1) := by decide +kernel
theorem d7_63 : decode method_9_code 63 = .ok (.dstore 5, 2) := by decide +kernel
theorem d7_65 : decode method_9_code 65 = .ok (.lload_n 0, 1) := by decide +kernel
theorem d7_66 : decode method_9_code 66 = .ok (.invokestatic 63, 3) := by decide +kernel
theorem d7_69 : decode method_9_code 69 = .ok (.ifCond .eq 9, 3) := by decide +kernel
theorem d7_72 : decode method_9_code 72 = .ok (.dload 5, 2) := by decide +kernel
theorem d7_74 : decode method_9_code 74 = .ok (.dneg, 1) := by decide +kernel
theorem d7_75 : decode method_9_code 75 = .ok (.goto 5, 3) := by decide +kernel
theorem d7_78 : decode method_9_code 78 = .ok (.dload 5, 2) := by decide +kernel
theorem d7_80 : decode method_9_code 80 = .ok (.dreturn, 1) := by decide +kernel
theorem own_pn7 : plainFor (⟨"com/example/prudent_query/prudentquery/model/HitCompareScoresPinLaw", "value", "(JJ)D"⟩ : MethodName) = true := plainFor_of_name (show plainName "com/example/prudent_query/prudentquery/model/HitCompareScoresPinLaw" = true by first | (simp [plainName, overriddenIn]; done) | decide +kernel)
theorem own_ef7 (m : MethodId) (q1 : Int64) (q2 : Int64)  : entryFrame m #[(.long q1), (.long q2)] 9 = mkF m 0 #[.val (.long q1), .second, .val (.long q2), .second, .unset, .unset, .unset, .unset, .unset] [] := by first | (simp [entryFrame, mkF, argsToLocals, Value.category, maxLocals]; done) | rfl
set_option maxRecDepth 65536 in
set_option maxHeartbeats 40000000 in
theorem own_rm7 (l : Launch) (Z : State) (a0 : Array Value) (hw : ∀ d ∈ tables_1, d.before a0 Z = true) (ws : List Jvm.Cond) (q1 : Int64) (q2 : Int64)  (h0 : Heap)  :
    MetFree l (⟨"com/example/prudent_query/prudentquery/model/HitCompareScoresPinLaw", "value", "(JJ)D"⟩ : MethodName) (head1 (Jvm.Cond.code (⟨"com/example/prudent_query/prudentquery/model/HitCompareScoresPinLaw", "value", "(JJ)D"⟩ : MethodName) method_9_code 9 (some .double) :: ws) ({ frames := 2, cells := 0, slots := 0, locals := 34 } : Room)) (fun a U => a = #[(.long q1), (.long q2)] ∧ Z.Warmed39 U.vm ∧ U.heap = h0) (fun _ _ _ _ _ => True) (fun _ U o U' => ∃ v L, o = .returned v ∧ (fun v h L => (∃ w, v = some w ∧ (fun w => ∃ x : UInt64, w = .double x ∧ own_VX (own_md q1) (own_ng q1) (own_mm q1 q2) (own_jj q1) x) w) ∧ L = [] ∧ h = h0) v U'.heap L ∧ FrameEnd U o U' L ({ frames := 2, cells := 0, slots := 0, locals := 34 } : Room).cells ({ frames := 2, cells := 0, slots := 0, locals := 34 } : Room).slots) := by
  refine own_body (y := (⟨"com/example/prudent_query/prudentquery/model/HitCompareScoresPinLaw", "value", "(JJ)D"⟩ : MethodName)) (Q := fun v h L => (∃ w, v = some w ∧ (fun w => ∃ x : UInt64, w = .double x ∧ own_VX (own_md q1) (own_ng q1) (own_mm q1 q2) (own_jj q1) x) w) ∧ L = [] ∧ h = h0) (rm := ({ frames := 2, cells := 0, slots := 0, locals := 34 } : Room)) (as' := #[(.long q1), (.long q2)]) (h0 := h0) (Z := Z) own_pn7 ?_
  intro p e s m below meth c s₁ hx hby hml hown hnm hret hlk hZ X0 e0
  have hown : s.vm.findClass "com/example/prudent_query/prudentquery/model/HitCompareScoresPinLaw" = some m.cls := hown
  rw [own_ef7]
  refine own_lload_n X0 hx (hb hby d7_0) rfl (q := 1) rfl ?_
  refine own_callSP X0 hx hZ hown (hw _ (List.mem_of_getElem? (i := 4) rfl)) (hw _ (List.mem_of_getElem? (i := 5) rfl)) (hw _ (List.mem_of_getElem? (i := 2) rfl)) (hw _ (List.mem_of_getElem? (i := 6) rfl)) (by decide) (own_rm1 l Z a0 hw [] q1  h0 ) (by decide) (by decide) e0 (by rw [hml]; rfl) (argsL := [(.long q1)]) (rest := []) (lenOf own_pd0 rfl) rfl (W := 0) rfl (hb hby d7_1) (q := 4) rfl rfl rfl rfl (by decide) (by decide) ?_
  rintro _ T1 ⟨z1, rfl, hz1⟩ X1 e1
  have hmd := hz1
  refine own_istore X1 hx (hb hby d7_4) (l' := #[.val (.long q1), .second, .val (.long q2), .second, .val (.int z1), .unset, .unset, .unset, .unset]) rfl (q := 6) rfl ?_
  refine own_iload X1 hx (hb hby d7_6) rfl (q := 8) rfl ?_
  have J65_2 : ∀ (T3 : State) (X3 : Stand p l e ({ frames := 2, cells := 0, slots := 0, locals := 34 } : Room) s m #[(.long q1), (.long q2)] below meth c T3 [] (0) (0)) (e3 : T3.heap = h0) (mg : UInt64) (s7 : Slot) (s8 : Slot) (g65_0 : own_VX (own_md q1) 0 (own_mm q1 q2) (own_jj q1) mg), own_G p e below (own_En s ({ frames := 2, cells := 0, slots := 0, locals := 34 } : Room).cells ({ frames := 2, cells := 0, slots := 0, locals := 34 } : Room).slots (fun v h L => (∃ w, v = some w ∧ (fun w => ∃ x : UInt64, w = .double x ∧ own_VX (own_md q1) (own_ng q1) (own_mm q1 q2) (own_jj q1) x) w) ∧ L = [] ∧ h = h0)) (T3.setTop (mkF m 65 #[.val (.long q1), .second, .val (.long q2), .second, .val (.int z1), .val (.double mg), .second, s7, s8] [])) := by
    intro T3 X3 e3 mg s7 s8 g65_0
    refine own_lload_n X3 hx (hb hby d7_65) rfl (q := 66) rfl ?_
    refine own_callSP X3 hx hZ hown (hw _ (List.mem_of_getElem? (i := 28) rfl)) (hw _ (List.mem_of_getElem? (i := 29) rfl)) (hw _ (List.mem_of_getElem? (i := 2) rfl)) (hw _ (List.mem_of_getElem? (i := 30) rfl)) (by decide) (own_rm5 l Z a0 hw [] q1  h0 ) (by decide) (by decide) e3 (by rw [hml]; rfl) (argsL := [(.long q1)]) (rest := []) (lenOf own_pd1 rfl) rfl (W := 0) rfl (hb hby d7_66) (q := 69) rfl rfl rfl rfl (by decide) (by decide) ?_
    rintro _ T4 ⟨z4, rfl, hz4⟩ X4 e4
    have hng := hz4
    refine own_if X4 hx (hb hby d7_69) (by decide) (q := 78) rfl (q' := 72) rfl (own_z_eq _) (fun h69 => ?_) (fun h69 => ?_)
    · replace h69 : z4.toInt = 0 := h69
      have hR : own_VX (own_md q1) (own_ng q1) (own_mm q1 q2) (own_jj q1) mg := by rw [show own_ng q1 = 0 by omega]; exact g65_0
      refine own_dload X4 hx (hb hby d7_78) rfl (q := 80) rfl ?_
      exact own_retD X4 hx hret hlk (hb hby d7_80) (by decide) (by decide) ⟨⟨_, rfl, ⟨_, rfl, hR⟩⟩, rfl, e4⟩
    · replace h69 : ¬ (z4.toInt = 0) := h69
      have hR : own_VX (own_md q1) (own_ng q1) (own_mm q1 q2) (own_jj q1) (FP.dneg mg) := by rw [show own_ng q1 = 1 by have b0_ : own_ng q1 < 2 := Nat.mod_lt _ (by decide); omega]; exact own_VX_neg g65_0
      refine own_dload X4 hx (hb hby d7_72) rfl (q := 74) rfl ?_
      refine own_dneg X4 hx (hb hby d7_74) (q := 75) rfl ?_
      refine own_goto X4 hx (hb hby d7_75) (by decide) (q := 80) rfl ?_
      exact own_retD X4 hx hret hlk (hb hby d7_80) (by decide) (by decide) ⟨⟨_, rfl, ⟨_, rfl, hR⟩⟩, rfl, e4⟩
  refine own_if X1 hx (hb hby d7_8) (by decide) (q := 17) rfl (q' := 11) rfl (own_z_ne _) (fun h8 => ?_) (fun h8 => ?_)
  · replace h8 : z1.toInt ≠ 0 := h8
    refine own_lload_n X1 hx (hb hby d7_17) rfl (q := 18) rfl ?_
    refine own_callSP X1 hx hZ hown (hw _ (List.mem_of_getElem? (i := 8) rfl)) (hw _ (List.mem_of_getElem? (i := 9) rfl)) (hw _ (List.mem_of_getElem? (i := 2) rfl)) (hw _ (List.mem_of_getElem? (i := 10) rfl)) (by decide) (own_rm4 l Z a0 hw [] q1  h0 ) (by decide) (by decide) e1 (by rw [hml]; rfl) (argsL := [(.long q1)]) (rest := []) (lenOf own_pd2 rfl) rfl (W := 0) rfl (hb hby d7_18) (q := 21) rfl rfl rfl rfl (by decide) (by decide) ?_
    rintro _ T5 ⟨z5, rfl, hz5⟩ X5 e5
    refine own_lload_n X5 hx (hb hby d7_21) rfl (q := 22) rfl ?_
    refine own_callSP X5 hx hZ hown (hw _ (List.mem_of_getElem? (i := 14) rfl)) (hw _ (List.mem_of_getElem? (i := 15) rfl)) (hw _ (List.mem_of_getElem? (i := 2) rfl)) (hw _ (List.mem_of_getElem? (i := 16) rfl)) (by decide) (own_rm2 l Z a0 hw [] q1  h0 ) (by decide) (by decide) e5 (by rw [hml]; rfl) (argsL := [(.long q1)]) (rest := [(.long z5)]) (lenOf own_pd0 rfl) rfl (W := 2) rfl (hb hby d7_22) (q := 25) rfl rfl rfl rfl (by decide) (by decide) ?_
    rintro _ T6 ⟨z6, rfl, hz6⟩ X6 e6
    refine own_lshl X6 hx (hb hby d7_25) (q := 26) rfl ?_
    obtain ⟨b1_, b2_, b3_, b4_, b5_, b6_⟩ := own_pw q1
    obtain ⟨o1_, o2_, o3_, o4_, o5_, o6_, o7_, o8_⟩ := own_sp q1 q2
    have s1 : (z5 <<< (z6.toInt64 &&& 63)).toInt = ((own_mt q1 * 2 ^ own_sh q1 : Nat) : Int) := own_shl z5 z6 (own_sh q1) hz6 (by omega) (by rw [hz5, Int.natCast_mul]) (Int.natCast_nonneg _) (by omega)
    obtain ⟨ms, e_ms⟩ : ∃ z, z = (z5 <<< (z6.toInt64 &&& 63)) := ⟨_, rfl⟩
    rw [← e_ms] at s1 ⊢
    refine own_lload_n X6 hx (hb hby d7_26) rfl (q := 27) rfl ?_
    refine own_lload_n X6 hx (hb hby d7_27) rfl (q := 28) rfl ?_
    refine own_callSP X6 hx hZ hown (hw _ (List.mem_of_getElem? (i := 19) rfl)) (hw _ (List.mem_of_getElem? (i := 20) rfl)) (hw _ (List.mem_of_getElem? (i := 2) rfl)) (hw _ (List.mem_of_getElem? (i := 21) rfl)) (by decide) (own_rm6 l Z a0 hw [] q1 q2  h0 ) (by decide) (by decide) e6 (by rw [hml]; rfl) (argsL := [(.long q1), (.long q2)]) (rest := [(.long ms)]) (lenOf own_pd3 rfl) rfl (W := 2) rfl (hb hby d7_28) (q := 31) rfl rfl rfl rfl (by decide) (by decide) ?_
    rintro _ T7 ⟨z7, rfl, hz7⟩ X7 e7
    refine own_ladd X7 hx (hb hby d7_31) (q := 32) rfl ?_
    have n1 : (ms + z7).toInt = (own_nn q1 q2 : Int) := by rw [own_addL _ _ (by omega) (by omega)]; omega
    obtain ⟨nl, e_nl⟩ : ∃ z, z = (ms + z7) := ⟨_, rfl⟩
    rw [← e_nl] at n1 ⊢
    have hD : own_D (own_nn q1 q2) 0 (FP.l2d nl) := own_round o6_ (by decide) (by decide) (by rw [show FP.l2d nl = Jvm.FP.Core.l2d nl from rfl, own_Dl (by omega), n1, Int.toNat_natCast])
    refine own_lstore X7 hx (hb hby d7_32) (l' := #[.val (.long q1), .second, .val (.long q2), .second, .val (.int z1), .unset, .unset, .val (.long nl), .second]) rfl (q := 34) rfl ?_
    refine own_iload X7 hx (hb hby d7_34) rfl (q := 36) rfl ?_
    refine own_iconst X7 hx (hb hby d7_36) (v := (3 : Int32)) rfl (q := 37) rfl ?_
    refine own_icmp X7 hx (hb hby d7_37) (by decide) (q := 52) rfl (q' := 40) rfl (own_h_ne _ _) (fun h37 => ?_) (fun h37 => ?_)
    · replace h37 : z1.toInt ≠ (3 : Int) := h37
      refine own_lload X7 hx (hb hby d7_52) rfl (q := 54) rfl ?_
      refine own_l2d X7 hx (hb hby d7_54) (q := 55) rfl ?_
      refine own_lconst X7 hx (hb hby d7_55) (v := (1 : Int64)) rfl (q := 56) rfl ?_
      refine own_lload_n X7 hx (hb hby d7_56) rfl (q := 57) rfl ?_
      refine own_callSP X7 hx hZ hown (hw _ (List.mem_of_getElem? (i := 24) rfl)) (hw _ (List.mem_of_getElem? (i := 25) rfl)) (hw _ (List.mem_of_getElem? (i := 2) rfl)) (hw _ (List.mem_of_getElem? (i := 26) rfl)) (by decide) (own_rm3 l Z a0 hw [] q1  h0 ) (by decide) (by decide) e7 (by rw [hml]; rfl) (argsL := [(.long q1)]) (rest := [(.long (1 : Int64)), (.double (FP.l2d nl))]) (lenOf own_pd0 rfl) rfl (W := 4) rfl (hb hby d7_57) (q := 60) rfl rfl rfl rfl (by decide) (by decide) ?_
      rintro _ T8 ⟨z8, rfl, hz8⟩ X8 e8
      refine own_lshl X8 hx (hb hby d7_60) (q := 61) rfl ?_
      have sb_us : own_sc q1 ≤ 62 := (own_pw q1).2.1
      have s3_us : 1 ≤ (2 : Nat) ^ own_sc q1 := Nat.two_pow_pos _
      have s2_us : (2 : Nat) ^ own_sc q1 ≤ 2 ^ 62 := Nat.pow_le_pow_right (by decide) sb_us
      have s1_us : ((1 : Int64) <<< (z8.toInt64 &&& 63)).toInt = ((2 ^ own_sc q1 : Nat) : Int) := own_shl 1 z8 (own_sc q1) hz8 (by omega) (by rw [show (1 : Int64).toInt = 1 from rfl, Int.one_mul]) (Int.natCast_nonneg _) (by omega)
      obtain ⟨us, e_us⟩ : ∃ z, z = ((1 : Int64) <<< (z8.toInt64 &&& 63)) := ⟨_, rfl⟩
      rw [← e_us] at s1_us ⊢
      refine own_l2d X8 hx (hb hby d7_61) (q := 62) rfl ?_
      have hD1 : own_D (own_nn q1 q2) (-(own_sc q1 : Int)) (FP.ddiv (FP.l2d nl) (FP.l2d us)) := own_round o6_ (by omega) (by omega) (own_Ddiv hD (own_Dp s1_us sb_us))
      refine own_ddiv X8 hx (hb hby d7_62) (hD1.fin) (q := 63) rfl ?_
      have hV : own_VX (own_md q1) 0 (own_mm q1 q2) (own_jj q1) (FP.ddiv (FP.l2d nl) (FP.l2d us)) := own_VXv q1 q2 (by omega) (by omega) hD1
      refine own_dstore X8 hx (hb hby d7_63) (l' := #[.val (.long q1), .second, .val (.long q2), .second, .val (.int z1), .val (.double (FP.ddiv (FP.l2d nl) (FP.l2d us))), .second, .val (.long nl), .second]) rfl (q := 65) rfl ?_
      exact J65_2 T8 X8 e8 (FP.ddiv (FP.l2d nl) (FP.l2d us)) (.val (.long nl)) (.second) (by exact hV)
    · replace h37 : ¬ (z1.toInt ≠ (3 : Int)) := h37
      refine own_lload X7 hx (hb hby d7_40) rfl (q := 42) rfl ?_
      refine own_l2d X7 hx (hb hby d7_42) (q := 43) rfl ?_
      refine own_ldcD X7 hx hZ hown (hw _ (List.mem_of_getElem? (i := 46) rfl)) (hb hby d7_43) (q := 46) rfl ?_
      have hD3 : own_D (own_nn q1 q2) 120 (FP.dmul (FP.l2d nl) (5147614374084476928 : UInt64)) := own_round o6_ (by decide) (by decide) (own_Dmul hD)
      refine own_dmul X7 hx (hb hby d7_46) (hD3.fin) (q := 47) rfl ?_
      have hV : own_VX (own_md q1) 0 (own_mm q1 q2) (own_jj q1) (FP.dmul (FP.l2d nl) (5147614374084476928 : UInt64)) := by rw [show own_md q1 = 3 by omega]; exact own_VX_3 hD3 o7_
      refine own_dstore X7 hx (hb hby d7_47) (l' := #[.val (.long q1), .second, .val (.long q2), .second, .val (.int z1), .val (.double (FP.dmul (FP.l2d nl) (5147614374084476928 : UInt64))), .second, .val (.long nl), .second]) rfl (q := 49) rfl ?_
      refine own_goto X7 hx (hb hby d7_49) (by decide) (q := 65) rfl ?_
      exact J65_2 T7 X7 e7 (FP.dmul (FP.l2d nl) (5147614374084476928 : UInt64)) (.val (.long nl)) (.second) (by exact hV)
  · replace h8 : ¬ (z1.toInt ≠ 0) := h8
    have hV : own_VX (own_md q1) 0 (own_mm q1 q2) (own_jj q1) FP.dconst0 := by rw [show own_md q1 = 0 by omega]; exact own_VX_0 Jvm.FP.Core.val64_dconst0
    refine own_dconst0 X1 hx (hb hby d7_11) (q := 12) rfl ?_
    refine own_dstore X1 hx (hb hby d7_12) (l' := #[.val (.long q1), .second, .val (.long q2), .second, .val (.int z1), .val (.double FP.dconst0), .second, .unset, .unset]) rfl (q := 14) rfl ?_
    refine own_goto X1 hx (hb hby d7_14) (by decide) (q := 65) rfl ?_
    exact J65_2 T1 X1 e1 FP.dconst0 (.unset) (.unset) (by exact hV)
theorem d8_0 : decode method_10_code 0 = .ok (.lload_n 0, 1) := by decide +kernel
theorem d8_1 : decode method_10_code 1 = .ok (.invokestatic 47, 3) := by decide +kernel
theorem d8_4 : decode method_10_code 4 = .ok (.istore_n 2, 1) := by decide +kernel
theorem d8_5 : decode method_10_code 5 = .ok (.iload_n 2, 1) := by decide +kernel
theorem d8_6 : decode method_10_code 6 = .ok (.ifCond .ne 8, 3) := by decide +kernel
theorem d8_9 : decode method_10_code 9 = .ok (.iconst 0, 1) := by decide +kernel
theorem d8_10 : decode method_10_code 10 = .ok (.istore_n 3, 1) := by decide +kernel
theorem d8_11 : decode method_10_code 11 = .ok (.goto 15, 3) := by decide +kernel
theorem d8_14 : decode method_10_code 14 = .ok (.iload_n 2, 1) := by decide +kernel
theorem d8_15 : decode method_10_code 15 = .ok (.iconst 3, 1) := by decide +kernel
theorem d8_16 : decode method_10_code 16 = .ok (.if_icmp .ne 8, 3) := by decide +kernel
theorem d8_19 : decode method_10_code 19 = .ok (.iconst 2, 1) := by decide +kernel
theorem d8_20 : decode method_10_code 20 = .ok (.istore_n 3, 1) := by decide +kernel
theorem d8_21 : decode method_10_code 21 = .ok (.goto 5, 3) := by decide +kernel
theorem d8_24 : decode method_10_code 24 = .ok (.iconst 1, 1) := by decide +kernel
theorem d8_25 : decode method_10_code 25 = .ok (.istore_n 3, 1) := by decide +kernel
theorem d8_26 : decode method_10_code 26 = .ok (.lload_n 0, 1) := by decide +kernel
theorem d8_27 : decode method_10_code 27 = .ok (.invokestatic 63, 3) := by decide +kernel
theorem d8_30 : decode method_10_code 30 = .ok (.ifCond .eq 8, 3) := by decide +kernel
theorem d8_33 : decode method_10_code 33 = .ok (.iload_n 3, 1) := by decide +kernel
theorem d8_34 : decode method_10_code 34 = .ok (.ineg, 1) := by decide +kernel
theorem d8_35 : decode method_10_code 35 = .ok (.goto 4, 3) := by decide +kernel
theorem d8_38 : decode method_10_code 38 = .ok (.iload_n 3, 1) := by decide +kernel
theorem d8_39 : decode method_10_code 39 = .ok (.ireturn, 1) := by decide +kernel
theorem own_pn8 : plainFor (⟨"com/example/prudent_query/prudentquery/model/HitCompareScoresPinLaw", "tier", "(J)I"⟩ : MethodName) = true := plainFor_of_name (show plainName "com/example/prudent_query/prudentquery/model/HitCompareScoresPinLaw" = true by first | (simp [plainName, overriddenIn]; done) | decide +kernel)
theorem own_ef8 (m : MethodId) (q1 : Int64)  : entryFrame m #[(.long q1)] 4 = mkF m 0 #[.val (.long q1), .second, .unset, .unset] [] := by first | (simp [entryFrame, mkF, argsToLocals, Value.category, maxLocals]; done) | rfl
set_option maxRecDepth 65536 in
set_option maxHeartbeats 40000000 in
theorem own_rm8 (l : Launch) (Z : State) (a0 : Array Value) (hw : ∀ d ∈ tables_1, d.before a0 Z = true) (ws : List Jvm.Cond) (q1 : Int64)  (h0 : Heap)  :
    MetFree l (⟨"com/example/prudent_query/prudentquery/model/HitCompareScoresPinLaw", "tier", "(J)I"⟩ : MethodName) (head1 (Jvm.Cond.code (⟨"com/example/prudent_query/prudentquery/model/HitCompareScoresPinLaw", "tier", "(J)I"⟩ : MethodName) method_10_code 4 (some .int) :: ws) ({ frames := 1, cells := 0, slots := 0, locals := 13 } : Room)) (fun a U => a = #[(.long q1)] ∧ Z.Warmed39 U.vm ∧ U.heap = h0) (fun _ _ _ _ _ => True) (fun _ U o U' => ∃ v L, o = .returned v ∧ (fun v h L => (∃ w, v = some w ∧ (fun w => ∃ z : Int32, w = .int z ∧ z.toInt = (if own_ng q1 = 0 then (if own_md q1 = 0 then 0 else if own_md q1 = 3 then 2 else 1) else -(if own_md q1 = 0 then 0 else if own_md q1 = 3 then 2 else (1 : Int)))) w) ∧ L = [] ∧ h = h0) v U'.heap L ∧ FrameEnd U o U' L ({ frames := 1, cells := 0, slots := 0, locals := 13 } : Room).cells ({ frames := 1, cells := 0, slots := 0, locals := 13 } : Room).slots) := by
  refine own_body (y := (⟨"com/example/prudent_query/prudentquery/model/HitCompareScoresPinLaw", "tier", "(J)I"⟩ : MethodName)) (Q := fun v h L => (∃ w, v = some w ∧ (fun w => ∃ z : Int32, w = .int z ∧ z.toInt = (if own_ng q1 = 0 then (if own_md q1 = 0 then 0 else if own_md q1 = 3 then 2 else 1) else -(if own_md q1 = 0 then 0 else if own_md q1 = 3 then 2 else (1 : Int)))) w) ∧ L = [] ∧ h = h0) (rm := ({ frames := 1, cells := 0, slots := 0, locals := 13 } : Room)) (as' := #[(.long q1)]) (h0 := h0) (Z := Z) own_pn8 ?_
  intro p e s m below meth c s₁ hx hby hml hown hnm hret hlk hZ X0 e0
  have hown : s.vm.findClass "com/example/prudent_query/prudentquery/model/HitCompareScoresPinLaw" = some m.cls := hown
  rw [own_ef8]
  refine own_lload_n X0 hx (hb hby d8_0) rfl (q := 1) rfl ?_
  refine own_callSP X0 hx hZ hown (hw _ (List.mem_of_getElem? (i := 4) rfl)) (hw _ (List.mem_of_getElem? (i := 5) rfl)) (hw _ (List.mem_of_getElem? (i := 2) rfl)) (hw _ (List.mem_of_getElem? (i := 6) rfl)) (by decide) (own_rm1 l Z a0 hw [] q1  h0 ) (by decide) (by decide) e0 (by rw [hml]; rfl) (argsL := [(.long q1)]) (rest := []) (lenOf own_pd0 rfl) rfl (W := 0) rfl (hb hby d8_1) (q := 4) rfl rfl rfl rfl (by decide) (by decide) ?_
  rintro _ T1 ⟨z1, rfl, hz1⟩ X1 e1
  have hmd := hz1
  refine own_istore_n X1 hx (hb hby d8_4) (l' := #[.val (.long q1), .second, .val (.int z1), .unset]) rfl (q := 5) rfl ?_
  refine own_iload_n X1 hx (hb hby d8_5) rfl (q := 6) rfl ?_
  have J26_2 : ∀ (tt : Int32) (g26_0 : (own_md q1 = 0 ∧ tt.toInt = 0) ∨ (own_md q1 = 3 ∧ tt.toInt = 2) ∨ (own_md q1 ≠ 0 ∧ own_md q1 ≠ 3 ∧ tt.toInt = 1)), own_G p e below (own_En s ({ frames := 1, cells := 0, slots := 0, locals := 13 } : Room).cells ({ frames := 1, cells := 0, slots := 0, locals := 13 } : Room).slots (fun v h L => (∃ w, v = some w ∧ (fun w => ∃ z : Int32, w = .int z ∧ z.toInt = (if own_ng q1 = 0 then (if own_md q1 = 0 then 0 else if own_md q1 = 3 then 2 else 1) else -(if own_md q1 = 0 then 0 else if own_md q1 = 3 then 2 else (1 : Int)))) w) ∧ L = [] ∧ h = h0)) (T1.setTop (mkF m 26 #[.val (.long q1), .second, .val (.int z1), .val (.int tt)] [])) := by
    intro tt g26_0
    refine own_lload_n X1 hx (hb hby d8_26) rfl (q := 27) rfl ?_
    refine own_callSP X1 hx hZ hown (hw _ (List.mem_of_getElem? (i := 28) rfl)) (hw _ (List.mem_of_getElem? (i := 29) rfl)) (hw _ (List.mem_of_getElem? (i := 2) rfl)) (hw _ (List.mem_of_getElem? (i := 30) rfl)) (by decide) (own_rm5 l Z a0 hw [] q1  h0 ) (by decide) (by decide) e1 (by rw [hml]; rfl) (argsL := [(.long q1)]) (rest := []) (lenOf own_pd1 rfl) rfl (W := 0) rfl (hb hby d8_27) (q := 30) rfl rfl rfl rfl (by decide) (by decide) ?_
    rintro _ T3 ⟨z3, rfl, hz3⟩ X3 e3
    have hng := hz3
    refine own_if X3 hx (hb hby d8_30) (by decide) (q := 38) rfl (q' := 33) rfl (own_z_eq _) (fun h30 => ?_) (fun h30 => ?_)
    · replace h30 : z3.toInt = 0 := h30
      refine own_iload_n X3 hx (hb hby d8_38) rfl (q := 39) rfl ?_
      exact own_retI X3 hx hret hlk (hb hby d8_39) (by decide) (by decide) ⟨⟨_, rfl, ⟨_, rfl, by rcases g26_0 with ⟨q, r⟩ | ⟨q, r⟩ | ⟨q, q', r⟩ <;> by_cases hn0 : own_ng q1 = 0 <;> simp [hn0, q, *] <;> omega⟩⟩, rfl, e3⟩
    · replace h30 : ¬ (z3.toInt = 0) := h30
      refine own_iload_n X3 hx (hb hby d8_33) rfl (q := 34) rfl ?_
      refine own_ineg X3 hx (hb hby d8_34) (q := 35) rfl ?_
      refine own_goto X3 hx (hb hby d8_35) (by decide) (q := 39) rfl ?_
      exact own_retI X3 hx hret hlk (hb hby d8_39) (by decide) (by decide) ⟨⟨_, rfl, ⟨_, rfl, by have n1_ : (-tt).toInt = -tt.toInt := own_negI tt (by omega); rcases g26_0 with ⟨q, r⟩ | ⟨q, r⟩ | ⟨q, q', r⟩ <;> by_cases hn0 : own_ng q1 = 0 <;> simp [hn0, q, *] <;> omega⟩⟩, rfl, e3⟩
  refine own_if X1 hx (hb hby d8_6) (by decide) (q := 14) rfl (q' := 9) rfl (own_z_ne _) (fun h6 => ?_) (fun h6 => ?_)
  · replace h6 : z1.toInt ≠ 0 := h6
    refine own_iload_n X1 hx (hb hby d8_14) rfl (q := 15) rfl ?_
    refine own_iconst X1 hx (hb hby d8_15) (v := (3 : Int32)) rfl (q := 16) rfl ?_
    refine own_icmp X1 hx (hb hby d8_16) (by decide) (q := 24) rfl (q' := 19) rfl (own_h_ne _ _) (fun h16 => ?_) (fun h16 => ?_)
    · replace h16 : z1.toInt ≠ (3 : Int) := h16
      refine own_iconst X1 hx (hb hby d8_24) (v := (1 : Int32)) rfl (q := 25) rfl ?_
      refine own_istore_n X1 hx (hb hby d8_25) (l' := #[.val (.long q1), .second, .val (.int z1), .val (.int (1 : Int32))]) rfl (q := 26) rfl ?_
      exact J26_2 (1 : Int32) (by have hc_0 : (1 : Int32).toInt = (1 : Int) := rfl; omega)
    · replace h16 : ¬ (z1.toInt ≠ (3 : Int)) := h16
      refine own_iconst X1 hx (hb hby d8_19) (v := (2 : Int32)) rfl (q := 20) rfl ?_
      refine own_istore_n X1 hx (hb hby d8_20) (l' := #[.val (.long q1), .second, .val (.int z1), .val (.int (2 : Int32))]) rfl (q := 21) rfl ?_
      refine own_goto X1 hx (hb hby d8_21) (by decide) (q := 26) rfl ?_
      exact J26_2 (2 : Int32) (by have hc_0 : (2 : Int32).toInt = (2 : Int) := rfl; omega)
  · replace h6 : ¬ (z1.toInt ≠ 0) := h6
    refine own_iconst X1 hx (hb hby d8_9) (v := (0 : Int32)) rfl (q := 10) rfl ?_
    refine own_istore_n X1 hx (hb hby d8_10) (l' := #[.val (.long q1), .second, .val (.int z1), .val (.int (0 : Int32))]) rfl (q := 11) rfl ?_
    refine own_goto X1 hx (hb hby d8_11) (by decide) (q := 26) rfl ?_
    exact J26_2 (0 : Int32) (by have hc_0 : (0 : Int32).toInt = (0 : Int) := rfl; omega)
theorem dC_0 : decode prog_26_method_4_code 0 = .ok (.dload_n 0, 1) := by decide +kernel
theorem dC_1 : decode prog_26_method_4_code 1 = .ok (.d2f, 1) := by decide +kernel
theorem dC_2 : decode prog_26_method_4_code 2 = .ok (.fstore 4, 2) := by decide +kernel
theorem dC_4 : decode prog_26_method_4_code 4 = .ok (.dload_n 2, 1) := by decide +kernel
theorem dC_5 : decode prog_26_method_4_code 5 = .ok (.d2f, 1) := by decide +kernel
theorem dC_6 : decode prog_26_method_4_code 6 = .ok (.fstore 5, 2) := by decide +kernel
theorem dC_8 : decode prog_26_method_4_code 8 = .ok (.fload 4, 2) := by decide +kernel
theorem dC_10 : decode prog_26_method_4_code 10 = .ok (.fload 5, 2) := by decide +kernel
theorem dC_12 : decode prog_26_method_4_code 12 = .ok (.fcmp .l, 1) := by decide +kernel
theorem dC_13 : decode prog_26_method_4_code 13 = .ok (.ifCond .le 9, 3) := by decide +kernel
theorem dC_16 : decode prog_26_method_4_code 16 = .ok (.iconst (-1), 1) := by decide +kernel
theorem dC_17 : decode prog_26_method_4_code 17 = .ok (.istore 6, 2) := by decide +kernel
theorem dC_19 : decode prog_26_method_4_code 19 = .ok (.goto 20, 3) := by decide +kernel
theorem dC_22 : decode prog_26_method_4_code 22 = .ok (.fload 4, 2) := by decide +kernel
theorem dC_24 : decode prog_26_method_4_code 24 = .ok (.fload 5, 2) := by decide +kernel
theorem dC_26 : decode prog_26_method_4_code 26 = .ok (.fcmp .g, 1) := by decide +kernel
theorem dC_27 : decode prog_26_method_4_code 27 = .ok (.ifCond .ge 9, 3) := by decide +kernel
theorem dC_30 : decode prog_26_method_4_code 30 = .ok (.iconst 1, 1) := by decide +kernel
theorem dC_31 : decode prog_26_method_4_code 31 = .ok (.istore 6, 2) := by decide +kernel
theorem dC_33 : decode prog_26_method_4_code 33 = .ok (.goto 6, 3) := by decide +kernel
theorem dC_36 : decode prog_26_method_4_code 36 = .ok (.iconst 0, 1) := by decide +kernel
theorem dC_37 : decode prog_26_method_4_code 37 = .ok (.istore 6, 2) := by decide +kernel
theorem dC_39 : decode prog_26_method_4_code 39 = .ok (.iload 6, 2) := by decide +kernel
theorem dC_41 : decode prog_26_method_4_code 41 = .ok (.ireturn, 1) := by decide +kernel
theorem own_pnC : plainFor (⟨"com/example/prudent_query/prudentquery/model/Hit", "compareScores", "(DD)I"⟩ : MethodName) = true := plainFor_of_name (show plainName "com/example/prudent_query/prudentquery/model/Hit" = true by first | (simp [plainName, overriddenIn]; done) | decide +kernel)
theorem own_efC (m : MethodId) (d1 : UInt64) (d2 : UInt64)  : entryFrame m #[(.double d1), (.double d2)] 7 = mkF m 0 #[.val (.double d1), .second, .val (.double d2), .second, .unset, .unset, .unset] [] := by first | (simp [entryFrame, mkF, argsToLocals, Value.category, maxLocals]; done) | rfl
set_option maxRecDepth 65536 in
set_option maxHeartbeats 40000000 in
theorem own_rmC (l : Launch) (Z : State) (a0 : Array Value) (hw : ∀ d ∈ tables_1, d.before a0 Z = true) (ws : List Jvm.Cond) (d1 : UInt64) (d2 : UInt64)  (h0 : Heap) (hx1 : Jvm.FP.Core.val64 d1 ≠ .nan ∧ Jvm.FP.Core.val32 (Jvm.FP.Core.d2f d1) ≠ .nan) (hx2 : Jvm.FP.Core.val64 d2 ≠ .nan ∧ Jvm.FP.Core.val32 (Jvm.FP.Core.d2f d2) ≠ .nan) :
    MetFree l (⟨"com/example/prudent_query/prudentquery/model/Hit", "compareScores", "(DD)I"⟩ : MethodName) (head1 (Jvm.Cond.code (⟨"com/example/prudent_query/prudentquery/model/Hit", "compareScores", "(DD)I"⟩ : MethodName) prog_26_method_4_code 7 (some .int) :: ws) ({ frames := 0, cells := 0, slots := 0, locals := 0 } : Room)) (fun a U => a = #[(.double d1), (.double d2)] ∧ Z.Warmed39 U.vm ∧ U.heap = h0) (fun _ _ _ _ _ => True) (fun _ U o U' => ∃ v L, o = .returned v ∧ (fun v h L => (∃ w, v = some w ∧ (fun w => ∃ z : Int32, w = .int z ∧ (((Jvm.FP.Core.zval Jvm.FP.Core.b32 (Jvm.FP.Core.val32 (Jvm.FP.Core.d2f d1))) < (Jvm.FP.Core.zval Jvm.FP.Core.b32 (Jvm.FP.Core.val32 (Jvm.FP.Core.d2f d2))) ∧ z.toInt = 1) ∨ ((Jvm.FP.Core.zval Jvm.FP.Core.b32 (Jvm.FP.Core.val32 (Jvm.FP.Core.d2f d1))) = (Jvm.FP.Core.zval Jvm.FP.Core.b32 (Jvm.FP.Core.val32 (Jvm.FP.Core.d2f d2))) ∧ z.toInt = 0) ∨ ((Jvm.FP.Core.zval Jvm.FP.Core.b32 (Jvm.FP.Core.val32 (Jvm.FP.Core.d2f d2))) < (Jvm.FP.Core.zval Jvm.FP.Core.b32 (Jvm.FP.Core.val32 (Jvm.FP.Core.d2f d1))) ∧ z.toInt = -1))) w) ∧ L = [] ∧ h = h0) v U'.heap L ∧ FrameEnd U o U' L ({ frames := 0, cells := 0, slots := 0, locals := 0 } : Room).cells ({ frames := 0, cells := 0, slots := 0, locals := 0 } : Room).slots) := by
  refine own_body (y := (⟨"com/example/prudent_query/prudentquery/model/Hit", "compareScores", "(DD)I"⟩ : MethodName)) (Q := fun v h L => (∃ w, v = some w ∧ (fun w => ∃ z : Int32, w = .int z ∧ (((Jvm.FP.Core.zval Jvm.FP.Core.b32 (Jvm.FP.Core.val32 (Jvm.FP.Core.d2f d1))) < (Jvm.FP.Core.zval Jvm.FP.Core.b32 (Jvm.FP.Core.val32 (Jvm.FP.Core.d2f d2))) ∧ z.toInt = 1) ∨ ((Jvm.FP.Core.zval Jvm.FP.Core.b32 (Jvm.FP.Core.val32 (Jvm.FP.Core.d2f d1))) = (Jvm.FP.Core.zval Jvm.FP.Core.b32 (Jvm.FP.Core.val32 (Jvm.FP.Core.d2f d2))) ∧ z.toInt = 0) ∨ ((Jvm.FP.Core.zval Jvm.FP.Core.b32 (Jvm.FP.Core.val32 (Jvm.FP.Core.d2f d2))) < (Jvm.FP.Core.zval Jvm.FP.Core.b32 (Jvm.FP.Core.val32 (Jvm.FP.Core.d2f d1))) ∧ z.toInt = -1))) w) ∧ L = [] ∧ h = h0) (rm := ({ frames := 0, cells := 0, slots := 0, locals := 0 } : Room)) (as' := #[(.double d1), (.double d2)]) (h0 := h0) (Z := Z) own_pnC ?_
  intro p e s m below meth c s₁ hx hby hml hown hnm hret hlk hZ X0 e0
  have hown : s.vm.findClass "com/example/prudent_query/prudentquery/model/Hit" = some m.cls := hown
  rw [own_efC]
  refine own_dload_n X0 hx (hb hby dC_0) rfl (q := 1) rfl ?_
  refine own_d2f X0 hx (hb hby dC_1) (own_nn32 hx1) (q := 2) rfl ?_
  refine own_fstore X0 hx (hb hby dC_2) (l' := #[.val (.double d1), .second, .val (.double d2), .second, .val (.float (FP.d2f d1)), .unset, .unset]) rfl (q := 4) rfl ?_
  refine own_dload_n X0 hx (hb hby dC_4) rfl (q := 5) rfl ?_
  refine own_d2f X0 hx (hb hby dC_5) (own_nn32 hx2) (q := 6) rfl ?_
  refine own_fstore X0 hx (hb hby dC_6) (l' := #[.val (.double d1), .second, .val (.double d2), .second, .val (.float (FP.d2f d1)), .val (.float (FP.d2f d2)), .unset]) rfl (q := 8) rfl ?_
  refine own_fload X0 hx (hb hby dC_8) rfl (q := 10) rfl ?_
  refine own_fload X0 hx (hb hby dC_10) rfl (q := 12) rfl ?_
  obtain ⟨c1, hc1, hv1⟩ := own_fc hx1 hx2 .l
  refine own_fcmp X0 hx (hb hby dC_12) (v := c1) (hc1) (q := 13) rfl ?_
  refine own_if X0 hx (hb hby dC_13) (by decide) (q := 22) rfl (q' := 16) rfl (own_z_le _) (fun h13 => ?_) (fun h13 => ?_)
  · replace h13 : c1.toInt ≤ 0 := h13
    refine own_fload X0 hx (hb hby dC_22) rfl (q := 24) rfl ?_
    refine own_fload X0 hx (hb hby dC_24) rfl (q := 26) rfl ?_
    obtain ⟨c2, hc2, hv2⟩ := own_fc hx1 hx2 .g
    refine own_fcmp X0 hx (hb hby dC_26) (v := c2) (hc2) (q := 27) rfl ?_
    refine own_if X0 hx (hb hby dC_27) (by decide) (q := 36) rfl (q' := 30) rfl (own_z_ge _) (fun h27 => ?_) (fun h27 => ?_)
    · replace h27 : 0 ≤ c2.toInt := h27
      refine own_iconst X0 hx (hb hby dC_36) (v := (0 : Int32)) rfl (q := 37) rfl ?_
      refine own_istore X0 hx (hb hby dC_37) (l' := #[.val (.double d1), .second, .val (.double d2), .second, .val (.float (FP.d2f d1)), .val (.float (FP.d2f d2)), .val (.int (0 : Int32))]) rfl (q := 39) rfl ?_
      refine own_iload X0 hx (hb hby dC_39) rfl (q := 41) rfl ?_
      exact own_retI X0 hx hret hlk (hb hby dC_41) (by decide) (by decide) ⟨⟨_, rfl, ⟨_, rfl, by have hc_ : (0 : Int32).toInt = (0 : Int) := rfl; generalize (Jvm.FP.Core.zval Jvm.FP.Core.b32 (Jvm.FP.Core.val32 (Jvm.FP.Core.d2f d1))) = A_ at *; generalize (Jvm.FP.Core.zval Jvm.FP.Core.b32 (Jvm.FP.Core.val32 (Jvm.FP.Core.d2f d2))) = B_ at *; omega⟩⟩, rfl, e0⟩
    · replace h27 : ¬ (0 ≤ c2.toInt) := h27
      refine own_iconst X0 hx (hb hby dC_30) (v := (1 : Int32)) rfl (q := 31) rfl ?_
      refine own_istore X0 hx (hb hby dC_31) (l' := #[.val (.double d1), .second, .val (.double d2), .second, .val (.float (FP.d2f d1)), .val (.float (FP.d2f d2)), .val (.int (1 : Int32))]) rfl (q := 33) rfl ?_
      refine own_goto X0 hx (hb hby dC_33) (by decide) (q := 39) rfl ?_
      refine own_iload X0 hx (hb hby dC_39) rfl (q := 41) rfl ?_
      exact own_retI X0 hx hret hlk (hb hby dC_41) (by decide) (by decide) ⟨⟨_, rfl, ⟨_, rfl, by have hc_ : (1 : Int32).toInt = (1 : Int) := rfl; generalize (Jvm.FP.Core.zval Jvm.FP.Core.b32 (Jvm.FP.Core.val32 (Jvm.FP.Core.d2f d1))) = A_ at *; generalize (Jvm.FP.Core.zval Jvm.FP.Core.b32 (Jvm.FP.Core.val32 (Jvm.FP.Core.d2f d2))) = B_ at *; omega⟩⟩, rfl, e0⟩
  · replace h13 : ¬ (c1.toInt ≤ 0) := h13
    refine own_iconst X0 hx (hb hby dC_16) (v := (-1 : Int32)) rfl (q := 17) rfl ?_
    refine own_istore X0 hx (hb hby dC_17) (l' := #[.val (.double d1), .second, .val (.double d2), .second, .val (.float (FP.d2f d1)), .val (.float (FP.d2f d2)), .val (.int (-1 : Int32))]) rfl (q := 19) rfl ?_
    refine own_goto X0 hx (hb hby dC_19) (by decide) (q := 39) rfl ?_
    refine own_iload X0 hx (hb hby dC_39) rfl (q := 41) rfl ?_
    exact own_retI X0 hx hret hlk (hb hby dC_41) (by decide) (by decide) ⟨⟨_, rfl, ⟨_, rfl, by have hc_ : (-1 : Int32).toInt = (-1 : Int) := rfl; generalize (Jvm.FP.Core.zval Jvm.FP.Core.b32 (Jvm.FP.Core.val32 (Jvm.FP.Core.d2f d1))) = A_ at *; generalize (Jvm.FP.Core.zval Jvm.FP.Core.b32 (Jvm.FP.Core.val32 (Jvm.FP.Core.d2f d2))) = B_ at *; omega⟩⟩, rfl, e0⟩
theorem dK_0 : decode method_11_code 0 = .ok (.lload_n 0, 1) := by decide +kernel
theorem dK_1 : decode method_11_code 1 = .ok (.invokestatic 50, 3) := by decide +kernel
theorem dK_4 : decode method_11_code 4 = .ok (.lstore 4, 2) := by decide +kernel
theorem dK_6 : decode method_11_code 6 = .ok (.lconst 1, 1) := by decide +kernel
theorem dK_7 : decode method_11_code 7 = .ok (.lload_n 0, 1) := by decide +kernel
theorem dK_8 : decode method_11_code 8 = .ok (.invokestatic 40, 3) := by decide +kernel
theorem dK_11 : decode method_11_code 11 = .ok (.lshl, 1) := by decide +kernel
theorem dK_12 : decode method_11_code 12 = .ok (.lstore 6, 2) := by decide +kernel
theorem dK_14 : decode method_11_code 14 = .ok (.lload_n 0, 1) := by decide +kernel
theorem dK_15 : decode method_11_code 15 = .ok (.lload_n 2, 1) := by decide +kernel
theorem dK_16 : decode method_11_code 16 = .ok (.invokestatic 54, 3) := by decide +kernel
theorem dK_19 : decode method_11_code 19 = .ok (.lstore 8, 2) := by decide +kernel
theorem dK_21 : decode method_11_code 21 = .ok (.ldc2_w 45, 3) := by decide +kernel
theorem dK_24 : decode method_11_code 24 = .ok (.lload 8, 2) := by decide +kernel
theorem dK_26 : decode method_11_code 26 = .ok (.invokestatic 67, 3) := by decide +kernel
theorem dK_29 : decode method_11_code 29 = .ok (.lmul, 1) := by decide +kernel
theorem dK_30 : decode method_11_code 30 = .ok (.lstore 10, 2) := by decide +kernel
theorem dK_32 : decode method_11_code 32 = .ok (.lload 8, 2) := by decide +kernel
theorem dK_34 : decode method_11_code 34 = .ok (.lconst 0, 1) := by decide +kernel
theorem dK_35 : decode method_11_code 35 = .ok (.lcmp, 1) := by decide +kernel
theorem dK_36 : decode method_11_code 36 = .ok (.ifCond .ge 9, 3) := by decide +kernel
theorem dK_39 : decode method_11_code 39 = .ok (.ldc2_w 72, 3) := by decide +kernel
theorem dK_42 : decode method_11_code 42 = .ok (.goto 4, 3) := by decide +kernel
theorem dK_45 : decode method_11_code 45 = .ok (.lconst 1, 1) := by decide +kernel
theorem dK_46 : decode method_11_code 46 = .ok (.lstore 12, 2) := by decide +kernel
theorem dK_48 : decode method_11_code 48 = .ok (.lload 10, 2) := by decide +kernel
theorem dK_50 : decode method_11_code 50 = .ok (.lload 6, 2) := by decide +kernel
theorem dK_52 : decode method_11_code 52 = .ok (.lcmp, 1) := by decide +kernel
theorem dK_53 : decode method_11_code 53 = .ok (.ifCond .ge 10, 3) := by decide +kernel
theorem dK_56 : decode method_11_code 56 = .ok (.lload 4, 2) := by decide +kernel
theorem dK_58 : decode method_11_code 58 = .ok (.lstore 14, 2) := by decide +kernel
theorem dK_60 : decode method_11_code 60 = .ok (.goto 42, 3) := by decide +kernel
theorem dK_63 : decode method_11_code 63 = .ok (.lload 10, 2) := by decide +kernel
theorem dK_65 : decode method_11_code 65 = .ok (.lload 6, 2) := by decide +kernel
theorem dK_67 : decode method_11_code 67 = .ok (.lcmp, 1) := by decide +kernel
theorem dK_68 : decode method_11_code 68 = .ok (.ifCond .le 13, 3) := by decide +kernel
theorem dK_71 : decode method_11_code 71 = .ok (.lload 4, 2) := by decide +kernel
theorem dK_73 : decode method_11_code 73 = .ok (.lload 12, 2) := by decide +kernel
theorem dK_75 : decode method_11_code 75 = .ok (.ladd, 1) := by decide +kernel
theorem dK_76 : decode method_11_code 76 = .ok (.lstore 14, 2) := by decide +kernel
theorem dK_78 : decode method_11_code 78 = .ok (.goto 24, 3) := by decide +kernel
theorem dK_81 : decode method_11_code 81 = .ok (.lload 4, 2) := by decide +kernel
theorem dK_83 : decode method_11_code 83 = .ok (.lconst 1, 1) := by decide +kernel
theorem dK_84 : decode method_11_code 84 = .ok (.land, 1) := by decide +kernel
theorem dK_85 : decode method_11_code 85 = .ok (.lconst 0, 1) := by decide +kernel
theorem dK_86 : decode method_11_code 86 = .ok (.lcmp, 1) := by decide +kernel
theorem dK_87 : decode method_11_code 87 = .ok (.ifCond .ne 8, 3) := by decide +kernel
theorem dK_90 : decode method_11_code 90 = .ok (.lload 4, 2) := by decide +kernel
theorem dK_92 : decode method_11_code 92 = .ok (.goto 8, 3) := by decide +kernel
theorem dK_95 : decode method_11_code 95 = .ok (.lload 4, 2) := by decide +kernel
theorem dK_97 : decode method_11_code 97 = .ok (.lload 12, 2) := by decide +kernel
theorem dK_99 : decode method_11_code 99 = .ok (.ladd, 1) := by decide +kernel
theorem dK_100 : decode method_11_code 100 = .ok (.lstore 14, 2) := by decide +kernel
theorem dK_102 : decode method_11_code 102 = .ok (.lload 14, 2) := by decide +kernel
theorem dK_104 : decode method_11_code 104 = .ok (.lload_n 0, 1) := by decide +kernel
theorem dK_105 : decode method_11_code 105 = .ok (.invokestatic 40, 3) := by decide +kernel
theorem dK_108 : decode method_11_code 108 = .ok (.lshl, 1) := by decide +kernel
theorem dK_109 : decode method_11_code 109 = .ok (.l2d, 1) := by decide +kernel
theorem dK_110 : decode method_11_code 110 = .ok (.lconst 1, 1) := by decide +kernel
theorem dK_111 : decode method_11_code 111 = .ok (.lload_n 0, 1) := by decide +kernel
theorem dK_112 : decode method_11_code 112 = .ok (.invokestatic 60, 3) := by decide +kernel
theorem dK_115 : decode method_11_code 115 = .ok (.lshl, 1) := by decide +kernel
theorem dK_116 : decode method_11_code 116 = .ok (.l2d, 1) := by decide +kernel
theorem dK_117 : decode method_11_code 117 = .ok (.ddiv, 1) := by decide +kernel
theorem dK_118 : decode method_11_code 118 = .ok (.dstore 16, 2) := by decide +kernel
theorem dK_120 : decode method_11_code 120 = .ok (.lload_n 0, 1) := by decide +kernel
theorem dK_121 : decode method_11_code 121 = .ok (.invokestatic 63, 3) := by decide +kernel
theorem dK_124 : decode method_11_code 124 = .ok (.ifCond .eq 9, 3) := by decide +kernel
theorem dK_127 : decode method_11_code 127 = .ok (.dload 16, 2) := by decide +kernel
theorem dK_129 : decode method_11_code 129 = .ok (.dneg, 1) := by decide +kernel
theorem dK_130 : decode method_11_code 130 = .ok (.goto 5, 3) := by decide +kernel
theorem dK_133 : decode method_11_code 133 = .ok (.dload 16, 2) := by decide +kernel
theorem dK_135 : decode method_11_code 135 = .ok (.dreturn, 1) := by decide +kernel
theorem own_pnK : plainFor (⟨"com/example/prudent_query/prudentquery/model/HitCompareScoresPinLaw", "key", "(JJ)D"⟩ : MethodName) = true := plainFor_of_name (show plainName "com/example/prudent_query/prudentquery/model/HitCompareScoresPinLaw" = true by first | (simp [plainName, overriddenIn]; done) | decide +kernel)
theorem own_efK (m : MethodId) (q1 : Int64) (q2 : Int64)  : entryFrame m #[(.long q1), (.long q2)] 18 = mkF m 0 #[.val (.long q1), .second, .val (.long q2), .second, .unset, .unset, .unset, .unset, .unset, .unset, .unset, .unset, .unset, .unset, .unset, .unset, .unset, .unset] [] := by first | (simp [entryFrame, mkF, argsToLocals, Value.category, maxLocals]; done) | rfl
set_option maxRecDepth 65536 in
set_option maxHeartbeats 40000000 in
theorem own_rmK (l : Launch) (Z : State) (a0 : Array Value) (hw : ∀ d ∈ tables_1, d.before a0 Z = true) (ws : List Jvm.Cond) (q1 : Int64) (q2 : Int64)  (h0 : Heap)  :
    MetFree l (⟨"com/example/prudent_query/prudentquery/model/HitCompareScoresPinLaw", "key", "(JJ)D"⟩ : MethodName) (head1 (Jvm.Cond.code (⟨"com/example/prudent_query/prudentquery/model/HitCompareScoresPinLaw", "key", "(JJ)D"⟩ : MethodName) method_11_code 18 (some .double) :: ws) ({ frames := 2, cells := 0, slots := 0, locals := 34 } : Room)) (fun a U => a = #[(.long q1), (.long q2)] ∧ Z.Warmed39 U.vm ∧ U.heap = h0) (fun _ _ _ _ _ => True) (fun _ U o U' => ∃ v L, o = .returned v ∧ (fun v h L => (∃ w, v = some w ∧ (fun w => ∃ x : UInt64, w = .double x ∧ own_KX (own_ng q1) (own_mm q1 q2) (own_jj q1) x) w) ∧ L = [] ∧ h = h0) v U'.heap L ∧ FrameEnd U o U' L ({ frames := 2, cells := 0, slots := 0, locals := 34 } : Room).cells ({ frames := 2, cells := 0, slots := 0, locals := 34 } : Room).slots) := by
  refine own_body (y := (⟨"com/example/prudent_query/prudentquery/model/HitCompareScoresPinLaw", "key", "(JJ)D"⟩ : MethodName)) (Q := fun v h L => (∃ w, v = some w ∧ (fun w => ∃ x : UInt64, w = .double x ∧ own_KX (own_ng q1) (own_mm q1 q2) (own_jj q1) x) w) ∧ L = [] ∧ h = h0) (rm := ({ frames := 2, cells := 0, slots := 0, locals := 34 } : Room)) (as' := #[(.long q1), (.long q2)]) (h0 := h0) (Z := Z) own_pnK ?_
  intro p e s m below meth c s₁ hx hby hml hown hnm hret hlk hZ X0 e0
  have hown : s.vm.findClass "com/example/prudent_query/prudentquery/model/HitCompareScoresPinLaw" = some m.cls := hown
  rw [own_efK]
  refine own_lload_n X0 hx (hb hby dK_0) rfl (q := 1) rfl ?_
  refine own_callSP X0 hx hZ hown (hw _ (List.mem_of_getElem? (i := 8) rfl)) (hw _ (List.mem_of_getElem? (i := 9) rfl)) (hw _ (List.mem_of_getElem? (i := 2) rfl)) (hw _ (List.mem_of_getElem? (i := 10) rfl)) (by decide) (own_rm4 l Z a0 hw [] q1  h0 ) (by decide) (by decide) e0 (by rw [hml]; rfl) (argsL := [(.long q1)]) (rest := []) (lenOf own_pd2 rfl) rfl (W := 0) rfl (hb hby dK_1) (q := 4) rfl rfl rfl rfl (by decide) (by decide) ?_
  rintro _ T1 ⟨z1, rfl, hz1⟩ X1 e1
  have hmt := hz1
  refine own_lstore X1 hx (hb hby dK_4) (l' := #[.val (.long q1), .second, .val (.long q2), .second, .val (.long z1), .second, .unset, .unset, .unset, .unset, .unset, .unset, .unset, .unset, .unset, .unset, .unset, .unset]) rfl (q := 6) rfl ?_
  refine own_lconst X1 hx (hb hby dK_6) (v := (1 : Int64)) rfl (q := 7) rfl ?_
  refine own_lload_n X1 hx (hb hby dK_7) rfl (q := 8) rfl ?_
  refine own_callSP X1 hx hZ hown (hw _ (List.mem_of_getElem? (i := 14) rfl)) (hw _ (List.mem_of_getElem? (i := 15) rfl)) (hw _ (List.mem_of_getElem? (i := 2) rfl)) (hw _ (List.mem_of_getElem? (i := 16) rfl)) (by decide) (own_rm2 l Z a0 hw [] q1  h0 ) (by decide) (by decide) e1 (by rw [hml]; rfl) (argsL := [(.long q1)]) (rest := [(.long (1 : Int64))]) (lenOf own_pd0 rfl) rfl (W := 2) rfl (hb hby dK_8) (q := 11) rfl rfl rfl rfl (by decide) (by decide) ?_
  rintro _ T2 ⟨z2, rfl, hz2⟩ X2 e2
  refine own_lshl X2 hx (hb hby dK_11) (q := 12) rfl ?_
  have sb_up : own_sh q1 ≤ 29 := (own_pw q1).1
  have s3_up : 1 ≤ (2 : Nat) ^ own_sh q1 := Nat.two_pow_pos _
  have s2_up : (2 : Nat) ^ own_sh q1 ≤ 2 ^ 29 := Nat.pow_le_pow_right (by decide) sb_up
  have s1_up : ((1 : Int64) <<< (z2.toInt64 &&& 63)).toInt = ((2 ^ own_sh q1 : Nat) : Int) := own_shl 1 z2 (own_sh q1) hz2 (by omega) (by rw [show (1 : Int64).toInt = 1 from rfl, Int.one_mul]) (Int.natCast_nonneg _) (by omega)
  obtain ⟨up, e_up⟩ : ∃ z, z = ((1 : Int64) <<< (z2.toInt64 &&& 63)) := ⟨_, rfl⟩
  rw [← e_up] at s1_up ⊢
  refine own_lstore X2 hx (hb hby dK_12) (l' := #[.val (.long q1), .second, .val (.long q2), .second, .val (.long z1), .second, .val (.long up), .second, .unset, .unset, .unset, .unset, .unset, .unset, .unset, .unset, .unset, .unset]) rfl (q := 14) rfl ?_
  refine own_lload_n X2 hx (hb hby dK_14) rfl (q := 15) rfl ?_
  refine own_lload_n X2 hx (hb hby dK_15) rfl (q := 16) rfl ?_
  refine own_callSP X2 hx hZ hown (hw _ (List.mem_of_getElem? (i := 19) rfl)) (hw _ (List.mem_of_getElem? (i := 20) rfl)) (hw _ (List.mem_of_getElem? (i := 2) rfl)) (hw _ (List.mem_of_getElem? (i := 21) rfl)) (by decide) (own_rm6 l Z a0 hw [] q1 q2  h0 ) (by decide) (by decide) e2 (by rw [hml]; rfl) (argsL := [(.long q1), (.long q2)]) (rest := []) (lenOf own_pd3 rfl) rfl (W := 0) rfl (hb hby dK_16) (q := 19) rfl rfl rfl rfl (by decide) (by decide) ?_
  rintro _ T3 ⟨z3, rfl, hz3⟩ X3 e3
  have hof := hz3
  obtain ⟨b1_, b2_, b3_, b4_, b5_, b6_⟩ := own_pw q1
  obtain ⟨o1_, o2_, o3_, o4_, o5_, o6_, o7_, o8_⟩ := own_sp q1 q2
  refine own_lstore X3 hx (hb hby dK_19) (l' := #[.val (.long q1), .second, .val (.long q2), .second, .val (.long z1), .second, .val (.long up), .second, .val (.long z3), .second, .unset, .unset, .unset, .unset, .unset, .unset, .unset, .unset]) rfl (q := 21) rfl ?_
  refine own_ldcL X3 hx hZ hown (hw _ (List.mem_of_getElem? (i := 23) rfl)) (hb hby dK_21) (q := 24) rfl ?_
  refine own_lload X3 hx (hb hby dK_24) rfl (q := 26) rfl ?_
  refine own_callSP X3 hx hZ hown (hw _ (List.mem_of_getElem? (i := 41) rfl)) (hw _ (List.mem_of_getElem? (i := 42) rfl)) (hw _ (List.mem_of_getElem? (i := 43) rfl)) (hw _ (List.mem_of_getElem? (i := 44) rfl)) (by decide) (own_rm9 l Z a0 hw [] z3  h0 (by omega) (by omega)) (by decide) (by decide) e3 (by rw [hml]; rfl) (argsL := [(.long z3)]) (rest := [(.long (2 : Int64))]) (lenOf own_pd2 rfl) rfl (W := 2) rfl (hb hby dK_26) (q := 29) rfl rfl rfl rfl (by decide) (by decide) ?_
  rintro _ T4 ⟨z4, rfl, hz4⟩ X4 e4
  refine own_lmul X4 hx (hb hby dK_29) (q := 30) rfl ?_
  have t1 : ((2 : Int64) * z4).toInt = 2 * ((own_of q1 q2).natAbs : Int) := by rw [own_mulL _ _ (by rw [show (2 : Int64).toInt = 2 from rfl]; omega) (by rw [show (2 : Int64).toInt = 2 from rfl]; omega), show (2 : Int64).toInt = 2 from rfl, hz4, hof]
  obtain ⟨tw, e_tw⟩ : ∃ z, z = ((2 : Int64) * z4) := ⟨_, rfl⟩
  rw [← e_tw] at t1 ⊢
  refine own_lstore X4 hx (hb hby dK_30) (l' := #[.val (.long q1), .second, .val (.long q2), .second, .val (.long z1), .second, .val (.long up), .second, .val (.long z3), .second, .val (.long tw), .second, .unset, .unset, .unset, .unset, .unset, .unset]) rfl (q := 32) rfl ?_
  refine own_lload X4 hx (hb hby dK_32) rfl (q := 34) rfl ?_
  refine own_lconst X4 hx (hb hby dK_34) (v := (0 : Int64)) rfl (q := 35) rfl ?_
  refine own_lcmp X4 hx (hb hby dK_35) (q := 36) rfl ?_
  have J46_5 : ∀ (sg : Int64) (g46_0 : (own_of q1 q2 < 0 ∧ sg.toInt = -1) ∨ (0 ≤ own_of q1 q2 ∧ sg.toInt = 1)), own_G p e below (own_En s ({ frames := 2, cells := 0, slots := 0, locals := 34 } : Room).cells ({ frames := 2, cells := 0, slots := 0, locals := 34 } : Room).slots (fun v h L => (∃ w, v = some w ∧ (fun w => ∃ x : UInt64, w = .double x ∧ own_KX (own_ng q1) (own_mm q1 q2) (own_jj q1) x) w) ∧ L = [] ∧ h = h0)) (T4.setTop (mkF m 46 #[.val (.long q1), .second, .val (.long q2), .second, .val (.long z1), .second, .val (.long up), .second, .val (.long z3), .second, .val (.long tw), .second, .unset, .unset, .unset, .unset, .unset, .unset] [(.long sg)])) := by
    intro sg g46_0
    have hnr := own_near' (k := own_mt q1) (u := 2 ^ own_sh q1) (n := own_nn q1 q2) (by omega) b5_ o3_ o1_ o2_ g46_0
    have hnr' : (2 * ((own_of q1 q2).natAbs : Int) < ((2 ^ own_sh q1 : Nat) : Int) ∧ (own_mm q1 q2 : Int) = own_mt q1) ∨ (((2 ^ own_sh q1 : Nat) : Int) < 2 * ((own_of q1 q2).natAbs : Int) ∧ (own_mm q1 q2 : Int) = own_mt q1 + sg.toInt) ∨ (2 * ((own_of q1 q2).natAbs : Int) = ((2 ^ own_sh q1 : Nat) : Int) ∧ ((own_mt q1 % 2 = 0 ∧ (own_mm q1 q2 : Int) = own_mt q1) ∨ (own_mt q1 % 2 = 1 ∧ (own_mm q1 q2 : Int) = own_mt q1 + sg.toInt))) := hnr
    clear hnr
    refine own_lstore X4 hx (hb hby dK_46) (l' := #[.val (.long q1), .second, .val (.long q2), .second, .val (.long z1), .second, .val (.long up), .second, .val (.long z3), .second, .val (.long tw), .second, .val (.long sg), .second, .unset, .unset, .unset, .unset]) rfl (q := 48) rfl ?_
    refine own_lload X4 hx (hb hby dK_48) rfl (q := 50) rfl ?_
    refine own_lload X4 hx (hb hby dK_50) rfl (q := 52) rfl ?_
    refine own_lcmp X4 hx (hb hby dK_52) (q := 53) rfl ?_
    have J102_6 : ∀ (mv : Int64) (g102_0 : mv.toInt = (own_mm q1 q2 : Int)), own_G p e below (own_En s ({ frames := 2, cells := 0, slots := 0, locals := 34 } : Room).cells ({ frames := 2, cells := 0, slots := 0, locals := 34 } : Room).slots (fun v h L => (∃ w, v = some w ∧ (fun w => ∃ x : UInt64, w = .double x ∧ own_KX (own_ng q1) (own_mm q1 q2) (own_jj q1) x) w) ∧ L = [] ∧ h = h0)) (T4.setTop (mkF m 102 #[.val (.long q1), .second, .val (.long q2), .second, .val (.long z1), .second, .val (.long up), .second, .val (.long z3), .second, .val (.long tw), .second, .val (.long sg), .second, .val (.long mv), .second, .unset, .unset] [])) := by
      intro mv g102_0
      refine own_lload X4 hx (hb hby dK_102) rfl (q := 104) rfl ?_
      refine own_lload_n X4 hx (hb hby dK_104) rfl (q := 105) rfl ?_
      refine own_callSP X4 hx hZ hown (hw _ (List.mem_of_getElem? (i := 14) rfl)) (hw _ (List.mem_of_getElem? (i := 15) rfl)) (hw _ (List.mem_of_getElem? (i := 2) rfl)) (hw _ (List.mem_of_getElem? (i := 16) rfl)) (by decide) (own_rm2 l Z a0 hw [] q1  h0 ) (by decide) (by decide) e4 (by rw [hml]; rfl) (argsL := [(.long q1)]) (rest := [(.long mv)]) (lenOf own_pd0 rfl) rfl (W := 2) rfl (hb hby dK_105) (q := 108) rfl rfl rfl rfl (by decide) (by decide) ?_
      rintro _ T7 ⟨z7, rfl, hz7⟩ X7 e7
      refine own_lshl X7 hx (hb hby dK_108) (q := 109) rfl ?_
      obtain ⟨m1_, m2_, m3_⟩ := own_mmb q1 q2
      have s1 : (mv <<< (z7.toInt64 &&& 63)).toInt = ((own_mm q1 q2 * 2 ^ own_sh q1 : Nat) : Int) := own_shl mv z7 (own_sh q1) hz7 (by omega) (by rw [g102_0, Int.natCast_mul]) (Int.natCast_nonneg _) (by omega)
      obtain ⟨ms, e_ms⟩ : ∃ z, z = (mv <<< (z7.toInt64 &&& 63)) := ⟨_, rfl⟩
      rw [← e_ms] at s1 ⊢
      have hD : own_D (own_mm q1 q2 * 2 ^ own_sh q1) 0 (FP.l2d ms) := own_round m1_ (by decide) (by decide) (by rw [show FP.l2d ms = Jvm.FP.Core.l2d ms from rfl, own_Dl (by omega), s1, Int.toNat_natCast])
      refine own_l2d X7 hx (hb hby dK_109) (q := 110) rfl ?_
      refine own_lconst X7 hx (hb hby dK_110) (v := (1 : Int64)) rfl (q := 111) rfl ?_
      refine own_lload_n X7 hx (hb hby dK_111) rfl (q := 112) rfl ?_
      refine own_callSP X7 hx hZ hown (hw _ (List.mem_of_getElem? (i := 24) rfl)) (hw _ (List.mem_of_getElem? (i := 25) rfl)) (hw _ (List.mem_of_getElem? (i := 2) rfl)) (hw _ (List.mem_of_getElem? (i := 26) rfl)) (by decide) (own_rm3 l Z a0 hw [] q1  h0 ) (by decide) (by decide) e7 (by rw [hml]; rfl) (argsL := [(.long q1)]) (rest := [(.long (1 : Int64)), (.double (FP.l2d ms))]) (lenOf own_pd0 rfl) rfl (W := 4) rfl (hb hby dK_112) (q := 115) rfl rfl rfl rfl (by decide) (by decide) ?_
      rintro _ T8 ⟨z8, rfl, hz8⟩ X8 e8
      refine own_lshl X8 hx (hb hby dK_115) (q := 116) rfl ?_
      have sb_us : own_sc q1 ≤ 62 := (own_pw q1).2.1
      have s3_us : 1 ≤ (2 : Nat) ^ own_sc q1 := Nat.two_pow_pos _
      have s2_us : (2 : Nat) ^ own_sc q1 ≤ 2 ^ 62 := Nat.pow_le_pow_right (by decide) sb_us
      have s1_us : ((1 : Int64) <<< (z8.toInt64 &&& 63)).toInt = ((2 ^ own_sc q1 : Nat) : Int) := own_shl 1 z8 (own_sc q1) hz8 (by omega) (by rw [show (1 : Int64).toInt = 1 from rfl, Int.one_mul]) (Int.natCast_nonneg _) (by omega)
      obtain ⟨us, e_us⟩ : ∃ z, z = ((1 : Int64) <<< (z8.toInt64 &&& 63)) := ⟨_, rfl⟩
      rw [← e_us] at s1_us ⊢
      refine own_l2d X8 hx (hb hby dK_116) (q := 117) rfl ?_
      have hD1 : own_D (own_mm q1 q2 * 2 ^ own_sh q1) (-(own_sc q1 : Int)) (FP.ddiv (FP.l2d ms) (FP.l2d us)) := own_round m1_ (by omega) (by omega) (own_Ddiv hD (own_Dp s1_us sb_us))
      refine own_ddiv X8 hx (hb hby dK_117) (hD1.fin) (q := 118) rfl ?_
      have hV : own_KX 0 (own_mm q1 q2) (own_jj q1) (FP.ddiv (FP.l2d ms) (FP.l2d us)) := own_KX_0 hD1 sb_us
      obtain ⟨mg, e_mg⟩ : ∃ z, z = (FP.ddiv (FP.l2d ms) (FP.l2d us)) := ⟨_, rfl⟩
      rw [← e_mg] at hV ⊢
      refine own_dstore X8 hx (hb hby dK_118) (l' := #[.val (.long q1), .second, .val (.long q2), .second, .val (.long z1), .second, .val (.long up), .second, .val (.long z3), .second, .val (.long tw), .second, .val (.long sg), .second, .val (.long mv), .second, .val (.double mg), .second]) rfl (q := 120) rfl ?_
      refine own_lload_n X8 hx (hb hby dK_120) rfl (q := 121) rfl ?_
      refine own_callSP X8 hx hZ hown (hw _ (List.mem_of_getElem? (i := 28) rfl)) (hw _ (List.mem_of_getElem? (i := 29) rfl)) (hw _ (List.mem_of_getElem? (i := 2) rfl)) (hw _ (List.mem_of_getElem? (i := 30) rfl)) (by decide) (own_rm5 l Z a0 hw [] q1  h0 ) (by decide) (by decide) e8 (by rw [hml]; rfl) (argsL := [(.long q1)]) (rest := []) (lenOf own_pd1 rfl) rfl (W := 0) rfl (hb hby dK_121) (q := 124) rfl rfl rfl rfl (by decide) (by decide) ?_
      rintro _ T9 ⟨z9, rfl, hz9⟩ X9 e9
      have hng := hz9
      refine own_if X9 hx (hb hby dK_124) (by decide) (q := 133) rfl (q' := 127) rfl (own_z_eq _) (fun h124 => ?_) (fun h124 => ?_)
      · replace h124 : z9.toInt = 0 := h124
        have hR : own_KX (own_ng q1) (own_mm q1 q2) (own_jj q1) mg := by rw [show own_ng q1 = 0 by omega]; exact hV
        refine own_dload X9 hx (hb hby dK_133) rfl (q := 135) rfl ?_
        exact own_retD X9 hx hret hlk (hb hby dK_135) (by decide) (by decide) ⟨⟨_, rfl, ⟨_, rfl, hR⟩⟩, rfl, e9⟩
      · replace h124 : ¬ (z9.toInt = 0) := h124
        have hR : own_KX (own_ng q1) (own_mm q1 q2) (own_jj q1) (FP.dneg mg) := by rw [show own_ng q1 = 1 by have b0_ : own_ng q1 < 2 := Nat.mod_lt _ (by decide); omega]; exact own_KX_neg hV
        refine own_dload X9 hx (hb hby dK_127) rfl (q := 129) rfl ?_
        refine own_dneg X9 hx (hb hby dK_129) (q := 130) rfl ?_
        refine own_goto X9 hx (hb hby dK_130) (by decide) (q := 135) rfl ?_
        exact own_retD X9 hx hret hlk (hb hby dK_135) (by decide) (by decide) ⟨⟨_, rfl, ⟨_, rfl, hR⟩⟩, rfl, e9⟩
    refine own_if X4 hx (hb hby dK_53) (by decide) (q := 63) rfl (q' := 56) rfl (own_l_ge _ _) (fun h53 => ?_) (fun h53 => ?_)
    · replace h53 : up.toInt ≤ tw.toInt := h53
      refine own_lload X4 hx (hb hby dK_63) rfl (q := 65) rfl ?_
      refine own_lload X4 hx (hb hby dK_65) rfl (q := 67) rfl ?_
      refine own_lcmp X4 hx (hb hby dK_67) (q := 68) rfl ?_
      refine own_if X4 hx (hb hby dK_68) (by decide) (q := 81) rfl (q' := 71) rfl (own_l_le _ _) (fun h68 => ?_) (fun h68 => ?_)
      · replace h68 : tw.toInt ≤ up.toInt := h68
        refine own_lload X4 hx (hb hby dK_81) rfl (q := 83) rfl ?_
        refine own_lconst X4 hx (hb hby dK_83) (v := (1 : Int64)) rfl (q := 84) rfl ?_
        refine own_land X4 hx (hb hby dK_84) (q := 85) rfl ?_
        have k1 : (z1 &&& (1 : Int64)).toInt = (own_mt q1 : Int) % 2 := by rw [c_maskL _ 1 1 (by decide) (by decide), hmt]; rfl
        obtain ⟨kp, e_kp⟩ : ∃ z, z = (z1 &&& (1 : Int64)) := ⟨_, rfl⟩
        rw [← e_kp] at k1 ⊢
        have c0_ : (0 : Int64).toInt = 0 := rfl
        refine own_lconst X4 hx (hb hby dK_85) (v := (0 : Int64)) rfl (q := 86) rfl ?_
        refine own_lcmp X4 hx (hb hby dK_86) (q := 87) rfl ?_
        refine own_if X4 hx (hb hby dK_87) (by decide) (q := 95) rfl (q' := 90) rfl (own_l_ne _ _) (fun h87 => ?_) (fun h87 => ?_)
        · replace h87 : kp.toInt ≠ (0 : Int) := h87
          refine own_lload X4 hx (hb hby dK_95) rfl (q := 97) rfl ?_
          refine own_lload X4 hx (hb hby dK_97) rfl (q := 99) rfl ?_
          refine own_ladd X4 hx (hb hby dK_99) (q := 100) rfl ?_
          refine own_lstore X4 hx (hb hby dK_100) (l' := #[.val (.long q1), .second, .val (.long q2), .second, .val (.long z1), .second, .val (.long up), .second, .val (.long z3), .second, .val (.long tw), .second, .val (.long sg), .second, .val (.long (z1 + sg)), .second, .unset, .unset]) rfl (q := 102) rfl ?_
          exact J102_6 (z1 + sg) (by first | omega | (rw [own_addL _ _ (by omega) (by omega)]; omega))
        · replace h87 : ¬ (kp.toInt ≠ (0 : Int)) := h87
          refine own_lload X4 hx (hb hby dK_90) rfl (q := 92) rfl ?_
          refine own_goto X4 hx (hb hby dK_92) (by decide) (q := 100) rfl ?_
          refine own_lstore X4 hx (hb hby dK_100) (l' := #[.val (.long q1), .second, .val (.long q2), .second, .val (.long z1), .second, .val (.long up), .second, .val (.long z3), .second, .val (.long tw), .second, .val (.long sg), .second, .val (.long z1), .second, .unset, .unset]) rfl (q := 102) rfl ?_
          exact J102_6 z1 (by first | omega | (rw [own_addL _ _ (by omega) (by omega)]; omega))
      · replace h68 : ¬ (tw.toInt ≤ up.toInt) := h68
        refine own_lload X4 hx (hb hby dK_71) rfl (q := 73) rfl ?_
        refine own_lload X4 hx (hb hby dK_73) rfl (q := 75) rfl ?_
        refine own_ladd X4 hx (hb hby dK_75) (q := 76) rfl ?_
        refine own_lstore X4 hx (hb hby dK_76) (l' := #[.val (.long q1), .second, .val (.long q2), .second, .val (.long z1), .second, .val (.long up), .second, .val (.long z3), .second, .val (.long tw), .second, .val (.long sg), .second, .val (.long (z1 + sg)), .second, .unset, .unset]) rfl (q := 78) rfl ?_
        refine own_goto X4 hx (hb hby dK_78) (by decide) (q := 102) rfl ?_
        exact J102_6 (z1 + sg) (by first | omega | (rw [own_addL _ _ (by omega) (by omega)]; omega))
    · replace h53 : ¬ (up.toInt ≤ tw.toInt) := h53
      refine own_lload X4 hx (hb hby dK_56) rfl (q := 58) rfl ?_
      refine own_lstore X4 hx (hb hby dK_58) (l' := #[.val (.long q1), .second, .val (.long q2), .second, .val (.long z1), .second, .val (.long up), .second, .val (.long z3), .second, .val (.long tw), .second, .val (.long sg), .second, .val (.long z1), .second, .unset, .unset]) rfl (q := 60) rfl ?_
      refine own_goto X4 hx (hb hby dK_60) (by decide) (q := 102) rfl ?_
      exact J102_6 z1 (by first | omega | (rw [own_addL _ _ (by omega) (by omega)]; omega))
  refine own_if X4 hx (hb hby dK_36) (by decide) (q := 45) rfl (q' := 39) rfl (own_l_ge _ _) (fun h36 => ?_) (fun h36 => ?_)
  · replace h36 : (0 : Int) ≤ z3.toInt := h36
    refine own_lconst X4 hx (hb hby dK_45) (v := (1 : Int64)) rfl (q := 46) rfl ?_
    exact J46_5 (1 : Int64) (by have hc_0 : (1 : Int64).toInt = (1 : Int) := rfl; have c0_ : (0 : Int64).toInt = 0 := rfl; omega)
  · replace h36 : ¬ ((0 : Int) ≤ z3.toInt) := h36
    refine own_ldcL X4 hx hZ hown (hw _ (List.mem_of_getElem? (i := 45) rfl)) (hb hby dK_39) (q := 42) rfl ?_
    refine own_goto X4 hx (hb hby dK_42) (by decide) (q := 46) rfl ?_
    exact J46_5 (-1 : Int64) (by have hc_0 : (-1 : Int64).toInt = (-1 : Int) := rfl; have c0_ : (0 : Int64).toInt = 0 := rfl; omega)
theorem own_pn0 : plainFor x = true := plainFor_of_name (show plainName "com/example/prudent_query/prudentquery/model/HitCompareScoresPinLaw" = true by first | (simp [plainName, overriddenIn]; done) | decide +kernel)
theorem own_ef0 (m : MethodId) (q1 : Int64) (q2 : Int64) (q3 : Int64) (q4 : Int64)  : entryFrame m #[(.long q1), (.long q2), (.long q3), (.long q4)] maxLocals = mkF m 0 #[.val (.long q1), .second, .val (.long q2), .second, .val (.long q3), .second, .val (.long q4), .second, .unset, .unset, .unset, .unset, .unset, .unset, .unset, .unset, .unset, .unset, .unset, .unset, .unset] [] := by first | (simp [entryFrame, mkF, argsToLocals, Value.category, maxLocals]; done) | rfl
set_option maxRecDepth 65536 in
set_option maxHeartbeats 40000000 in
theorem own_rm0 (l : Launch) (Z : State) (a0 : Array Value) (hw : ∀ d ∈ tables_1, d.before a0 Z = true) (ws : List Jvm.Cond) (q1 : Int64) (q2 : Int64) (q3 : Int64) (q4 : Int64)  (h0 : Heap)  :
    MetFree l x (head1 (Jvm.Cond.code x code maxLocals ret :: ws) room_1) (fun a U => a = #[(.long q1), (.long q2), (.long q3), (.long q4)] ∧ Z.Warmed39 U.vm ∧ U.heap = h0) (fun _ _ _ _ _ => True) (fun _ U o U' => ∃ v L, o = .returned v ∧ (fun v h L => v = some (.int 1) ∧ Fr h0.size L) v U'.heap L ∧ FrameEnd U o U' L room_1.cells room_1.slots) := by
  refine own_body (y := x) (Q := fun v h L => v = some (.int 1) ∧ Fr h0.size L) (rm := room_1) (as' := #[(.long q1), (.long q2), (.long q3), (.long q4)]) (h0 := h0) (Z := Z) own_pn0 ?_
  intro p e s m below meth c s₁ hx hby hml hown hnm hret hlk hZ X0 e0
  have hown : s.vm.findClass "com/example/prudent_query/prudentquery/model/HitCompareScoresPinLaw" = some m.cls := hown
  rw [own_ef0]
  refine own_lload X0 hx (hb hby at_0) rfl (q := 2) rfl ?_
  refine own_lconst X0 hx (hb hby at_2) (v := (1 : Int64)) rfl (q := 3) rfl ?_
  refine own_land X0 hx (hb hby at_3) (q := 4) rfl ?_
  refine own_lconst X0 hx (hb hby at_4) (v := (0 : Int64)) rfl (q := 5) rfl ?_
  refine own_lcmp X0 hx (hb hby at_5) (q := 6) rfl ?_
  have J15_1 : ∀ (pb : Int64), own_G p e below (own_En s room_1.cells room_1.slots (fun v h L => v = some (.int 1) ∧ Fr h0.size L)) (s₁.setTop (mkF m 15 #[.val (.long q1), .second, .val (.long q2), .second, .val (.long q3), .second, .val (.long q4), .second, .unset, .unset, .unset, .unset, .unset, .unset, .unset, .unset, .unset, .unset, .unset, .unset, .unset] [(.long pb)])) := by
    intro pb
    refine own_lstore X0 hx (hb hby at_15) (l' := #[.val (.long q1), .second, .val (.long q2), .second, .val (.long q3), .second, .val (.long q4), .second, .val (.long pb), .second, .unset, .unset, .unset, .unset, .unset, .unset, .unset, .unset, .unset, .unset, .unset]) rfl (q := 17) rfl ?_
    refine own_lload_n X0 hx (hb hby at_17) rfl (q := 18) rfl ?_
    refine own_lload_n X0 hx (hb hby at_18) rfl (q := 19) rfl ?_
    refine own_callSP X0 hx hZ hown (hw _ (List.mem_of_getElem? (i := 0) rfl)) (hw _ (List.mem_of_getElem? (i := 1) rfl)) (hw _ (List.mem_of_getElem? (i := 2) rfl)) (hw _ (List.mem_of_getElem? (i := 3) rfl)) (by decide) (own_rm7 l Z a0 hw [] q1 q2  h0 ) (by decide) (by decide) e0 (by rw [hml]; rfl) (argsL := [(.long q1), (.long q2)]) (rest := []) (lenOf own_pd4 rfl) rfl (W := 0) rfl (hb hby at_19) (q := 22) rfl rfl rfl rfl (by decide) (by decide) ?_
    rintro _ T2 ⟨x2, rfl, hz2⟩ X2 e2
    have hVa := hz2
    obtain ⟨za, hza⟩ : ∃ z, z = (Jvm.FP.Core.zval Jvm.FP.Core.b32 (Jvm.FP.Core.val32 (Jvm.FP.Core.d2f x2))) := ⟨_, rfl⟩
    refine own_dstore X2 hx (hb hby at_22) (l' := #[.val (.long q1), .second, .val (.long q2), .second, .val (.long q3), .second, .val (.long q4), .second, .val (.long pb), .second, .val (.double x2), .second, .unset, .unset, .unset, .unset, .unset, .unset, .unset, .unset, .unset]) rfl (q := 24) rfl ?_
    refine own_lload X2 hx (hb hby at_24) rfl (q := 26) rfl ?_
    refine own_lload X2 hx (hb hby at_26) rfl (q := 28) rfl ?_
    refine own_callSP X2 hx hZ hown (hw _ (List.mem_of_getElem? (i := 0) rfl)) (hw _ (List.mem_of_getElem? (i := 1) rfl)) (hw _ (List.mem_of_getElem? (i := 2) rfl)) (hw _ (List.mem_of_getElem? (i := 3) rfl)) (by decide) (own_rm7 l Z a0 hw [] pb q4  h0 ) (by decide) (by decide) e2 (by rw [hml]; rfl) (argsL := [(.long pb), (.long q4)]) (rest := []) (lenOf own_pd4 rfl) rfl (W := 0) rfl (hb hby at_28) (q := 31) rfl rfl rfl rfl (by decide) (by decide) ?_
    rintro _ T3 ⟨x3, rfl, hz3⟩ X3 e3
    have hVb := hz3
    obtain ⟨zb, hzb⟩ : ∃ z, z = (Jvm.FP.Core.zval Jvm.FP.Core.b32 (Jvm.FP.Core.val32 (Jvm.FP.Core.d2f x3))) := ⟨_, rfl⟩
    refine own_dstore X3 hx (hb hby at_31) (l' := #[.val (.long q1), .second, .val (.long q2), .second, .val (.long q3), .second, .val (.long q4), .second, .val (.long pb), .second, .val (.double x2), .second, .val (.double x3), .second, .unset, .unset, .unset, .unset, .unset, .unset, .unset]) rfl (q := 33) rfl ?_
    refine own_lload_n X3 hx (hb hby at_33) rfl (q := 34) rfl ?_
    refine own_callSP X3 hx hZ hown (hw _ (List.mem_of_getElem? (i := 31) rfl)) (hw _ (List.mem_of_getElem? (i := 32) rfl)) (hw _ (List.mem_of_getElem? (i := 2) rfl)) (hw _ (List.mem_of_getElem? (i := 33) rfl)) (by decide) (own_rm8 l Z a0 hw [] q1  h0 ) (by decide) (by decide) e3 (by rw [hml]; rfl) (argsL := [(.long q1)]) (rest := []) (lenOf own_pd0 rfl) rfl (W := 0) rfl (hb hby at_34) (q := 37) rfl rfl rfl rfl (by decide) (by decide) ?_
    rintro _ T4 ⟨z4, rfl, hz4⟩ X4 e4
    have hTa := own_tier hVa (Nat.mod_lt _ (by decide)) hz4 hza
    refine own_istore X4 hx (hb hby at_37) (l' := #[.val (.long q1), .second, .val (.long q2), .second, .val (.long q3), .second, .val (.long q4), .second, .val (.long pb), .second, .val (.double x2), .second, .val (.double x3), .second, .val (.int z4), .unset, .unset, .unset, .unset, .unset, .unset]) rfl (q := 39) rfl ?_
    refine own_lload X4 hx (hb hby at_39) rfl (q := 41) rfl ?_
    refine own_callSP X4 hx hZ hown (hw _ (List.mem_of_getElem? (i := 31) rfl)) (hw _ (List.mem_of_getElem? (i := 32) rfl)) (hw _ (List.mem_of_getElem? (i := 2) rfl)) (hw _ (List.mem_of_getElem? (i := 33) rfl)) (by decide) (own_rm8 l Z a0 hw [] pb  h0 ) (by decide) (by decide) e4 (by rw [hml]; rfl) (argsL := [(.long pb)]) (rest := []) (lenOf own_pd0 rfl) rfl (W := 0) rfl (hb hby at_41) (q := 44) rfl rfl rfl rfl (by decide) (by decide) ?_
    rintro _ T5 ⟨z5, rfl, hz5⟩ X5 e5
    have hTb := own_tier hVb (Nat.mod_lt _ (by decide)) hz5 hzb
    have hTOP := own_top
    generalize own_TOP = TT at hTa hTb hTOP
    refine own_istore X5 hx (hb hby at_44) (l' := #[.val (.long q1), .second, .val (.long q2), .second, .val (.long q3), .second, .val (.long q4), .second, .val (.long pb), .second, .val (.double x2), .second, .val (.double x3), .second, .val (.int z4), .val (.int z5), .unset, .unset, .unset, .unset, .unset]) rfl (q := 46) rfl ?_
    refine own_iload X5 hx (hb hby at_46) rfl (q := 48) rfl ?_
    refine own_iload X5 hx (hb hby at_48) rfl (q := 50) rfl ?_
    refine own_icmp X5 hx (hb hby at_50) (by decide) (q := 70) rfl (q' := 53) rfl (own_h_eq _ _) (fun h50 => ?_) (fun h50 => ?_)
    · replace h50 : z4.toInt = z5.toInt := h50
      refine own_iload X5 hx (hb hby at_70) rfl (q := 72) rfl ?_
      refine own_iconst X5 hx (hb hby at_72) (v := (1 : Int32)) rfl (q := 73) rfl ?_
      refine own_icmp X5 hx (hb hby at_73) (by decide) (q := 82) rfl (q' := 76) rfl (own_h_eq _ _) (fun h73 => ?_) (fun h73 => ?_)
      · replace h73 : z4.toInt = (1 : Int) := h73
        refine own_lload_n X5 hx (hb hby at_82) rfl (q := 83) rfl ?_
        refine own_lload_n X5 hx (hb hby at_83) rfl (q := 84) rfl ?_
        refine own_callSP X5 hx hZ hown (hw _ (List.mem_of_getElem? (i := 38) rfl)) (hw _ (List.mem_of_getElem? (i := 39) rfl)) (hw _ (List.mem_of_getElem? (i := 2) rfl)) (hw _ (List.mem_of_getElem? (i := 40) rfl)) (by decide) (own_rmK l Z a0 hw [] q1 q2  h0 ) (by decide) (by decide) e5 (by rw [hml]; rfl) (argsL := [(.long q1), (.long q2)]) (rest := []) (lenOf own_pd4 rfl) rfl (W := 0) rfl (hb hby at_84) (q := 87) rfl rfl rfl rfl (by decide) (by decide) ?_
        rintro _ T6 ⟨x6, rfl, hz6⟩ X6 e6
        have hKa := hz6
        refine own_dstore X6 hx (hb hby at_87) (l' := #[.val (.long q1), .second, .val (.long q2), .second, .val (.long q3), .second, .val (.long q4), .second, .val (.long pb), .second, .val (.double x2), .second, .val (.double x3), .second, .val (.int z4), .val (.int z5), .unset, .val (.double x6), .second, .unset, .unset]) rfl (q := 89) rfl ?_
        refine own_lload X6 hx (hb hby at_89) rfl (q := 91) rfl ?_
        refine own_lload X6 hx (hb hby at_91) rfl (q := 93) rfl ?_
        refine own_callSP X6 hx hZ hown (hw _ (List.mem_of_getElem? (i := 38) rfl)) (hw _ (List.mem_of_getElem? (i := 39) rfl)) (hw _ (List.mem_of_getElem? (i := 2) rfl)) (hw _ (List.mem_of_getElem? (i := 40) rfl)) (by decide) (own_rmK l Z a0 hw [] pb q4  h0 ) (by decide) (by decide) e6 (by rw [hml]; rfl) (argsL := [(.long pb), (.long q4)]) (rest := []) (lenOf own_pd4 rfl) rfl (W := 0) rfl (hb hby at_93) (q := 96) rfl rfl rfl rfl (by decide) (by decide) ?_
        rintro _ T7 ⟨x7, rfl, hz7⟩ X7 e7
        have hKb := hz7
        have hka := own_kz hVa (by omega) (by omega) hKa
        have hkb := own_kz hVb (by omega) (by omega) hKb
        rw [← hza] at hka
        rw [← hzb] at hkb
        refine own_dstore X7 hx (hb hby at_96) (l' := #[.val (.long q1), .second, .val (.long q2), .second, .val (.long q3), .second, .val (.long q4), .second, .val (.long pb), .second, .val (.double x2), .second, .val (.double x3), .second, .val (.int z4), .val (.int z5), .unset, .val (.double x6), .second, .val (.double x7), .second]) rfl (q := 98) rfl ?_
        refine own_dload X7 hx (hb hby at_98) rfl (q := 100) rfl ?_
        refine own_dload X7 hx (hb hby at_100) rfl (q := 102) rfl ?_
        obtain ⟨c1, hc1, hv1⟩ := own_dc hKa.1 hKb.1 own_p925 hka hkb .l
        refine own_dcmp X7 hx (hb hby at_102) (v := c1) (hc1) (q := 103) rfl ?_
        refine own_if X7 hx (hb hby at_103) (by decide) (q := 112) rfl (q' := 106) rfl (own_z_le _) (fun h103 => ?_) (fun h103 => ?_)
        · replace h103 : c1.toInt ≤ 0 := h103
          refine own_dload X7 hx (hb hby at_112) rfl (q := 114) rfl ?_
          refine own_dload X7 hx (hb hby at_114) rfl (q := 116) rfl ?_
          obtain ⟨c2, hc2, hv2⟩ := own_dc hKa.1 hKb.1 own_p925 hka hkb .g
          refine own_dcmp X7 hx (hb hby at_116) (v := c2) (hc2) (q := 117) rfl ?_
          refine own_if X7 hx (hb hby at_117) (by decide) (q := 126) rfl (q' := 120) rfl (own_z_ge _) (fun h117 => ?_) (fun h117 => ?_)
          · replace h117 : 0 ≤ c2.toInt := h117
            refine own_iconst X7 hx (hb hby at_126) (v := (0 : Int32)) rfl (q := 127) rfl ?_
            refine own_istore X7 hx (hb hby at_127) (l' := #[.val (.long q1), .second, .val (.long q2), .second, .val (.long q3), .second, .val (.long q4), .second, .val (.long pb), .second, .val (.double x2), .second, .val (.double x3), .second, .val (.int z4), .val (.int z5), .val (.int (0 : Int32)), .val (.double x6), .second, .val (.double x7), .second]) rfl (q := 129) rfl ?_
            refine own_goto X7 hx (hb hby at_129) (by decide) (q := 135) rfl ?_
            have hex : za = zb := by omega
            refine own_dload X7 hx (hb hby at_135) rfl (q := 137) rfl ?_
            refine own_dload X7 hx (hb hby at_137) rfl (q := 139) rfl ?_
            refine own_callSP X7 hx hZ hown (hw _ (List.mem_of_getElem? (i := 34) rfl)) (hw _ (List.mem_of_getElem? (i := 35) rfl)) (hw _ (List.mem_of_getElem? (i := 36) rfl)) (hw _ (List.mem_of_getElem? (i := 37) rfl)) (by decide) (own_rmC l Z a0 hw [] x2 x3  h0 hVa.1 hVb.1) (by decide) (by decide) e7 (by rw [hml]; rfl) (argsL := [(.double x2), (.double x3)]) (rest := []) (lenOf own_pd5 rfl) rfl (W := 0) rfl (hb hby at_139) (q := 142) rfl rfl rfl rfl (by decide) (by decide) ?_
            rintro _ T8 ⟨z8, rfl, hz8⟩ X8 e8
            rw [← hza, ← hzb] at hz8
            have hrs := hz8
            refine own_istore X8 hx (hb hby at_142) (l' := #[.val (.long q1), .second, .val (.long q2), .second, .val (.long q3), .second, .val (.long q4), .second, .val (.long pb), .second, .val (.double x2), .second, .val (.double x3), .second, .val (.int z4), .val (.int z5), .val (.int (0 : Int32)), .val (.int z8), .unset, .val (.double x7), .second]) rfl (q := 144) rfl ?_
            refine own_iload X8 hx (hb hby at_144) rfl (q := 146) rfl ?_
            have J163_9 : ∀ (sgn : Int32) (g163_0 : (sgn.toInt = 1 ∧ za < zb) ∨ (sgn.toInt = 0 ∧ za = zb) ∨ (sgn.toInt = -1 ∧ zb < za)), own_G p e below (own_En s room_1.cells room_1.slots (fun v h L => v = some (.int 1) ∧ Fr h0.size L)) (T8.setTop (mkF m 163 #[.val (.long q1), .second, .val (.long q2), .second, .val (.long q3), .second, .val (.long q4), .second, .val (.long pb), .second, .val (.double x2), .second, .val (.double x3), .second, .val (.int z4), .val (.int z5), .val (.int (0 : Int32)), .val (.int z8), .unset, .val (.double x7), .second] [(.int sgn)])) := by
              intro sgn g163_0
              refine own_istore X8 hx (hb hby at_163) (l' := #[.val (.long q1), .second, .val (.long q2), .second, .val (.long q3), .second, .val (.long q4), .second, .val (.long pb), .second, .val (.double x2), .second, .val (.double x3), .second, .val (.int z4), .val (.int z5), .val (.int (0 : Int32)), .val (.int z8), .val (.int sgn), .val (.double x7), .second]) rfl (q := 165) rfl ?_
              refine own_iload X8 hx (hb hby at_165) rfl (q := 167) rfl ?_
              refine own_iload X8 hx (hb hby at_167) rfl (q := 169) rfl ?_
              refine own_icmp X8 hx (hb hby at_169) (by decide) (q := 176) rfl (q' := 172) rfl (own_h_ne _ _) (fun h169 => ?_) (fun h169 => ?_)
              · replace h169 : sgn.toInt ≠ (0 : Int) := h169
                exfalso; omega
              · replace h169 : ¬ (sgn.toInt ≠ (0 : Int)) := h169
                refine own_iconst X8 hx (hb hby at_172) (v := (1 : Int32)) rfl (q := 173) rfl ?_
                refine own_goto X8 hx (hb hby at_173) (by decide) (q := 177) rfl ?_
                exact own_retN X8 hx (t := .boolean) hret hlk (by simp) (hb hby at_177) (by decide) (by decide) (w := 1) rfl ⟨rfl, (Fr.nil _)⟩
            refine own_if X8 hx (hb hby at_146) (by decide) (q := 153) rfl (q' := 149) rfl (own_z_ge _) (fun h146 => ?_) (fun h146 => ?_)
            · replace h146 : 0 ≤ z8.toInt := h146
              refine own_iload X8 hx (hb hby at_153) rfl (q := 155) rfl ?_
              refine own_if X8 hx (hb hby at_155) (by decide) (q := 162) rfl (q' := 158) rfl (own_z_le _) (fun h155 => ?_) (fun h155 => ?_)
              · replace h155 : z8.toInt ≤ 0 := h155
                refine own_iconst X8 hx (hb hby at_162) (v := (0 : Int32)) rfl (q := 163) rfl ?_
                exact J163_9 (0 : Int32) (by have hc_0 : (0 : Int32).toInt = (0 : Int) := rfl; omega)
              · replace h155 : ¬ (z8.toInt ≤ 0) := h155
                refine own_iconst X8 hx (hb hby at_158) (v := (1 : Int32)) rfl (q := 159) rfl ?_
                refine own_goto X8 hx (hb hby at_159) (by decide) (q := 163) rfl ?_
                exact J163_9 (1 : Int32) (by have hc_0 : (0 : Int32).toInt = (0 : Int) := rfl; have hc_1 : (1 : Int32).toInt = (1 : Int) := rfl; omega)
            · replace h146 : ¬ (0 ≤ z8.toInt) := h146
              refine own_iconst X8 hx (hb hby at_149) (v := (-1 : Int32)) rfl (q := 150) rfl ?_
              refine own_goto X8 hx (hb hby at_150) (by decide) (q := 163) rfl ?_
              exact J163_9 (-1 : Int32) (by have hc_0 : (-1 : Int32).toInt = (-1 : Int) := rfl; have hc_1 : (0 : Int32).toInt = (0 : Int) := rfl; omega)
          · replace h117 : ¬ (0 ≤ c2.toInt) := h117
            refine own_iconst X7 hx (hb hby at_120) (v := (1 : Int32)) rfl (q := 121) rfl ?_
            refine own_istore X7 hx (hb hby at_121) (l' := #[.val (.long q1), .second, .val (.long q2), .second, .val (.long q3), .second, .val (.long q4), .second, .val (.long pb), .second, .val (.double x2), .second, .val (.double x3), .second, .val (.int z4), .val (.int z5), .val (.int (1 : Int32)), .val (.double x6), .second, .val (.double x7), .second]) rfl (q := 123) rfl ?_
            refine own_goto X7 hx (hb hby at_123) (by decide) (q := 129) rfl ?_
            refine own_goto X7 hx (hb hby at_129) (by decide) (q := 135) rfl ?_
            have hex : za < zb := by omega
            refine own_dload X7 hx (hb hby at_135) rfl (q := 137) rfl ?_
            refine own_dload X7 hx (hb hby at_137) rfl (q := 139) rfl ?_
            refine own_callSP X7 hx hZ hown (hw _ (List.mem_of_getElem? (i := 34) rfl)) (hw _ (List.mem_of_getElem? (i := 35) rfl)) (hw _ (List.mem_of_getElem? (i := 36) rfl)) (hw _ (List.mem_of_getElem? (i := 37) rfl)) (by decide) (own_rmC l Z a0 hw [] x2 x3  h0 hVa.1 hVb.1) (by decide) (by decide) e7 (by rw [hml]; rfl) (argsL := [(.double x2), (.double x3)]) (rest := []) (lenOf own_pd5 rfl) rfl (W := 0) rfl (hb hby at_139) (q := 142) rfl rfl rfl rfl (by decide) (by decide) ?_
            rintro _ T10 ⟨z10, rfl, hz10⟩ X10 e10
            rw [← hza, ← hzb] at hz10
            have hrs := hz10
            refine own_istore X10 hx (hb hby at_142) (l' := #[.val (.long q1), .second, .val (.long q2), .second, .val (.long q3), .second, .val (.long q4), .second, .val (.long pb), .second, .val (.double x2), .second, .val (.double x3), .second, .val (.int z4), .val (.int z5), .val (.int (1 : Int32)), .val (.int z10), .unset, .val (.double x7), .second]) rfl (q := 144) rfl ?_
            refine own_iload X10 hx (hb hby at_144) rfl (q := 146) rfl ?_
            have J163_11 : ∀ (sgn : Int32) (g163_0 : (sgn.toInt = 1 ∧ za < zb) ∨ (sgn.toInt = 0 ∧ za = zb) ∨ (sgn.toInt = -1 ∧ zb < za)), own_G p e below (own_En s room_1.cells room_1.slots (fun v h L => v = some (.int 1) ∧ Fr h0.size L)) (T10.setTop (mkF m 163 #[.val (.long q1), .second, .val (.long q2), .second, .val (.long q3), .second, .val (.long q4), .second, .val (.long pb), .second, .val (.double x2), .second, .val (.double x3), .second, .val (.int z4), .val (.int z5), .val (.int (1 : Int32)), .val (.int z10), .unset, .val (.double x7), .second] [(.int sgn)])) := by
              intro sgn g163_0
              refine own_istore X10 hx (hb hby at_163) (l' := #[.val (.long q1), .second, .val (.long q2), .second, .val (.long q3), .second, .val (.long q4), .second, .val (.long pb), .second, .val (.double x2), .second, .val (.double x3), .second, .val (.int z4), .val (.int z5), .val (.int (1 : Int32)), .val (.int z10), .val (.int sgn), .val (.double x7), .second]) rfl (q := 165) rfl ?_
              refine own_iload X10 hx (hb hby at_165) rfl (q := 167) rfl ?_
              refine own_iload X10 hx (hb hby at_167) rfl (q := 169) rfl ?_
              refine own_icmp X10 hx (hb hby at_169) (by decide) (q := 176) rfl (q' := 172) rfl (own_h_ne _ _) (fun h169 => ?_) (fun h169 => ?_)
              · replace h169 : sgn.toInt ≠ (1 : Int) := h169
                exfalso; omega
              · replace h169 : ¬ (sgn.toInt ≠ (1 : Int)) := h169
                refine own_iconst X10 hx (hb hby at_172) (v := (1 : Int32)) rfl (q := 173) rfl ?_
                refine own_goto X10 hx (hb hby at_173) (by decide) (q := 177) rfl ?_
                exact own_retN X10 hx (t := .boolean) hret hlk (by simp) (hb hby at_177) (by decide) (by decide) (w := 1) rfl ⟨rfl, (Fr.nil _)⟩
            refine own_if X10 hx (hb hby at_146) (by decide) (q := 153) rfl (q' := 149) rfl (own_z_ge _) (fun h146 => ?_) (fun h146 => ?_)
            · replace h146 : 0 ≤ z10.toInt := h146
              refine own_iload X10 hx (hb hby at_153) rfl (q := 155) rfl ?_
              refine own_if X10 hx (hb hby at_155) (by decide) (q := 162) rfl (q' := 158) rfl (own_z_le _) (fun h155 => ?_) (fun h155 => ?_)
              · replace h155 : z10.toInt ≤ 0 := h155
                refine own_iconst X10 hx (hb hby at_162) (v := (0 : Int32)) rfl (q := 163) rfl ?_
                exact J163_11 (0 : Int32) (by have hc_0 : (0 : Int32).toInt = (0 : Int) := rfl; have hc_1 : (1 : Int32).toInt = (1 : Int) := rfl; omega)
              · replace h155 : ¬ (z10.toInt ≤ 0) := h155
                refine own_iconst X10 hx (hb hby at_158) (v := (1 : Int32)) rfl (q := 159) rfl ?_
                refine own_goto X10 hx (hb hby at_159) (by decide) (q := 163) rfl ?_
                exact J163_11 (1 : Int32) (by have hc_0 : (1 : Int32).toInt = (1 : Int) := rfl; omega)
            · replace h146 : ¬ (0 ≤ z10.toInt) := h146
              refine own_iconst X10 hx (hb hby at_149) (v := (-1 : Int32)) rfl (q := 150) rfl ?_
              refine own_goto X10 hx (hb hby at_150) (by decide) (q := 163) rfl ?_
              exact J163_11 (-1 : Int32) (by have hc_0 : (-1 : Int32).toInt = (-1 : Int) := rfl; have hc_1 : (1 : Int32).toInt = (1 : Int) := rfl; omega)
        · replace h103 : ¬ (c1.toInt ≤ 0) := h103
          refine own_iconst X7 hx (hb hby at_106) (v := (-1 : Int32)) rfl (q := 107) rfl ?_
          refine own_istore X7 hx (hb hby at_107) (l' := #[.val (.long q1), .second, .val (.long q2), .second, .val (.long q3), .second, .val (.long q4), .second, .val (.long pb), .second, .val (.double x2), .second, .val (.double x3), .second, .val (.int z4), .val (.int z5), .val (.int (-1 : Int32)), .val (.double x6), .second, .val (.double x7), .second]) rfl (q := 109) rfl ?_
          refine own_goto X7 hx (hb hby at_109) (by decide) (q := 129) rfl ?_
          refine own_goto X7 hx (hb hby at_129) (by decide) (q := 135) rfl ?_
          have hex : zb < za := by omega
          refine own_dload X7 hx (hb hby at_135) rfl (q := 137) rfl ?_
          refine own_dload X7 hx (hb hby at_137) rfl (q := 139) rfl ?_
          refine own_callSP X7 hx hZ hown (hw _ (List.mem_of_getElem? (i := 34) rfl)) (hw _ (List.mem_of_getElem? (i := 35) rfl)) (hw _ (List.mem_of_getElem? (i := 36) rfl)) (hw _ (List.mem_of_getElem? (i := 37) rfl)) (by decide) (own_rmC l Z a0 hw [] x2 x3  h0 hVa.1 hVb.1) (by decide) (by decide) e7 (by rw [hml]; rfl) (argsL := [(.double x2), (.double x3)]) (rest := []) (lenOf own_pd5 rfl) rfl (W := 0) rfl (hb hby at_139) (q := 142) rfl rfl rfl rfl (by decide) (by decide) ?_
          rintro _ T12 ⟨z12, rfl, hz12⟩ X12 e12
          rw [← hza, ← hzb] at hz12
          have hrs := hz12
          refine own_istore X12 hx (hb hby at_142) (l' := #[.val (.long q1), .second, .val (.long q2), .second, .val (.long q3), .second, .val (.long q4), .second, .val (.long pb), .second, .val (.double x2), .second, .val (.double x3), .second, .val (.int z4), .val (.int z5), .val (.int (-1 : Int32)), .val (.int z12), .unset, .val (.double x7), .second]) rfl (q := 144) rfl ?_
          refine own_iload X12 hx (hb hby at_144) rfl (q := 146) rfl ?_
          have J163_13 : ∀ (sgn : Int32) (g163_0 : (sgn.toInt = 1 ∧ za < zb) ∨ (sgn.toInt = 0 ∧ za = zb) ∨ (sgn.toInt = -1 ∧ zb < za)), own_G p e below (own_En s room_1.cells room_1.slots (fun v h L => v = some (.int 1) ∧ Fr h0.size L)) (T12.setTop (mkF m 163 #[.val (.long q1), .second, .val (.long q2), .second, .val (.long q3), .second, .val (.long q4), .second, .val (.long pb), .second, .val (.double x2), .second, .val (.double x3), .second, .val (.int z4), .val (.int z5), .val (.int (-1 : Int32)), .val (.int z12), .unset, .val (.double x7), .second] [(.int sgn)])) := by
            intro sgn g163_0
            refine own_istore X12 hx (hb hby at_163) (l' := #[.val (.long q1), .second, .val (.long q2), .second, .val (.long q3), .second, .val (.long q4), .second, .val (.long pb), .second, .val (.double x2), .second, .val (.double x3), .second, .val (.int z4), .val (.int z5), .val (.int (-1 : Int32)), .val (.int z12), .val (.int sgn), .val (.double x7), .second]) rfl (q := 165) rfl ?_
            refine own_iload X12 hx (hb hby at_165) rfl (q := 167) rfl ?_
            refine own_iload X12 hx (hb hby at_167) rfl (q := 169) rfl ?_
            refine own_icmp X12 hx (hb hby at_169) (by decide) (q := 176) rfl (q' := 172) rfl (own_h_ne _ _) (fun h169 => ?_) (fun h169 => ?_)
            · replace h169 : sgn.toInt ≠ (-1 : Int) := h169
              exfalso; omega
            · replace h169 : ¬ (sgn.toInt ≠ (-1 : Int)) := h169
              refine own_iconst X12 hx (hb hby at_172) (v := (1 : Int32)) rfl (q := 173) rfl ?_
              refine own_goto X12 hx (hb hby at_173) (by decide) (q := 177) rfl ?_
              exact own_retN X12 hx (t := .boolean) hret hlk (by simp) (hb hby at_177) (by decide) (by decide) (w := 1) rfl ⟨rfl, (Fr.nil _)⟩
          refine own_if X12 hx (hb hby at_146) (by decide) (q := 153) rfl (q' := 149) rfl (own_z_ge _) (fun h146 => ?_) (fun h146 => ?_)
          · replace h146 : 0 ≤ z12.toInt := h146
            refine own_iload X12 hx (hb hby at_153) rfl (q := 155) rfl ?_
            refine own_if X12 hx (hb hby at_155) (by decide) (q := 162) rfl (q' := 158) rfl (own_z_le _) (fun h155 => ?_) (fun h155 => ?_)
            · replace h155 : z12.toInt ≤ 0 := h155
              refine own_iconst X12 hx (hb hby at_162) (v := (0 : Int32)) rfl (q := 163) rfl ?_
              exact J163_13 (0 : Int32) (by have hc_0 : (-1 : Int32).toInt = (-1 : Int) := rfl; have hc_1 : (0 : Int32).toInt = (0 : Int) := rfl; omega)
            · replace h155 : ¬ (z12.toInt ≤ 0) := h155
              refine own_iconst X12 hx (hb hby at_158) (v := (1 : Int32)) rfl (q := 159) rfl ?_
              refine own_goto X12 hx (hb hby at_159) (by decide) (q := 163) rfl ?_
              exact J163_13 (1 : Int32) (by have hc_0 : (-1 : Int32).toInt = (-1 : Int) := rfl; have hc_1 : (1 : Int32).toInt = (1 : Int) := rfl; omega)
          · replace h146 : ¬ (0 ≤ z12.toInt) := h146
            refine own_iconst X12 hx (hb hby at_149) (v := (-1 : Int32)) rfl (q := 150) rfl ?_
            refine own_goto X12 hx (hb hby at_150) (by decide) (q := 163) rfl ?_
            exact J163_13 (-1 : Int32) (by have hc_0 : (-1 : Int32).toInt = (-1 : Int) := rfl; omega)
      · replace h73 : ¬ (z4.toInt = (1 : Int)) := h73
        refine own_iload X5 hx (hb hby at_76) rfl (q := 78) rfl ?_
        refine own_iconst X5 hx (hb hby at_78) (v := (-1 : Int32)) rfl (q := 79) rfl ?_
        refine own_icmp X5 hx (hb hby at_79) (by decide) (q := 132) rfl (q' := 82) rfl (own_h_ne _ _) (fun h79 => ?_) (fun h79 => ?_)
        · replace h79 : z4.toInt ≠ (-1 : Int) := h79
          refine own_iconst X5 hx (hb hby at_132) (v := (0 : Int32)) rfl (q := 133) rfl ?_
          refine own_istore X5 hx (hb hby at_133) (l' := #[.val (.long q1), .second, .val (.long q2), .second, .val (.long q3), .second, .val (.long q4), .second, .val (.long pb), .second, .val (.double x2), .second, .val (.double x3), .second, .val (.int z4), .val (.int z5), .val (.int (0 : Int32)), .unset, .unset, .unset, .unset]) rfl (q := 135) rfl ?_
          have hex : za = zb := by omega
          refine own_dload X5 hx (hb hby at_135) rfl (q := 137) rfl ?_
          refine own_dload X5 hx (hb hby at_137) rfl (q := 139) rfl ?_
          refine own_callSP X5 hx hZ hown (hw _ (List.mem_of_getElem? (i := 34) rfl)) (hw _ (List.mem_of_getElem? (i := 35) rfl)) (hw _ (List.mem_of_getElem? (i := 36) rfl)) (hw _ (List.mem_of_getElem? (i := 37) rfl)) (by decide) (own_rmC l Z a0 hw [] x2 x3  h0 hVa.1 hVb.1) (by decide) (by decide) e5 (by rw [hml]; rfl) (argsL := [(.double x2), (.double x3)]) (rest := []) (lenOf own_pd5 rfl) rfl (W := 0) rfl (hb hby at_139) (q := 142) rfl rfl rfl rfl (by decide) (by decide) ?_
          rintro _ T14 ⟨z14, rfl, hz14⟩ X14 e14
          rw [← hza, ← hzb] at hz14
          have hrs := hz14
          refine own_istore X14 hx (hb hby at_142) (l' := #[.val (.long q1), .second, .val (.long q2), .second, .val (.long q3), .second, .val (.long q4), .second, .val (.long pb), .second, .val (.double x2), .second, .val (.double x3), .second, .val (.int z4), .val (.int z5), .val (.int (0 : Int32)), .val (.int z14), .unset, .unset, .unset]) rfl (q := 144) rfl ?_
          refine own_iload X14 hx (hb hby at_144) rfl (q := 146) rfl ?_
          have J163_15 : ∀ (sgn : Int32) (g163_0 : (sgn.toInt = 1 ∧ za < zb) ∨ (sgn.toInt = 0 ∧ za = zb) ∨ (sgn.toInt = -1 ∧ zb < za)), own_G p e below (own_En s room_1.cells room_1.slots (fun v h L => v = some (.int 1) ∧ Fr h0.size L)) (T14.setTop (mkF m 163 #[.val (.long q1), .second, .val (.long q2), .second, .val (.long q3), .second, .val (.long q4), .second, .val (.long pb), .second, .val (.double x2), .second, .val (.double x3), .second, .val (.int z4), .val (.int z5), .val (.int (0 : Int32)), .val (.int z14), .unset, .unset, .unset] [(.int sgn)])) := by
            intro sgn g163_0
            refine own_istore X14 hx (hb hby at_163) (l' := #[.val (.long q1), .second, .val (.long q2), .second, .val (.long q3), .second, .val (.long q4), .second, .val (.long pb), .second, .val (.double x2), .second, .val (.double x3), .second, .val (.int z4), .val (.int z5), .val (.int (0 : Int32)), .val (.int z14), .val (.int sgn), .unset, .unset]) rfl (q := 165) rfl ?_
            refine own_iload X14 hx (hb hby at_165) rfl (q := 167) rfl ?_
            refine own_iload X14 hx (hb hby at_167) rfl (q := 169) rfl ?_
            refine own_icmp X14 hx (hb hby at_169) (by decide) (q := 176) rfl (q' := 172) rfl (own_h_ne _ _) (fun h169 => ?_) (fun h169 => ?_)
            · replace h169 : sgn.toInt ≠ (0 : Int) := h169
              exfalso; omega
            · replace h169 : ¬ (sgn.toInt ≠ (0 : Int)) := h169
              refine own_iconst X14 hx (hb hby at_172) (v := (1 : Int32)) rfl (q := 173) rfl ?_
              refine own_goto X14 hx (hb hby at_173) (by decide) (q := 177) rfl ?_
              exact own_retN X14 hx (t := .boolean) hret hlk (by simp) (hb hby at_177) (by decide) (by decide) (w := 1) rfl ⟨rfl, (Fr.nil _)⟩
          refine own_if X14 hx (hb hby at_146) (by decide) (q := 153) rfl (q' := 149) rfl (own_z_ge _) (fun h146 => ?_) (fun h146 => ?_)
          · replace h146 : 0 ≤ z14.toInt := h146
            refine own_iload X14 hx (hb hby at_153) rfl (q := 155) rfl ?_
            refine own_if X14 hx (hb hby at_155) (by decide) (q := 162) rfl (q' := 158) rfl (own_z_le _) (fun h155 => ?_) (fun h155 => ?_)
            · replace h155 : z14.toInt ≤ 0 := h155
              refine own_iconst X14 hx (hb hby at_162) (v := (0 : Int32)) rfl (q := 163) rfl ?_
              exact J163_15 (0 : Int32) (by have hc_0 : (0 : Int32).toInt = (0 : Int) := rfl; omega)
            · replace h155 : ¬ (z14.toInt ≤ 0) := h155
              refine own_iconst X14 hx (hb hby at_158) (v := (1 : Int32)) rfl (q := 159) rfl ?_
              refine own_goto X14 hx (hb hby at_159) (by decide) (q := 163) rfl ?_
              exact J163_15 (1 : Int32) (by have hc_0 : (0 : Int32).toInt = (0 : Int) := rfl; have hc_1 : (1 : Int32).toInt = (1 : Int) := rfl; omega)
          · replace h146 : ¬ (0 ≤ z14.toInt) := h146
            refine own_iconst X14 hx (hb hby at_149) (v := (-1 : Int32)) rfl (q := 150) rfl ?_
            refine own_goto X14 hx (hb hby at_150) (by decide) (q := 163) rfl ?_
            exact J163_15 (-1 : Int32) (by have hc_0 : (-1 : Int32).toInt = (-1 : Int) := rfl; have hc_1 : (0 : Int32).toInt = (0 : Int) := rfl; omega)
        · replace h79 : ¬ (z4.toInt ≠ (-1 : Int)) := h79
          refine own_lload_n X5 hx (hb hby at_82) rfl (q := 83) rfl ?_
          refine own_lload_n X5 hx (hb hby at_83) rfl (q := 84) rfl ?_
          refine own_callSP X5 hx hZ hown (hw _ (List.mem_of_getElem? (i := 38) rfl)) (hw _ (List.mem_of_getElem? (i := 39) rfl)) (hw _ (List.mem_of_getElem? (i := 2) rfl)) (hw _ (List.mem_of_getElem? (i := 40) rfl)) (by decide) (own_rmK l Z a0 hw [] q1 q2  h0 ) (by decide) (by decide) e5 (by rw [hml]; rfl) (argsL := [(.long q1), (.long q2)]) (rest := []) (lenOf own_pd4 rfl) rfl (W := 0) rfl (hb hby at_84) (q := 87) rfl rfl rfl rfl (by decide) (by decide) ?_
          rintro _ T16 ⟨x16, rfl, hz16⟩ X16 e16
          have hKa := hz16
          refine own_dstore X16 hx (hb hby at_87) (l' := #[.val (.long q1), .second, .val (.long q2), .second, .val (.long q3), .second, .val (.long q4), .second, .val (.long pb), .second, .val (.double x2), .second, .val (.double x3), .second, .val (.int z4), .val (.int z5), .unset, .val (.double x16), .second, .unset, .unset]) rfl (q := 89) rfl ?_
          refine own_lload X16 hx (hb hby at_89) rfl (q := 91) rfl ?_
          refine own_lload X16 hx (hb hby at_91) rfl (q := 93) rfl ?_
          refine own_callSP X16 hx hZ hown (hw _ (List.mem_of_getElem? (i := 38) rfl)) (hw _ (List.mem_of_getElem? (i := 39) rfl)) (hw _ (List.mem_of_getElem? (i := 2) rfl)) (hw _ (List.mem_of_getElem? (i := 40) rfl)) (by decide) (own_rmK l Z a0 hw [] pb q4  h0 ) (by decide) (by decide) e16 (by rw [hml]; rfl) (argsL := [(.long pb), (.long q4)]) (rest := []) (lenOf own_pd4 rfl) rfl (W := 0) rfl (hb hby at_93) (q := 96) rfl rfl rfl rfl (by decide) (by decide) ?_
          rintro _ T17 ⟨x17, rfl, hz17⟩ X17 e17
          have hKb := hz17
          have hka := own_kz hVa (by omega) (by omega) hKa
          have hkb := own_kz hVb (by omega) (by omega) hKb
          rw [← hza] at hka
          rw [← hzb] at hkb
          refine own_dstore X17 hx (hb hby at_96) (l' := #[.val (.long q1), .second, .val (.long q2), .second, .val (.long q3), .second, .val (.long q4), .second, .val (.long pb), .second, .val (.double x2), .second, .val (.double x3), .second, .val (.int z4), .val (.int z5), .unset, .val (.double x16), .second, .val (.double x17), .second]) rfl (q := 98) rfl ?_
          refine own_dload X17 hx (hb hby at_98) rfl (q := 100) rfl ?_
          refine own_dload X17 hx (hb hby at_100) rfl (q := 102) rfl ?_
          obtain ⟨c1, hc1, hv1⟩ := own_dc hKa.1 hKb.1 own_p925 hka hkb .l
          refine own_dcmp X17 hx (hb hby at_102) (v := c1) (hc1) (q := 103) rfl ?_
          refine own_if X17 hx (hb hby at_103) (by decide) (q := 112) rfl (q' := 106) rfl (own_z_le _) (fun h103 => ?_) (fun h103 => ?_)
          · replace h103 : c1.toInt ≤ 0 := h103
            refine own_dload X17 hx (hb hby at_112) rfl (q := 114) rfl ?_
            refine own_dload X17 hx (hb hby at_114) rfl (q := 116) rfl ?_
            obtain ⟨c2, hc2, hv2⟩ := own_dc hKa.1 hKb.1 own_p925 hka hkb .g
            refine own_dcmp X17 hx (hb hby at_116) (v := c2) (hc2) (q := 117) rfl ?_
            refine own_if X17 hx (hb hby at_117) (by decide) (q := 126) rfl (q' := 120) rfl (own_z_ge _) (fun h117 => ?_) (fun h117 => ?_)
            · replace h117 : 0 ≤ c2.toInt := h117
              refine own_iconst X17 hx (hb hby at_126) (v := (0 : Int32)) rfl (q := 127) rfl ?_
              refine own_istore X17 hx (hb hby at_127) (l' := #[.val (.long q1), .second, .val (.long q2), .second, .val (.long q3), .second, .val (.long q4), .second, .val (.long pb), .second, .val (.double x2), .second, .val (.double x3), .second, .val (.int z4), .val (.int z5), .val (.int (0 : Int32)), .val (.double x16), .second, .val (.double x17), .second]) rfl (q := 129) rfl ?_
              refine own_goto X17 hx (hb hby at_129) (by decide) (q := 135) rfl ?_
              have hex : za = zb := by omega
              refine own_dload X17 hx (hb hby at_135) rfl (q := 137) rfl ?_
              refine own_dload X17 hx (hb hby at_137) rfl (q := 139) rfl ?_
              refine own_callSP X17 hx hZ hown (hw _ (List.mem_of_getElem? (i := 34) rfl)) (hw _ (List.mem_of_getElem? (i := 35) rfl)) (hw _ (List.mem_of_getElem? (i := 36) rfl)) (hw _ (List.mem_of_getElem? (i := 37) rfl)) (by decide) (own_rmC l Z a0 hw [] x2 x3  h0 hVa.1 hVb.1) (by decide) (by decide) e17 (by rw [hml]; rfl) (argsL := [(.double x2), (.double x3)]) (rest := []) (lenOf own_pd5 rfl) rfl (W := 0) rfl (hb hby at_139) (q := 142) rfl rfl rfl rfl (by decide) (by decide) ?_
              rintro _ T18 ⟨z18, rfl, hz18⟩ X18 e18
              rw [← hza, ← hzb] at hz18
              have hrs := hz18
              refine own_istore X18 hx (hb hby at_142) (l' := #[.val (.long q1), .second, .val (.long q2), .second, .val (.long q3), .second, .val (.long q4), .second, .val (.long pb), .second, .val (.double x2), .second, .val (.double x3), .second, .val (.int z4), .val (.int z5), .val (.int (0 : Int32)), .val (.int z18), .unset, .val (.double x17), .second]) rfl (q := 144) rfl ?_
              refine own_iload X18 hx (hb hby at_144) rfl (q := 146) rfl ?_
              have J163_19 : ∀ (sgn : Int32) (g163_0 : (sgn.toInt = 1 ∧ za < zb) ∨ (sgn.toInt = 0 ∧ za = zb) ∨ (sgn.toInt = -1 ∧ zb < za)), own_G p e below (own_En s room_1.cells room_1.slots (fun v h L => v = some (.int 1) ∧ Fr h0.size L)) (T18.setTop (mkF m 163 #[.val (.long q1), .second, .val (.long q2), .second, .val (.long q3), .second, .val (.long q4), .second, .val (.long pb), .second, .val (.double x2), .second, .val (.double x3), .second, .val (.int z4), .val (.int z5), .val (.int (0 : Int32)), .val (.int z18), .unset, .val (.double x17), .second] [(.int sgn)])) := by
                intro sgn g163_0
                refine own_istore X18 hx (hb hby at_163) (l' := #[.val (.long q1), .second, .val (.long q2), .second, .val (.long q3), .second, .val (.long q4), .second, .val (.long pb), .second, .val (.double x2), .second, .val (.double x3), .second, .val (.int z4), .val (.int z5), .val (.int (0 : Int32)), .val (.int z18), .val (.int sgn), .val (.double x17), .second]) rfl (q := 165) rfl ?_
                refine own_iload X18 hx (hb hby at_165) rfl (q := 167) rfl ?_
                refine own_iload X18 hx (hb hby at_167) rfl (q := 169) rfl ?_
                refine own_icmp X18 hx (hb hby at_169) (by decide) (q := 176) rfl (q' := 172) rfl (own_h_ne _ _) (fun h169 => ?_) (fun h169 => ?_)
                · replace h169 : sgn.toInt ≠ (0 : Int) := h169
                  exfalso; omega
                · replace h169 : ¬ (sgn.toInt ≠ (0 : Int)) := h169
                  refine own_iconst X18 hx (hb hby at_172) (v := (1 : Int32)) rfl (q := 173) rfl ?_
                  refine own_goto X18 hx (hb hby at_173) (by decide) (q := 177) rfl ?_
                  exact own_retN X18 hx (t := .boolean) hret hlk (by simp) (hb hby at_177) (by decide) (by decide) (w := 1) rfl ⟨rfl, (Fr.nil _)⟩
              refine own_if X18 hx (hb hby at_146) (by decide) (q := 153) rfl (q' := 149) rfl (own_z_ge _) (fun h146 => ?_) (fun h146 => ?_)
              · replace h146 : 0 ≤ z18.toInt := h146
                refine own_iload X18 hx (hb hby at_153) rfl (q := 155) rfl ?_
                refine own_if X18 hx (hb hby at_155) (by decide) (q := 162) rfl (q' := 158) rfl (own_z_le _) (fun h155 => ?_) (fun h155 => ?_)
                · replace h155 : z18.toInt ≤ 0 := h155
                  refine own_iconst X18 hx (hb hby at_162) (v := (0 : Int32)) rfl (q := 163) rfl ?_
                  exact J163_19 (0 : Int32) (by have hc_0 : (0 : Int32).toInt = (0 : Int) := rfl; omega)
                · replace h155 : ¬ (z18.toInt ≤ 0) := h155
                  refine own_iconst X18 hx (hb hby at_158) (v := (1 : Int32)) rfl (q := 159) rfl ?_
                  refine own_goto X18 hx (hb hby at_159) (by decide) (q := 163) rfl ?_
                  exact J163_19 (1 : Int32) (by have hc_0 : (0 : Int32).toInt = (0 : Int) := rfl; have hc_1 : (1 : Int32).toInt = (1 : Int) := rfl; omega)
              · replace h146 : ¬ (0 ≤ z18.toInt) := h146
                refine own_iconst X18 hx (hb hby at_149) (v := (-1 : Int32)) rfl (q := 150) rfl ?_
                refine own_goto X18 hx (hb hby at_150) (by decide) (q := 163) rfl ?_
                exact J163_19 (-1 : Int32) (by have hc_0 : (-1 : Int32).toInt = (-1 : Int) := rfl; have hc_1 : (0 : Int32).toInt = (0 : Int) := rfl; omega)
            · replace h117 : ¬ (0 ≤ c2.toInt) := h117
              refine own_iconst X17 hx (hb hby at_120) (v := (1 : Int32)) rfl (q := 121) rfl ?_
              refine own_istore X17 hx (hb hby at_121) (l' := #[.val (.long q1), .second, .val (.long q2), .second, .val (.long q3), .second, .val (.long q4), .second, .val (.long pb), .second, .val (.double x2), .second, .val (.double x3), .second, .val (.int z4), .val (.int z5), .val (.int (1 : Int32)), .val (.double x16), .second, .val (.double x17), .second]) rfl (q := 123) rfl ?_
              refine own_goto X17 hx (hb hby at_123) (by decide) (q := 129) rfl ?_
              refine own_goto X17 hx (hb hby at_129) (by decide) (q := 135) rfl ?_
              have hex : za < zb := by omega
              refine own_dload X17 hx (hb hby at_135) rfl (q := 137) rfl ?_
              refine own_dload X17 hx (hb hby at_137) rfl (q := 139) rfl ?_
              refine own_callSP X17 hx hZ hown (hw _ (List.mem_of_getElem? (i := 34) rfl)) (hw _ (List.mem_of_getElem? (i := 35) rfl)) (hw _ (List.mem_of_getElem? (i := 36) rfl)) (hw _ (List.mem_of_getElem? (i := 37) rfl)) (by decide) (own_rmC l Z a0 hw [] x2 x3  h0 hVa.1 hVb.1) (by decide) (by decide) e17 (by rw [hml]; rfl) (argsL := [(.double x2), (.double x3)]) (rest := []) (lenOf own_pd5 rfl) rfl (W := 0) rfl (hb hby at_139) (q := 142) rfl rfl rfl rfl (by decide) (by decide) ?_
              rintro _ T20 ⟨z20, rfl, hz20⟩ X20 e20
              rw [← hza, ← hzb] at hz20
              have hrs := hz20
              refine own_istore X20 hx (hb hby at_142) (l' := #[.val (.long q1), .second, .val (.long q2), .second, .val (.long q3), .second, .val (.long q4), .second, .val (.long pb), .second, .val (.double x2), .second, .val (.double x3), .second, .val (.int z4), .val (.int z5), .val (.int (1 : Int32)), .val (.int z20), .unset, .val (.double x17), .second]) rfl (q := 144) rfl ?_
              refine own_iload X20 hx (hb hby at_144) rfl (q := 146) rfl ?_
              have J163_21 : ∀ (sgn : Int32) (g163_0 : (sgn.toInt = 1 ∧ za < zb) ∨ (sgn.toInt = 0 ∧ za = zb) ∨ (sgn.toInt = -1 ∧ zb < za)), own_G p e below (own_En s room_1.cells room_1.slots (fun v h L => v = some (.int 1) ∧ Fr h0.size L)) (T20.setTop (mkF m 163 #[.val (.long q1), .second, .val (.long q2), .second, .val (.long q3), .second, .val (.long q4), .second, .val (.long pb), .second, .val (.double x2), .second, .val (.double x3), .second, .val (.int z4), .val (.int z5), .val (.int (1 : Int32)), .val (.int z20), .unset, .val (.double x17), .second] [(.int sgn)])) := by
                intro sgn g163_0
                refine own_istore X20 hx (hb hby at_163) (l' := #[.val (.long q1), .second, .val (.long q2), .second, .val (.long q3), .second, .val (.long q4), .second, .val (.long pb), .second, .val (.double x2), .second, .val (.double x3), .second, .val (.int z4), .val (.int z5), .val (.int (1 : Int32)), .val (.int z20), .val (.int sgn), .val (.double x17), .second]) rfl (q := 165) rfl ?_
                refine own_iload X20 hx (hb hby at_165) rfl (q := 167) rfl ?_
                refine own_iload X20 hx (hb hby at_167) rfl (q := 169) rfl ?_
                refine own_icmp X20 hx (hb hby at_169) (by decide) (q := 176) rfl (q' := 172) rfl (own_h_ne _ _) (fun h169 => ?_) (fun h169 => ?_)
                · replace h169 : sgn.toInt ≠ (1 : Int) := h169
                  exfalso; omega
                · replace h169 : ¬ (sgn.toInt ≠ (1 : Int)) := h169
                  refine own_iconst X20 hx (hb hby at_172) (v := (1 : Int32)) rfl (q := 173) rfl ?_
                  refine own_goto X20 hx (hb hby at_173) (by decide) (q := 177) rfl ?_
                  exact own_retN X20 hx (t := .boolean) hret hlk (by simp) (hb hby at_177) (by decide) (by decide) (w := 1) rfl ⟨rfl, (Fr.nil _)⟩
              refine own_if X20 hx (hb hby at_146) (by decide) (q := 153) rfl (q' := 149) rfl (own_z_ge _) (fun h146 => ?_) (fun h146 => ?_)
              · replace h146 : 0 ≤ z20.toInt := h146
                refine own_iload X20 hx (hb hby at_153) rfl (q := 155) rfl ?_
                refine own_if X20 hx (hb hby at_155) (by decide) (q := 162) rfl (q' := 158) rfl (own_z_le _) (fun h155 => ?_) (fun h155 => ?_)
                · replace h155 : z20.toInt ≤ 0 := h155
                  refine own_iconst X20 hx (hb hby at_162) (v := (0 : Int32)) rfl (q := 163) rfl ?_
                  exact J163_21 (0 : Int32) (by have hc_0 : (0 : Int32).toInt = (0 : Int) := rfl; have hc_1 : (1 : Int32).toInt = (1 : Int) := rfl; omega)
                · replace h155 : ¬ (z20.toInt ≤ 0) := h155
                  refine own_iconst X20 hx (hb hby at_158) (v := (1 : Int32)) rfl (q := 159) rfl ?_
                  refine own_goto X20 hx (hb hby at_159) (by decide) (q := 163) rfl ?_
                  exact J163_21 (1 : Int32) (by have hc_0 : (1 : Int32).toInt = (1 : Int) := rfl; omega)
              · replace h146 : ¬ (0 ≤ z20.toInt) := h146
                refine own_iconst X20 hx (hb hby at_149) (v := (-1 : Int32)) rfl (q := 150) rfl ?_
                refine own_goto X20 hx (hb hby at_150) (by decide) (q := 163) rfl ?_
                exact J163_21 (-1 : Int32) (by have hc_0 : (-1 : Int32).toInt = (-1 : Int) := rfl; have hc_1 : (1 : Int32).toInt = (1 : Int) := rfl; omega)
          · replace h103 : ¬ (c1.toInt ≤ 0) := h103
            refine own_iconst X17 hx (hb hby at_106) (v := (-1 : Int32)) rfl (q := 107) rfl ?_
            refine own_istore X17 hx (hb hby at_107) (l' := #[.val (.long q1), .second, .val (.long q2), .second, .val (.long q3), .second, .val (.long q4), .second, .val (.long pb), .second, .val (.double x2), .second, .val (.double x3), .second, .val (.int z4), .val (.int z5), .val (.int (-1 : Int32)), .val (.double x16), .second, .val (.double x17), .second]) rfl (q := 109) rfl ?_
            refine own_goto X17 hx (hb hby at_109) (by decide) (q := 129) rfl ?_
            refine own_goto X17 hx (hb hby at_129) (by decide) (q := 135) rfl ?_
            have hex : zb < za := by omega
            refine own_dload X17 hx (hb hby at_135) rfl (q := 137) rfl ?_
            refine own_dload X17 hx (hb hby at_137) rfl (q := 139) rfl ?_
            refine own_callSP X17 hx hZ hown (hw _ (List.mem_of_getElem? (i := 34) rfl)) (hw _ (List.mem_of_getElem? (i := 35) rfl)) (hw _ (List.mem_of_getElem? (i := 36) rfl)) (hw _ (List.mem_of_getElem? (i := 37) rfl)) (by decide) (own_rmC l Z a0 hw [] x2 x3  h0 hVa.1 hVb.1) (by decide) (by decide) e17 (by rw [hml]; rfl) (argsL := [(.double x2), (.double x3)]) (rest := []) (lenOf own_pd5 rfl) rfl (W := 0) rfl (hb hby at_139) (q := 142) rfl rfl rfl rfl (by decide) (by decide) ?_
            rintro _ T22 ⟨z22, rfl, hz22⟩ X22 e22
            rw [← hza, ← hzb] at hz22
            have hrs := hz22
            refine own_istore X22 hx (hb hby at_142) (l' := #[.val (.long q1), .second, .val (.long q2), .second, .val (.long q3), .second, .val (.long q4), .second, .val (.long pb), .second, .val (.double x2), .second, .val (.double x3), .second, .val (.int z4), .val (.int z5), .val (.int (-1 : Int32)), .val (.int z22), .unset, .val (.double x17), .second]) rfl (q := 144) rfl ?_
            refine own_iload X22 hx (hb hby at_144) rfl (q := 146) rfl ?_
            have J163_23 : ∀ (sgn : Int32) (g163_0 : (sgn.toInt = 1 ∧ za < zb) ∨ (sgn.toInt = 0 ∧ za = zb) ∨ (sgn.toInt = -1 ∧ zb < za)), own_G p e below (own_En s room_1.cells room_1.slots (fun v h L => v = some (.int 1) ∧ Fr h0.size L)) (T22.setTop (mkF m 163 #[.val (.long q1), .second, .val (.long q2), .second, .val (.long q3), .second, .val (.long q4), .second, .val (.long pb), .second, .val (.double x2), .second, .val (.double x3), .second, .val (.int z4), .val (.int z5), .val (.int (-1 : Int32)), .val (.int z22), .unset, .val (.double x17), .second] [(.int sgn)])) := by
              intro sgn g163_0
              refine own_istore X22 hx (hb hby at_163) (l' := #[.val (.long q1), .second, .val (.long q2), .second, .val (.long q3), .second, .val (.long q4), .second, .val (.long pb), .second, .val (.double x2), .second, .val (.double x3), .second, .val (.int z4), .val (.int z5), .val (.int (-1 : Int32)), .val (.int z22), .val (.int sgn), .val (.double x17), .second]) rfl (q := 165) rfl ?_
              refine own_iload X22 hx (hb hby at_165) rfl (q := 167) rfl ?_
              refine own_iload X22 hx (hb hby at_167) rfl (q := 169) rfl ?_
              refine own_icmp X22 hx (hb hby at_169) (by decide) (q := 176) rfl (q' := 172) rfl (own_h_ne _ _) (fun h169 => ?_) (fun h169 => ?_)
              · replace h169 : sgn.toInt ≠ (-1 : Int) := h169
                exfalso; omega
              · replace h169 : ¬ (sgn.toInt ≠ (-1 : Int)) := h169
                refine own_iconst X22 hx (hb hby at_172) (v := (1 : Int32)) rfl (q := 173) rfl ?_
                refine own_goto X22 hx (hb hby at_173) (by decide) (q := 177) rfl ?_
                exact own_retN X22 hx (t := .boolean) hret hlk (by simp) (hb hby at_177) (by decide) (by decide) (w := 1) rfl ⟨rfl, (Fr.nil _)⟩
            refine own_if X22 hx (hb hby at_146) (by decide) (q := 153) rfl (q' := 149) rfl (own_z_ge _) (fun h146 => ?_) (fun h146 => ?_)
            · replace h146 : 0 ≤ z22.toInt := h146
              refine own_iload X22 hx (hb hby at_153) rfl (q := 155) rfl ?_
              refine own_if X22 hx (hb hby at_155) (by decide) (q := 162) rfl (q' := 158) rfl (own_z_le _) (fun h155 => ?_) (fun h155 => ?_)
              · replace h155 : z22.toInt ≤ 0 := h155
                refine own_iconst X22 hx (hb hby at_162) (v := (0 : Int32)) rfl (q := 163) rfl ?_
                exact J163_23 (0 : Int32) (by have hc_0 : (-1 : Int32).toInt = (-1 : Int) := rfl; have hc_1 : (0 : Int32).toInt = (0 : Int) := rfl; omega)
              · replace h155 : ¬ (z22.toInt ≤ 0) := h155
                refine own_iconst X22 hx (hb hby at_158) (v := (1 : Int32)) rfl (q := 159) rfl ?_
                refine own_goto X22 hx (hb hby at_159) (by decide) (q := 163) rfl ?_
                exact J163_23 (1 : Int32) (by have hc_0 : (-1 : Int32).toInt = (-1 : Int) := rfl; have hc_1 : (1 : Int32).toInt = (1 : Int) := rfl; omega)
            · replace h146 : ¬ (0 ≤ z22.toInt) := h146
              refine own_iconst X22 hx (hb hby at_149) (v := (-1 : Int32)) rfl (q := 150) rfl ?_
              refine own_goto X22 hx (hb hby at_150) (by decide) (q := 163) rfl ?_
              exact J163_23 (-1 : Int32) (by have hc_0 : (-1 : Int32).toInt = (-1 : Int) := rfl; omega)
    · replace h50 : ¬ (z4.toInt = z5.toInt) := h50
      refine own_iload X5 hx (hb hby at_53) rfl (q := 55) rfl ?_
      refine own_iload X5 hx (hb hby at_55) rfl (q := 57) rfl ?_
      refine own_icmp X5 hx (hb hby at_57) (by decide) (q := 64) rfl (q' := 60) rfl (own_h_le _ _) (fun h57 => ?_) (fun h57 => ?_)
      · replace h57 : z4.toInt ≤ z5.toInt := h57
        refine own_iconst X5 hx (hb hby at_64) (v := (1 : Int32)) rfl (q := 65) rfl ?_
        refine own_istore X5 hx (hb hby at_65) (l' := #[.val (.long q1), .second, .val (.long q2), .second, .val (.long q3), .second, .val (.long q4), .second, .val (.long pb), .second, .val (.double x2), .second, .val (.double x3), .second, .val (.int z4), .val (.int z5), .val (.int (1 : Int32)), .unset, .unset, .unset, .unset]) rfl (q := 67) rfl ?_
        refine own_goto X5 hx (hb hby at_67) (by decide) (q := 135) rfl ?_
        have hex : za < zb := by omega
        refine own_dload X5 hx (hb hby at_135) rfl (q := 137) rfl ?_
        refine own_dload X5 hx (hb hby at_137) rfl (q := 139) rfl ?_
        refine own_callSP X5 hx hZ hown (hw _ (List.mem_of_getElem? (i := 34) rfl)) (hw _ (List.mem_of_getElem? (i := 35) rfl)) (hw _ (List.mem_of_getElem? (i := 36) rfl)) (hw _ (List.mem_of_getElem? (i := 37) rfl)) (by decide) (own_rmC l Z a0 hw [] x2 x3  h0 hVa.1 hVb.1) (by decide) (by decide) e5 (by rw [hml]; rfl) (argsL := [(.double x2), (.double x3)]) (rest := []) (lenOf own_pd5 rfl) rfl (W := 0) rfl (hb hby at_139) (q := 142) rfl rfl rfl rfl (by decide) (by decide) ?_
        rintro _ T24 ⟨z24, rfl, hz24⟩ X24 e24
        rw [← hza, ← hzb] at hz24
        have hrs := hz24
        refine own_istore X24 hx (hb hby at_142) (l' := #[.val (.long q1), .second, .val (.long q2), .second, .val (.long q3), .second, .val (.long q4), .second, .val (.long pb), .second, .val (.double x2), .second, .val (.double x3), .second, .val (.int z4), .val (.int z5), .val (.int (1 : Int32)), .val (.int z24), .unset, .unset, .unset]) rfl (q := 144) rfl ?_
        refine own_iload X24 hx (hb hby at_144) rfl (q := 146) rfl ?_
        have J163_25 : ∀ (sgn : Int32) (g163_0 : (sgn.toInt = 1 ∧ za < zb) ∨ (sgn.toInt = 0 ∧ za = zb) ∨ (sgn.toInt = -1 ∧ zb < za)), own_G p e below (own_En s room_1.cells room_1.slots (fun v h L => v = some (.int 1) ∧ Fr h0.size L)) (T24.setTop (mkF m 163 #[.val (.long q1), .second, .val (.long q2), .second, .val (.long q3), .second, .val (.long q4), .second, .val (.long pb), .second, .val (.double x2), .second, .val (.double x3), .second, .val (.int z4), .val (.int z5), .val (.int (1 : Int32)), .val (.int z24), .unset, .unset, .unset] [(.int sgn)])) := by
          intro sgn g163_0
          refine own_istore X24 hx (hb hby at_163) (l' := #[.val (.long q1), .second, .val (.long q2), .second, .val (.long q3), .second, .val (.long q4), .second, .val (.long pb), .second, .val (.double x2), .second, .val (.double x3), .second, .val (.int z4), .val (.int z5), .val (.int (1 : Int32)), .val (.int z24), .val (.int sgn), .unset, .unset]) rfl (q := 165) rfl ?_
          refine own_iload X24 hx (hb hby at_165) rfl (q := 167) rfl ?_
          refine own_iload X24 hx (hb hby at_167) rfl (q := 169) rfl ?_
          refine own_icmp X24 hx (hb hby at_169) (by decide) (q := 176) rfl (q' := 172) rfl (own_h_ne _ _) (fun h169 => ?_) (fun h169 => ?_)
          · replace h169 : sgn.toInt ≠ (1 : Int) := h169
            exfalso; omega
          · replace h169 : ¬ (sgn.toInt ≠ (1 : Int)) := h169
            refine own_iconst X24 hx (hb hby at_172) (v := (1 : Int32)) rfl (q := 173) rfl ?_
            refine own_goto X24 hx (hb hby at_173) (by decide) (q := 177) rfl ?_
            exact own_retN X24 hx (t := .boolean) hret hlk (by simp) (hb hby at_177) (by decide) (by decide) (w := 1) rfl ⟨rfl, (Fr.nil _)⟩
        refine own_if X24 hx (hb hby at_146) (by decide) (q := 153) rfl (q' := 149) rfl (own_z_ge _) (fun h146 => ?_) (fun h146 => ?_)
        · replace h146 : 0 ≤ z24.toInt := h146
          refine own_iload X24 hx (hb hby at_153) rfl (q := 155) rfl ?_
          refine own_if X24 hx (hb hby at_155) (by decide) (q := 162) rfl (q' := 158) rfl (own_z_le _) (fun h155 => ?_) (fun h155 => ?_)
          · replace h155 : z24.toInt ≤ 0 := h155
            refine own_iconst X24 hx (hb hby at_162) (v := (0 : Int32)) rfl (q := 163) rfl ?_
            exact J163_25 (0 : Int32) (by have hc_0 : (0 : Int32).toInt = (0 : Int) := rfl; have hc_1 : (1 : Int32).toInt = (1 : Int) := rfl; omega)
          · replace h155 : ¬ (z24.toInt ≤ 0) := h155
            refine own_iconst X24 hx (hb hby at_158) (v := (1 : Int32)) rfl (q := 159) rfl ?_
            refine own_goto X24 hx (hb hby at_159) (by decide) (q := 163) rfl ?_
            exact J163_25 (1 : Int32) (by have hc_0 : (1 : Int32).toInt = (1 : Int) := rfl; omega)
        · replace h146 : ¬ (0 ≤ z24.toInt) := h146
          refine own_iconst X24 hx (hb hby at_149) (v := (-1 : Int32)) rfl (q := 150) rfl ?_
          refine own_goto X24 hx (hb hby at_150) (by decide) (q := 163) rfl ?_
          exact J163_25 (-1 : Int32) (by have hc_0 : (-1 : Int32).toInt = (-1 : Int) := rfl; have hc_1 : (1 : Int32).toInt = (1 : Int) := rfl; omega)
      · replace h57 : ¬ (z4.toInt ≤ z5.toInt) := h57
        refine own_iconst X5 hx (hb hby at_60) (v := (-1 : Int32)) rfl (q := 61) rfl ?_
        refine own_goto X5 hx (hb hby at_61) (by decide) (q := 65) rfl ?_
        refine own_istore X5 hx (hb hby at_65) (l' := #[.val (.long q1), .second, .val (.long q2), .second, .val (.long q3), .second, .val (.long q4), .second, .val (.long pb), .second, .val (.double x2), .second, .val (.double x3), .second, .val (.int z4), .val (.int z5), .val (.int (-1 : Int32)), .unset, .unset, .unset, .unset]) rfl (q := 67) rfl ?_
        refine own_goto X5 hx (hb hby at_67) (by decide) (q := 135) rfl ?_
        have hex : zb < za := by omega
        refine own_dload X5 hx (hb hby at_135) rfl (q := 137) rfl ?_
        refine own_dload X5 hx (hb hby at_137) rfl (q := 139) rfl ?_
        refine own_callSP X5 hx hZ hown (hw _ (List.mem_of_getElem? (i := 34) rfl)) (hw _ (List.mem_of_getElem? (i := 35) rfl)) (hw _ (List.mem_of_getElem? (i := 36) rfl)) (hw _ (List.mem_of_getElem? (i := 37) rfl)) (by decide) (own_rmC l Z a0 hw [] x2 x3  h0 hVa.1 hVb.1) (by decide) (by decide) e5 (by rw [hml]; rfl) (argsL := [(.double x2), (.double x3)]) (rest := []) (lenOf own_pd5 rfl) rfl (W := 0) rfl (hb hby at_139) (q := 142) rfl rfl rfl rfl (by decide) (by decide) ?_
        rintro _ T26 ⟨z26, rfl, hz26⟩ X26 e26
        rw [← hza, ← hzb] at hz26
        have hrs := hz26
        refine own_istore X26 hx (hb hby at_142) (l' := #[.val (.long q1), .second, .val (.long q2), .second, .val (.long q3), .second, .val (.long q4), .second, .val (.long pb), .second, .val (.double x2), .second, .val (.double x3), .second, .val (.int z4), .val (.int z5), .val (.int (-1 : Int32)), .val (.int z26), .unset, .unset, .unset]) rfl (q := 144) rfl ?_
        refine own_iload X26 hx (hb hby at_144) rfl (q := 146) rfl ?_
        have J163_27 : ∀ (sgn : Int32) (g163_0 : (sgn.toInt = 1 ∧ za < zb) ∨ (sgn.toInt = 0 ∧ za = zb) ∨ (sgn.toInt = -1 ∧ zb < za)), own_G p e below (own_En s room_1.cells room_1.slots (fun v h L => v = some (.int 1) ∧ Fr h0.size L)) (T26.setTop (mkF m 163 #[.val (.long q1), .second, .val (.long q2), .second, .val (.long q3), .second, .val (.long q4), .second, .val (.long pb), .second, .val (.double x2), .second, .val (.double x3), .second, .val (.int z4), .val (.int z5), .val (.int (-1 : Int32)), .val (.int z26), .unset, .unset, .unset] [(.int sgn)])) := by
          intro sgn g163_0
          refine own_istore X26 hx (hb hby at_163) (l' := #[.val (.long q1), .second, .val (.long q2), .second, .val (.long q3), .second, .val (.long q4), .second, .val (.long pb), .second, .val (.double x2), .second, .val (.double x3), .second, .val (.int z4), .val (.int z5), .val (.int (-1 : Int32)), .val (.int z26), .val (.int sgn), .unset, .unset]) rfl (q := 165) rfl ?_
          refine own_iload X26 hx (hb hby at_165) rfl (q := 167) rfl ?_
          refine own_iload X26 hx (hb hby at_167) rfl (q := 169) rfl ?_
          refine own_icmp X26 hx (hb hby at_169) (by decide) (q := 176) rfl (q' := 172) rfl (own_h_ne _ _) (fun h169 => ?_) (fun h169 => ?_)
          · replace h169 : sgn.toInt ≠ (-1 : Int) := h169
            exfalso; omega
          · replace h169 : ¬ (sgn.toInt ≠ (-1 : Int)) := h169
            refine own_iconst X26 hx (hb hby at_172) (v := (1 : Int32)) rfl (q := 173) rfl ?_
            refine own_goto X26 hx (hb hby at_173) (by decide) (q := 177) rfl ?_
            exact own_retN X26 hx (t := .boolean) hret hlk (by simp) (hb hby at_177) (by decide) (by decide) (w := 1) rfl ⟨rfl, (Fr.nil _)⟩
        refine own_if X26 hx (hb hby at_146) (by decide) (q := 153) rfl (q' := 149) rfl (own_z_ge _) (fun h146 => ?_) (fun h146 => ?_)
        · replace h146 : 0 ≤ z26.toInt := h146
          refine own_iload X26 hx (hb hby at_153) rfl (q := 155) rfl ?_
          refine own_if X26 hx (hb hby at_155) (by decide) (q := 162) rfl (q' := 158) rfl (own_z_le _) (fun h155 => ?_) (fun h155 => ?_)
          · replace h155 : z26.toInt ≤ 0 := h155
            refine own_iconst X26 hx (hb hby at_162) (v := (0 : Int32)) rfl (q := 163) rfl ?_
            exact J163_27 (0 : Int32) (by have hc_0 : (-1 : Int32).toInt = (-1 : Int) := rfl; have hc_1 : (0 : Int32).toInt = (0 : Int) := rfl; omega)
          · replace h155 : ¬ (z26.toInt ≤ 0) := h155
            refine own_iconst X26 hx (hb hby at_158) (v := (1 : Int32)) rfl (q := 159) rfl ?_
            refine own_goto X26 hx (hb hby at_159) (by decide) (q := 163) rfl ?_
            exact J163_27 (1 : Int32) (by have hc_0 : (-1 : Int32).toInt = (-1 : Int) := rfl; have hc_1 : (1 : Int32).toInt = (1 : Int) := rfl; omega)
        · replace h146 : ¬ (0 ≤ z26.toInt) := h146
          refine own_iconst X26 hx (hb hby at_149) (v := (-1 : Int32)) rfl (q := 150) rfl ?_
          refine own_goto X26 hx (hb hby at_150) (by decide) (q := 163) rfl ?_
          exact J163_27 (-1 : Int32) (by have hc_0 : (-1 : Int32).toInt = (-1 : Int) := rfl; omega)
  refine own_if X0 hx (hb hby at_6) (by decide) (q := 13) rfl (q' := 9) rfl (own_l_eq _ _) (fun h6 => ?_) (fun h6 => ?_)
  · replace h6 : (q3 &&& (1 : Int64)).toInt = (0 : Int) := h6
    refine own_lload X0 hx (hb hby at_13) rfl (q := 15) rfl ?_
    exact J15_1 q3
  · replace h6 : ¬ ((q3 &&& (1 : Int64)).toInt = (0 : Int)) := h6
    refine own_lload_n X0 hx (hb hby at_9) rfl (q := 10) rfl ?_
    refine own_goto X0 hx (hb hby at_10) (by decide) (q := 15) rfl ?_
    exact J15_1 q1
set_option maxRecDepth 65536 in
set_option maxHeartbeats 40000000 in
theorem own_comes {Post : Tables → Env → Array Value → State → Outcome → State → Prop} (hpost : ∀ tb e args s v u, (limb_1_1.after args s (.returned v) u = true ∧ limb_1_2.after args s (.returned v) u = true ∧ True) → FrameEnd s (.returned v) u (Jvm.fieldLocs frame_1_writes args s ++ Jvm.arrayLocs frame_1_arrays args s ++ Jvm.staticLocs frame_1_statics s) 0 0 → Post tb e args s (.returned v) u) :
    ArmFor flags0 classFile x code maxLocals ret World_1 tables_1 room_1 Calls_1 rest_1 Pre_1 Post := by
  intro l hfl _ _ p e ha hc hk s m args below hf hA hF happ hP
  obtain ⟨hcalls, hrest, hpre⟩ := hP
  obtain ⟨-, -, -, hnamed, -, -, -, hat⟩ := (Spec.applies_iff hf).mp happ
  obtain ⟨hg, hn⟩ := and_e (Cond.before_iff.mp (show (Jvm.Cond.and given_1 narrow_1).before args s = true from hpre))
  obtain ⟨hcount, k0⟩ := and_e hg
  obtain ⟨w0, w1, w2, w3, rfl⟩ : ∃ w0 w1 w2 w3 : Value, args = #[w0, w1, w2, w3] := by
    have hs : args.size = 4 := by simpa [Cond.value, given_1] using hcount
    obtain ⟨L⟩ := args
    match L, hs with
    | [w0, w1, w2, w3], _ => exact ⟨w0, w1, w2, w3, rfl⟩
  have hw := fun d (hd : d ∈ tables_1) => atoms_spec (ws := Jvm.Cond.code x code maxLocals ret :: tables_1) hat d (List.mem_cons_of_mem _ hd)
  have hfit : Fit s := fun {y c} hc i hi => by
    obtain ⟨ha, rfl⟩ := Array.getElem?_eq_some_iff.mp hc
    have q := List.all_eq_true.mp ((Array.all_eq_true_iff_forall_mem.mp hF) _ (Array.getElem_mem ha)) i (List.mem_range.mpr hi)
    simpa [Array.getElem?_eq_getElem hi] using q
  obtain ⟨j0, k1⟩ := and_e k0
  obtain ⟨i0, e0⟩ := isL_v j0
  obtain rfl : w0 = (.long i0) := Option.some.inj e0
  obtain ⟨j1, k2⟩ := and_e k1
  obtain ⟨i1, e1⟩ := isL_v j1
  obtain rfl : w1 = (.long i1) := Option.some.inj e1
  obtain ⟨j2, k3⟩ := and_e k2
  obtain ⟨i2, e2⟩ := isL_v j2
  obtain rfl : w2 = (.long i2) := Option.some.inj e2
  have j3 := k3
  obtain ⟨i3, e3⟩ := isL_v j3
  obtain rfl : w3 = (.long i3) := Option.some.inj e3
  obtain ⟨n, o, h1, h2, h3, _, L, rfl, ⟨rfl, N⟩, hq⟩ := own_rm0 l s _ hw tables_1 i0 i1 i2 i3 s.heap p e ha hc hk s m _ below hf ((Spec.applies_iff_loose hf).mp happ).1 ⟨rfl, State.Warmed39.refl s, rfl⟩ trivial
  refine ⟨n, _, h1, h2, h3, hpost _ _ _ _ _ _ ⟨Cond.after_iff.mpr rfl, Cond.after_iff.mpr (eq_i res_at (Term.int_eval (1)) rfl), trivial⟩ ⟨hq.1, hq.2.1, (hq.2.2.sift fun y hy => Or.inr (N y hy)).mono (by decide) (by decide)⟩⟩
theorem main_1_1 : Claimed_1_1 := own_comes fun _ _ _ _ _ _ h hF => ⟨h.1, hF⟩
theorem main_1_2 : Claimed_1_2 := own_comes fun _ _ _ _ _ _ h hF => ⟨h.2.1, hF⟩
end Jvm.Pilot.@@N@@
namespace Jvm.Pilot.@@N@@
open Jvm Jvm.ClassFile Sem Op Lib Jvm.Free Jvm.Stand Jvm.Pilot.@@N@@.Jvm.D
/-! MADE BY PROGRAM (witnessworld.py) out of the Statement's table words and the real class files: 11 classes; the members and pool entries that the words name. The judged class is class 1, her method 1. -/
namespace start1
open Jvm.ClassFile
def u (s : String) : CpInfo := .utf8 (stringToUtf16 s)
/-- a pool by its gaps: so many unusable entries, then the entry; so many at the end -/
def gap : Nat → List CpInfo → List CpInfo
  | 0, r => r
  | n + 1, r => .unusable :: gap n r
def poolList (es : List (Nat × CpInfo)) (last : Nat) : List CpInfo := es.foldr (fun e r => gap e.1 (e.2 :: r)) (gap last [])
def pool (es : List (Nat × CpInfo)) (last : Nat) : Array CpInfo := ⟨poolList es last⟩
def fileOf (pool : Array CpInfo) (this : Nat) (attrs : Array Attribute := #[]) (ms : Array MethodInfo := #[]) (fl : Nat := 33) (sup : Nat := 0) (ifs : Array Nat := #[]) (fds : Array FieldInfo := #[]) : ClassFile where
  minorVersion := 0
  majorVersion := 65
  constantPool := pool
  accessFlags := fl
  thisClass := this
  superClass := sup
  interfaces := ifs
  fields := fds
  methods := ms
  attributes := attrs
def plain (name : String) (sup : Option ClassId) : Class where
  name := name
  kind := .ordinary
  loader := none
  accessFlags := 33
  super := sup
  interfaces := #[]
  cf := none
  fields := #[]
  methods := #[]
  instanceTypes := #[]
  staticTypes := #[]
  resolved := #[]
  callSites := []
  init := .initialized
  statics := none
  mirror := none

def pool0 : Array CpInfo := pool [(5, u "<init>"), (0, u "()V"), (1, .class_ 10), (1, u "java/lang/Object")] 113

def k0m0 : Method := { name := "<init>", desc := "()V", sig := { parameters := [], returnType := none }, accessFlags := 1, code := none }
/-- java/lang/Object -/
def k0 : Class := { plain "java/lang/Object" none with
  accessFlags := 33
  interfaces := #[]
  cf := some (fileOf pool0 8 #[] #[{ accessFlags := 1, nameIndex := 5, descriptorIndex := 6, attributes := #[] }] 33 0 #[] #[])
  fields := #[]
  methods := #[k0m0]
  instanceTypes := #[]
  staticTypes := #[]
  resolved := Array.replicate 124 none
  statics := none }

def pool1 : Array CpInfo := pool [(2, .class_ 4), (1, u "java/lang/Object"), (0, u "<init>"), (0, u "()V"), (0, .methodref 8 9), (0, .class_ 10), (0, .nameAndType 11 12), (0, u "com/example/prudent_query/prudentquery/model/HitCompareScoresPinLaw"), (0, u "value"), (0, u "(JJ)D"), (0, .methodref 8 14), (0, .nameAndType 15 16), (0, u "tier"), (0, u "(J)I"), (0, .methodref 8 18), (0, .nameAndType 19 12), (0, u "key"), (0, .methodref 21 22), (0, .class_ 23), (0, .nameAndType 24 25), (0, u "com/example/prudent_query/prudentquery/model/Hit"), (0, u "compareScores"), (0, u "(DD)I"), (0, .long 3), (1, .long 31), (1, .long 30), (1, .long 63), (1, .long 8388609), (1, .long 16777215), (1, .long 8388606), (1, .methodref 8 41), (0, .nameAndType 42 16), (0, u "shift"), (0, .long 9223372036854775807), (1, .long 2), (1, .methodref 8 48), (0, .nameAndType 49 16), (0, u "mode"), (0, .methodref 8 51), (0, .nameAndType 52 53), (0, u "mant"), (0, u "(J)J"), (0, .methodref 8 55), (0, .nameAndType 56 57), (0, u "offset"), (0, u "(JJ)J"), (0, .double 5147614374084476928), (1, .methodref 8 61), (0, .nameAndType 62 16), (0, u "scale"), (0, .methodref 8 64), (0, .nameAndType 65 66), (0, u "neg"), (0, u "(J)Z"), (0, .methodref 68 69), (0, .class_ 70), (0, .nameAndType 71 53), (0, u "java/lang/Math"), (0, u "abs"), (0, .long 18446744073709551615), (3, u "law"), (0, u "(JJJJ)Z")] 3

def k1m0 : Method := { name := "<init>", desc := "()V", sig := { parameters := [], returnType := none }, accessFlags := 2, code := none }
def k1c1 : Code := { maxStack := 4, maxLocals := 21, code := code, exceptionTable := #[], attributes := #[] }
def k1m1 : Method := { name := "law", desc := "(JJJJ)Z", sig := { parameters := [.long, .long, .long, .long], returnType := some .boolean }, accessFlags := 9, code := some k1c1 }
def k1c2 : Code := { maxStack := 4, maxLocals := 2, code := method_3_code, exceptionTable := #[], attributes := #[] }
def k1m2 : Method := { name := "mode", desc := "(J)I", sig := { parameters := [.long], returnType := some .int }, accessFlags := 10, code := some k1c2 }
def k1c3 : Code := { maxStack := 4, maxLocals := 2, code := method_4_code, exceptionTable := #[], attributes := #[] }
def k1m3 : Method := { name := "neg", desc := "(J)Z", sig := { parameters := [.long], returnType := some .boolean }, accessFlags := 10, code := some k1c3 }
def k1c4 : Code := { maxStack := 4, maxLocals := 2, code := method_5_code, exceptionTable := #[], attributes := #[] }
def k1m4 : Method := { name := "shift", desc := "(J)I", sig := { parameters := [.long], returnType := some .int }, accessFlags := 10, code := some k1c4 }
def k1c5 : Code := { maxStack := 4, maxLocals := 2, code := method_6_code, exceptionTable := #[], attributes := #[] }
def k1m5 : Method := { name := "scale", desc := "(J)I", sig := { parameters := [.long], returnType := some .int }, accessFlags := 10, code := some k1c5 }
def k1c6 : Code := { maxStack := 6, maxLocals := 2, code := method_7_code, exceptionTable := #[], attributes := #[] }
def k1m6 : Method := { name := "mant", desc := "(J)J", sig := { parameters := [.long], returnType := some .long }, accessFlags := 10, code := some k1c6 }
def k1c7 : Code := { maxStack := 6, maxLocals := 6, code := method_8_code, exceptionTable := #[], attributes := #[] }
def k1m7 : Method := { name := "offset", desc := "(JJ)J", sig := { parameters := [.long, .long], returnType := some .long }, accessFlags := 10, code := some k1c7 }
def k1c8 : Code := { maxStack := 6, maxLocals := 9, code := method_9_code, exceptionTable := #[], attributes := #[] }
def k1m8 : Method := { name := "value", desc := "(JJ)D", sig := { parameters := [.long, .long], returnType := some .double }, accessFlags := 10, code := some k1c8 }
def k1c9 : Code := { maxStack := 2, maxLocals := 4, code := method_10_code, exceptionTable := #[], attributes := #[] }
def k1m9 : Method := { name := "tier", desc := "(J)I", sig := { parameters := [.long], returnType := some .int }, accessFlags := 10, code := some k1c9 }
def k1c10 : Code := { maxStack := 6, maxLocals := 18, code := method_11_code, exceptionTable := #[], attributes := #[] }
def k1m10 : Method := { name := "key", desc := "(JJ)D", sig := { parameters := [.long, .long], returnType := some .double }, accessFlags := 10, code := some k1c10 }
/-- com/example/prudent_query/prudentquery/model/HitCompareScoresPinLaw -/
def k1 : Class := { plain "com/example/prudent_query/prudentquery/model/HitCompareScoresPinLaw" (some 0) with
  accessFlags := 49
  interfaces := #[]
  cf := some (fileOf pool1 8 #[] #[{ accessFlags := 2, nameIndex := 5, descriptorIndex := 6, attributes := #[] }, { accessFlags := 9, nameIndex := 76, descriptorIndex := 77, attributes := #[] }, { accessFlags := 10, nameIndex := 49, descriptorIndex := 16, attributes := #[] }, { accessFlags := 10, nameIndex := 65, descriptorIndex := 66, attributes := #[] }, { accessFlags := 10, nameIndex := 42, descriptorIndex := 16, attributes := #[] }, { accessFlags := 10, nameIndex := 62, descriptorIndex := 16, attributes := #[] }, { accessFlags := 10, nameIndex := 52, descriptorIndex := 53, attributes := #[] }, { accessFlags := 10, nameIndex := 56, descriptorIndex := 57, attributes := #[] }, { accessFlags := 10, nameIndex := 11, descriptorIndex := 12, attributes := #[] }, { accessFlags := 10, nameIndex := 15, descriptorIndex := 16, attributes := #[] }, { accessFlags := 10, nameIndex := 19, descriptorIndex := 12, attributes := #[] }] 49 2 #[] #[])
  fields := #[]
  methods := #[k1m0, k1m1, k1m2, k1m3, k1m4, k1m5, k1m6, k1m7, k1m8, k1m9, k1m10]
  instanceTypes := #[]
  staticTypes := #[]
  resolved := Array.replicate 81 none
  statics := none }

def pool2 : Array CpInfo := pool [(2, .class_ 4), (1, u "java/lang/Object"), (0, u "<init>"), (0, u "()V"), (0, .class_ 8), (0, u "java/lang/Record")] 13

def k2m0 : Method := { name := "<init>", desc := "()V", sig := { parameters := [], returnType := none }, accessFlags := 4, code := none }
/-- java/lang/Record -/
def k2 : Class := { plain "java/lang/Record" (some 0) with
  accessFlags := 1057
  interfaces := #[]
  cf := some (fileOf pool2 7 #[] #[{ accessFlags := 4, nameIndex := 5, descriptorIndex := 6, attributes := #[] }] 1057 2 #[] #[])
  fields := #[]
  methods := #[k2m0]
  instanceTypes := #[]
  staticTypes := #[]
  resolved := Array.replicate 22 none
  statics := none }

def pool3 : Array CpInfo := pool [(2, .class_ 4), (1, u "java/lang/Record"), (3, u "docno"), (15, .class_ 26), (1, u "com/example/prudent_query/prudentquery/model/Hit"), (0, u "Ljava/lang/String;"), (2, u "score"), (0, u "D"), (18, u "compareScores"), (0, u "(DD)I"), (26, u "BEST_FIRST"), (0, u "Ljava/util/Comparator;"), (0, u "SCORE_DECIMALS"), (0, u "I"), (4, u "SCALE")] 48

def k3c0 : Code := { maxStack := 2, maxLocals := 7, code := prog_26_method_4_code, exceptionTable := #[], attributes := #[] }
def k3m0 : Method := { name := "compareScores", desc := "(DD)I", sig := { parameters := [.double, .double], returnType := some .int }, accessFlags := 9, code := some k3c0 }
/-- com/example/prudent_query/prudentquery/model/Hit -/
def k3 : Class := { plain "com/example/prudent_query/prudentquery/model/Hit" (some 2) with
  accessFlags := 49
  interfaces := #[]
  cf := some (fileOf pool3 24 #[] #[{ accessFlags := 9, nameIndex := 50, descriptorIndex := 51, attributes := #[] }] 49 2 #[] #[{ accessFlags := 18, nameIndex := 8, descriptorIndex := 27, attributes := #[] }, { accessFlags := 18, nameIndex := 30, descriptorIndex := 31, attributes := #[] }, { accessFlags := 25, nameIndex := 80, descriptorIndex := 81, attributes := #[] }, { accessFlags := 25, nameIndex := 78, descriptorIndex := 79, attributes := #[] }, { accessFlags := 26, nameIndex := 86, descriptorIndex := 31, attributes := #[] }])
  fields := #[{ name := "docno", type := (.object "java/lang/String"), accessFlags := 18, slot := 0, constantValue := 0 }, { name := "score", type := .double, accessFlags := 18, slot := 1, constantValue := 0 }, { name := "SCORE_DECIMALS", type := .int, accessFlags := 25, slot := 0, constantValue := 0 }, { name := "BEST_FIRST", type := (.object "java/util/Comparator"), accessFlags := 25, slot := 1, constantValue := 0 }, { name := "SCALE", type := .double, accessFlags := 26, slot := 2, constantValue := 0 }]
  methods := #[k3m0]
  instanceTypes := #[(.object "java/lang/String"), .double]
  staticTypes := #[.int, (.object "java/util/Comparator"), .double]
  resolved := Array.replicate 135 none
  statics := none }

def pool4 : Array CpInfo := pool [(1, .class_ 2), (0, u "java/lang/Math"), (1, .class_ 6), (1, u "java/lang/Object"), (0, u "<init>"), (0, u "()V"), (89, .class_ 100), (1, u "java/lang/Math$RandomNumberGeneratorHolder"), (23, u "abs"), (0, u "(J)J"), (46, u "negativeZeroFloatBits"), (0, u "J"), (2, u "negativeZeroDoubleBits"), (68, u "$assertionsDisabled"), (0, u "Z"), (91, u "twoToTheDoubleScaleDown"), (0, u "D"), (4, u "twoToTheDoubleScaleUp"), (9, u "E"), (3, u "PI"), (2, u "TAU"), (2, u "DEGREES_TO_RADIANS"), (0, u "RADIANS_TO_DEGREES")] 94

def k4m0 : Method := { name := "<init>", desc := "()V", sig := { parameters := [], returnType := none }, accessFlags := 2, code := none }
def k4c1 : Code := { maxStack := 4, maxLocals := 2, code := jdk_29_method_61_code, exceptionTable := #[], attributes := #[] }
def k4m1 : Method := { name := "abs", desc := "(J)J", sig := { parameters := [.long], returnType := some .long }, accessFlags := 9, code := some k4c1 }
/-- java/lang/Math -/
def k4 : Class := { plain "java/lang/Math" (some 0) with
  accessFlags := 49
  interfaces := #[]
  cf := some (fileOf pool4 1 #[.nestMembers #[98]] #[{ accessFlags := 2, nameIndex := 7, descriptorIndex := 8, attributes := #[] }, { accessFlags := 9, nameIndex := 124, descriptorIndex := 125, attributes := #[] }] 49 4 #[] #[{ accessFlags := 25, nameIndex := 354, descriptorIndex := 339, attributes := #[] }, { accessFlags := 25, nameIndex := 358, descriptorIndex := 339, attributes := #[] }, { accessFlags := 25, nameIndex := 361, descriptorIndex := 339, attributes := #[] }, { accessFlags := 26, nameIndex := 364, descriptorIndex := 339, attributes := #[] }, { accessFlags := 26, nameIndex := 365, descriptorIndex := 339, attributes := #[] }, { accessFlags := 26, nameIndex := 172, descriptorIndex := 173, attributes := #[] }, { accessFlags := 26, nameIndex := 176, descriptorIndex := 173, attributes := #[] }, { accessFlags := 8, nameIndex := 344, descriptorIndex := 339, attributes := #[] }, { accessFlags := 8, nameIndex := 338, descriptorIndex := 339, attributes := #[] }, { accessFlags := 4120, nameIndex := 245, descriptorIndex := 246, attributes := #[] }])
  fields := #[{ name := "E", type := .double, accessFlags := 25, slot := 0, constantValue := 0 }, { name := "PI", type := .double, accessFlags := 25, slot := 1, constantValue := 0 }, { name := "TAU", type := .double, accessFlags := 25, slot := 2, constantValue := 0 }, { name := "DEGREES_TO_RADIANS", type := .double, accessFlags := 26, slot := 3, constantValue := 0 }, { name := "RADIANS_TO_DEGREES", type := .double, accessFlags := 26, slot := 4, constantValue := 0 }, { name := "negativeZeroFloatBits", type := .long, accessFlags := 26, slot := 5, constantValue := 0 }, { name := "negativeZeroDoubleBits", type := .long, accessFlags := 26, slot := 6, constantValue := 0 }, { name := "twoToTheDoubleScaleUp", type := .double, accessFlags := 8, slot := 7, constantValue := 0 }, { name := "twoToTheDoubleScaleDown", type := .double, accessFlags := 8, slot := 8, constantValue := 0 }, { name := "$assertionsDisabled", type := .boolean, accessFlags := 4120, slot := 9, constantValue := 0 }]
  methods := #[k4m0, k4m1]
  instanceTypes := #[]
  staticTypes := #[.double, .double, .double, .double, .double, .long, .long, .double, .double, .boolean]
  resolved := Array.replicate 460 none
  statics := none }

def pool5 : Array CpInfo := pool [(1, u "java/lang/Cloneable"), (0, .class_ 1), (0, u "java/lang/Object"), (0, .class_ 3)] 3

/-- java/lang/Cloneable -/
def k5 : Class := { plain "java/lang/Cloneable" (some 0) with
  accessFlags := 1537
  interfaces := #[]
  cf := some (fileOf pool5 2 #[] #[] 1537 4 #[] #[])
  fields := #[]
  methods := #[]
  instanceTypes := #[]
  staticTypes := #[]
  resolved := Array.replicate 8 none
  statics := none }

def pool6 : Array CpInfo := pool [(1, u "java/io/Serializable"), (0, .class_ 1), (0, u "java/lang/Object"), (0, .class_ 3)] 3

/-- java/io/Serializable -/
def k6 : Class := { plain "java/io/Serializable" (some 0) with
  accessFlags := 1537
  interfaces := #[]
  cf := some (fileOf pool6 2 #[] #[] 1537 4 #[] #[])
  fields := #[]
  methods := #[]
  instanceTypes := #[]
  staticTypes := #[]
  resolved := Array.replicate 8 none
  statics := none }

/-- the primitive byte -/
def k7 : Class := { plain "byte" none with kind := .primitive 'B', accessFlags := 0x411 }
/-- [B -/
def k8 : Class := { plain "[B" (some 0) with kind := .array 7 .byte, interfaces := #[5, 6], accessFlags := 1041 }

/-- the primitive int -/
def k9 : Class := { plain "int" none with kind := .primitive 'I', accessFlags := 0x411 }
/-- [I -/
def k10 : Class := { plain "[I" (some 0) with kind := .array 9 .int, interfaces := #[5, 6], accessFlags := 1041 }

def heap : Heap := #[]
def classes : Array Class := #[k0, k1, k2, k3, k4, k5, k6, k7, k8, k9, k10]
def interned : List (Array UInt16 × Addr) := []
def slotsUsed : Nat := 0
def theMethod : MethodId := ⟨1, 1⟩
def args0 : Array Value := #[.long 5, .long 7, .long 9, .long 2]
def aboutOver (below : List Frame) : State where
  vm := { classes := classes, interned := interned.toArray }
  heap := heap
  slotsUsed := slotsUsed
  threads := #[{ frames := .invoking theMethod args0 :: below }]
def below0 : List Frame := [.native { method := ⟨0, 0⟩, args := #[] }]
def about1 : State := aboutOver below0
def p0 : Program := .bare "" "" ""
def e0 : Env := launch0.env 0 0 0
theorem w_frames : about1.frames = Frame.invoking theMethod args0 :: below0 := rfl
set_option maxRecDepth 65536 in
theorem w_args : argsFit about1.vm theMethod args0 = true := by decide +kernel
set_option maxRecDepth 65536 in
theorem w_heap : heapFits about1 = true := by decide +kernel
set_option maxRecDepth 65536 in
theorem w_runnable : about1.curStatus? = some .runnable := by decide +kernel
set_option maxRecDepth 65536 in
theorem w_alone : about1.alone = true := by decide +kernel
set_option maxRecDepth 65536 in
theorem w_named : about1.methodNamed? x = some theMethod := by decide +kernel
set_option maxRecDepth 65536 in
theorem w_hears : about1.hears theMethod below0 = true := by decide +kernel
set_option maxRecDepth 65536 in
theorem w_ripe : about1.ripe theMethod args0 below0 = true := by decide +kernel
theorem w_running : about1.status = .running := rfl
set_option maxRecDepth 65536 in
theorem w_room : about1.hasRoom e0.platform room_1 = true :=
  launch0.hasRoom_least _ room_1 (by decide +kernel) (by decide +kernel) (by decide +kernel) (by decide +kernel) (by decide +kernel) (by decide +kernel)
theorem allAtoms_all (ts : List Jvm.Cond) (a : Array Jvm.Value) (st : Jvm.State) : (allAtoms ts).before a st = ts.all (fun c => c.before a st) := by
  induction ts with
  | nil => rfl
  | cons c t ih =>
    show (Jvm.Cond.and c (allAtoms t)).before a st = _
    rw [Jvm.Cond.before_and, ih, List.all_cons]
def words1 : List Jvm.Cond := Jvm.Cond.code x code maxLocals ret :: tables_1
/-- a 'code' word, met by the world's own term for the bytes: nothing is compared byte by byte -/
theorem code_word {y : MethodName} {bytes : ByteArray} {mx : Nat} {rt : Option FieldType} {a : Array Value} {s : State} {m : MethodId} {meth : Method} {c : Code} (h1 : s.methodNamed? y = some m) (h2 : s.vm.method? m = some meth) (h3 : meth.code = some c) (h4 : c.code = bytes)
    (h5 : (c.maxLocals == mx && c.exceptionTable.isEmpty && decide (c.maxStack ≤ mostOperands) && decide (meth.sig.returnType = rt) && !meth.locks && decide (parseMethodDescriptor y.desc = some meth.sig)) = true) : (Jvm.Cond.code y bytes mx rt).before a s = true := by
  simp only [Bool.and_eq_true, beq_iff_eq, Bool.not_eq_true', decide_eq_true_eq] at h5
  obtain ⟨⟨⟨⟨⟨g1, g2⟩, g3⟩, g4⟩, g5⟩, g6⟩ := h5
  simp [Cond.before, Cond.holds, Cond.value, h1, h2, h3, h4, g1, g2, g3, g4, g5, g6]
def isCode : Jvm.Cond → Bool
  | .code _ _ _ _ => true
  | _ => false
theorem all_split {L : List Jvm.Cond} {P : Jvm.Cond → Bool} (h1 : L.all (fun c => isCode c || P c) = true) (h2 : ∀ c ∈ L.filter isCode, P c = true) : L.all P = true := by
  refine List.all_eq_true.mpr fun c hc => ?_
  have h := List.all_eq_true.mp h1 c hc
  rcases Bool.eq_false_or_eq_true (isCode c) with hi | hi
  · exact h2 c (List.mem_filter.mpr ⟨hc, hi⟩)
  · simpa [hi] using h
set_option maxRecDepth 65536 in
theorem w_c0 : (Jvm.Cond.code x code maxLocals ret).before args0 about1 = true := code_word (m := ⟨1, 1⟩) (meth := k1m1) (c := k1c1) (by decide +kernel) rfl rfl rfl (by decide +kernel)
set_option maxRecDepth 65536 in
theorem w_c1 : (Jvm.Cond.code ({ cls := "com/example/prudent_query/prudentquery/model/HitCompareScoresPinLaw", name := "value", desc := "(JJ)D" } : Jvm.MethodName) method_9_code (9 : Nat) (Option.some Jvm.ClassFile.FieldType.double)).before args0 about1 = true := code_word (m := ⟨1, 8⟩) (meth := k1m8) (c := k1c8) (by decide +kernel) rfl rfl rfl (by decide +kernel)
set_option maxRecDepth 65536 in
theorem w_c2 : (Jvm.Cond.code ({ cls := "com/example/prudent_query/prudentquery/model/HitCompareScoresPinLaw", name := "mode", desc := "(J)I" } : Jvm.MethodName) method_3_code (2 : Nat) (Option.some Jvm.ClassFile.FieldType.int)).before args0 about1 = true := code_word (m := ⟨1, 2⟩) (meth := k1m2) (c := k1c2) (by decide +kernel) rfl rfl rfl (by decide +kernel)
set_option maxRecDepth 65536 in
theorem w_c3 : (Jvm.Cond.code ({ cls := "com/example/prudent_query/prudentquery/model/HitCompareScoresPinLaw", name := "mant", desc := "(J)J" } : Jvm.MethodName) method_7_code (2 : Nat) (Option.some Jvm.ClassFile.FieldType.long)).before args0 about1 = true := code_word (m := ⟨1, 6⟩) (meth := k1m6) (c := k1c6) (by decide +kernel) rfl rfl rfl (by decide +kernel)
set_option maxRecDepth 65536 in
theorem w_c4 : (Jvm.Cond.code ({ cls := "com/example/prudent_query/prudentquery/model/HitCompareScoresPinLaw", name := "shift", desc := "(J)I" } : Jvm.MethodName) method_5_code (2 : Nat) (Option.some Jvm.ClassFile.FieldType.int)).before args0 about1 = true := code_word (m := ⟨1, 4⟩) (meth := k1m4) (c := k1c4) (by decide +kernel) rfl rfl rfl (by decide +kernel)
set_option maxRecDepth 65536 in
theorem w_c5 : (Jvm.Cond.code ({ cls := "com/example/prudent_query/prudentquery/model/HitCompareScoresPinLaw", name := "offset", desc := "(JJ)J" } : Jvm.MethodName) method_8_code (6 : Nat) (Option.some Jvm.ClassFile.FieldType.long)).before args0 about1 = true := code_word (m := ⟨1, 7⟩) (meth := k1m7) (c := k1c7) (by decide +kernel) rfl rfl rfl (by decide +kernel)
set_option maxRecDepth 65536 in
theorem w_c6 : (Jvm.Cond.code ({ cls := "com/example/prudent_query/prudentquery/model/HitCompareScoresPinLaw", name := "scale", desc := "(J)I" } : Jvm.MethodName) method_6_code (2 : Nat) (Option.some Jvm.ClassFile.FieldType.int)).before args0 about1 = true := code_word (m := ⟨1, 5⟩) (meth := k1m5) (c := k1c5) (by decide +kernel) rfl rfl rfl (by decide +kernel)
set_option maxRecDepth 65536 in
theorem w_c7 : (Jvm.Cond.code ({ cls := "com/example/prudent_query/prudentquery/model/HitCompareScoresPinLaw", name := "neg", desc := "(J)Z" } : Jvm.MethodName) method_4_code (2 : Nat) (Option.some Jvm.ClassFile.FieldType.boolean)).before args0 about1 = true := code_word (m := ⟨1, 3⟩) (meth := k1m3) (c := k1c3) (by decide +kernel) rfl rfl rfl (by decide +kernel)
set_option maxRecDepth 65536 in
theorem w_c8 : (Jvm.Cond.code ({ cls := "com/example/prudent_query/prudentquery/model/HitCompareScoresPinLaw", name := "tier", desc := "(J)I" } : Jvm.MethodName) method_10_code (4 : Nat) (Option.some Jvm.ClassFile.FieldType.int)).before args0 about1 = true := code_word (m := ⟨1, 9⟩) (meth := k1m9) (c := k1c9) (by decide +kernel) rfl rfl rfl (by decide +kernel)
set_option maxRecDepth 65536 in
theorem w_c9 : (Jvm.Cond.code ({ cls := "com/example/prudent_query/prudentquery/model/Hit", name := "compareScores", desc := "(DD)I" } : Jvm.MethodName) prog_26_method_4_code (7 : Nat) (Option.some Jvm.ClassFile.FieldType.int)).before args0 about1 = true := code_word (m := ⟨3, 0⟩) (meth := k3m0) (c := k3c0) (by decide +kernel) rfl rfl rfl (by decide +kernel)
set_option maxRecDepth 65536 in
theorem w_c10 : (Jvm.Cond.code ({ cls := "com/example/prudent_query/prudentquery/model/HitCompareScoresPinLaw", name := "key", desc := "(JJ)D" } : Jvm.MethodName) method_11_code (18 : Nat) (Option.some Jvm.ClassFile.FieldType.double)).before args0 about1 = true := code_word (m := ⟨1, 10⟩) (meth := k1m10) (c := k1c10) (by decide +kernel) rfl rfl rfl (by decide +kernel)
set_option maxRecDepth 65536 in
theorem w_c11 : (Jvm.Cond.code ({ cls := "java/lang/Math", name := "abs", desc := "(J)J" } : Jvm.MethodName) jdk_29_method_61_code (2 : Nat) (Option.some Jvm.ClassFile.FieldType.long)).before args0 about1 = true := code_word (m := ⟨4, 1⟩) (meth := k4m1) (c := k4c1) (by decide +kernel) rfl rfl rfl (by decide +kernel)
def codes1 : List Jvm.Cond := [Jvm.Cond.code x code maxLocals ret, Jvm.Cond.code ({ cls := "com/example/prudent_query/prudentquery/model/HitCompareScoresPinLaw", name := "value", desc := "(JJ)D" } : Jvm.MethodName) method_9_code (9 : Nat) (Option.some Jvm.ClassFile.FieldType.double), Jvm.Cond.code ({ cls := "com/example/prudent_query/prudentquery/model/HitCompareScoresPinLaw", name := "mode", desc := "(J)I" } : Jvm.MethodName) method_3_code (2 : Nat) (Option.some Jvm.ClassFile.FieldType.int), Jvm.Cond.code ({ cls := "com/example/prudent_query/prudentquery/model/HitCompareScoresPinLaw", name := "mant", desc := "(J)J" } : Jvm.MethodName) method_7_code (2 : Nat) (Option.some Jvm.ClassFile.FieldType.long), Jvm.Cond.code ({ cls := "com/example/prudent_query/prudentquery/model/HitCompareScoresPinLaw", name := "shift", desc := "(J)I" } : Jvm.MethodName) method_5_code (2 : Nat) (Option.some Jvm.ClassFile.FieldType.int), Jvm.Cond.code ({ cls := "com/example/prudent_query/prudentquery/model/HitCompareScoresPinLaw", name := "offset", desc := "(JJ)J" } : Jvm.MethodName) method_8_code (6 : Nat) (Option.some Jvm.ClassFile.FieldType.long), Jvm.Cond.code ({ cls := "com/example/prudent_query/prudentquery/model/HitCompareScoresPinLaw", name := "scale", desc := "(J)I" } : Jvm.MethodName) method_6_code (2 : Nat) (Option.some Jvm.ClassFile.FieldType.int), Jvm.Cond.code ({ cls := "com/example/prudent_query/prudentquery/model/HitCompareScoresPinLaw", name := "neg", desc := "(J)Z" } : Jvm.MethodName) method_4_code (2 : Nat) (Option.some Jvm.ClassFile.FieldType.boolean), Jvm.Cond.code ({ cls := "com/example/prudent_query/prudentquery/model/HitCompareScoresPinLaw", name := "tier", desc := "(J)I" } : Jvm.MethodName) method_10_code (4 : Nat) (Option.some Jvm.ClassFile.FieldType.int), Jvm.Cond.code ({ cls := "com/example/prudent_query/prudentquery/model/Hit", name := "compareScores", desc := "(DD)I" } : Jvm.MethodName) prog_26_method_4_code (7 : Nat) (Option.some Jvm.ClassFile.FieldType.int), Jvm.Cond.code ({ cls := "com/example/prudent_query/prudentquery/model/HitCompareScoresPinLaw", name := "key", desc := "(JJ)D" } : Jvm.MethodName) method_11_code (18 : Nat) (Option.some Jvm.ClassFile.FieldType.double), Jvm.Cond.code ({ cls := "java/lang/Math", name := "abs", desc := "(J)J" } : Jvm.MethodName) jdk_29_method_61_code (2 : Nat) (Option.some Jvm.ClassFile.FieldType.long)]
set_option maxRecDepth 65536 in
theorem codes_eq : words1.filter isCode = codes1 := rfl
theorem w_codes : ∀ c ∈ words1.filter isCode, c.before args0 about1 = true := by
  rw [codes_eq]
  intro c hc
  simp only [codes1, List.mem_cons, List.not_mem_nil, or_false] at hc
  rcases hc with rfl | rfl | rfl | rfl | rfl | rfl | rfl | rfl | rfl | rfl | rfl | rfl
  · exact w_c0
  · exact w_c1
  · exact w_c2
  · exact w_c3
  · exact w_c4
  · exact w_c5
  · exact w_c6
  · exact w_c7
  · exact w_c8
  · exact w_c9
  · exact w_c10
  · exact w_c11
set_option maxRecDepth 65536 in
theorem w_t1 : (words1.take 24).all (fun c => isCode c || c.before args0 about1) = true := by decide +kernel
set_option maxRecDepth 65536 in
theorem w_t2 : (words1.drop 24).all (fun c => isCode c || c.before args0 about1) = true := by decide +kernel
theorem w_tables : (allAtoms (Jvm.Cond.code x code maxLocals ret :: tables_1)).before args0 about1 = true := by
  rw [allAtoms_all]
  show words1.all (fun c => c.before args0 about1) = true
  refine all_split ?_ w_codes
  rw [← List.take_append_drop 24 words1, List.all_append, w_t1, w_t2]
  rfl
set_option maxRecDepth 65536 in
theorem w_case : (Jvm.Cond.and given_1 narrow_1).before args0 about1 = true := by decide +kernel
theorem w_applies : (headSpec (Jvm.Cond.code x code maxLocals ret :: tables_1) room_1).applies x e0.platform about1 = true :=
  (Spec.applies_iff w_frames).mpr ⟨w_running, w_runnable, w_alone, w_named, w_hears, w_ripe, w_room, w_tables⟩
theorem atStart : AtStart classFile x code maxLocals ret World_1 tables_1 room_1 Calls_1 rest_1 Pre_1 launch0 p0 e0 about1 theMethod args0 below0 :=
  ⟨lists_1, trivial, launch0.admits_env _ _ _, launch0.least_env, fairChoices_fair.cas, fairChoices_fair.clock, w_frames, w_args, w_heap, w_applies, trivial, trivial, w_case⟩
end start1
theorem witness_1 : WitnessClaimed_1 := ⟨start1.p0, start1.e0, start1.about1, start1.theMethod, start1.args0, start1.below0, start1.atStart⟩
end Jvm.Pilot.@@N@@
